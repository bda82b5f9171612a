/- The check sums: the laws that make texts of bytes. -/
import Derived.Test.YtgledbigkjlbmaaDoorSumEntry
namespace Go.Proofs.YtgledbigkjlbmaaDoor
open Go.RowKit
theorem infoByte : (Tryd.prog.info? 5).map (fun i => (i.zero, i.size, i.bytes)) = some (some (.int .u8 0), 1, 1) := by kernel_rfl
theorem srcAt_below {w w' : World} {k : IntKind} {A : Option Addr} {c : Nat} {l : List Nat} (h : SrcAt w A l.length c (cellsN k l)) (hb : Below w.heap.size w w') (hA : Ints w k A l) : SrcAt w' A l.length c (cellsN k l) := by
  refine ⟨h.1, fun ad e j u hu => ?_⟩
  have hj : j < l.length := by
    have := (List.getElem?_eq_some_iff.1 hu).1
    simpa [cellsN] using this
  obtain ⟨b, off, e2, hlt, hc⟩ := hA j hj
  have := h.2 ad e j u hu
  rw [e] at e2
  injection e2 with e3
  subst e3
  rw [add_none] at this ⊢
  exact (hb.cell (p := ⟨b, off + j, none⟩) hlt).trans this
theorem steps_append (s : Crc.W) (l m : List Nat) : Crc.steps s (bv (l ++ m)) = Crc.steps (Crc.steps s (bv l)) (bv m) := by
  unfold bv Crc.steps
  rw [List.map_append, List.foldl_append]
theorem sumOf_append (s : Crc.W) (l m : List Nat) : sumOf (sumOf s l) m = sumOf s (l ++ m) := by
  unfold sumOf
  rw [BitVec.not_not, steps_append]
theorem sum_one : (num (sumOf 0#32 [1]) != 0) = true := by decide
theorem fnCheckSumParts_walk (A1 : Option Addr) (cap1 : Nat) (z1 : List Int) (A2 : Option Addr) (cap2 : Nat) (z2 : List Int) (w : World) (hT : Tab w) (h1 : Arg .u8 w A1 z1 cap1) (_ : z1.length * 1 ≤ 140737488351232)
    (h2 : Arg .u8 w A2 z2 cap2) (_ : z2.length * 1 ≤ 140737488351232) (hsum : z1.length + z2.length ≤ 1048576) :
    Calls Tryd.prog 6 #[.slice A1 z1.length cap1, .slice A2 z2.length cap2] w fun e w' => e = .returned (.bool true) ∧ Below w.heap.size w w' := by
  obtain ⟨l1, hl1, hA1, hb1, hm1⟩ := bytes_of h1
  obtain ⟨l2, hl2, hA2, hb2, hm2⟩ := bytes_of h2
  have n1 : A1 = none → l1 = [] ∧ cap1 = 0 := fun e => ⟨List.eq_nil_of_length_eq_zero (by rw [hl1, (h1.nil e).1]; rfl), (h1.nil e).2⟩
  have n2 : A2 = none → l2 = [] ∧ cap2 = 0 := fun e => ⟨List.eq_nil_of_length_eq_zero (by rw [hl2, (h2.nil e).1]; rfl), (h2.nil e).2⟩
  rw [← hl1, ← hl2] at hsum ⊢
  clear hl1 hl2 h1 h2
  have S1 := Lib.hid (srcAt_ints cap1 hA1 n1)
  have S2 := Lib.hid (srcAt_ints cap2 hA2 n2)
  have HB := Lib.hid hb1
  have HB2 := Lib.hid hb2
  clear n1 n2
  go_enter Tryd.func6, Tryd.ntmps6
  go_wp2_with fail
  refine (check_any (s := 0#32) rfl _ _ _ l1 rfl _ hT hA1 hm1 hb1).mono ?_
  rintro e w' ⟨rfl, rfl⟩
  go_wp2_with fail
  refine (check_any (s := sumOf 0#32 l1) rfl _ _ _ l2 rfl _ hT hA2 hm2 hb2).mono ?_
  rintro e w' ⟨rfl, rfl⟩
  go_wp2_with (first
    | (at_builtin; refine app_nat rfl (.const (.slice none 0 0)) (.tmp 9) 22 rfl w.heap.size 5 .u8 1 Tryd.underlying22 infoByte (by omega) (l := []) rfl (Own.nil _ _ _ _) rfl S1.out rfl (by omega) (Nat.le_refl _) ?_; intro A3 cap3 w3 own3 grow3 _; simp only [Nat.zero_add, List.nil_append] at own3 ⊢; have b3 := below_grown_nil grow3; have S2' := Lib.hid (srcAt_below S2.out b3 hA2))
    | (at_builtin; refine app_nat rfl (.tmp 10) (.tmp 11) 22 rfl w.heap.size 5 .u8 1 Tryd.underlying22 infoByte (by omega) rfl own3 rfl S2'.out rfl (by omega) b3.size ?_; intro A4 cap4 w4 own4 grow4 _; have b4 := below_grown b3 grow4 b3.size (fun g hg => (own3.block g hg).1)))
  refine (check_any (s := 0#32) rfl _ _ _ (l1 ++ l2) (by simp) _ (hT.below b4) own4.ints (by simp; omega) (by intro x hx; rcases List.mem_append.1 hx with h | h; exact HB.out x h; exact HB2.out x h)).mono ?_
  rintro e w' ⟨rfl, rfl⟩
  rw [sumOf_append]
  go_wp2_with fail
  refine (check_any (s := 0#32) rfl _ _ _ [1] rfl _ ((hT.below b4).alloc _) (Ints.one _ .u8 1 _ rfl rfl) (by simp) (by simp)).mono ?_
  rintro e w' ⟨rfl, rfl⟩
  have h1 := sum_one
  go_wp2_with fail
  go_ret
  exact ⟨rfl, b4.alloc b4.size _⟩
end Go.Proofs.YtgledbigkjlbmaaDoor
