/- Moves to the front: rests, lists, the two Fronts. -/
import Derived.Test.YtdhehnjidakfcaaFrontWalk
import Derived.Deep.Onto
namespace Go.Proofs.Ytdhehnjidakfcaa
open Go.RowKit
set_option maxHeartbeats 400000
set_option linter.unusedVariables false
set_option linter.unusedSimpArgs false
theorem take_eq_succ (l1 l2 : List Nat) (k : Nat) (h1 : k < l1.length) (h2 : k < l2.length) (h : Hid (l1.take k = l2.take k)) (hx : Hid (l1[k] = l2[k])) : Hid (l1.take (k + 1) = l2.take (k + 1)) := by
  show l1.take (k + 1) = l2.take (k + 1)
  rw [List.take_succ_eq_append_getElem h1, List.take_succ_eq_append_getElem h2, h.out, hx.out]
theorem same_any (A1 A2 : Option Addr) (c1 c2 : Nat) (l1 l2 : List Nat) (w : World) (h1 : Ints w .u8 A1 l1) (h2 : Ints w .u8 A2 l2) (hl1 : l1.length ≤ 9223372036854775807) (hl2 : l2.length ≤ 9223372036854775807) :
    Calls Try.prog 13 #[.slice A1 l1.length c1, .slice A2 l2.length c2] w fun e w' => e = .returned (.bool (l1 == l2)) ∧ w = w' := by
  by_cases hlen : l1.length = l2.length
  · have HB := Lib.hid hlen
    have hne : ((l1.length : Int) != (l2.length : Int)) = false := by simp [hlen]
    clear hlen
    go_enter Try.func13, Try.ntmps13
    go_wp2
    go_loop [14] (fun i => ∃ k : Nat, k ≤ l1.length ∧ i = .int .i64 k ∧ Hid (l1.take k = l2.take k)) (fun i => l1.length - (intOf i).toNat)
    case atStart => exact ⟨0, by omega, rfl, rfl⟩
    case round =>
      obtain ⟨k, hk, rfl, heq⟩ := hrel
      by_cases hlt : k < l1.length
      · have hlt2 : k < l2.length := by have := HB.out; omega
        obtain ⟨b1, o1, rfl, _, hc1⟩ := h1 k hlt
        obtain ⟨b2, o2, rfl, _, hc2⟩ := h2 k hlt2
        by_cases hx : l1[k] = l2[k]
        · have hneq : ((l1[k] : Int) != (l2[k] : Int)) = false := by simp [hx]
          have HX := Lib.hid hx
          clear hx
          go_wp2
          go_round
          case rel => exact ⟨k + 1, by omega, by go_num, take_eq_succ _ _ k hlt hlt2 heq HX⟩
          case measure => simp [intOf]; omega
        · have hneq : ((l1[k] : Int) != (l2[k] : Int)) = true := by simp; omega
          have HX : Hid (l1 ≠ l2) := by
            intro e
            subst e
            exact hx rfl
          clear hx
          go_wp2
          go_ret
          exact ⟨ret_bool (by have := HX.out; simp [this]), rfl⟩
      · have HE : Hid (l1 = l2) := by
          have e1 : l1.take k = l1 := List.take_of_length_le (by omega)
          have e2 : l2.take k = l2 := List.take_of_length_le (by have := HB.out; omega)
          have := heq.out
          rw [e1, e2] at this
          exact this
        go_wp2
        go_ret
        exact ⟨ret_bool (by have := HE.out; simp [this]), rfl⟩
  · have hne : ((l1.length : Int) != (l2.length : Int)) = true := by simp; omega
    have HB := Lib.hid hlen
    clear hlen
    go_enter Try.func13, Try.ntmps13
    go_wp2
    go_ret
    exact ⟨ret_bool (by
      have : l1 ≠ l2 := fun e => HB.out (by rw [e])
      simp [this]), rfl⟩
theorem place_any (n k : Int) (w : World) (hn : (Lit.int .i64 n).wf = true) (h0 : 0 < k) (h1 : k ≤ 4611686018427387904) :
    Calls Try.prog 14 #[.int .i64 n, .int .i64 k] w fun e w' => e = .returned (.int .i64 (n % k)) ∧ w = w' := by
  have hr := wf_range hn
  have ht1 : n.tmod k < k := Int.tmod_lt_of_pos n h0
  have ht2 : -k < n.tmod k := Int.lt_tmod_of_pos n h0
  have ht3 : n.tmod k % k = n % k := by
    have e := Int.mul_tdiv_add_tmod n k
    have : n % k = (k * n.tdiv k + n.tmod k) % k := by rw [e]
    rw [this, Int.mul_add_emod_self_left]
  have HT := Lib.hid ht3
  clear ht3
  go_enter Try.func14, Try.ntmps14
  go_wp2
  go_ret
  refine ⟨ret_int ?_, rfl⟩
  show (n.tmod k + k) % k = n % k
  rw [Int.add_emod_right, HT.out]
theorem same_any2 (A1 A2 : Option Addr) (c1 c2 n : Nat) (l1 l2 : List Nat) (hn : l1.length = n) (w : World) (h1 : Ints w .u8 A1 l1) (h2 : Ints w .u8 A2 l2) (hl1 : l1.length ≤ 9223372036854775807) (hl2 : l2.length ≤ 9223372036854775807) :
    Calls Try.prog 13 #[.slice A1 n c1, .slice A2 l2.length c2] w fun e w' => e = .returned (.bool (l1 == l2)) ∧ w = w' := by
  subst hn
  exact same_any A1 A2 c1 c2 l1 l2 w h1 h2 hl1 hl2
theorem bytes_of {w : World} {A : Option Addr} {l : List Int} {cap : Nat} (h : Arg .u8 w A l cap) : ∃ ln : List Nat, ln.length = l.length ∧ Ints w .u8 A ln ∧ (∀ x ∈ ln, x < 256) ∧ ln.length ≤ 9223372036854775807 := by
  obtain ⟨ln, h1, h2, h3⟩ := h.nat rfl
  refine ⟨ln, h1, h2, fun x hx => ?_, ?_⟩
  · have := h3 x hx
    have e : IntKind.u8.max = 255 := by decide
    omega
  · have a := h.le
    have b := h.cap_le
    unfold maxLen at b
    omega
theorem Own.mono {w : World} {B B' : Nat} {e : TypeId} {A : Option Addr} {n cap : Nat} {xs : List Value} (h : Own w B e 1 A n cap xs) (hb : B' ≤ B) : Own w B' e 1 A n cap xs := World.ownsRow.mono h hb
theorem Ints.take {w : World} {k : IntKind} {A : Option Addr} {l : List Nat} (h : Ints w k A l) (n : Nat) : Ints w k A (l.take n) := fun i hi => by
  rw [List.length_take] at hi
  obtain ⟨b, off, e, hb, hc⟩ := h i (by omega)
  refine ⟨b, off, e, hb, ?_⟩
  rw [hc]
  have : (l.take n).getD i 0 = l.getD i 0 := by simp [List.getD_eq_getElem?_getD, show i < n by omega]
  rw [this]
theorem list_any (A : Option Addr) (cap n : Nat) (l : List Nat) (w : World) (hA : Ints w .u8 A l) (hn : l.length = n) (hc : n ≤ cap) (hm : n ≤ 9223372036854775807) (hb : ∀ x ∈ l, x < 256) :
    Calls Try.prog 9 #[.slice A n cap] w fun e w' => ∃ A' n' cap' L, e = .returned (.slice A' n' cap') ∧ L.length = n' ∧ 0 < n' ∧ n' ≤ 256 ∧ n' ≤ cap' ∧ Ints w' .u8 A' L ∧ (∀ x ∈ L, x < 256) ∧ Below w.heap.size w w' := by
  have HB := Lib.hid hb
  have HN := Lib.hid hn
  clear hb hn
  by_cases h0 : n = 0
  · subst h0
    go_enter Try.func9, Try.ntmps9
    go_wp2
    go_ret
    exact ⟨_, _, _, [7], rfl, rfl, by omega, by omega, by omega, Ints.one w .u8 7 5 rfl rfl, by simp, (Below.refl _ _).alloc (Nat.le_refl _) _⟩
  · by_cases h256 : n ≤ 256
    · go_enter Try.func9, Try.ntmps9
      go_wp2
      go_ret
      exact ⟨_, _, _, l, rfl, HN.out, by omega, by omega, by omega, hA, HB.out, Below.refl _ _⟩
    · go_enter Try.func9, Try.ntmps9
      go_wp2
      go_ret
      exact ⟨_, _, _, rfl, l.take 256, by rw [List.length_take, HN.out]; omega, by omega, by omega, by omega, hA.take _, fun x hx => HB.out x (List.mem_of_mem_take hx), Below.refl _ _⟩
/-- rests of numbers -/
def restsOf (l : List Int) (k : Nat) : List Nat := l.map fun x => (x % (k : Int)).toNat
theorem restsOf_snoc (l : List Int) (k j : Nat) (hj : j < l.length) (hk : 0 < k) (y : Int) (hy : l.getD j 0 = y) : ∃ z : Nat, y % (k : Int) = z ∧ Hid (restsOf (l.take (j + 1)) k = restsOf (l.take j) k ++ [z]) := by
  have e1 : l[j] = y := by rw [← hy]; simp [List.getD_eq_getElem?_getD, List.getElem?_eq_getElem hj]
  refine ⟨(y % (k : Int)).toNat, ?_, ?_⟩
  · have := Int.emod_nonneg y (show (k : Int) ≠ 0 by omega)
    omega
  · show restsOf (l.take (j + 1)) k = restsOf (l.take j) k ++ [(y % (k : Int)).toNat]
    rw [List.take_succ_eq_append_getElem hj, ← e1]
    unfold restsOf
    rw [List.map_append]
    rfl
theorem restsOf_lt (l : List Int) (k : Nat) (hk : 0 < k) : ∀ x ∈ restsOf l k, x < k := by
  intro x hx
  obtain ⟨y, _, rfl⟩ := List.mem_map.1 hx
  have h1 := Int.emod_nonneg y (show (k : Int) ≠ 0 by omega)
  have h2 := Int.emod_lt_of_pos y (show (0 : Int) < (k : Int) by omega)
  omega
theorem restsOf_length (l : List Int) (k : Nat) : (restsOf l k).length = l.length := by simp [restsOf]
theorem wf_at {k : IntKind} {l : List Int} (hw : ∀ n ∈ l, (Lit.int k n).wf = true) {j : Nat} (hj : j < l.length) {y : Int} (hy : l.getD j 0 = y) : (Lit.int k y).wf = true := by
  have e1 : l[j] = y := by rw [← hy]; simp [List.getD_eq_getElem?_getD, List.getElem?_eq_getElem hj]
  rw [← e1]; exact hw _ (List.getElem_mem hj)
theorem rests_any (A : Option Addr) (cap m k : Nat) (l : List Int) (w : World) (hA : Zints w .i64 A l) (hm : l.length = m) (hw : ∀ n ∈ l, (Lit.int .i64 n).wf = true) (hk : 0 < k) (hk2 : k ≤ 4611686018427387904) (hl : m * 8 ≤ 140737488351232) :
    Calls Try.prog 10 #[.slice A m cap, .int .i64 k] w fun e w' => ∃ A' c', e = .returned (.slice A' m c') ∧ Own w' w.heap.size 3 1 A' m c' (cellsN .i64 (restsOf l k)) ∧ Below w.heap.size w w' := by
  have HW := Lib.hid hw
  clear hw
  subst hm
  go_enter Try.func10, Try.ntmps10
  go_wp2
  go_loopw [5, 10] (fun v i wr => ∃ (j : Nat) (A1 : Option Addr) (c1 : Nat), j ≤ l.length ∧ i = .int .i64 j ∧ v = .slice A1 j c1 ∧ Own wr w.heap.size 3 1 A1 j c1 (cellsN .i64 (restsOf (l.take j) k)) ∧ Below w.heap.size w wr) (fun _ i _ => l.length - (intOf i).toNat)
  case atStart => exact ⟨0, none, 0, by omega, rfl, rfl, Own.nil _ _ _ _, Below.refl _ _⟩
  case round =>
    obtain ⟨j, A1, c1, hj, rfl, rfl, own, bel⟩ := hrel
    by_cases hlt : j < l.length
    · obtain ⟨b1, o1, rfl, hb1', hc1⟩ := hA j hlt
      have hd1 := (bel.cell (p := ⟨b1, o1 + j, none⟩) hb1').trans hc1
      generalize hy : l.getD j 0 = y at hd1 hc1
      have hwy := wf_at HW.out hlt hy
      obtain ⟨z, hz, HS⟩ := restsOf_snoc l k j hlt hk y hy
      have HZ := Lib.hid hz
      clear hy hc1 hz
      have hbs := bel.size
      go_wp2_with (first
        | (go_at_call 14; refine (place_any _ _ _ hwy (by omega) (by omega)).mono ?_; rintro e w3 ⟨rfl, rfl⟩; rw [HZ.out])
        | (at_builtin; refine app_nat rfl (.tmp 14) (.tmp 18) 23 rfl w.heap.size 3 .i64 8 Try.underlying23 infoInt (by omega) rfl (own.alloc _) rfl (l2 := [z]) (srcAt_new wr _ _ _ _ rfl) rfl (by omega) (by simp; omega) ?_; intro A4 c4 w4 own4 grow4 _))
      go_roundw
      case rel => exact ⟨j + 1, A4, c4, by omega, by go_num, rfl, by rw [HS.out]; exact own4, below_grown (bel.alloc bel.size _) grow4 (bel.alloc bel.size _).size (fun g hg => (own.block g hg).1)⟩
      case measure => simp [intOf]; omega
    · obtain rfl : j = l.length := by omega
      rw [List.take_length] at own
      go_wp2
      go_ret
      exact ⟨_, _, rfl, own, bel⟩
theorem Own.none0 {w : World} {B : Nat} {e : TypeId} {A : Option Addr} {n cap : Nat} {xs : List Value} {P : Prop} (h : Own w B e 1 A n cap xs) (hn : 0 < n) (hA : A = none) : P := by
  obtain ⟨g, hg, _⟩ := h.cell 0 (by omega)
  rw [hA] at hg; cases hg
theorem implFront_any (A Ap : Option Addr) (cap capp n m : Nat) (L ps : List Nat) (w : World) (hA : Ints w .u8 A L) (hP : Ints w .i64 Ap ps) (hL : L.length = n) (hm : ps.length = m) (hn : n ≤ 256) (h0 : 0 < n) (hps : ∀ p ∈ ps, p < n) (hm2 : m ≤ 140737488351232) (hb : ∀ x ∈ L, x < 256)
    (hAn : A = none → L = [] ∧ cap = 0) :
    Calls Try.prog 11 #[.slice A n cap, .slice Ap m capp] w fun e w' => ∃ A1 c1 A2 c2, e = .returned (.tuple #[.slice A1 m c1, .slice A2 n c2]) ∧ Own w' w.heap.size 5 1 A1 m c1 (cellsN .u8 (mst L ps).2) ∧ Own w' w.heap.size 5 1 A2 n c2 (cellsN .u8 (mst L ps).1) ∧ Apart A1 A2 ∧ Below w.heap.size w w' := by
  have S := Lib.hid (srcAt_ints cap hA hAn)
  rw [hL] at S
  have HL := Lib.hid hL
  have HPS := Lib.hid hps
  have HB := Lib.hid hb
  have HM := Lib.hid hm
  clear hAn hA hL hps hb hm
  go_enter Try.func11, Try.ntmps11
  go_wp2_with (first
    | (go_at_call 20; refine (zzFront_any _ _ _ _ _ _ L ps _ own2.ints (hP.below b2) HL.out HM.out hn h0 HPS.out hm2 HB.out (fun e => own2.none0 (by omega) e)).mono ?_; rintro e w3 ⟨A1, c1, A2', c2', rfl, o1, o2, ap, bl⟩)
    | (at_builtin; refine app_nat rfl (.const (.slice none 0 0)) (.tmp 6) 22 rfl w.heap.size 5 .u8 1 Try.underlying22 infoByte (by omega) (l := []) rfl (Own.nil _ _ _ _) rfl S.out HL.out (by omega) (Nat.le_refl _) ?_; intro A2 c2 w2 own2 grow2 fresh2; simp only [Nat.zero_add, List.nil_append] at own2 ⊢; have b2 := below_grown_nil grow2))
  go_ret2
  exact ⟨_, _, _, _, rfl, o1.mono b2.size, o2.mono b2.size, ap, b2.trans (bl.mono b2.size)⟩
end Go.Proofs.Ytdhehnjidakfcaa
