/- Three check-sums of three equal lengths, walked. -/
import Derived.Test.YtgledbigkjlbmaaDoorSumWord
import Derived.Deep.RegionHeld3
import Derived.Deep.AppendLies
import Derived.StillTailTactics
namespace Go.Proofs.YtgledbigkjlbmaaDoor
open Go.RowKit
set_option maxHeartbeats 400000
theorem gd_lt {l : List Nat} {n : Nat} (hb : ∀ x ∈ l, x < n) {k : Nat} (hk : k < l.length) : l.getD k 0 < n := by
  have : l.getD k 0 = l[k] := by simp [List.getD_eq_getElem?_getD, List.getElem?_eq_getElem hk]
  rw [this]; exact hb _ (List.getElem_mem hk)
theorem Own.drew {w : World} {base : Nat} {e : TypeId} {size : Nat} {A : Option Addr} {n cap : Nat} {xs : List Value} (h : Own w base e size A n cap xs) : Own w.drew base e size A n cap xs := h
def x3 (l1 l2 l3 : List Nat) (k : Nat) : List Nat := (List.range k).map fun i => l1.getD i 0 ^^^ l2.getD i 0 ^^^ l3.getD i 0
theorem Own.row_le {w : World} {base : Nat} {e : TypeId} {size : Nat} {A : Option Addr} {n cap : Nat} {xs : List Value} (h : Own w base e size A n cap xs) : ∀ g, (Value.slice A n cap).ownBlock = some g → base ≤ g := by
  intro g hg
  refine (h.block g ?_).1
  cases A with
  | none => cases hg
  | some a => exact hg
theorem x3_snoc (l1 l2 l3 : List Nat) (k y1 y2 y3 : Nat) (h1 : l1.getD k 0 = y1) (h2 : l2.getD k 0 = y2) (h3 : l3.getD k 0 = y3) (b1 : y1 < 256) (b2 : y2 < 256) (b3 : y3 < 256) :
    cellsN .u8 (x3 l1 l2 l3 k) ++ [Value.int IntKind.u8 (bits BinOp.xor IntKind.u8 (bits BinOp.xor IntKind.u8 (y1 : Int) (y2 : Int)) (y3 : Int))] =
      cellsN .u8 (x3 l1 l2 l3 (k + 1)) := by
  rw [u8_xor_nat _ _ b1 b2, u8_xor_nat _ _ (Nat.xor_lt_two_pow (n := 8) b1 b2) b3, show x3 l1 l2 l3 (k + 1) = x3 l1 l2 l3 k ++ [y1 ^^^ y2 ^^^ y3] by simp only [x3, List.range_succ, List.map_append, List.map_cons, List.map_nil, h1, h2, h3]]
  simp only [cellsN, List.map_append, List.map_cons, List.map_nil]
theorem Tab.drew {w : World} (h : Tab w) : Tab w.drew := h
theorem Ints.drew {w : World} {k : IntKind} {A : Option Addr} {l : List Nat} (h : Ints w k A l) : Ints w.drew k A l := h
theorem x3_length (l1 l2 l3 : List Nat) (k : Nat) : (x3 l1 l2 l3 k).length = k := by simp [x3]
theorem x3_lt (l1 l2 l3 : List Nat) (k : Nat) (h1 : ∀ x ∈ l1, x < 256) (h2 : ∀ x ∈ l2, x < 256) (h3 : ∀ x ∈ l3, x < 256) (k1 : k ≤ l1.length) (k2 : k ≤ l2.length) (k3 : k ≤ l3.length) : ∀ x ∈ x3 l1 l2 l3 k, x < 256 := by
  intro x hx
  obtain ⟨i, hi, rfl⟩ := List.mem_map.1 hx
  have hi' := List.mem_range.1 hi
  exact Nat.xor_lt_two_pow (n := 8) (Nat.xor_lt_two_pow (n := 8) (gd_lt h1 (by omega)) (gd_lt h2 (by omega))) (gd_lt h3 (by omega))
theorem bv_xor (a b : Nat) : BitVec.ofNat 32 (a ^^^ b) = BitVec.ofNat 32 a ^^^ BitVec.ofNat 32 b := by
  apply BitVec.eq_of_getLsbD_eq
  intro i hi
  simp [hi]
theorem x3_sum (l1 l2 l3 : List Nat) (k : Nat) (k1 : k ≤ l1.length) (k2 : k ≤ l2.length) (k3 : k ≤ l3.length) :
    bits .xor .u32 (bits .xor .u32 (num (sumOf 0#32 (l1.take k))) (num (sumOf 0#32 (l2.take k)))) (num (sumOf 0#32 (l3.take k))) = num (sumOf 0#32 (x3 l1 l2 l3 k)) := by
  rw [num_xor, num_xor]
  congr 1
  have e : bv (x3 l1 l2 l3 k) = ((bv (l1.take k)).zip ((bv (l2.take k)).zip (bv (l3.take k)))).map fun x => x.1 ^^^ x.2.1 ^^^ x.2.2 := by
    apply List.ext_getElem
    · simp [bv, x3]; omega
    · intro i h1 h2
      have hi : i < k := by simpa [bv, x3] using h1
      simp [bv, x3, List.getD_eq_getElem?_getD, List.getElem?_eq_getElem (show i < l1.length by omega), List.getElem?_eq_getElem (show i < l2.length by omega), List.getElem?_eq_getElem (show i < l3.length by omega)]
  unfold sumOf
  have h3 := Crc.steps_three (bv (l1.take k)) (bv (l2.take k)) (bv (l3.take k)) (~~~ 0#32) (~~~ 0#32) (~~~ 0#32) (by simp [bv]; omega) (by simp [bv]; omega)
  rw [show (~~~ 0#32 : Crc.W) ^^^ ~~~ 0#32 ^^^ ~~~ 0#32 = ~~~ 0#32 by decide, ← e] at h3
  rw [h3]
  generalize Crc.steps _ (bv (l1.take k)) = a
  generalize Crc.steps _ (bv (l2.take k)) = b
  generalize Crc.steps _ (bv (l3.take k)) = c
  apply BitVec.eq_of_getLsbD_eq
  intro i hi
  simp only [BitVec.getLsbD_xor, BitVec.getLsbD_not]
  simp only [hi, decide_true, Bool.true_and]
  cases a.getLsbD i <;> cases b.getLsbD i <;> cases c.getLsbD i <;> rfl
theorem Ints.take {w : World} {k : IntKind} {A : Option Addr} {l : List Nat} (h : Ints w k A l) (n : Nat) : Ints w k A (l.take n) := fun i hi => by
  rw [List.length_take] at hi
  obtain ⟨b, off, e, hb, hc⟩ := h i (by omega)
  refine ⟨b, off, e, hb, ?_⟩
  rw [hc]
  have : (l.take n).getD i 0 = l.getD i 0 := by simp [List.getD_eq_getElem?_getD, show i < n by omega]
  rw [this]
theorem check_still {s : Crc.W} {v : Int} (hv : num s = v) (A : Option Addr) (cap n : Nat) (l : List Nat) (hn : l.length = n) (w : World) (hT : Tab w) (hA : Ints w .u8 A l) (hl : l.length ≤ 9223372036854775807) (hb : ∀ x ∈ l, x < 256) :
    Calls Tryd.prog 9 #[.int .u32 v, .slice A n cap] w fun e w' => e = .returned (.int .u32 (num (sumOf s l))) ∧ w' = w :=
  (check_any hv A cap n l hn w hT hA hl hb).mono fun _ _ h => ⟨h.1, h.2.symm⟩
theorem lt_take {l : List Nat} (h : ∀ x ∈ l, x < 256) (k : Nat) : ∀ x ∈ l.take k, x < 256 := fun x hx => h x (List.mem_of_mem_take hx)
theorem len_take {l : List Nat} {n k : Nat} (h : Hid (l.length = n)) (hk : k ≤ n) : (l.take k).length = k := by
  have := h.out
  rw [List.length_take]; omega
theorem lt_int {k n m : Nat} (h : k < n) (h2 : n ≤ m) : (k : Int) < (m : Int) := by omega
theorem three_any (n n1 n2 n3 : Nat) (A1 A2 A3 : Option Addr) (c1 c2 c3 : Nat) (l1 l2 l3 : List Nat) (w : World) (hT : Tab w) (h1 : Ints w .u8 A1 l1) (h2 : Ints w .u8 A2 l2) (h3 : Ints w .u8 A3 l3)
    (H1 : Hid (l1.length = n1)) (H2 : Hid (l2.length = n2)) (H3 : Hid (l3.length = n3)) (q1 : n1 ≤ c1) (q2 : n2 ≤ c2) (q3 : n3 ≤ c3) (hm1 : n1 ≤ 140737488351232) (hm2 : n2 ≤ 140737488351232) (hm3 : n3 ≤ 140737488351232)
    (hb1 : ∀ x ∈ l1, x < 256) (hb2 : ∀ x ∈ l2, x < 256) (hb3 : ∀ x ∈ l3, x < 256)
    (hmin : (n = n1 ∧ n ≤ n2 ∧ n ≤ n3) ∨ (n = n2 ∧ n < n1 ∧ n ≤ n3) ∨ (n = n3 ∧ n < n1 ∧ n < n2)) :
    Calls Tryd.prog 7 #[.slice A1 n1 c1, .slice A2 n2 c2, .slice A3 n3 c3] w fun e w' => e = .returned (.bool true) ∧ Below w.heap.size w w' := by
  obtain ⟨i0, hi, hz0, hz1, hz2⟩ := info_parts infoByte
  have hk1 : n ≤ n1 := by omega
  have hk2 : n ≤ n2 := by omega
  have hk3 : n ≤ n3 := by omega
  rcases hmin with ⟨h, g1, g2⟩ | ⟨h, g1, g2⟩ | ⟨h, g1, g2⟩
  all_goals
    first
      | obtain rfl : n = n1 := h
      | obtain rfl : n = n2 := h
      | obtain rfl : n = n3 := h
    go_enter Tryd.func7, Tryd.ntmps7
    go_wp2
    go_loopw [8, 18] (fun v i wr => ∃ (k : Nat) (A : Option Addr) (cap : Nat), k ≤ n ∧ i = .int .i64 k ∧ v = .slice A k cap ∧ Own wr w.heap.size 5 1 A k cap (cellsN .u8 (x3 l1 l2 l3 k)) ∧ Below w.heap.size w wr) (fun _ i _ => n - (intOf i).toNat)
    case atStart => exact ⟨0, none, 0, by omega, rfl, rfl, Own.nil _ _ _ _, Below.refl _ _⟩
    case round =>
      obtain ⟨k, A, cap, hk, rfl, rfl, own, bel⟩ := hrel
      by_cases hlt : k < n
      · obtain ⟨b1, o1, rfl, hb1', hc1⟩ := h1 k (by have := H1.out; omega)
        obtain ⟨b2, o2, rfl, hb2', hc2⟩ := h2 k (by have := H2.out; omega)
        obtain ⟨b3, o3, rfl, hb3', hc3⟩ := h3 k (by have := H3.out; omega)
        have hd1 := (bel.cell (p := ⟨b1, o1 + k, none⟩) hb1').trans hc1
        have hd2 := (bel.cell (p := ⟨b2, o2 + k, none⟩) hb2').trans hc2
        have hd3 := (bel.cell (p := ⟨b3, o3 + k, none⟩) hb3').trans hc3
        have z1 : l1.getD k 0 < 256 := gd_lt hb1 (by have := H1.out; omega)
        have z2 : l2.getD k 0 < 256 := gd_lt hb2 (by have := H2.out; omega)
        have z3 : l3.getD k 0 < 256 := gd_lt hb3 (by have := H3.out; omega)
        generalize hy1 : l1.getD k 0 = y1 at hd1 hc1 z1
        generalize hy2 : l2.getD k 0 = y2 at hd2 hc2 z2
        generalize hy3 : l3.getD k 0 = y3 at hd3 hc3 z3
        have HC1 := Lib.hid hc1; have HC2 := Lib.hid hc2; have HC3 := Lib.hid hc3
        have HX := Lib.hid (x3_snoc l1 l2 l3 k y1 y2 y3 hy1 hy2 hy3 z1 z2 z3)
        clear hc1 hc2 hc3
        clear hy1 hy2 hy3
        have bs := bel.size
        have i1 : (0 : Int) ≤ (k : Int) := by omega
        have i2 := lt_int hlt hk1
        have i3 := lt_int hlt hk2
        have i4 := lt_int hlt hk3
        go_wp2
        go_region_held3 (fun w' => w'.cell? ⟨b1, o1 + k, none⟩ = some (.int .u8 y1) ∧ w'.cell? ⟨b2, o2 + k, none⟩ = some (.int .u8 y2) ∧ w'.cell? ⟨b3, o3 + k, none⟩ = some (.int .u8 y3)) (first | go_keep | (exact ⟨e1, e2, e3⟩))
          ((refine step_append_lies _ (by rfl) _ _ 22 (by rfl) w.heap.size 5 i0 (.int .u8 0) 1 1 Tryd.underlying22 hi hz0 hz1 hz2 rfl (by omega) _ k _ (by rfl) (own.drew.alloc _) ⟨wr.heap.size, 0, none⟩ 1 1 _ (by rfl) (by rfl) (cell_one_new _ _ _) (fun u hu => (by obtain rfl := List.mem_singleton.1 hu; rfl)) (by omega) (by unfold maxLen; omega) (by omega) (by simp; omega) (wr.heap.size + 1) (by simp) ?_; intro g cap2 w2 own2 grow2 hat hlt2; have bw : Below w.heap.size w w2 := (bel.drew.alloc bs _).grown grow2 (by simp; omega) own.row_le; have e1 := (bw.cell (p := ⟨b1, o1 + k, none⟩) hb1').trans HC1.out; have e2 := (bw.cell (p := ⟨b2, o2 + k, none⟩) hb2').trans HC2.out; have e3 := (bw.cell (p := ⟨b3, o3 + k, none⟩) hb3').trans HC3.out))
        go_wp2
        go_roundw
        case rel => exact ⟨k + 1, _, _, by omega, by go_num, rfl, by rw [HX.out] at own2; exact own2, bw⟩
        case measure => simp [intOf]; omega
      · obtain rfl : k = n := by omega
        have HL := Lib.hid (x3_lt l1 l2 l3 k hb1 hb2 hb3 (by have := H1.out; omega) (by have := H2.out; omega) (by have := H3.out; omega))
        have HS := Lib.hid (x3_sum l1 l2 l3 k (by have := H1.out; omega) (by have := H2.out; omega) (by have := H3.out; omega))
        have HB1 := Lib.hid hb1; have HB2 := Lib.hid hb2; have HB3 := Lib.hid hb3
        clear hb1 hb2 hb3
        go_wp2
        have T0 : Tab wr := hT.below bel
        have k1 := Nat.le_trans hk1 q1
        have k2 := Nat.le_trans hk2 q2
        have k3 := Nat.le_trans hk3 q3
        have I1 := (h1.below bel).take k
        have I2 := (h2.below bel).take k
        have I3 := (h3.below bel).take k
        have e1 := len_take H1 hk1
        have e2 := len_take H2 hk2
        have e3 := len_take H3 hk3
        have E1 := Lib.hid e1; have E2 := Lib.hid e2; have E3 := Lib.hid e3
        clear e1 e2 e3
        go_still_tail 18, (by kernel_rfl)
        still_call (check_still (s := 0#32) rfl _ _ _ (x3 l1 l2 l3 k) (x3_length _ _ _ _) _ T0 own.ints (by rw [x3_length]; omega) HL.out)
        repeat still_step
        still_call (check_still (s := 0#32) rfl _ _ _ (l1.take k) E1.out _ T0 I1 (by rw [E1.out]; omega) (lt_take HB1.out k))
        repeat still_step
        still_call (check_still (s := 0#32) rfl _ _ _ (l2.take k) E2.out _ T0 I2 (by rw [E2.out]; omega) (lt_take HB2.out k))
        repeat still_step
        still_call (check_still (s := 0#32) rfl _ _ _ (l3.take k) E3.out _ T0 I3 (by rw [E3.out]; omega) (lt_take HB3.out k))
        have hs := HS.out
        repeat still_step
        refine wpStill_nil ?_
        change wpList _ _ _ _ _ wr.drew
        go_wp2_with fail
        refine (check_any (s := 0#32) rfl _ _ _ [1] rfl _ (T0.alloc _).drew (Ints.one wr .u8 1 5 rfl rfl).drew (by simp) (by simp)).mono ?_
        rintro e w' ⟨rfl, rfl⟩
        have h1 := sum_one
        go_wp2_with fail
        go_ret
        exact ⟨rfl, (bel.alloc bel.size _).drew⟩
theorem fnCheckSumThree_walk (A1 : Option Addr) (c1 : Nat) (z1 : List Int) (A2 : Option Addr) (c2 : Nat) (z2 : List Int) (A3 : Option Addr) (c3 : Nat) (z3 : List Int) (w : World) (hT : Tab w)
    (h1 : Arg .u8 w A1 z1 c1) (m1 : z1.length * 1 ≤ 140737488351232) (h2 : Arg .u8 w A2 z2 c2) (m2 : z2.length * 1 ≤ 140737488351232) (h3 : Arg .u8 w A3 z3 c3) (m3 : z3.length * 1 ≤ 140737488351232) :
    Calls Tryd.prog 7 #[.slice A1 z1.length c1, .slice A2 z2.length c2, .slice A3 z3.length c3] w fun e w' => e = .returned (.bool true) ∧ Below w.heap.size w w' := by
  obtain ⟨l1, hl1, hA1, hb1, _⟩ := bytes_of h1
  obtain ⟨l2, hl2, hA2, hb2, _⟩ := bytes_of h2
  obtain ⟨l3, hl3, hA3, hb3, _⟩ := bytes_of h3
  exact three_any (min z1.length (min z2.length z3.length)) _ _ _ A1 A2 A3 c1 c2 c3 l1 l2 l3 w hT hA1 hA2 hA3 hl1 hl2 hl3 h1.le h2.le h3.le (by omega) (by omega) (by omega) hb1 hb2 hb3 (by omega)
end Go.Proofs.YtgledbigkjlbmaaDoor
