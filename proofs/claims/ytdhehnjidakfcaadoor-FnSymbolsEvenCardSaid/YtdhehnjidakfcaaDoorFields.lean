/- The reference's numbers of some widths, and small helpers: walked. -/
import Derived.Test.YtdhehnjidakfcaaDoorBitsWalk
namespace Go.Proofs.YtdhehnjidakfcaaDoor
open Go.RowKit
set_option maxHeartbeats 400000
set_option maxRecDepth 4000
set_option linter.unusedVariables false
set_option linter.unusedSimpArgs false
theorem bitVal (y c : Nat) (hy : y < 256) : bits .and .u64 (IntKind.u64.wrap ((y : Int) / 2 ^ c)) 1 = ((y / 2 ^ c % 2 : Nat) : Int) := by
  have e3 : (y : Int) / 2 ^ c = ((y / 2 ^ c : Nat) : Int) := by simp
  have h1 : y / 2 ^ c ≤ y := Nat.div_le_self _ _
  rw [e3]
  generalize y / 2 ^ c = z at h1
  have e2 : IntKind.u64.wrap (z : Int) = (z : Int) := by rw [IntKind.wrap_u64]; omega
  rw [e2, show (1 : Int) = ((1 : Nat) : Int) from rfl, u64_and_nat _ _ (by omega) (by omega), Nat.and_one_is_mod]
theorem pushVal (f b : Nat) (hf : f < 2 ^ 48) (hb : b < 2) : bits .or .u64 ((f : Int) * 2) (b : Int) = ((2 * f + b : Nat) : Int) := by
  have e : (f : Int) * (2 : Int) = Int.ofNat (f <<< 1) := by rw [Nat.shiftLeft_eq]; simp
  rw [e]
  show bits .or .u64 ((f <<< 1 : Nat) : Int) (b : Int) = _
  rw [u64_or_nat _ _ (by rw [Nat.shiftLeft_eq]; omega) (by omega), ← Nat.shiftLeft_add_eq_or_of_lt (show b < 2 ^ 1 by omega), Nat.shiftLeft_eq]
  omega
theorem bit_any (A : Option Addr) (cap n s : Nat) (l : List Nat) (w : World) (hA : Ints w .u8 A l) (hl : l.length = n) (hs : s < 8 * n) (hn : n ≤ 140737488351232) (hb : ∀ x ∈ l, x < 256) :
    Calls Tryd.prog 22 #[.slice A n cap, .int .i64 (s : Int)] w fun e w' => e = .returned (.int .u64 (Fld.bt l s : Nat)) ∧ w = w' := by
  have h8 : s / 8 < n := by omega
  obtain ⟨b, o, rfl, _, hc⟩ := hA (s / 8) (by omega)
  have hy : l.getD (s / 8) 0 < 256 := by
    have : l.getD (s / 8) 0 = l[s / 8]'(by omega) := by simp [List.getD_eq_getElem?_getD, List.getElem?_eq_getElem (show s / 8 < l.length by omega)]
    rw [this]; exact hb _ (List.getElem_mem _)
  have HBT : Hid (Fld.bt l s = l.getD (s / 8) 0 / 2 ^ (7 - s % 8) % 2) := rfl
  generalize l.getD (s / 8) 0 = y at hc hy HBT
  clear hA hb hl
  obtain ⟨q, hq⟩ : ∃ q, s / 8 = q := ⟨_, rfl⟩
  obtain ⟨r, hr⟩ : ∃ r, s % 8 = r := ⟨_, rfl⟩
  have hq2 : (s : Int) / 8 = (q : Int) := by omega
  have hr2 : (s : Int) % 8 = (r : Int) := by omega
  have hr8 : r < 8 := by omega
  rw [hq] at hc h8
  rw [hr] at HBT
  go_enter Tryd.func22, Tryd.ntmps22
  go_wp2_with fail
  go_ret
  exact ⟨ret_int (by rw [bitVal y (7 - r) hy, HBT.out]), rfl⟩
theorem fields_any (A Aw : Option Addr) (cap capw n m : Nat) (l ws : List Nat) (w : World) (hA : Ints w .u8 A l) (hW : Ints w .i64 Aw ws) (hl : l.length = n) (hm : ws.length = m) (hn : n ≤ 140737488351232) (hm2 : m * 8 ≤ 140737488351232) (hb : ∀ x ∈ l, x < 256) (hw : ∀ x ∈ ws, x ≤ 48) :
    Calls Tryd.prog 11 #[.slice A n cap, .slice Aw m capw] w fun e w' => ∃ A1 c1 o en, e = .returned (.tuple #[.slice A1 o.length c1, .bool en]) ∧ run l n 0 ws = (o, en) ∧ o.length ≤ m ∧ Own w' w.heap.size 29 1 A1 o.length c1 (cellsN .u64 o) ∧ Below w.heap.size w w' := by
  subst hm
  have HL := Lib.hid hl; have HB := Lib.hid hb; have HW := Lib.hid hw
  have HA := Lib.hid hA
  clear hl hb hw hA
  go_enter Tryd.func11, Tryd.ntmps11
  go_wp2_with fail
  go_loopw [4, 6, 8, 9, 12] (fun ov sv u8 u9 iv wr => ∃ (k s : Nat) (o : List Nat) (A1 : Option Addr) (c1 : Nat), k ≤ ws.length ∧ iv = .int .i64 k ∧ sv = .int .i64 s ∧ ov = .slice A1 k c1 ∧ s ≤ 8 * n ∧ Hid (o.length = k) ∧ Hid (At l n ws k s o) ∧ Own wr w.heap.size 29 1 A1 k c1 (cellsN .u64 o) ∧ Below w.heap.size w wr) (fun _ _ _ _ iv _ => ws.length - (intOf iv).toNat)
  case atStart => exact ⟨0, 0, [], none, 0, by omega, rfl, rfl, rfl, by omega, rfl, At.zero _ _ _, Own.nil _ _ _ _, Below.refl _ _⟩
  case round =>
    obtain ⟨k, s, o, A1, c1, hk, rfl, rfl, rfl, hs8, HOL, HAT, own, bel⟩ := hrel
    by_cases hlt : k < ws.length
    · obtain ⟨b2, o2, rfl, hb2, hc2⟩ := hW k hlt
      have hd2 := (bel.cell (p := ⟨b2, o2 + k, none⟩) hb2).trans hc2
      have hv48 := getD_le HW.out hlt
      generalize hy : ws.getD k 0 = v at hd2 hc2 hv48
      have HY := Lib.hid hy
      clear hy hc2
      have hbs := bel.size
      by_cases hfit : s + v ≤ 8 * n
      · go_wp2_with fail
        go_loop [6, 9, 25] (fun sv nv jv => ∃ j : Nat, j ≤ v ∧ jv = .int .i64 j ∧ sv = .int .i64 (s + j : Nat) ∧ nv = .int .u64 (Fld.fld l s j : Nat)) (fun _ _ jv => v - (intOf jv).toNat)
        case atStart => exact ⟨0, by omega, rfl, rfl, rfl⟩
        case round =>
          obtain ⟨j, hj, rfl, rfl, rfl⟩ := hrel
          by_cases hjl : j < v
          · have hf48 : Fld.fld l s j < 2 ^ 48 := Nat.lt_of_lt_of_le (Fld.fld_lt l s j) (Nat.pow_le_pow_right (by omega) (by omega))
            have hbt := Fld.bt_lt l (s + j)
            have hfs : Fld.fld l s (j + 1) = 2 * Fld.fld l s j + Fld.bt l (s + j) := rfl
            have hbit := fun w => bit_any A cap n (s + j) l w
            generalize Fld.fld l s j = f at hf48 hfs
            generalize Fld.bt l (s + j) = t at hbt hfs hbit
            have HBIT := Lib.hid hbit
            have HFS := Lib.hid hfs
            have HPV := Lib.hid (pushVal f t hf48 hbt)
            have hf64 : f < 281474976710656 := by simpa using hf48
            clear hfs hf48 hbit
            have hsj : s + j < 8 * n := by omega
            go_wp2_with (go_at_call 22; refine (HBIT.out wr (HA.out.below bel) HL.out hsj hn HB.out).mono ?_; rintro e w3 ⟨rfl, rfl⟩)
            go_round
            case rel => exact ⟨j + 1, by omega, by go_num, by go_num, by rw [HFS.out, ← HPV.out]⟩
            case measure => simp [intOf]; omega
          · obtain rfl : j = v := by omega
            have HF := Lib.hid (HAT.out.next j HY.out hlt hfit)
            generalize Fld.fld l s j = f at HF
            go_wp2_with (at_builtin; refine app_nat rfl (.tmp 36) (.tmp 38) 25 rfl w.heap.size 29 .u64 8 Tryd.underlying25 infoU64 (by omega) rfl (own.alloc _) rfl (l2 := [f]) (srcAt_new wr _ _ _ _ rfl) rfl (by omega) (by simp; omega) ?_; intro A4 c4 w4 own4 grow4 fresh4)
            go_roundw
            case rel => exact ⟨k + 1, s + j, o ++ [f], A4, c4, by omega, by go_num, by go_num, rfl, hfit, (by show (o ++ [f]).length = k + 1; rw [List.length_append, HOL.out]; rfl), HF, own4, below_grown (bel.alloc bel.size _) grow4 (bel.alloc bel.size _).size (fun g hg => (own.block g hg).1)⟩
            case measure => simp [intOf]; omega
      · have HF := Lib.hid (HAT.out.over v HY.out hlt (by omega))
        have hol2 : Hid (o.length ≤ ws.length) := by show o.length ≤ ws.length; rw [HOL.out]; exact hk
        go_wp2_with fail
        go_ret2
        exact ⟨_, _, o, true, by rw [HOL.out]; rfl, HF.out, hol2.out, by rw [HOL.out]; exact own, bel⟩
    · obtain rfl : k = ws.length := by omega
      have HF := Lib.hid HAT.out.done
      go_wp2_with fail
      go_ret2
      exact ⟨_, _, o, false, by rw [HOL.out]; rfl, HF.out, by rw [HOL.out]; exact Nat.le_refl _, by rw [HOL.out]; exact own, bel⟩
theorem take_eq_succ (l1 l2 : List Nat) (k : Nat) (h1 : k < l1.length) (h2 : k < l2.length) (h : Hid (l1.take k = l2.take k)) (hx : Hid (l1[k] = l2[k])) : Hid (l1.take (k + 1) = l2.take (k + 1)) := by
  show l1.take (k + 1) = l2.take (k + 1)
  rw [List.take_succ_eq_append_getElem h1, List.take_succ_eq_append_getElem h2, h.out, hx.out]
theorem same_any (A1 A2 : Option Addr) (c1 c2 : Nat) (l1 l2 : List Nat) (w : World) (h1 : Ints w .u64 A1 l1) (h2 : Ints w .u64 A2 l2) (hl1 : l1.length ≤ 9223372036854775807) (hl2 : l2.length ≤ 9223372036854775807) :
    Calls Tryd.prog 12 #[.slice A1 l1.length c1, .slice A2 l2.length c2] w fun e w' => e = .returned (.bool (l1 == l2)) ∧ w = w' := by
  by_cases hlen : l1.length = l2.length
  · have HB := Lib.hid hlen
    have hne : ((l1.length : Int) != (l2.length : Int)) = false := by simp [hlen]
    clear hlen
    go_enter Tryd.func12, Tryd.ntmps12
    go_wp2
    go_loop [14] (fun i => ∃ k : Nat, k ≤ l1.length ∧ i = .int .i64 k ∧ Hid (l1.take k = l2.take k)) (fun i => l1.length - (intOf i).toNat)
    case atStart => exact ⟨0, by omega, rfl, rfl⟩
    case round =>
      obtain ⟨k, hk, rfl, heq⟩ := hrel
      by_cases hlt : k < l1.length
      · have hlt2 : k < l2.length := by have := HB.out; omega
        obtain ⟨b1, o1, rfl, _, hc1⟩ := h1 k hlt
        obtain ⟨b2, o2, rfl, _, hc2⟩ := h2 k hlt2
        by_cases hx : l1[k] = l2[k]
        · have hneq : ((l1[k] : Int) != (l2[k] : Int)) = false := by simp [hx]
          have HX := Lib.hid hx
          clear hx
          go_wp2
          go_round
          case rel => exact ⟨k + 1, by omega, by go_num, take_eq_succ _ _ k hlt hlt2 heq HX⟩
          case measure => simp [intOf]; omega
        · have hneq : ((l1[k] : Int) != (l2[k] : Int)) = true := by simp; omega
          have HX : Hid (l1 ≠ l2) := by
            intro e
            subst e
            exact hx rfl
          clear hx
          go_wp2
          go_ret
          exact ⟨ret_bool (by have := HX.out; simp [this]), rfl⟩
      · have HE : Hid (l1 = l2) := by
          have e1 : l1.take k = l1 := List.take_of_length_le (by omega)
          have e2 : l2.take k = l2 := List.take_of_length_le (by have := HB.out; omega)
          have := heq.out
          rw [e1, e2] at this
          exact this
        go_wp2
        go_ret
        exact ⟨ret_bool (by have := HE.out; simp [this]), rfl⟩
  · have hne : ((l1.length : Int) != (l2.length : Int)) = true := by simp; omega
    have HB := Lib.hid hlen
    clear hlen
    go_enter Tryd.func12, Tryd.ntmps12
    go_wp2
    go_ret
    exact ⟨ret_bool (by
      have : l1 ≠ l2 := fun e => HB.out (by rw [e])
      simp [this]), rfl⟩
theorem place_any (n k : Int) (w : World) (hn : (Lit.int .i64 n).wf = true) (h0 : 0 < k) (h1 : k ≤ 4611686018427387904) :
    Calls Tryd.prog 15 #[.int .i64 n, .int .i64 k] w fun e w' => e = .returned (.int .i64 (n % k)) ∧ w = w' := by
  have hr := wf_range hn
  have ht1 : n.tmod k < k := Int.tmod_lt_of_pos n h0
  have ht2 : -k < n.tmod k := Int.lt_tmod_of_pos n h0
  have ht3 : n.tmod k % k = n % k := by
    have e := Int.mul_tdiv_add_tmod n k
    have : n % k = (k * n.tdiv k + n.tmod k) % k := by rw [e]
    rw [this, Int.mul_add_emod_self_left]
  have HT := Lib.hid ht3
  clear ht3
  go_enter Tryd.func15, Tryd.ntmps15
  go_wp2
  go_ret
  refine ⟨ret_int ?_, rfl⟩
  show (n.tmod k + k) % k = n % k
  rw [Int.add_emod_right, HT.out]
theorem bytes_of {w : World} {A : Option Addr} {l : List Int} {cap : Nat} (h : Arg .u8 w A l cap) : ∃ ln : List Nat, ln.length = l.length ∧ Ints w .u8 A ln ∧ (∀ x ∈ ln, x < 256) ∧ ln.length ≤ 9223372036854775807 := by
  obtain ⟨ln, h1, h2, h3⟩ := h.nat rfl
  refine ⟨ln, h1, h2, fun x hx => ?_, ?_⟩
  · have := h3 x hx
    have e : IntKind.u8.max = 255 := by decide
    omega
  · have a := h.le
    have b := h.cap_le
    unfold maxLen at b
    omega
theorem Own.mono {w : World} {B B' : Nat} {e : TypeId} {A : Option Addr} {n cap : Nat} {xs : List Value} (h : Own w B e 1 A n cap xs) (hb : B' ≤ B) : Own w B' e 1 A n cap xs := World.ownsRow.mono h hb
/-- rests of numbers -/
def restsOf (l : List Int) (k : Nat) : List Nat := l.map fun x => (x % (k : Int)).toNat
theorem restsOf_snoc (l : List Int) (k j : Nat) (hj : j < l.length) (hk : 0 < k) (y : Int) (hy : l.getD j 0 = y) : ∃ z : Nat, y % (k : Int) = z ∧ Hid (restsOf (l.take (j + 1)) k = restsOf (l.take j) k ++ [z]) := by
  have e1 : l[j] = y := by rw [← hy]; simp [List.getD_eq_getElem?_getD, List.getElem?_eq_getElem hj]
  refine ⟨(y % (k : Int)).toNat, ?_, ?_⟩
  · have := Int.emod_nonneg y (show (k : Int) ≠ 0 by omega)
    omega
  · show restsOf (l.take (j + 1)) k = restsOf (l.take j) k ++ [(y % (k : Int)).toNat]
    rw [List.take_succ_eq_append_getElem hj, ← e1]
    unfold restsOf
    rw [List.map_append]
    rfl
theorem restsOf_lt (l : List Int) (k : Nat) (hk : 0 < k) : ∀ x ∈ restsOf l k, x < k := by
  intro x hx
  obtain ⟨y, _, rfl⟩ := List.mem_map.1 hx
  have h1 := Int.emod_nonneg y (show (k : Int) ≠ 0 by omega)
  have h2 := Int.emod_lt_of_pos y (show (0 : Int) < (k : Int) by omega)
  omega
theorem restsOf_length (l : List Int) (k : Nat) : (restsOf l k).length = l.length := by simp [restsOf]
theorem wf_at {k : IntKind} {l : List Int} (hw : ∀ n ∈ l, (Lit.int k n).wf = true) {j : Nat} (hj : j < l.length) {y : Int} (hy : l.getD j 0 = y) : (Lit.int k y).wf = true := by
  have e1 : l[j] = y := by rw [← hy]; simp [List.getD_eq_getElem?_getD, List.getElem?_eq_getElem hj]
  rw [← e1]; exact hw _ (List.getElem_mem hj)
theorem rests_any (A : Option Addr) (cap m k : Nat) (l : List Int) (w : World) (hA : Zints w .i64 A l) (hm : l.length = m) (hw : ∀ n ∈ l, (Lit.int .i64 n).wf = true) (hk : 0 < k) (hk2 : k ≤ 4611686018427387904) (hl : m * 8 ≤ 140737488351232) :
    Calls Tryd.prog 9 #[.slice A m cap, .int .i64 k] w fun e w' => ∃ A' c', e = .returned (.slice A' m c') ∧ Own w' w.heap.size 3 1 A' m c' (cellsN .i64 (restsOf l k)) ∧ Below w.heap.size w w' := by
  have HW := Lib.hid hw
  clear hw
  subst hm
  go_enter Tryd.func9, Tryd.ntmps9
  go_wp2
  go_loopw [5, 10] (fun v i wr => ∃ (j : Nat) (A1 : Option Addr) (c1 : Nat), j ≤ l.length ∧ i = .int .i64 j ∧ v = .slice A1 j c1 ∧ Own wr w.heap.size 3 1 A1 j c1 (cellsN .i64 (restsOf (l.take j) k)) ∧ Below w.heap.size w wr) (fun _ i _ => l.length - (intOf i).toNat)
  case atStart => exact ⟨0, none, 0, by omega, rfl, rfl, Own.nil _ _ _ _, Below.refl _ _⟩
  case round =>
    obtain ⟨j, A1, c1, hj, rfl, rfl, own, bel⟩ := hrel
    by_cases hlt : j < l.length
    · obtain ⟨b1, o1, rfl, hb1', hc1⟩ := hA j hlt
      have hd1 := (bel.cell (p := ⟨b1, o1 + j, none⟩) hb1').trans hc1
      generalize hy : l.getD j 0 = y at hd1 hc1
      have hwy := wf_at HW.out hlt hy
      obtain ⟨z, hz, HS⟩ := restsOf_snoc l k j hlt hk y hy
      have HZ := Lib.hid hz
      clear hy hc1 hz
      have hbs := bel.size
      go_wp2_with (first
        | (go_at_call 15; refine (place_any _ _ _ hwy (by omega) (by omega)).mono ?_; rintro e w3 ⟨rfl, rfl⟩; rw [HZ.out])
        | (at_builtin; refine app_nat rfl (.tmp 14) (.tmp 18) 23 rfl w.heap.size 3 .i64 8 Tryd.underlying23 infoInt (by omega) rfl (own.alloc _) rfl (l2 := [z]) (srcAt_new wr _ _ _ _ rfl) rfl (by omega) (by simp; omega) ?_; intro A4 c4 w4 own4 grow4 _))
      go_roundw
      case rel => exact ⟨j + 1, A4, c4, by omega, by go_num, rfl, by rw [HS.out]; exact own4, below_grown (bel.alloc bel.size _) grow4 (bel.alloc bel.size _).size (fun g hg => (own.block g hg).1)⟩
      case measure => simp [intOf]; omega
    · obtain rfl : j = l.length := by omega
      rw [List.take_length] at own
      go_wp2
      go_ret
      exact ⟨_, _, rfl, own, bel⟩
theorem same_self (A1 A2 : Option Addr) (c1 c2 n : Nat) (l : List Nat) (hn : l.length = n) (w : World) (h1 : Ints w .u64 A1 l) (h2 : Ints w .u64 A2 l) (hl : n ≤ 9223372036854775807) :
    Calls Tryd.prog 12 #[.slice A1 n c1, .slice A2 n c2] w fun e w' => e = .returned (.bool true) ∧ w = w' := by
  subst hn
  refine (same_any A1 A2 c1 c2 l l w h1 h2 hl hl).mono ?_
  rintro e w' ⟨rfl, rfl⟩
  exact ⟨by simp, rfl⟩
theorem Ints.at {w : World} {k : IntKind} {b off : Nat} {l : List Nat} (h : Ints w k (some ⟨b, off, none⟩) l) (i : Nat) (hi : i < l.length) (y : Nat) (hy : l.getD i 0 = y) : w.cell? ⟨b, off + i, none⟩ = some (.int k (y : Int)) := by
  obtain ⟨b', off', e, _, hc⟩ := h i hi
  injection e with e
  injection e with e1 e2
  subst e1; subst e2; subst hy
  exact hc
end Go.Proofs.YtdhehnjidakfcaaDoor
