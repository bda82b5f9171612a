/- The numbers of a code: walked. -/
import Derived.Test.YtdhehnjidakfcaaDoorLens
namespace Go.Proofs.YtdhehnjidakfcaaDoor
open Go.RowKit Huff
set_option maxHeartbeats 1000000
set_option maxRecDepth 4000
set_option linter.unusedVariables false
set_option linter.unusedSimpArgs false
def encI (x : Nat) : List Value := [.int .i64 (x : Int)]
theorem flatI (l : List Nat) : l.flatMap encI = cellsN .i64 l := by
  induction l with
  | nil => rfl
  | cons a l ih => rw [List.flatMap_cons, ih]; rfl
theorem count_take_succ (l : List Nat) (p : Nat → Bool) (k : Nat) (hk : k < l.length) (y : Nat) (hy : l.getD k 0 = y) : (l.take (k + 1)).countP p = (l.take k).countP p + if p y then 1 else 0 := by
  have e1 : l[k] = y := by rw [← hy]; simp [List.getD_eq_getElem?_getD, List.getElem?_eq_getElem hk]
  rw [List.take_succ_eq_append_getElem hk, List.countP_append, e1]
  simp [List.countP_cons]
theorem count_take_le (l : List Nat) (p : Nat → Bool) (k : Nat) : (l.take k).countP p ≤ k := by
  refine Nat.le_trans List.countP_le_length ?_
  rw [List.length_take]; omega
theorem count_none (L : List Nat) (h : ∀ x ∈ L, 1 ≤ x) : L.countP (· == 0) = 0 := by
  rw [List.countP_eq_zero]
  intro x hx
  have := h x hx
  simp; omega
set_option maxHeartbeats 4000000 in
theorem codes_any (A : Option Addr) (n cap : Nat) (L : List Nat) (w : World) (hA : Ints w .i64 A L) (hn : L.length = n) (hF : Full L) (h258 : n ≤ 258) (h20 : ∀ x ∈ L, x ≤ 20) :
    Calls Tryd.prog 26 #[.slice A n cap] w fun e w' => ∃ A1 c1 C, e = .returned (.slice A1 n c1) ∧ Own w' w.heap.size 3 1 A1 n c1 (cellsN .i64 C) ∧ (∀ i, i < n → C.getD i 0 = code L i) ∧ Below w.heap.size w w' := by
  have HL := Lib.hid hn
  have HA := Lib.hid hA
  have h2 : 2 ≤ n := by rw [← hn]; exact hF.1
  have HST : Hid (∀ b, b ≤ 20 → Huff.start L b ≤ 1048576) := fun b hb => by
    have h1 := start_le L (by rw [← sums_range]; exact hF.2.2) b (by omega)
    have h2 := Nat.pow_le_pow_right (show 0 < 2 by omega) hb
    have : (2 : Nat) ^ 20 = 1048576 := by decide
    omega
  have HG : Hid (∀ i, i < n → 1 ≤ L.getD i 0 ∧ L.getD i 0 ≤ 20) := fun i hi => by
    have hi' : i < L.length := by omega
    have : L.getD i 0 = L[i] := by simp [List.getD_eq_getElem?_getD, List.getElem?_eq_getElem hi']
    rw [this]; exact ⟨(hF.2.1 _ (List.getElem_mem hi')).1, h20 _ (List.getElem_mem hi')⟩
  have HZ := Lib.hid (count_none L (fun x hx => (hF.2.1 x hx).1))
  clear hn hA hF h20
  go_enter Tryd.func26, Tryd.ntmps26
  go_wp2_with (refine make_k rfl (.tmp 9) (.tmp 9) 23 rfl w.heap.size 3 (.int .i64 0) 1 8 Tryd.underlying23 infoInt (by omega) encI (fun _ => rfl) (by omega) 0 rfl n rfl rfl (by omega) (Nat.le_refl _) ?_; intro w1 own1 grow1; rw [flatI] at own1)
  have bel1 := below_grown (A := none) (Below.refl w.heap.size w) grow1 (Nat.le_refl _) (fun g hg => by cases hg)
  obtain ⟨C0, hC0⟩ : ∃ C0, List.replicate n 0 = C0 := ⟨_, rfl⟩
  rw [hC0] at own1
  clear hC0 grow1
  go_loopw [4, 5] (fun nv bv wr => ∃ (b : Nat) (C : List Nat) (x : Nat), 1 ≤ b ∧ b ≤ 21 ∧ bv = .int .i64 (b : Int) ∧ nv = .int .i64 (x : Int) ∧ Hid (x = Huff.start L (b - 1) + L.countP (· == (b - 1))) ∧ Hid (∀ j, j < n → L.getD j 0 < b → C.getD j 0 = code L j) ∧ Own wr w.heap.size 3 1 (some ⟨w.heap.size, 0, none⟩) n n (cellsN .i64 C) ∧ Below w.heap.size w wr) (fun _ bv _ => 21 - (intOf bv).toNat)
  case atStart => exact ⟨1, C0, 0, by omega, by omega, rfl, rfl, (by show 0 = Huff.start L 0 + L.countP (· == 0); rw [HZ.out]; rfl), fun j hj h => absurd (HG.out j hj).1 (by omega), own1, bel1⟩
  case round =>
    clear own1 bel1
    obtain ⟨b, C, x, hb1, hb21, rfl, rfl, HX, HC, own, bel⟩ := hrel
    by_cases hlt : b < 21
    · have hst := HST.out b (by omega)
      have hsb : Huff.start L b = 2 * x := by
        have e : b = b - 1 + 1 := by omega
        rw [e, Huff.start, HX.out]
      have HSB := Lib.hid hsb
      rw [hsb] at hst
      clear hsb
      go_wp2_with fail
      go_loopw [4, 6, 7, 19] (fun nv u6 u7 iv wr2 => ∃ (i y : Nat) (C2 : List Nat), i ≤ n ∧ iv = .int .i64 (i : Int) ∧ nv = .int .i64 (y : Int) ∧ Hid (y = Huff.start L b + (L.take i).countP (· == b)) ∧ Hid (∀ j, j < n → (L.getD j 0 < b ∨ L.getD j 0 = b ∧ j < i) → C2.getD j 0 = code L j) ∧ Own wr2 w.heap.size 3 1 (some ⟨w.heap.size, 0, none⟩) n n (cellsN .i64 C2) ∧ Below w.heap.size w wr2) (fun _ _ _ iv _ => n - (intOf iv).toNat)
      case atStart => exact ⟨0, 2 * x, C, by omega, rfl, by first | rfl | go_num, (by show 2 * x = _; rw [HSB.out]; simp), fun j hj h => HC.out j hj (by omega), own, bel⟩
      case round =>
        clear HC own bel
        obtain ⟨i, y, C2, hi, rfl, rfl, HY, HC2, own, bel⟩ := hrel
        have hcl := count_take_le L (· == b) i
        have hyb : y ≤ 1048834 := by
          have := HY.out
          rw [HSB.out] at this
          omega
        have HCLN : Hid (C2.length = n) := own_length' own
        by_cases hlt2 : i < n
        · obtain ⟨b2, o2, rfl, hb2, hc2⟩ := HA.out i (by rw [HL.out]; exact hlt2)
          have hd2 := (bel.cell (p := ⟨b2, o2 + i, none⟩) hb2).trans hc2
          obtain ⟨v, hv⟩ : ∃ v, L.getD i 0 = v := ⟨_, rfl⟩
          have hv20 := (HG.out i hlt2).2
          have hct := count_take_succ L (· == b) i (by rw [HL.out]; exact hlt2) v hv
          rw [hv] at hd2 hv20
          have HV := Lib.hid hv
          have HCT := Lib.hid hct
          obtain ⟨uu, huu, hf⟩ := Own.some own i hlt2
          have hbs := bel.size
          clear hc2 hv hct
          by_cases hvb : v = b
          · subst hvb
            have HS := Lib.hid (own_set own i y (y : Int) rfl)
            go_wp2_with fail
            go_roundw
            case rel =>
              refine ⟨i + 1, y + 1, C2.set i y, by omega, by go_num, by go_num, (by show y + 1 = Huff.start L v + (L.take (i + 1)).countP (· == v); rw [HCT.out, HY.out]; simp; omega), fun j hj h => ?_, HS.out.1, below_grown bel HS.out.2 hbs (fun g hg => by cases hg; exact Nat.le_refl _)⟩
              rw [getD_set _ _ _ _ (by rw [HCLN.out]; exact hlt2)]
              by_cases e : j = i
              · subst e
                rw [if_pos rfl, HY.out]
                unfold code
                rw [HV.out]
              · rw [if_neg e]
                exact HC2.out j hj (by omega)
            case measure => simp [intOf]; omega
          · have hne : ((v : Int) == (b : Int)) = false := by rw [beq_eq_false_iff_ne]; omega
            go_wp2_with fail
            go_roundw
            case rel =>
              refine ⟨i + 1, y, C2, by omega, by go_num, rfl, (by show y = Huff.start L b + (L.take (i + 1)).countP (· == b); rw [HCT.out, HY.out]; simp [hvb]), fun j hj h => ?_, own, bel⟩
              by_cases e : j = i
              · subst e
                have := HV.out
                exact HC2.out j hj (by omega)
              · exact HC2.out j hj (by omega)
            case measure => simp [intOf]; omega
        · obtain rfl : i = n := by omega
          go_wp2_with fail
          go_roundw
          case rel =>
            refine ⟨b + 1, C2, y, by omega, by omega, by go_num, rfl, (by show y = Huff.start L (b + 1 - 1) + L.countP (· == (b + 1 - 1)); rw [Nat.add_sub_cancel, HY.out, List.take_of_length_le (by rw [HL.out]; exact Nat.le_refl _)]), fun j hj h => HC2.out j hj (by omega), own, bel⟩
          case measure => simp [intOf]; omega
    · obtain rfl : b = 21 := by omega
      go_wp2_with fail
      go_ret
      exact ⟨_, _, C, rfl, own, fun i hi => HC.out i hi (by have := (HG.out i hi).2; omega), bel⟩
end Go.Proofs.YtdhehnjidakfcaaDoor
