/- The transform of a text: walked. -/
import Derived.Test.YtdhehnjidakfcaaRotations
namespace Go.Proofs.Ytdhehnjidakfcaa
open Go.RowKit
set_option maxHeartbeats 400000
set_option maxRecDepth 4000
set_option linter.unusedVariables false
set_option linter.unusedSimpArgs false
theorem pred_int (n p q : Nat) (h0 : 0 < n) (hq : Bwt.pred n p = q) : ((p : Int) + (n : Int) - 1) % (n : Int) = (q : Int) := by
  subst hq
  unfold Bwt.pred
  have e : ((p : Int) + (n : Int) - 1) = ((p + n - 1 : Nat) : Int) := by omega
  rw [e]; omega
theorem pred_lt (n p : Nat) (h0 : 0 < n) : Bwt.pred n p < n := Nat.mod_lt _ h0
theorem specTurned_any (A : Option Addr) (cap n k : Nat) (T : List Nat) (w : World) (hA : Ints w .u8 A T) (hn : T.length = n) (h0 : 0 < n) (hm : n ≤ 900000) (hk : k < n) :
    Calls Try.prog 19 #[.slice A n cap, .int .i64 k] w fun e w' => ∃ A' c' s, e = .returned (.tuple #[.slice A' n c', .int .i64 (s : Nat)]) ∧ s < n ∧ (Bwt.msort T 20 (List.range n)).getD s 0 = k ∧
      Own w' w.heap.size 5 1 A' n c' (cellsN .u8 ((Bwt.msort T 20 (List.range n)).map fun p => T.getD (Bwt.pred n p) 0)) ∧ Below w.heap.size w w' := by
  have hP := Bwt.msort_perm T 20 (List.range n)
  go_enter Try.func19, Try.ntmps19
  go_wp2_with fail
  go_loopw [6, 7, 12] (fun lv u7 i wr => ∃ (j : Nat) (A1 : Option Addr) (c1 : Nat), j ≤ n ∧ i = .int .i64 j ∧ lv = .slice A1 j c1 ∧ Own wr w.heap.size 3 1 A1 j c1 (cellsN .i64 (List.range j)) ∧ Below w.heap.size w wr) (fun _ _ i _ => n - (intOf i).toNat)
  case atStart => exact ⟨0, none, 0, by omega, rfl, rfl, Own.nil _ _ _ _, Below.refl _ _⟩
  case round =>
    obtain ⟨j, A1, c1, hj, rfl, rfl, own, bel⟩ := hrel
    by_cases hlt : j < n
    · have hsz := bel.size
      go_wp2_with (at_builtin; refine app_nat rfl (.tmp 15) (.tmp 17) 23 rfl w.heap.size 3 .i64 8 Try.underlying23 infoInt (by omega) rfl (own.alloc _) rfl (l2 := [j]) (srcAt_new wr _ _ _ _ rfl) rfl (by omega) (by simp; omega) ?_; intro A4 c4 w4 own4 grow4 fresh4)
      go_roundw
      case rel => exact ⟨j + 1, A4, c4, by omega, by go_num, rfl, by rw [List.range_succ]; exact own4, below_grown (bel.alloc bel.size _) grow4 (bel.alloc bel.size _).size (fun g hg => (own.block g hg).1)⟩
      case measure => simp [intOf]; omega
    · obtain rfl : j = n := by omega
      obtain ⟨g, rfl, hv⟩ := own_vw own h0
      go_wp2_with fail
      refine (rotations_any T A cap j hn h0 hm 20 j (List.range j) g 0 c1 wr (hA.below bel) (by simp) h0 hm (by omega) (fun x hx => List.mem_range.1 hx) hv).mono ?_
      rintro e w2 ⟨b2, o2, c2, rfl, v2, bel2⟩
      have hPl : (Bwt.msort T 20 (List.range j)).length = j := by simpa using hP.length_eq
      have hPm : ∀ x ∈ Bwt.msort T 20 (List.range j), x < j := fun x hx => List.mem_range.1 (hP.mem_iff.1 hx)
      have hPk : ∃ t, t < j ∧ (Bwt.msort T 20 (List.range j)).getD t 0 = k := by
        obtain ⟨t, ht, e⟩ := List.getElem_of_mem (hP.mem_iff.2 (List.mem_range.2 hk))
        exact ⟨t, by omega, by rw [List.getD_eq_getElem?_getD, List.getElem?_eq_getElem ht, ← e]; rfl⟩
      generalize hPE : Bwt.msort T 20 (List.range j) = P at v2 hPl hPm hPk
      have HPE := Lib.hid hPE
      have HPL := Lib.hid hPl; have HPM := Lib.hid hPm; have HPK := Lib.hid hPk
      have VP := Lib.hid v2
      have bel0 := bel.trans (bel2.mono bel.size)
      have hb2 := v2.lt
      clear hPl hPm hPk hP own bel bel2 hv hPE
      go_wp2_with fail
      go_loopw [4, 5, 8, 9, 24] (fun lv sv u8 u9 i wr => ∃ (t : Nat) (A1 : Option Addr) (c1 s : Nat), t ≤ j ∧ i = .int .i64 t ∧ lv = .slice A1 t c1 ∧ sv = .int .i64 (s : Nat) ∧ Own wr w.heap.size 5 1 A1 t c1 (cellsN .u8 ((P.take t).map fun p => T.getD (Bwt.pred j p) 0)) ∧ Hid (∀ u, u < t → P.getD u 0 = k → s < j ∧ P.getD s 0 = k) ∧ Vw wr b2 o2 P c2 ∧ blockOf A1 ≠ some b2 ∧ Below w.heap.size w wr) (fun _ _ _ _ i _ => j - (intOf i).toNat)
      case atStart => exact ⟨0, none, 0, 0, by omega, rfl, rfl, rfl, Own.nil _ _ _ _, fun u hu => absurd hu (by omega), VP.out, by simp [blockOf], bel0⟩
      case round =>
        clear bel0 hb2 VP v2
        obtain ⟨t, A1, c1, s, ht, rfl, rfl, rfl, own, HS, v2, hne, bel⟩ := hrel
        by_cases hlt2 : t < j
        · have hcp := v2.cells t (by rw [HPL.out]; exact hlt2)
          have hpj : P.getD t 0 < j := getD_mem_lt HPM.out (by rw [HPL.out]; exact hlt2)
          have htk : (P.take (t + 1)).map (fun p => T.getD (Bwt.pred j p) 0) = (P.take t).map (fun p => T.getD (Bwt.pred j p) 0) ++ [T.getD (Bwt.pred j (P.getD t 0)) 0] := by
            have hlt3 : t < P.length := by rw [HPL.out]; exact hlt2
            have e1 : P.getD t 0 = P[t] := by simp [List.getD_eq_getElem?_getD, List.getElem?_eq_getElem hlt3]
            rw [List.take_succ_eq_append_getElem hlt3, List.map_append, e1]
            rfl
          generalize hpv : P.getD t 0 = p at hcp hpj htk
          have HPV := Lib.hid hpv
          have hql := pred_lt j p h0
          obtain ⟨q, hq⟩ : ∃ q, Bwt.pred j p = q := ⟨_, rfl⟩
          have hqi := pred_int j p q h0 hq
          have hqn : (p + j - 1) % j = q := hq
          rw [hq] at hql htk
          obtain ⟨b1, o1, rfl, hb1, hc1⟩ := hA q (by rw [hn]; exact hql)
          have hd1 := (bel.cell (p := ⟨b1, o1 + q, none⟩) hb1).trans hc1
          generalize T.getD q 0 = y at hd1 hc1 htk
          have HTK := Lib.hid htk
          clear htk hpv hq hc1
          have hsz := bel.size
          by_cases hpk : p = k
          · subst hpk
            go_wp2_with (at_builtin; refine app_nat rfl (.tmp 29) (.tmp 41) 22 rfl w.heap.size 5 .u8 1 Try.underlying22 infoByte (by omega) rfl (own.alloc _) rfl (l2 := [y]) (srcAt_new wr _ _ _ _ rfl) rfl (by omega) (by simp; omega) ?_; intro A4 c4 w4 own4 grow4 fresh4)
            go_roundw
            case rel =>
              refine ⟨t + 1, A4, c4, _, by omega, by go_num, rfl, rfl, by rw [HTK.out]; exact own4, ?_, (v2.alloc _).grown grow4 hne, ?_, below_grown (bel.alloc bel.size _) grow4 (bel.alloc bel.size _).size (fun g hg => (own.block g hg).1)⟩
              · intro u hu e
                exact ⟨hlt2, HPV.out⟩
              · intro e
                rcases fresh4 _ e with e2 | e2
                · exact hne e2
                · have := v2.lt; simp at e2; omega
            case measure => simp [intOf]; omega
          · skip
            go_wp2_with (at_builtin; refine app_nat rfl (.tmp 29) (.tmp 41) 22 rfl w.heap.size 5 .u8 1 Try.underlying22 infoByte (by omega) rfl (own.alloc _) rfl (l2 := [y]) (srcAt_new wr _ _ _ _ rfl) rfl (by omega) (by simp; omega) ?_; intro A4 c4 w4 own4 grow4 fresh4)
            go_roundw
            case rel =>
              refine ⟨t + 1, A4, c4, _, by omega, by go_num, rfl, rfl, by rw [HTK.out]; exact own4, ?_, (v2.alloc _).grown grow4 hne, ?_, below_grown (bel.alloc bel.size _) grow4 (bel.alloc bel.size _).size (fun g hg => (own.block g hg).1)⟩
              · intro u hu e
                rcases Nat.lt_or_ge u t with h | h
                · exact HS.out u h e
                · obtain rfl : u = t := by omega
                  rw [HPV.out] at e
                  exact absurd e hpk
              · intro e
                rcases fresh4 _ e with e2 | e2
                · exact hne e2
                · have := v2.lt; simp at e2; omega
            case measure => simp [intOf]; omega
        · obtain rfl : t = j := by omega
          obtain ⟨u, hu, huk⟩ := HPK.out
          have hs := HS.out u hu huk
          have HSS := Lib.hid hs
          rw [List.take_of_length_le (by rw [HPL.out]; exact Nat.le_refl _)] at own
          clear HS hs
          go_wp2_with fail
          go_ret2
          exact ⟨_, _, s, rfl, HSS.out.1, by rw [HPE.out]; exact HSS.out.2, by rw [HPE.out]; exact own, bel⟩
end Go.Proofs.Ytdhehnjidakfcaa
