/- The places of a text's bytes in a list that moves: walked. -/
import Derived.Test.YtdhehnjidakfcaaFrontLaw
namespace Go.Proofs.Ytdhehnjidakfcaa
open Go.RowKit
set_option maxHeartbeats 400000
set_option linter.unusedVariables false
set_option linter.unusedSimpArgs false
theorem mtf_mem (L : List Nat) (k : Nat) (hk : k < L.length) : ∀ x ∈ L, x ∈ mtf L k := by
  intro x hx
  have e : L = L.take k ++ L[k] :: L.drop (k + 1) := by
    rw [← List.drop_eq_getElem_cons hk, List.take_append_drop]
  rw [e] at hx
  have e2 : L.getD k 0 = L[k] := by simp [List.getD_eq_getElem?_getD, List.getElem?_eq_getElem hk]
  simp only [mtf, List.mem_cons, List.mem_append, e2] at hx ⊢
  rcases hx with h | h | h
  · exact .inr (.inl h)
  · exact .inl h
  · exact .inr (.inr h)
theorem mst_push (L ps : List Nat) (p : Nat) : mst L (ps ++ [p]) = mstep (mst L ps) p := by
  unfold mst
  rw [List.foldl_append]
  rfl
/-- the first place of a byte in a list -/
theorem first_at (M : List Nat) (c : Nat) (h : c ∈ M) : ∃ k, k < M.length ∧ M.getD k 0 = c ∧ ∀ i, i < k → M.getD i 0 ≠ c := by
  refine ⟨M.idxOf c, List.idxOf_lt_length_iff.2 h, ?_, fun i hi => ?_⟩
  · have := List.getElem_idxOf (List.idxOf_lt_length_iff.2 h)
    simp [List.getD_eq_getElem?_getD, List.getElem?_eq_getElem (List.idxOf_lt_length_iff.2 h), this]
  · have hlt : i < M.length := Nat.lt_trans hi (List.idxOf_lt_length_iff.2 h)
    have := List.not_of_lt_findIdx (xs := M) (p := (· == c)) (i := i) (by simpa [List.idxOf] using hi)
    simp [List.getD_eq_getElem?_getD, List.getElem?_eq_getElem hlt]
    simpa using this
theorem places_any (A At : Option Addr) (cap capt n m : Nat) (L text : List Nat) (w : World) (hA : Ints w .u8 A L) (hT : Ints w .u8 At text) (hL : L.length = n) (hm : text.length = m) (hn : n ≤ 256) (h0 : 0 < n) (htx : ∀ x ∈ text, x ∈ L) (hm2 : m * 8 ≤ 140737488355328)
    (hAn : A = none → L = [] ∧ cap = 0) :
    Calls Try.prog 15 #[.slice A n cap, .slice At m capt] w fun e w' => ∃ A1 c1 ps, e = .returned (.slice A1 m c1) ∧ ps.length = m ∧ (∀ p ∈ ps, p < n) ∧ (mst L ps).2 = text ∧ Own w' w.heap.size 3 1 A1 m c1 (cellsN .i64 ps) ∧ Below w.heap.size w w' := by
  have S := Lib.hid (srcAt_ints cap hA hAn)
  rw [hL] at S
  have HL := Lib.hid hL
  have HT := Lib.hid htx
  clear hAn hA htx hL
  subst hm
  go_enter Try.func15, Try.ntmps15
  go_wp2_with (at_builtin; refine app_nat rfl (.const (.slice none 0 0)) (.tmp 10) 22 rfl w.heap.size 5 .u8 1 Try.underlying22 infoByte (by omega) (l := []) rfl (Own.nil _ _ _ _) rfl S.out HL.out (by omega) (Nat.le_refl _) ?_; intro A2 c2 w2 own2 grow2 fresh2; simp only [Nat.zero_add, List.nil_append] at own2 ⊢; have b2 := below_grown_nil grow2)
  go_loopw [6, 14] (fun v i wr => ∃ (k : Nat) (A1 : Option Addr) (c1 : Nat) (ps : List Nat), k ≤ text.length ∧ i = .int .i64 k ∧ v = .slice A1 k c1 ∧ ps.length = k ∧ Hid (∀ p ∈ ps, p < n) ∧ Hid ((mst L ps).2 = text.take k) ∧ Hid (∀ x ∈ L, x ∈ (mst L ps).1) ∧ Own wr w.heap.size 3 1 A1 k c1 (cellsN .i64 ps) ∧ Own wr w.heap.size 5 1 A2 n c2 (cellsN .u8 (mst L ps).1) ∧ Apart A1 A2 ∧ Below w.heap.size w wr) (fun _ i _ => text.length - (intOf i).toNat)
  case atStart => exact ⟨0, none, 0, [], by omega, rfl, rfl, rfl, by intro p hp; simp at hp, rfl, fun x hx => hx, Own.nil _ _ _ _, own2, .inl rfl, b2⟩
  case round =>
    obtain ⟨k, A1, c1, ps, hk, rfl, rfl, hpl, HP, HM, HI, own, ownL, apart, bel⟩ := hrel
    by_cases hlt : k < text.length
    · obtain ⟨b1, o1, rfl, hb1', hc1⟩ := hT k hlt
      have hd1 := (bel.cell (p := ⟨b1, o1 + k, none⟩) hb1').trans hc1
      have hmem := HI.out _ (HT.out _ (List.getElem_mem hlt))
      have hlen := (mst_ind L n HL.out ps HP.out).1
      obtain ⟨q, hq, hqc, hqn⟩ := first_at _ _ hmem
      generalize hM : (mst L ps).1 = M at ownL hlen hq hqc hqn
      have HMM := Lib.hid hM
      clear hM
      have hx : text[k] = text.getD k 0 := by simp [List.getD_eq_getElem?_getD, List.getElem?_eq_getElem hlt]
      rw [hx] at hqc hqn
      have HX := Lib.hid hx
      clear hx hmem
      generalize text.getD k 0 = y at hd1 hc1 hqc hqn HX
      have HQ := Lib.hid hqn
      have HQC := Lib.hid hqc
      clear hqn hc1 hqc
      obtain ⟨g2, rfl, hg2, hg2', _, _⟩ := ownL.cell 0 (by omega)
      have HC := Lib.hid (fun i (hi : i < n) (z : Nat) (hz : M.getD i 0 = z) => (by have := ownL.ints.at i (by omega) z hz; rw [Nat.zero_add] at this; exact this : wr.cell? ⟨g2, i, none⟩ = some (.int .u8 (z : Int))))
      have hbs := bel.size
      have hqn : q < n := by omega
      go_wp2_with fail
      go_loop [9] (fun v => ∃ i : Nat, i ≤ q ∧ v = .int .i64 i) (fun v => q - (intOf v).toNat)
      case atStart => exact ⟨0, by omega, rfl⟩
      case round =>
        obtain ⟨i, hi, rfl⟩ := hrel
        obtain ⟨z, hz⟩ : ∃ z, M.getD i 0 = z := ⟨_, rfl⟩
        have hci := HC.out i (by omega) z hz
        by_cases hiq : i < q
        · have hne : ((z : Int) != (y : Int)) = true := by
            have := HQ.out i hiq
            rw [hz] at this
            simp only [bne_iff_ne, ne_eq]; omega
          clear hz
          go_wp2
          go_round
          case rel => exact ⟨i + 1, by omega, by go_num⟩
          case measure => simp [intOf]; omega
        · obtain rfl : i = q := by omega
          obtain rfl : z = y := by rw [← hz, HQC.out]
          clear hz
          have own1' := fun (w3 : World) (g3 : wr.grownBy w3 (blockOf (some ⟨g2, 0, none⟩))) => own.grown g3 apart
          go_wp2_with (first
            | (go_at_call 21; refine (front_any _ _ _ _ _ _ _ ownL hqn hn).mono ?_; rintro e w3 ⟨rfl, own3, grow3⟩; have own1 := own1' w3 grow3; have bel3 := below_grown bel grow3 hbs (fun g hg => (ownL.block g hg).1))
            | (at_builtin; refine app_nat rfl (.tmp 29) (.tmp 31) 23 rfl w.heap.size 3 .i64 8 Try.underlying23 infoInt (by omega) rfl (own1.alloc _) rfl (l2 := [i]) (srcAt_new w3 _ _ _ _ rfl) rfl (by omega) (by simp; have := bel3.size; omega) ?_; intro A4 c4 w4 own4 grow4 fresh4))
          go_roundw
          case rel =>
            refine ⟨k + 1, A4, c4, ps ++ [i], by omega, by go_num, rfl, by simp [hpl], ?_, ?_, ?_, own4, ?_, apart.next (fun g hg => ((own3.alloc _).block g hg).2) fresh4, below_grown (bel3.alloc bel3.size _) grow4 (bel3.alloc bel3.size _).size (fun g hg => (own1.block g hg).1)⟩
            · intro p hp
              rcases List.mem_append.1 hp with h | h
              · exact HP.out p h
              · obtain rfl := List.mem_singleton.1 h; exact hqn
            · show (mst L (ps ++ [i])).2 = text.take (k + 1)
              rw [mst_push, List.take_succ_eq_append_getElem hlt, HX.out]
              show (mst L ps).2 ++ [(mst L ps).1.getD i 0] = _
              rw [HM.out, HMM.out, HQC.out]
            · intro x hx
              rw [mst_push]
              exact mtf_mem _ _ (by rw [HMM.out]; exact hq) x (HI.out x hx)
            · rw [mst_push]
              show Own _ _ _ _ _ _ _ (cellsN .u8 (mtf (mst L ps).1 i))
              rw [HMM.out]
              exact (own3.alloc _).grown grow4 apart.flip
          case measure => simp [intOf]; omega
    · obtain rfl : k = text.length := by omega
      have HM2 : Hid ((mst L ps).2 = text) := by have := HM.out; rw [List.take_length] at this; exact this
      go_wp2
      go_ret
      exact ⟨_, _, ps, rfl, hpl, HP.out, HM2.out, own, bel⟩
end Go.Proofs.Ytdhehnjidakfcaa
