/- Lengths of a full code: walked. -/
import Derived.Test.YtdhehnjidakfcaaDoorSymbols
import Derived.Test.YtdhehnjidakfcaaDoorPutWalk
namespace Go.Proofs.YtdhehnjidakfcaaDoor
open Go.RowKit Huff
set_option maxHeartbeats 1000000
set_option maxRecDepth 4000
set_option linter.unusedVariables false
set_option linter.unusedSimpArgs false
theorem mod_any (n k : Int) (w : World) (hn : (Lit.int .i64 n).wf = true) (h0 : 0 < k) (h1 : k ≤ 4611686018427387904) :
    Calls Tryd.prog 30 #[.int .i64 n, .int .i64 k] w fun e w' => e = .returned (.int .i64 (n % k)) ∧ w = w' := by
  have hr := wf_range hn
  have ht1 : n.tmod k < k := Int.tmod_lt_of_pos n h0
  have ht2 : -k < n.tmod k := Int.lt_tmod_of_pos n h0
  have ht3 : n.tmod k % k = n % k := by
    have e := Int.mul_tdiv_add_tmod n k
    have : n % k = (k * n.tdiv k + n.tmod k) % k := by rw [e]
    rw [this, Int.mul_add_emod_self_left]
  have HT := Lib.hid ht3
  clear ht3
  go_enter Tryd.func30, Tryd.ntmps30
  go_wp2
  go_ret
  refine ⟨ret_int ?_, rfl⟩
  show (n.tmod k + k) % k = n % k
  rw [Int.add_emod_right, HT.out]
/-- some number of a list that is gone through again and again -/
theorem at_any (A : Option Addr) (n cap k : Nat) (z : List Int) (w : World) (hA : Zints w .i64 A z) (hn : z.length = n) (hwf : ∀ x ∈ z, (Lit.int .i64 x).wf = true) (hk : k < 4611686018427387904) (hnm : n < 4611686018427387904) :
    Calls Tryd.prog 31 #[.slice A n cap, .int .i64 (k : Int)] w fun e w' => ∃ y : Int, e = .returned (.int .i64 y) ∧ (Lit.int .i64 y).wf = true ∧ w = w' := by
  rcases Nat.eq_zero_or_pos n with h0 | hpos
  · subst h0
    go_enter Tryd.func31, Tryd.ntmps31
    go_wp2_with fail
    go_ret
    exact ⟨0, rfl, by decide, rfl⟩
  · obtain ⟨q, hq⟩ : ∃ q, k % n = q := ⟨_, rfl⟩
    have hqn : q < n := by rw [← hq]; exact Nat.mod_lt _ hpos
    obtain ⟨b, off, rfl, hb, hc⟩ := hA q (by omega)
    have hwy := wf_at hwf (show q < z.length by omega) rfl
    generalize z.getD q 0 = y at hc hwy
    have i1 : ((n : Int) == 0) = false := by rw [beq_eq_false_iff_ne]; omega
    have i2 : (k : Int).tmod (n : Int) = (q : Int) := by rw [Int.tmod_eq_emod_of_nonneg (by omega), ← hq]; omega
    have i3 : (q : Int) < (n : Int) := by omega
    have i4 : IntKind.i64.wrap (q : Int) = (q : Int) := by rw [IntKind.wrap_i64]; omega
    clear hq
    go_enter Tryd.func31, Tryd.ntmps31
    go_wp2_with fail
    go_ret
    exact ⟨y, rfl, hwy, rfl⟩
set_option maxHeartbeats 4000000 in
theorem lengths_any (A : Option Addr) (n cap M : Nat) (z : List Int) (w : World) (hA : Zints w .i64 A z) (hn : z.length = n) (hwf : ∀ x ∈ z, (Lit.int .i64 x).wf = true) (h2 : 2 ≤ M) (hM : M ≤ 258) (hnm : n < 4611686018427387904) :
    Calls Tryd.prog 24 #[.int .i64 (M : Int), .slice A n cap, .int .i64 0] w fun e w' => ∃ A' c' L, e = .returned (.slice A' M c') ∧ Own w' w.heap.size 3 1 A' M c' (cellsN .i64 L) ∧ Grown L ∧ L.length = M ∧ Below w.heap.size w w' := by
  have HW := Lib.hid hwf
  have HA := Lib.hid hA
  clear hwf hA
  go_enter Tryd.func24, Tryd.ntmps24
  go_wp2_with fail
  have own0 : Own (w.alloc (.cells #[.int .i64 0] 3)) w.heap.size 3 1 (some ⟨w.heap.size, 0, none⟩) 1 1 (cellsN .i64 [0]) := own_box w w.heap.size 3 1 #[.int .i64 0] rfl (Nat.le_refl _) (by omega)
  have bel0 : Below w.heap.size w (w.alloc (.cells #[.int .i64 0] 3)) := (Below.refl _ _).alloc (Nat.le_refl _) _
  go_loopw [7, 8, 9] (fun lv kv u9 wr => ∃ (c : Nat) (L : List Nat) (A1 : Option Addr) (c1 : Nat), 1 ≤ c ∧ c ≤ M ∧ kv = .int .i64 ((c - 1 : Nat) : Int) ∧ lv = .slice A1 c c1 ∧ Hid (L.length = c) ∧ Hid (Grown L) ∧ Own wr w.heap.size 3 1 A1 c c1 (cellsN .i64 L) ∧ Below w.heap.size w wr) (fun lv kv _ wr => M - (intOf kv).toNat)
  case atStart => exact ⟨1, [0], _, 1, by omega, by omega, rfl, rfl, rfl, Grown.start, own0, bel0⟩
  case round =>
    clear own0 bel0
    obtain ⟨c, L, A1, c1, hc1, hcM, rfl, rfl, HL, HG, own, bel⟩ := hrel
    by_cases hlt : c < M
    · obtain ⟨q, rfl⟩ : ∃ q, c = q + 1 := ⟨c - 1, by omega⟩
      rw [Nat.add_sub_cancel]
      have hbs := bel.size
      obtain ⟨j, hj, hjn⟩ := HG.out.room (by rw [HL.out]; omega)
      rw [HL.out] at hj
      have HJ := Lib.hid hjn
      clear hjn
      go_wp2_with fail
      refine (at_any A n cap q z wr (HA.out.below bel) hn HW.out (by omega) hnm).mono ?_
      rintro e w' ⟨y, rfl, hwy, rfl⟩
      go_wp2_with fail
      refine (mod_any y ((q + 1 : Nat) : Int) wr hwy (by omega) (by omega)).mono ?_
      rintro e w' ⟨rfl, rfl⟩
      obtain ⟨i0, hi0, hi0q⟩ : ∃ i0 : Nat, y % ((q + 1 : Nat) : Int) = (i0 : Int) ∧ i0 < q + 1 := by
        have h1 := Int.emod_nonneg y (show ((q + 1 : Nat) : Int) ≠ 0 by omega)
        have h2 := Int.emod_lt_of_pos y (show (0 : Int) < ((q + 1 : Nat) : Int) by omega)
        exact ⟨(y % ((q + 1 : Nat) : Int)).toNat, by omega, by omega⟩
      rw [hi0]
      clear hi0 hwy
      go_wp2_with fail
      obtain ⟨g, hAg, hgB, hgl, _, _⟩ := own.cell 0 (by omega)
      subst hAg
      go_loopw [9] (fun iv wr2 => ∃ (i : Nat), i < q + 1 ∧ iv = .int .i64 (i : Int) ∧ wr2 = wr) (fun iv _ => far (q + 1) j (intOf iv).toNat)
      case atStart => exact ⟨i0, hi0q, rfl, rfl⟩
      case round =>
        obtain ⟨i, hi, rfl, rfl⟩ := hrel
        have hil : i < L.length := by rw [HL.out]; exact hi
        obtain ⟨x, hx⟩ : ∃ x, L.getD i 0 = x := ⟨_, rfl⟩
        have hd := own.ints.at i hil x hx
        rw [Nat.zero_add] at hd
        obtain ⟨uu, huu, hf⟩ := Own.some own i (by omega)
        clear huu uu
        have hx20 : x ≤ 20 := by
          have := HG.out.le x (by
            rw [← hx, List.getD_eq_getElem?_getD, List.getElem?_eq_getElem hil]
            exact List.getElem_mem hil)
          exact this
        have HX := Lib.hid hx
        clear hx
        have i1 : (i : Int) < ((q + 1 : Nat) : Int) := by omega
        by_cases hx2 : x = 20
        · subst hx2
          have hij : i ≠ j := fun e => by
            subst e
            exact HJ.out HX.out
          have hfar := far_next (q + 1) j i hi hj hij
          have i2 : ((i : Int) + 1).tmod ((q + 1 : Nat) : Int) = (((i + 1) % (q + 1) : Nat) : Int) := by
            rw [Int.tmod_eq_emod_of_nonneg (by omega), show (i : Int) + 1 = ((i + 1 : Nat) : Int) by omega]
            exact (Int.natCast_emod (i + 1) (q + 1)).symm
          have hlt2 : (i + 1) % (q + 1) < q + 1 := Nat.mod_lt _ (by omega)
          obtain ⟨i3, hi3⟩ : ∃ i3, (i + 1) % (q + 1) = i3 := ⟨_, rfl⟩
          rw [hi3] at i2 hlt2 hfar
          have HI5 : Hid (((i : Int) + 1) % ((q : Int) + 1) = (i3 : Int)) := by
            show ((i : Int) + 1) % ((q : Int) + 1) = (i3 : Int)
            rw [← hi3, show (i : Int) + 1 = ((i + 1 : Nat) : Int) by omega, show (q : Int) + 1 = ((q + 1 : Nat) : Int) by omega]
            exact (Int.natCast_emod (i + 1) (q + 1)).symm
          have HFAR := Lib.hid hfar
          clear hi3 hfar i2
          go_wp2_with fail
          go_roundw
          case rel => exact ⟨i3, hlt2, by rw [HI5.out], trivial⟩
          case measure => have := HFAR.out; simp only [intOf]; rw [HI5.out]; simp; omega
        · have hne : ((x : Int) == 20) = false := by rw [beq_eq_false_iff_ne]; omega
          have HNX := Lib.hid (HG.out.next i x hil HX.out hx2)
          have st := own_set own i (x + 1) ((x : Int) + 1) (by omega)
          have hown2 := st.1
          have hbel2 := below_grown bel st.2 hbs (fun g' hg' => by cases hg'; exact hgB)
          have HLS : Hid ((L.set i (x + 1)).length = q + 1) := by show _ = _; rw [List.length_set, HL.out]
          have hx1 : ((L.set i (x + 1)).getD i 0 : Nat) = x + 1 := by rw [getD_set _ _ _ _ hil, if_pos rfl]
          have hd2 := hown2.ints.at i (by rw [List.length_set]; exact hil) (x + 1) hx1
          rw [Nat.zero_add] at hd2
          have hbs2 := st.2.size
          clear hx1
          go_wp2_with (at_builtin; refine app_nat rfl (.tmp 40) (.tmp 45) 23 rfl w.heap.size 3 .i64 8 Tryd.underlying23 infoInt (by omega) rfl (hown2.alloc _) rfl (l2 := [x + 1]) (srcAt_new _ _ _ _ _ (by simp)) rfl (by omega) (by simp; omega) ?_; intro A4 c4 w4 own4 grow4 fresh4)
          go_roundw
          case rel => exact ⟨q + 1 + 1, _, A4, c4, by omega, by omega, by go_num, rfl, (by show (L.set i (x + 1) ++ [x + 1]).length = q + 1 + 1; rw [List.length_append, HLS.out]; rfl), HNX, own4, below_grown (hbel2.alloc hbel2.size _) grow4 (hbel2.alloc hbel2.size _).size (fun g hg => (hown2.block g hg).1)⟩
          case measure => simp [intOf]; omega
    · obtain rfl : c = M := by omega
      go_wp2_with fail
      go_ret
      exact ⟨_, _, L, rfl, own, HG.out, HL.out, bel⟩
theorem Lengths_any (A : Option Addr) (n cap M : Nat) (z : List Int) (w : World) (hA : Zints w .i64 A z) (hn : z.length = n) (hwf : ∀ x ∈ z, (Lit.int .i64 x).wf = true) (h2 : 2 ≤ M) (hM : M ≤ 258) (hnm : n < 4611686018427387904) :
    Calls Tryd.prog 16 #[.int .i64 (M : Int), .slice A n cap] w fun e w' => ∃ A' c' L, e = .returned (.slice A' M c') ∧ Own w' w.heap.size 3 1 A' M c' (cellsN .i64 L) ∧ Grown L ∧ L.length = M ∧ Below w.heap.size w w' := by
  go_enter Tryd.func16, Tryd.ntmps16
  go_wp2_with fail
  refine (lengths_any A n cap M z w hA hn hwf h2 hM hnm).mono ?_
  rintro e w' ⟨A', c', L, rfl, own, hG, hL, bel⟩
  go_wp2_with fail
  go_ret
  exact ⟨_, _, L, rfl, own, hG, hL, bel⟩
end Go.Proofs.YtdhehnjidakfcaaDoor
