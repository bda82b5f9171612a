/- The law of even codes: walked. -/
import Derived.Test.YtdhehnjidakfcaaDoorSymLaw
namespace Go.Proofs.YtdhehnjidakfcaaDoor
open Go.RowKit Huff
set_option maxHeartbeats 1000000
set_option maxRecDepth 4000
set_option linter.unusedVariables false
set_option linter.unusedSimpArgs false
/-- symbols of an even code are the numbers that their bits are -/
theorem even_run (k : Nat) (h1 : 1 ≤ k) (h8 : k ≤ 8) (l : List Nat) (n : Nat) : ∀ (N s : Nat), decs (tree (List.replicate (2 ^ k) k)) N (bl l n s) = run l n s (List.replicate N k) := by
  intro N
  induction N with
  | zero => intro s; rfl
  | succ N ih =>
    intro s
    rw [List.replicate_succ, run, decs, even_dec k h1 h8 l n s]
    by_cases h : s + k ≤ 8 * n
    · rw [if_pos h, if_pos h]
      simp only [ih (s + k)]
    · rw [if_neg h, if_neg h]
theorem rep_snoc (k v : Nat) : List.replicate (k + 1) v = List.replicate k v ++ [v] := List.replicate_succ'
set_option maxHeartbeats 4000000 in
theorem fnSymbolsEven_walk (A0 : Option Addr) (c0 : Nat) (z0 : List Int) (n1 n2 : Int) (w : World) (hEE : ∃ a0 a1, Errs w a0 a1)
    (h0 : Arg .u8 w A0 z0 c0) (m0 : z0.length * 1 ≤ 140737488351232) (hn1 : (Lit.int .i64 n1).wf = true) (hn2 : (Lit.int .i64 n2).wf = true) :
    Calls Tryd.prog 8 #[.slice A0 z0.length c0, .int .i64 n1, .int .i64 n2] w fun e w' => e = .returned (.bool true) ∧ Below w.heap.size w w' := by
  obtain ⟨a0, a1, hE⟩ := hEE
  obtain ⟨l, hl, hA, hb, hm⟩ := bytes_of h0
  have HE := Lib.hid hE
  have hs1 : 1 < w.heap.size := lt_of_cell hE.2
  have hdom : Hid (0 < z0.length → ∀ g, blockOf A0 = some g → g < w.heap.size) := fun h0 => ints_dom hA (by omega)
  have HL := Lib.hid hl; have HB := Lib.hid hb; have HA := Lib.hid hA
  have k2 : z0.length ≤ 140737488351232 := by omega
  obtain ⟨M, hM, hM2⟩ := rest_nat n1 8 (by omega)
  obtain ⟨N, hN, hN2⟩ := rest_nat n2 200 (by omega)
  have HM := Lib.hid hM; have HN := Lib.hid hN
  clear hE hl hb hm h0 hA m0 hM hN
  go_enter Tryd.func8, Tryd.ntmps8
  go_wp2_with fail
  refine (place_any n1 8 w hn1 (by omega) (by omega)).mono ?_
  rintro e w' ⟨rfl, rfl⟩
  rw [show n1 % 8 = (M : Int) from HM.out]
  obtain ⟨K, hK⟩ : ∃ K, 1 + M = K := ⟨_, rfl⟩
  have i1 : (1 : Int) + (M : Int) = (K : Int) := by omega
  have hK1 : 1 ≤ K := by omega
  have hK8 : K ≤ 8 := by omega
  clear hK
  go_wp2_with fail
  refine (place_any n2 200 w hn2 (by omega) (by omega)).mono ?_
  rintro e w' ⟨rfl, rfl⟩
  rw [show n2 % 200 = (N : Int) from HN.out]
  have hpow : (2 : Nat) ^ K ≤ 2 ^ 8 := Nat.pow_le_pow_right (by omega) hK8
  have h256 : (2 : Nat) ^ 8 = 256 := by decide
  have hp2 : (2 : Int) ^ K = ((2 ^ K : Nat) : Int) := by simp
  obtain ⟨P, hP⟩ : ∃ P, 2 ^ K = P := ⟨_, rfl⟩
  rw [hP] at hpow hp2
  have HP := Lib.hid hP
  have hP256 : P ≤ 256 := by omega
  clear hpow h256 hP
  go_wp2_with fail
  go_loopw [7, 26] (fun ov iv wr => ∃ (j : Nat) (A1 : Option Addr) (c1 : Nat), j ≤ P ∧ iv = .int .i64 (j : Int) ∧ ov = .slice A1 j c1 ∧ Own wr w.heap.size 3 1 A1 j c1 (cellsN .i64 (List.replicate j K)) ∧ Below w.heap.size w wr) (fun _ iv _ => P - (intOf iv).toNat)
  case atStart => exact ⟨0, none, 0, by omega, rfl, rfl, Own.nil _ _ _ _, Below.refl _ _⟩
  case round =>
    obtain ⟨j, A1, c1, hj, rfl, rfl, own, bel⟩ := hrel
    by_cases hlt : j < P
    · obtain ⟨X, hX⟩ : ∃ X, List.replicate j K = X := ⟨_, rfl⟩
      rw [hX] at own
      have HRS : Hid (List.replicate (j + 1) K = X ++ [K]) := by show List.replicate (j + 1) K = _; rw [rep_snoc, hX]
      clear hX
      have hbs := bel.size
      go_wp2_with (at_builtin; refine app_nat rfl (.tmp 28) (.tmp 30) 23 rfl w.heap.size 3 .i64 8 Tryd.underlying23 infoInt (by omega) rfl (own.alloc _) rfl (l2 := [K]) (srcAt_new wr _ _ _ _ rfl) rfl (by omega) (by simp; omega) ?_; intro A4 c4 w4 own4 grow4 fresh4)
      go_roundw
      case rel => exact ⟨j + 1, A4, c4, by omega, by go_num, rfl, by rw [HRS.out]; exact own4, below_grown (bel.alloc bel.size _) grow4 (bel.alloc bel.size _).size (fun g hg => (own.block g hg).1)⟩
      case measure => simp [intOf]; omega
    · obtain rfl : j = P := by omega
      obtain ⟨L, hLe⟩ : ∃ L, List.replicate j K = L := ⟨_, rfl⟩
      rw [hLe] at own
      have HLE := Lib.hid hLe
      have HLL : Hid (L.length = j) := by show L.length = j; rw [← hLe]; simp
      have hF : Hid (Full L) := by
        show Full L
        rw [← hLe, ← HP.out]; exact even_full K hK1 hK8
      have hs2 := bel.size
      clear hLe
      go_wp2_with fail
      obtain ⟨w2, hw2⟩ : ∃ w2, w2 = wr := ⟨_, rfl⟩
      subst hw2
      go_loopw [8, 34] (fun ov iv wr2 => ∃ (i : Nat) (A2 : Option Addr) (c2 : Nat), i ≤ N ∧ iv = .int .i64 (i : Int) ∧ ov = .slice A2 i c2 ∧ Own wr2 w2.heap.size 3 1 A2 i c2 (cellsN .i64 (List.replicate i K)) ∧ Below w2.heap.size w2 wr2) (fun _ iv _ => N - (intOf iv).toNat)
      case atStart => exact ⟨0, none, 0, by omega, rfl, rfl, Own.nil _ _ _ _, Below.refl _ _⟩
      case round =>
        obtain ⟨i, A2, c2, hi, rfl, rfl, own2, bel2⟩ := hrel
        have hbs := bel2.size
        by_cases hlt2 : i < N
        · obtain ⟨X, hX⟩ : ∃ X, List.replicate i K = X := ⟨_, rfl⟩
          rw [hX] at own2
          have HRS : Hid (List.replicate (i + 1) K = X ++ [K]) := by show List.replicate (i + 1) K = _; rw [rep_snoc, hX]
          clear hX
          go_wp2_with (at_builtin; refine app_nat rfl (.tmp 36) (.tmp 38) 23 rfl w2.heap.size 3 .i64 8 Tryd.underlying23 infoInt (by omega) rfl (own2.alloc _) rfl (l2 := [K]) (srcAt_new _ _ _ _ _ rfl) rfl (by omega) (by simp; omega) ?_; intro A4 c4 w4 own4 grow4 fresh4)
          go_roundw
          case rel => exact ⟨i + 1, A4, c4, by omega, by go_num, rfl, by rw [HRS.out]; exact own4, below_grown (bel2.alloc bel2.size _) grow4 (bel2.alloc bel2.size _).size (fun g hg => (own2.block g hg).1)⟩
          case measure => simp [intOf]; omega
        · obtain rfl : i = N := by omega
          obtain ⟨ws, hws⟩ : ∃ ws, List.replicate i K = ws := ⟨_, rfl⟩
          rw [hws] at own2
          have HWS := Lib.hid hws
          have HWL : Hid (ws.length = i) := by show ws.length = i; rw [← hws]; simp
          have HW8 : Hid (∀ x ∈ ws, x ≤ 48) := fun x hx => by rw [← hws] at hx; have := List.eq_of_mem_replicate hx; omega
          have bel3 := bel.trans (bel2.mono hs2)
          have hs3 := bel3.size
          have ownL := own.below bel2
          clear hws own bel2
          go_wp2_with fail
          refine (implSymbols_any A1 A0 c1 c0 j z0.length i L l a0 a1 _ ownL.ints HLL.out hF.out (by omega) (HA.out.below bel3) HL.out k2 HB.out (by omega) (HE.out.below bel3) (by omega) (fun h g hg => Nat.lt_of_lt_of_le (hdom.out h g hg) hs3)).mono ?_
          rintro e w4 ⟨A4, c4, o, en, rfl, hr, hol, own4, b4⟩
          have HO : Hid (∀ x ∈ o, x < 257) := fun x hx => by
            have := decs_lt L hF.out i (bl l z0.length 0) x (by rw [hr]; exact hx)
            have := HLL.out
            omega
          have hev := even_run K hK1 hK8 l z0.length i 0
          rw [HP.out, HLE.out, hr, HWS.out] at hev
          have HEV := Lib.hid hev
          have b14 := bel3.trans (b4.mono hs3)
          have hs4 := b14.size
          have ownW := own2.below b4
          clear hr hev own2
          go_wp2_with fail
          refine (implBits_any A0 A2 c0 c2 z0.length i l ws a0 a1 w4 (HA.out.below b14) ownW.ints HL.out HWL.out k2 (by omega) HB.out HW8.out (HE.out.below b14) (by omega) (fun h g hg => Nat.lt_of_lt_of_le (hdom.out h g hg) hs4)).mono ?_
          rintro e w5 ⟨A5, c5, o', en', rfl, hr2, _, own5, b5⟩
          rw [← HEV.out] at hr2
          injection hr2 with e1 e2
          subst e1; subst e2
          have b15 := b14.trans (b5.mono hs4)
          have hs5 := b15.size
          have own45 := own4.below b5
          clear own4 ownW
          go_wp2_with fail
          refine (sone_any a0 a1 w5 (HE.out.below b15) (by omega) rfl rfl).mono ?_
          rintro e w6 ⟨A6, c6, rfl, own6, b6⟩
          have b16 := b15.trans (b6.mono hs5)
          have hs6 := b16.size
          have own46 := own45.below b6
          have own56 := own5.below b6
          clear own45 own5
          go_wp2_with fail
          refine (samei_self A6 (some ⟨w6.heap.size, 0, none⟩) c6 1 1 [1] rfl _ (own6.ints.alloc _) (ints2 w6 _ rfl) (by omega)).mono ?_
          rintro e w' ⟨rfl, rfl⟩
          have b17 := b16.alloc hs6 (.cells #[.int .i64 1] 3)
          have own47 := own46.alloc (.cells #[.int .i64 1] 3)
          have own57 := own56.alloc (.cells #[.int .i64 1] 3)
          generalize w6.alloc (.cells #[.int .i64 1] 3) = w7 at b17 own47 own57
          clear own46 own56 own6
          go_wp2_with fail
          go_loopw [17, 18, 83] (fun u17 u18 iv wr3 => ∃ (q : Nat), q ≤ o.length ∧ iv = .int .i64 (q : Int) ∧ wr3 = w7) (fun _ _ iv _ => o.length - (intOf iv).toNat)
          case atStart => exact ⟨0, by omega, rfl, rfl⟩
          case round =>
            obtain ⟨q, hq, rfl, rfl⟩ := hrel
            by_cases hlt3 : q < o.length
            · obtain ⟨b2, o2, rfl, _, hc2⟩ := own47.ints q hlt3
              obtain ⟨b3, o3, rfl, _, hc3⟩ := own57.ints q hlt3
              have hv := getD_lt' HO.out hlt3
              generalize o.getD q 0 = v at hc2 hc3 hv
              have hii : (q : Int) < (o.length : Int) := by omega
              go_wp2_with fail
              go_roundw
              case rel => exact ⟨q + 1, by omega, by go_num, trivial⟩
              case measure => simp [intOf]; omega
            · obtain rfl : q = o.length := by omega
              go_wp2_with fail
              go_ret
              exact ⟨rfl, b17⟩
end Go.Proofs.YtdhehnjidakfcaaDoor
