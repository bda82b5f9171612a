/- What is written is read: the law's walk. -/
import Derived.Test.YtdhehnjidakfcaaDoorWritten
import Derived.Test.YtdhehnjidakfcaaDoorBitsLaw
namespace Go.Proofs.YtdhehnjidakfcaaDoor
open Go.RowKit
set_option maxHeartbeats 400000
set_option maxRecDepth 4000
set_option linter.unusedVariables false
set_option linter.unusedSimpArgs false
theorem Ints.take {w : World} {k : IntKind} {A : Option Addr} {l : List Nat} (h : Ints w k A l) (n : Nat) : Ints w k A (l.take n) := fun i hi => by
  rw [List.length_take] at hi
  obtain ⟨b, off, e, hb, hc⟩ := h i (by omega)
  refine ⟨b, off, e, hb, ?_⟩
  rw [hc]
  have : (l.take n).getD i 0 = l.getD i 0 := by simp [List.getD_eq_getElem?_getD, show i < n by omega]
  rw [this]
theorem bitsBack_any (K n1 n2 : Nat) (A1 A2 : Option Addr) (c1 c2 : Nat) (Ns : List Nat) (z2 : List Int) (w : World) (a0 a1 : Addr) (hE : Errs w a0 a1) (hN : Ints w .u64 A1 Ns) (hW : Zints w .i64 A2 z2) (hn1 : Ns.length = n1) (hn2 : z2.length = n2) (hwf : ∀ x ∈ z2, (Lit.int .i64 x).wf = true)
    (hb : ∀ x ∈ Ns, x < 18446744073709551616) (m1 : n1 * 8 ≤ 140737488351232) (m2 : n2 * 8 ≤ 140737488351232) (q1 : n1 ≤ c1) (hmin : (K = n1 ∧ K ≤ n2) ∨ (K = n2 ∧ K < n1)) :
    Calls Tryd.prog 4 #[.slice A1 n1 c1, .slice A2 n2 c2] w fun e w' => e = .returned (.bool true) ∧ Below w.heap.size w w' := by
  have HE := Lib.hid hE
  have hs1 : 1 < w.heap.size := lt_of_cell hE.2
  have hK1 : K ≤ n1 := by omega
  have hK2 : K ≤ n2 := by omega
  have HN := Lib.hid (hN.take K)
  have HNL : Hid ((Ns.take K).length = K) := by show (Ns.take K).length = K; rw [List.length_take]; omega
  have HNB : Hid (∀ x ∈ Ns.take K, x < 18446744073709551616) := fun x hx => hb x (List.mem_of_mem_take hx)
  generalize Ns.take K = N at HN HNL HNB
  rcases hmin with ⟨rfl, h⟩ | ⟨rfl, h⟩
  all_goals
    go_enter Tryd.func4, Tryd.ntmps4
    go_wp2_with fail
    refine (rests_any A2 c2 _ 49 z2 w hW hn2 hwf (by omega) (by omega) m2).mono ?_
    rintro e w1 ⟨A3, c3, rfl, own3, b1⟩
    have hps := restsOf_lt z2 49 (by omega)
    have hrl := (restsOf_length z2 49).trans hn2
    have hcap3 := own3.caps
    unfold maxLen at hcap3
    have hlt49 : ∀ x ∈ restsOf z2 49, x ≤ 48 := fun x hx => by have := hps x hx; omega
    have HWI := Lib.hid ((own3.ints).take K)
    have HWL : Hid (((restsOf z2 49).take K).length = K) := by show ((restsOf z2 49).take K).length = K; rw [List.length_take, hrl]; omega
    have HWB : Hid (∀ x ∈ (restsOf z2 49).take K, x ≤ 48) := fun x hx => hlt49 x (List.mem_of_mem_take hx)
    generalize (restsOf z2 49).take K = ws at HWI HWL HWB
    clear hps hrl hlt49
    have i1 : (0 : Int) ≤ (K : Int) := by omega
    have i2 : (K : Int) ≤ (c1 : Int) := by omega
    have i3 : (K : Int) ≤ (c3 : Int) := by omega
    go_wp2_with fail
    go_quiet (fail)
    have b2 : Below w.heap.size w (w1.drewN nq) := ⟨b1.os, b1.tape, b1.output, b1.size, b1.block⟩
    have HWI2 : Hid (Ints (w1.drewN nq) .i64 A3 ws) := HWI.out
    generalize w1.drewN nq = w2 at b2 HWI2
    have HNI := Lib.hid (HN.out.below b2)
    have hs2 := b2.size
    clear own3 b1 HWI hcap3
    go_wp2_with fail
    go_loopw [6, 7, 8, 28] (fun ov u7 u8 iv wr => ∃ (k : Nat) (A : Option Addr) (c : Nat), k ≤ K ∧ iv = .int .i64 k ∧ ov = .slice A k c ∧ Own wr w2.heap.size 29 1 A k c (cellsN .u64 (lows N ws k)) ∧ Below w2.heap.size w2 wr) (fun _ _ _ iv _ => K - (intOf iv).toNat)
    case atStart => exact ⟨0, none, 0, by omega, rfl, rfl, Own.nil _ _ _ _, Below.refl _ _⟩
    case round =>
      obtain ⟨k, A, c, hk, rfl, rfl, own, bel⟩ := hrel
      by_cases hlt : k < K
      · obtain ⟨e1, f1, rfl, hb1, hc1⟩ := HNI.out k (by rw [HNL.out]; exact hlt)
        obtain ⟨e2, f2, rfl, hb2, hc2⟩ := HWI2.out k (by rw [HWL.out]; exact hlt)
        have hd1 := (bel.cell (p := ⟨e1, f1 + k, none⟩) hb1).trans hc1
        have hd2 := (bel.cell (p := ⟨e2, f2 + k, none⟩) hb2).trans hc2
        have hx : N.getD k 0 < 18446744073709551616 := getD_lt' HNB.out (by rw [HNL.out]; exact hlt)
        have hv : ws.getD k 0 ≤ 48 := getD_le HWB.out (by rw [HWL.out]; exact hlt)
        have hlo : lows N ws (k + 1) = lows N ws k ++ [N.getD k 0 % 2 ^ ws.getD k 0] := by simp [lows, List.range_succ]
        generalize N.getD k 0 = x at hd1 hx hc1 hlo
        generalize ws.getD k 0 = v at hd2 hv hc2 hlo
        have HLO := Lib.hid hlo
        have hcall := fun w => low_any x v w hx hv
        have HCALL := Lib.hid hcall
        generalize x % 2 ^ v = z at HCALL HLO
        clear hc1 hc2 hlo hcall
        have hsz := bel.size
        go_wp2_with (first
          | (go_at_call 13; refine (HCALL.out wr).mono ?_; rintro e w3 ⟨rfl, rfl⟩)
          | (at_builtin; refine app_nat rfl (.tmp 33) (.tmp 40) 25 rfl w2.heap.size 29 .u64 8 Tryd.underlying25 infoU64 (by omega) rfl (own.alloc _) rfl (l2 := [z]) (srcAt_new _ _ _ _ _ rfl) rfl (by omega) (by simp; omega) ?_; intro A4 c4 w4 own4 grow4 fresh4))
        go_roundw
        case rel => exact ⟨k + 1, A4, c4, by omega, by go_num, rfl, by rw [HLO.out]; exact own4, below_grown (bel.alloc bel.size _) grow4 (bel.alloc bel.size _).size (fun g hg => (own.block g hg).1)⟩
        case measure => simp [intOf]; omega
      · obtain rfl : k = K := by omega
        have hsz := bel.size
        have bw := b2.trans (bel.mono hs2)
        have HLL : Hid ((lows N ws k).length = k) := by show (lows N ws k).length = k; simp [lows]
        go_wp2_with fail
        refine (written_any A1 A3 c1 c3 k N ws _ (HNI.out.below bel) (HWI2.out.below bel) HNL.out HWL.out (by omega) HNB.out HWB.out).mono ?_
        rintro e w4 ⟨A5, c5, n5, l5, rfl, own5, hlt5, hn5, hrun, b4⟩
        have HRUN := Lib.hid hrun; have HLT5 := Lib.hid hlt5
        clear hrun hlt5
        have bw4 := bw.trans (b4.mono bw.size)
        have hs4 := bw4.size
        have hs5 := b4.size
        have h5l := Lib.hid (own_length' own5)
        go_wp2_with fail
        refine (implBits_any A5 A3 c5 c3 n5 k l5 ws a0 a1 w4 own5.ints ((HWI2.out.below bel).below b4) h5l.out HWL.out (by omega) (by omega) HLT5.out HWB.out (HE.out.below bw4) (by omega) (fun _ g hg => (own5.block g hg).2)).mono ?_
        rintro e w5 ⟨A6, c6, o, en, rfl, hr, hol, own6, b5⟩
        rw [HRUN.out] at hr
        injection hr with h1 h2
        subst h1; subst h2
        have bw5 := bw4.trans (b5.mono hs4)
        have hs6 := bw5.size
        have ownW := (own.below b4).below b5
        clear hol
        go_wp2_with fail
        refine (one_any a0 a1 w5 (HE.out.below bw5) (by omega) rfl rfl).mono ?_
        rintro e w6 ⟨A7, c7, rfl, own7, b6⟩
        have bw6 := bw5.trans (b6.mono hs6)
        have hs7 := bw6.size
        have own6' := own6.below b6
        have ownW' := ownW.below b6
        rw [HLL.out] at own6'
        rw [HLL.out]
        go_wp2_with fail
        refine (same_self A6 A c6 c _ (lows N ws k) HLL.out _ own6'.ints ownW'.ints (by omega)).mono ?_
        rintro e w' ⟨rfl, rfl⟩
        go_wp2_with fail
        refine (same_self A7 (some ⟨w6.heap.size, 0, none⟩) c7 1 1 [1] rfl _ (own7.ints.alloc _) (Ints.one w6 .u64 1 29 rfl rfl) (by omega)).mono ?_
        rintro e w' ⟨rfl, rfl⟩
        go_wp2_with fail
        go_ret
        exact ⟨rfl, bw6.alloc hs7 _⟩
theorem fnBitsBack_walk (A1 : Option Addr) (c1 : Nat) (z1 : List Int) (A2 : Option Addr) (c2 : Nat) (z2 : List Int) (w : World) (hEE : ∃ a0 a1, Errs w a0 a1)
    (h1 : Arg .u64 w A1 z1 c1) (m1 : z1.length * 8 ≤ 140737488351232) (h2 : Arg .i64 w A2 z2 c2) (m2 : z2.length * 8 ≤ 140737488351232) :
    Calls Tryd.prog 4 #[.slice A1 z1.length c1, .slice A2 z2.length c2] w fun e w' => e = .returned (.bool true) ∧ Below w.heap.size w w' := by
  obtain ⟨a0, a1, hE⟩ := hEE
  obtain ⟨Ns, hl, hN, hmax⟩ := h1.nat rfl
  have hb : ∀ x ∈ Ns, x < 18446744073709551616 := fun x hx => by
    have := hmax x hx
    have e : IntKind.u64.max = 18446744073709551615 := by decide
    omega
  exact bitsBack_any (min z1.length z2.length) _ _ A1 A2 c1 c2 Ns z2 w a0 a1 hE hN h2.cells hl rfl h2.wf hb m1 m2 h1.le (by omega)
end Go.Proofs.YtdhehnjidakfcaaDoor
