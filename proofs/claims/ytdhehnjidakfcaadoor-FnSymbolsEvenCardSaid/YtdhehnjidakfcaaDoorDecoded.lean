/- The symbols that stand in data, by the reference: walked. -/
import Derived.Test.YtdhehnjidakfcaaDoorCodes
import Derived.Test.YtdhehnjidakfcaaDoorFields
namespace Go.Proofs.YtdhehnjidakfcaaDoor
open Go.RowKit Huff
set_option maxHeartbeats 1000000
set_option maxRecDepth 4000
set_option linter.unusedVariables false
set_option linter.unusedSimpArgs false
theorem pushInt (f b : Nat) (hf : f < 1048576) (hb : b < 2) : bits .or .i64 ((f : Int) * 2) (b : Int) = ((2 * f + b : Nat) : Int) := by
  have e1 : (BitVec.ofInt 64 ((f : Int) * 2)) = BitVec.ofNat 64 (f <<< 1) := by
    rw [Nat.shiftLeft_eq]
    show BitVec.ofInt 64 ((f : Int) * 2) = BitVec.ofInt 64 ((f * 2 ^ 1 : Nat) : Int)
    congr 1
  have e2 : (BitVec.ofInt 64 (b : Int)) = BitVec.ofNat 64 b := rfl
  show IntKind.i64.wrap ((BitVec.ofInt 64 ((f : Int) * 2) ||| BitVec.ofInt 64 (b : Int)).toNat : Nat) = _
  rw [e1, e2, BitVec.toNat_or, BitVec.toNat_ofNat, BitVec.toNat_ofNat, Nat.mod_eq_of_lt (by rw [Nat.shiftLeft_eq]; omega), Nat.mod_eq_of_lt (by omega), ← Nat.shiftLeft_add_eq_or_of_lt (show b < 2 ^ 1 by omega), Nat.shiftLeft_eq, IntKind.wrap_i64]
  omega
/-- where the reference's loop over bits stands -/
def Dat (l : List Nat) (n : Nat) (L : List Nat) (N k s : Nat) (p : List Bool) (o : List Nat) : Prop :=
  decs (tree L) N (bl l n 0) = (o ++ (sp L (N - k) (val p) p.length (bl l n s)).1, (sp L (N - k) (val p) p.length (bl l n s)).2)
theorem Dat.start (l : List Nat) (n : Nat) (L : List Nat) (N : Nat) (h : Full L) : Dat l n L N 0 0 [] [] := by
  unfold Dat
  rw [← sp_decs L h N]
  rfl
theorem Dat.over {l : List Nat} {n : Nat} {L : List Nat} {N k s : Nat} {p : List Bool} {o : List Nat} (h : Dat l n L N k s p o) (hk : k < N) (hs : 8 * n ≤ s) : decs (tree L) N (bl l n 0) = (o, true) := by
  unfold Dat at h
  rw [show N - k = (N - (k + 1)) + 1 by omega, bl_end l n s hs, sp] at h
  simpa using h
theorem Dat.done {l : List Nat} {n : Nat} {L : List Nat} {N s : Nat} {p : List Bool} {o : List Nat} (h : Dat l n L N N s p o) : decs (tree L) N (bl l n 0) = (o, false) := by
  unfold Dat at h
  rw [Nat.sub_self, sp] at h
  simpa using h
theorem val_bit (p : List Bool) (b : Nat) (hb : b < 2) : val (p ++ [b == 1]) = 2 * val p + b := by
  rw [val_snoc]
  have : b = 0 ∨ b = 1 := by omega
  rcases this with rfl | rfl <;> rfl
theorem Dat.found {l : List Nat} {n : Nat} {L : List Nat} {N k s : Nat} {p : List Bool} {o : List Nat} (h : Dat l n L N k s p o) (hk : k < N) (hs : s < 8 * n) (i : Nat) (hh : hit L (val (p ++ [Fld.bt l s == 1])) (p.length + 1) = some i) : Dat l n L N (k + 1) (s + 1) [] (o ++ [i]) := by
  unfold Dat at h ⊢
  rw [show N - k = (N - (k + 1)) + 1 by omega, bl_cons l n s hs, sp] at h
  rw [val_snoc] at hh
  rw [hh] at h
  rw [h]
  simp [val]
theorem Dat.on {l : List Nat} {n : Nat} {L : List Nat} {N k s : Nat} {p : List Bool} {o : List Nat} (h : Dat l n L N k s p o) (hk : k < N) (hs : s < 8 * n) (hh : hit L (val (p ++ [Fld.bt l s == 1])) (p.length + 1) = none) : Dat l n L N k (s + 1) (p ++ [Fld.bt l s == 1]) o := by
  unfold Dat at h ⊢
  rw [val_snoc] at hh ⊢
  rw [show N - k = (N - (k + 1)) + 1 by omega, bl_cons l n s hs, sp, hh] at h
  rw [h, List.length_append, show N - k = (N - (k + 1)) + 1 by omega]
  rfl
theorem hit_at (L : List Nat) (h : Full L) (p : List Bool) (i : Nat) (hi : i < L.length) (h1 : L.getD i 0 = p.length) (h2 : code L i = val p) : hit L (val p) p.length = some i :=
  hit_leaf L h p i ((tree_at L h.2.1 h.2.2 p i).2 ⟨hi, h1, h2⟩)
theorem hit_no (L : List Nat) (c m : Nat) (h : ∀ i, i < L.length → ¬ (L.getD i 0 = m ∧ code L i = c)) : hit L c m = none := by
  unfold hit
  rw [List.find?_eq_none]
  intro i hi hc
  simp only [Bool.and_eq_true, beq_iff_eq] at hc
  exact h i (by simpa using hi) hc
theorem on_node (L : List Nat) (h : Full L) (p : List Bool) (b : Bool) (x y : T) (ht : (tree L).at p = some (.node x y)) (hh : hit L (val (p ++ [b])) (p.length + 1) = none) : ∃ x y, (tree L).at (p ++ [b]) = some (.node x y) := by
  have e3 : (tree L).at (p ++ [b]) = some (if b then x else y) := by
    rw [at_append, ht]; simp only [Option.bind_some, T.at]; cases b <;> rfl
  cases hu : (if b then x else y) with
  | node x' y' => exact ⟨x', y', by rw [e3, hu]⟩
  | leaf v =>
    rw [hu] at e3
    have := hit_leaf L h (p ++ [b]) v e3
    rw [List.length_append] at this
    rw [show [b].length = 1 from rfl, hh] at this
    cases this
set_option maxHeartbeats 4000000 in
theorem decoded_any (AL A : Option Addr) (capL cap nL n N : Nat) (L l : List Nat) (w : World) (hLA : Ints w .i64 AL L) (hnL : L.length = nL) (hF : Full L) (h258 : nL ≤ 258) (h20 : ∀ x ∈ L, x ≤ 20) (hA : Ints w .u8 A l) (hl : l.length = n) (hn : n ≤ 140737488351232) (hb : ∀ x ∈ l, x < 256) (hN : N ≤ 1000000) :
    Calls Tryd.prog 18 #[.slice AL nL capL, .slice A n cap, .int .i64 (N : Int)] w fun e w' => ∃ A1 c1 o en, e = .returned (.tuple #[.slice A1 o.length c1, .bool en]) ∧ decs (tree L) N (bl l n 0) = (o, en) ∧ o.length ≤ N ∧ Own w' w.heap.size 3 1 A1 o.length c1 (cellsN .i64 o) ∧ Below w.heap.size w w' := by
  have HNL := Lib.hid hnL
  have HL := Lib.hid hl; have HB := Lib.hid hb; have HA := Lib.hid hA; have HF := Lib.hid hF; have H20 := Lib.hid h20; have HLA := Lib.hid hLA
  obtain ⟨tx, ty, hroot⟩ := tree_node L hF
  have HROOT := Lib.hid hroot
  have hcodes := Lib.hid (codes_any AL nL capL L w hLA hnL hF h258 h20)
  have hdat := Lib.hid (Dat.start l n L N hF)
  clear hl hb hA hF h20 hLA hroot hnL
  go_enter Tryd.func18, Tryd.ntmps18
  go_wp2_with fail
  refine hcodes.out.mono ?_
  rintro e w1 ⟨AC, cC, C, rfl, ownC, hCV, bel1⟩
  have HCV := Lib.hid hCV
  have hs1 := bel1.size
  clear hCV
  go_wp2_with fail
  go_loopw [6, 9, 10, 11] (fun ov cv lv sv wr => ∃ (k s : Nat) (p : List Bool) (o : List Nat) (A1 : Option Addr) (c1 x m : Nat), k ≤ N ∧ s ≤ 8 * n ∧ ov = .slice A1 k c1 ∧ cv = .int .i64 (x : Int) ∧ lv = .int .i64 (m : Int) ∧ sv = .int .i64 (s : Int) ∧ Hid (x = val p) ∧ Hid (m = p.length) ∧ Hid (o.length = k) ∧ Hid (∃ tx ty, (tree L).at p = some (.node tx ty)) ∧ Hid (Dat l n L N k s p o) ∧ Own wr w1.heap.size 3 1 A1 k c1 (cellsN .i64 o) ∧ Below w1.heap.size w1 wr) (fun _ _ _ sv _ => 8 * n - (intOf sv).toNat)
  case atStart => exact ⟨0, 0, [], [], none, 0, 0, 0, by omega, by omega, rfl, rfl, rfl, rfl, rfl, rfl, rfl, ⟨tx, ty, by rw [HROOT.out]; rfl⟩, hdat, Own.nil _ _ _ _, Below.refl _ _⟩
  case round =>
    clear hdat hcodes
    obtain ⟨k, s, p, o, A1, c1, x, m, hk, hs8, rfl, rfl, rfl, rfl, HX, HM, HOL, HND, HD, own, bel⟩ := hrel
    have hbs := bel.size
    by_cases hlt : k < N
    · by_cases hend : s = 8 * n
      · have HF5 := Lib.hid (HD.out.over hlt (by omega))
        have hie : ((s : Int) == 8 * (n : Int)) = true := by rw [beq_iff_eq]; omega
        go_wp2_with fail
        go_ret2
        exact ⟨_, _, o, true, by rw [HOL.out]; rfl, HF5.out, by rw [HOL.out]; exact hk, by rw [HOL.out]; exact own.mono hs1, bel1.trans (bel.mono hs1)⟩
      · have hs : s < 8 * n := by omega
        have hie : ((s : Int) == 8 * (n : Int)) = false := by rw [beq_eq_false_iff_ne]; omega
        obtain ⟨tx, ty, hnd⟩ := HND.out
        have hpl := node_depth L HF.out H20.out p tx ty hnd
        have hx20 : x < 1048576 := by
          rw [HX.out]
          have h1 := val_lt p
          have h2 := Nat.pow_le_pow_right (show 0 < 2 by omega) (Nat.le_of_lt hpl)
          have h3 : (2 : Nat) ^ 20 = 1048576 := by decide
          omega
        have hm20 : m < 20 := by rw [HM.out]; exact hpl
        have hbit := bit_any A cap n s l wr ((HA.out.below bel1).below bel) HL.out hs hn HB.out
        have HBIT := Lib.hid hbit
        have hbt := Fld.bt_lt l s
        have hvb := val_bit p (Fld.bt l s) hbt
        obtain ⟨t, ht⟩ : ∃ t, Fld.bt l s = t := ⟨_, rfl⟩
        rw [ht] at hbt hvb
        have HPU := Lib.hid (pushInt x t hx20 hbt)
        rw [← HX.out] at hvb
        have HVB := Lib.hid hvb
        have HT := Lib.hid ht
        have HND2 := Lib.hid hnd
        clear hbit hvb ht hnd
        go_wp2_with fail
        refine HBIT.out.mono ?_
        rintro e w' ⟨rfl, rfl⟩
        rw [HT.out]
        go_wp2_with fail
        rw [HPU.out]
        obtain ⟨y, hy⟩ : ∃ y, 2 * x + t = y := ⟨_, rfl⟩
        have hy21 : y < 2097152 := by omega
        rw [hy]
        have HY : Hid (y = val (p ++ [Fld.bt l s == 1])) := by
          show y = _
          rw [HT.out, HVB.out, hy]
        clear hy
        go_loopw [6, 9, 10, 12, 13, 39] (fun ov cv lv u12 u13 iv wr2 => ∃ (i : Nat), i ≤ nL ∧ iv = .int .i64 (i : Int) ∧ ov = .slice A1 k c1 ∧ cv = .int .i64 (y : Int) ∧ lv = .int .i64 ((m : Int) + 1) ∧ Hid (∀ j, j < i → ¬ (L.getD j 0 = m + 1 ∧ code L j = y)) ∧ wr2 = wr) (fun _ _ _ _ _ iv _ => nL - (intOf iv).toNat)
        case atStart => exact ⟨0, by omega, rfl, rfl, rfl, rfl, fun j hj => absurd hj (by omega), rfl⟩
        case round =>
          obtain ⟨i, hi, rfl, rfl, rfl, rfl, HNO, rfl⟩ := hrel
          by_cases hlt2 : i < nL
          · obtain ⟨b2, o2, rfl, hb2, hc2⟩ := ((HLA.out.below bel1).below bel) i (by rw [HNL.out]; exact hlt2)
            obtain ⟨b3, o3, rfl, hb3, hc3⟩ := (ownC.ints.below bel) i (by rw [own_length' ownC]; exact hlt2)
            rw [HCV.out i hlt2] at hc3
            obtain ⟨v, hv⟩ : ∃ v, L.getD i 0 = v := ⟨_, rfl⟩
            obtain ⟨q, hq⟩ : ∃ q, code L i = q := ⟨_, rfl⟩
            rw [hv] at hc2
            rw [hq] at hc3
            have HV := Lib.hid hv
            have HQ := Lib.hid hq
            clear hv hq
            by_cases hm : v = m + 1
            · by_cases hqy : q = y
              · have hhit : Hid (hit L (val (p ++ [Fld.bt l s == 1])) (p.length + 1) = some i) := by
                  have h1 := hit_at L HF.out (p ++ [Fld.bt l s == 1]) i (by rw [HNL.out]; exact hlt2) (by rw [HV.out, hm, HM.out]; simp) (by rw [HQ.out, hqy, HY.out])
                  rw [List.length_append] at h1
                  exact h1
                have HD2 := Lib.hid (HD.out.found hlt hs i hhit.out)
                subst hqy
                subst hm
                go_wp2_with (at_builtin; refine app_nat rfl (.tmp 55) (.tmp 57) 23 rfl w1.heap.size 3 .i64 8 Tryd.underlying23 infoInt (by omega) rfl (own.alloc _) rfl (l2 := [i]) (srcAt_new wr _ _ _ _ rfl) rfl (by omega) (by simp; omega) ?_; intro A4 c4 w4 own4 grow4 fresh4)
                go_roundw
                case rel => exact ⟨k + 1, s + 1, [], o ++ [i], A4, c4, 0, 0, by omega, by omega, rfl, rfl, rfl, by go_num, rfl, rfl, (by show (o ++ [i]).length = k + 1; rw [List.length_append, HOL.out]; rfl), (by obtain ⟨a, b, h⟩ := tree_node L HF.out; exact ⟨a, b, by rw [h]; rfl⟩), HD2, own4, below_grown (bel.alloc bel.size _) grow4 (bel.alloc bel.size _).size (fun g hg => (own.block g hg).1)⟩
                case measure => simp [intOf]; omega
              · have hne : ((q : Int) == (y : Int)) = false := by rw [beq_eq_false_iff_ne]; omega
                subst hm
                go_wp2_with fail
                go_roundw
                case rel =>
                  refine ⟨i + 1, by omega, by go_num, rfl, rfl, rfl, fun j hj => ?_, trivial⟩
                  by_cases e : j = i
                  · subst e
                    intro hc
                    exact hqy (by rw [← HQ.out]; exact hc.2)
                  · exact HNO.out j (by omega)
                case measure => simp [intOf]; omega
            · have hne : ((v : Int) == (m : Int) + 1) = false := by rw [beq_eq_false_iff_ne]; omega
              go_wp2_with fail
              go_roundw
              case rel =>
                refine ⟨i + 1, by omega, by go_num, rfl, rfl, rfl, fun j hj => ?_, trivial⟩
                by_cases e : j = i
                · subst e
                  intro hc
                  exact hm (by rw [← HV.out]; exact hc.1)
                · exact HNO.out j (by omega)
              case measure => simp [intOf]; omega
          · obtain rfl : i = nL := by omega
            have hhit : Hid (hit L (val (p ++ [Fld.bt l s == 1])) (p.length + 1) = none) := by
              refine hit_no L _ _ (fun j hj => ?_)
              have := HNO.out j (by rw [← HNL.out]; exact hj)
              rw [HY.out, HM.out] at this
              exact this
            have HD2 := Lib.hid (HD.out.on hlt hs hhit.out)
            have HN2 := Lib.hid (on_node L HF.out p _ tx ty HND2.out hhit.out)
            go_wp2_with fail
            go_roundw
            case rel => exact ⟨k, s + 1, p ++ [Fld.bt l s == 1], o, A1, c1, y, m + 1, by omega, by omega, rfl, rfl, by go_num, by go_num, HY, (by show m + 1 = (p ++ [Fld.bt l s == 1]).length; rw [HM.out]; simp), HOL, HN2, HD2, own, bel⟩
            case measure => simp [intOf]; omega
    · obtain rfl : k = N := by omega
      have HF5 := Lib.hid HD.out.done
      go_wp2_with fail
      go_ret2
      exact ⟨_, _, o, false, by rw [HOL.out]; rfl, HF5.out, by rw [HOL.out]; exact hk, by rw [HOL.out]; exact own.mono hs1, bel1.trans (bel.mono hs1)⟩
end Go.Proofs.YtdhehnjidakfcaaDoor
