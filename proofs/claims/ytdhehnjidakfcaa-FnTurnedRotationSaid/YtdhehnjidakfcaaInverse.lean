/- The decompressor's inverse transform: walked. -/
import Derived.Test.YtdhehnjidakfcaaBackWalk
namespace Go.Proofs.Ytdhehnjidakfcaa
open Go.RowKit
set_option maxHeartbeats 400000
set_option maxRecDepth 4000
set_option linter.unusedVariables false
set_option linter.unusedSimpArgs false
theorem cnt_next (l : List Nat) (x : Nat) : cnt l (x + 1) = cnt l x + eqs l x := by
  unfold cnt eqs
  induction l with
  | nil => rfl
  | cons y l ih =>
    simp only [List.countP_cons, ih]
    by_cases h1 : y < x
    · have h2 : y < x + 1 := by omega
      have h3 : ¬ y = x := by omega
      simp [h1, h2, h3]; omega
    · by_cases h3 : y = x
      · subst h3; simp; omega
      · have h2 : ¬ y < x + 1 := by omega
        simp [h1, h2, h3]
theorem cnt_le (l : List Nat) (x : Nat) : cnt l x ≤ l.length := List.countP_le_length
theorem eqs_le (l : List Nat) (x : Nat) : eqs l x ≤ l.length := List.countP_le_length
/-- a byte and a place in one word -/
def packed (l N : List Nat) : List Nat := (List.range l.length).map fun j => l.getD j 0 + 256 * N.getD j 0
theorem packed_length (l N : List Nat) : (packed l N).length = l.length := by simp [packed]
theorem packed_at (l N : List Nat) (j : Nat) (hj : j < l.length) : (packed l N).getD j 0 = l.getD j 0 + 256 * N.getD j 0 := by
  simp [packed, List.getD_eq_getElem?_getD, hj]
theorem packed_set (l N : List Nat) (q k y : Nat) (hq : q < l.length) (hN : N.length = l.length) (hy : l.getD q 0 = y) : packed l (N.set q k) = (packed l N).set q (y + 256 * k) := by
  apply List.ext_getElem
  · simp [packed]
  · intro i h1 h2
    have hi : i < l.length := by simpa [packed] using h1
    rw [List.getElem_set]
    have e1 : (packed l (N.set q k))[i] = l.getD i 0 + 256 * (N.set q k).getD i 0 := by simp [packed]
    have e2 : (packed l N)[i]'(by rw [packed_length]; exact hi) = l.getD i 0 + 256 * N.getD i 0 := by simp [packed]
    rw [e1, e2, getD_set _ _ _ _ (by omega)]
    by_cases e : q = i
    · subst e; rw [if_pos rfl, if_pos rfl, hy]
    · rw [if_neg (Ne.symm e), if_neg e]
theorem packed_nought (l N : List Nat) (h : ∀ x, N.getD x 0 = 0) : packed l N = l := by
  apply List.ext_getElem
  · simp [packed]
  · intro i h1 h2
    simp only [packed, List.getElem_map, List.getElem_range, h]
    simp [List.getD_eq_getElem?_getD, List.getElem?_eq_getElem h2]
theorem laid_lt (l : List Nat) (k j : Nat) (hk : k ≤ l.length) (hj : j < l.length) : (Bwt.laid l k).getD j 0 < l.length := by
  rw [Bwt.laid_at l k hk j hj]
  split
  · omega
  · omega
theorem word_or (z k v : Nat) (hz : z < 256) (hk : k ≤ 900000) (hv : z + 256 * k = v) : bits .or .u32 (z : Int) ((k : Int) * 256) = (v : Int) := by
  have e : (k : Int) * (256 : Int) = Int.ofNat (k <<< 8) := by rw [Nat.shiftLeft_eq]; simp
  rw [e]
  show bits .or .u32 (z : Int) ((k <<< 8 : Nat) : Int) = _
  rw [u32_or_nat _ _ (by omega) (by rw [Nat.shiftLeft_eq]; omega), Nat.or_comm, ← Nat.shiftLeft_add_eq_or_of_lt (show z < 2 ^ 8 by omega), Nat.shiftLeft_eq]
  omega
theorem word_and (y N p : Nat) (hy : y < 256) (hp : y + 256 * N = p) (h32 : p < 4294967296) : bits .and .u32 (p : Int) 255 = (y : Int) := by
  have e : (255 : Int) = ((255 : Nat) : Int) := rfl
  rw [e, u32_and_nat _ _ h32 (by omega), show 255 = 2 ^ 8 - 1 from rfl, Nat.and_two_pow_sub_one_eq_mod]
  omega
theorem inverse_any (B g1 g2 n o : Nat) (l F : List Nat) (w : World) (own1 : Own w B 47 1 (some ⟨g1, 0, none⟩) n n (cellsN .u32 l)) (own2 : Own w B 46 1 (some ⟨g2, 0, none⟩) 256 256 (cellsN .u64 F)) (hg : g1 ≠ g2)
    (HF : Hid (∀ x, x < 256 → F.getD x 0 = eqs l x)) (h0 : 0 < n) (hm : n ≤ 900000) (ho : o < n) (hb : ∀ x ∈ l, x < 256) (hBw : B ≤ w.heap.size) :
    Calls Try.prog 27 #[.slice (some ⟨g1, 0, none⟩) n n, .int .u64 o, .slice (some ⟨g2, 0, none⟩) 256 256] w fun e w' => e = .returned (.int .u32 ((Bwt.order l).getD o 0 : Nat)) ∧ Own w' B 47 1 (some ⟨g1, 0, none⟩) n n (cellsN .u32 (packed l (Bwt.order l))) ∧ Below B w w' := by
  have HL := own_length own1
  have hl := HL.out
  subst hl
  have HB := Lib.hid hb
  have hb1 := (own1.block _ rfl).1
  have hb2 := (own2.block _ rfl).1
  clear hb HL
  go_enter Try.func27, Try.ntmps27
  go_wp2_with fail
  go_loopw [7, 8] (fun sv iv wr => ∃ (i : Nat) (F : List Nat), i ≤ 256 ∧ iv = .int .i64 i ∧ sv = .int .u64 (cnt l i : Nat) ∧ Own wr B 47 1 (some ⟨g1, 0, none⟩) l.length l.length (cellsN .u32 l) ∧ Own wr B 46 1 (some ⟨g2, 0, none⟩) 256 256 (cellsN .u64 F) ∧ Hid (∀ x, x < 256 → F.getD x 0 = if x < i then cnt l x else eqs l x) ∧ Below B w wr) (fun _ iv _ => 256 - (intOf iv).toNat)
  case atStart =>
    refine ⟨0, F, by omega, rfl, ?_, own1, own2, fun x hx => by rw [HF.out x hx, if_neg (by omega)], Below.refl _ _⟩
    have : cnt l 0 = 0 := by simp [cnt]
    rw [this]; rfl
  case round =>
    clear own1 own2 HF
    obtain ⟨i, F, hi, rfl, rfl, own1, own2, HF, bel⟩ := hrel
    by_cases hlt : i < 256
    · have hv := HF.out i hlt
      rw [if_neg (by omega)] at hv
      have hcn := cnt_next l i
      have hcl := cnt_le l (i + 1)
      obtain ⟨hc, hf⟩ := own_int own2 i hlt _ hv
      have HFL := own_length own2
      generalize hv1 : cnt l i = s at hcn
      generalize hv2 : eqs l i = e at hcn hc hv
      generalize hv3 : cnt l (i + 1) = s2 at hcn hcl
      have HV1 := Lib.hid hv1; have HV2 := Lib.hid hv2; have HV3 := Lib.hid hv3
      clear hv1 hv2 hv3 hv
      have HO := own_set own2 i s (s : Int) rfl
      have HR := Lib.hid (And.intro HO.1 (And.intro (own1.kept HO.2 (.inr (by simp [blockOf]; omega))) (below_grown bel (A := some ⟨g2, 0, none⟩) HO.2 (by have := bel.size; omega) (fun g hg => by cases hg; exact hb2))))
      clear HO
      go_wp2_with fail
      go_roundw
      case rel =>
        refine ⟨i + 1, F.set i s, by omega, by go_num, by rw [HV3.out]; go_num, HR.out.2.1, HR.out.1, fun x hx => ?_, HR.out.2.2⟩
        rw [getD_set _ _ _ _ (by rw [HFL.out]; exact hlt)]
        by_cases e1 : x = i
        · subst e1
          rw [if_pos rfl, if_pos (by omega), HV1.out]
        · rw [if_neg e1, HF.out x hx]
          by_cases e2 : x < i
          · rw [if_pos e2, if_pos (by omega)]
          · rw [if_neg e2, if_neg (by omega)]
      case measure => simp [intOf]; omega
    · obtain rfl : i = 256 := by omega
      have HF2 : Hid (∀ x, x < 256 → F.getD x 0 = cnt l x + eqs (l.take 0) x) := by
        intro x hx
        rw [HF.out x hx, if_pos hx]; rfl
      clear HF hi hlt
      have own1' : Own wr B 47 1 (some ⟨g1, 0, none⟩) l.length l.length (cellsN .u32 (packed l (Bwt.laid l 0))) := by
        rw [packed_nought l (Bwt.laid l 0) (getD_noughts _)]; exact own1
      clear own1
      go_wp2_with fail
      go_loopw [9, 10, 32] (fun u9 u10 iv wr => ∃ (k : Nat) (F : List Nat), k ≤ l.length ∧ iv = .int .i64 k ∧ Own wr B 47 1 (some ⟨g1, 0, none⟩) l.length l.length (cellsN .u32 (packed l (Bwt.laid l k))) ∧ Own wr B 46 1 (some ⟨g2, 0, none⟩) 256 256 (cellsN .u64 F) ∧ Hid (∀ x, x < 256 → F.getD x 0 = cnt l x + eqs (l.take k) x) ∧ Below B w wr) (fun _ _ iv _ => l.length - (intOf iv).toNat)
      case atStart => exact ⟨0, F, by omega, rfl, own1', own2, HF2, bel⟩
      case round =>
        clear own1' own2 HF2 bel
        obtain ⟨k, F, hk, rfl, own1, own2, HF, bel⟩ := hrel
        by_cases hlt : k < l.length
        · have hyl : l.getD k 0 < 256 := getD_mem_lt HB.out hlt
          have hN := laid_lt l k k hk hlt
          have hat := packed_at l (Bwt.laid l k) k hlt
          generalize hy : l.getD k 0 = y at hyl hat
          generalize (Bwt.laid l k).getD k 0 = Nk at hN hat
          generalize hpk : y + 256 * Nk = p at hat
          obtain ⟨hc, hf⟩ := own_int own1 k hlt _ hat
          have hp32 : p < 4294967296 := by omega
          have hA := word_and y Nk p hyl hpk hp32
          clear hpk hN hat
          have hp1 := Bwt.pos_lt l k hlt
          have hp2 := pos_cnt l k y hy
          have hv := HF.out y hyl
          rw [← hp2] at hv
          have hfr := Bwt.laid_fresh l k hlt
          have hat2 := packed_at l (Bwt.laid l k) _ hp1
          rw [hfr] at hat2
          have hzl : l.getD (Bwt.pos l k) 0 < 256 := getD_mem_lt HB.out hp1
          have hps := packed_set l (Bwt.laid l k) (Bwt.pos l k) k _ hp1 (Bwt.laid_length l k) rfl
          have hls : Bwt.laid l (k + 1) = (Bwt.laid l k).set (Bwt.pos l k) k := rfl
          rw [← hls] at hps
          have HY := Lib.hid hy
          have HP2 := Lib.hid hp2
          clear hy hp2 hfr hls
          generalize Bwt.pos l k = q at hv hp1 HP2 hat2 hzl hps
          generalize l.getD q 0 = z at hat2 hzl hps
          generalize hv9 : z + 256 * k = v at hps
          rw [show z + 256 * 0 = z by omega] at hat2
          obtain ⟨hc2, hf2⟩ := own_int own2 y hyl q hv
          obtain ⟨hc3, hf3⟩ := own_int own1 q hp1 _ hat2
          have HO1 := own_set own1 q v _ (word_or z k v hzl (by omega) hv9)
          have ownF3 := own2.kept HO1.2 (.inr (by simp [blockOf]; omega))
          obtain ⟨hc4, hf4⟩ := own_int ownF3 y hyl q hv
          have HO2 := own_set ownF3 y (q + 1) ((q : Int) + 1) (by omega)
          have ownT3 := HO1.1.kept HO2.2 (.inr (by simp [blockOf]; omega))
          have bs1 := bel.size
          have bel3 := below_grown bel (A := some ⟨g1, 0, none⟩) HO1.2 (by omega) (fun g hg => by cases hg; exact hb1)
          have bel4 := below_grown bel3 (A := some ⟨g2, 0, none⟩) HO2.2 (by have := bel3.size; omega) (fun g hg => by cases hg; exact hb2)
          have HR := Lib.hid (And.intro HO2.1 (And.intro ownT3 bel4))
          have HFL := own_length own2
          have HV := Lib.hid hv
          have HPS := Lib.hid hps
          clear hv HO1 HO2 ownF3 ownT3 bel3 bel4 hps hv9
          have hq9 : (q : Int) < (l.length : Int) := by omega
          have hy9 : (y : Int) < 256 := by omega
          go_wp2_with fail
          go_roundw
          case rel =>
            refine ⟨k + 1, F.set y (q + 1), by omega, by go_num, by rw [HPS.out]; exact HR.out.2.1, HR.out.1, fun x hx => ?_, HR.out.2.2⟩
            rw [getD_set _ _ _ _ (by rw [HFL.out]; exact hyl), eqs_succ l k hlt y HY.out x]
            by_cases e : x = y
            · subst e
              rw [if_pos rfl, if_pos rfl, HP2.out]; rfl
            · rw [if_neg e, if_neg e, HF.out x hx]; rfl
          case measure => simp [intOf]; omega
        · obtain rfl : k = l.length := by omega
          rw [Bwt.laid_order] at own1
          have hat := packed_at l (Bwt.order l) o ho
          have hz := getD_mem_lt HB.out ho
          generalize l.getD o 0 = z at hat hz
          obtain ⟨q, hq⟩ : ∃ q, (Bwt.order l).getD o 0 = q := ⟨_, rfl⟩
          have hql : q < l.length := by
            have hlo : o < (Bwt.order l).length := by rw [Bwt.order_length]; exact ho
            rw [← hq, List.getD_eq_getElem?_getD, List.getElem?_eq_getElem hlo]
            exact Bwt.order_lt l o hlo
          rw [hq] at hat
          obtain ⟨hc, _⟩ := own_int own1 o ho _ hat
          have hdv : ((z + 256 * q : Nat) : Int) / 256 = (q : Int) := by omega
          have HQ := Lib.hid hq
          clear hq
          generalize hpk : z + 256 * q = p at hc hdv
          have hp32 : p < 4294967296 := by omega
          clear hpk hat HF hk hlt own2
          go_wp2_with fail
          go_ret
          exact ⟨ret_int (by rw [HQ.out]), own1, bel⟩
end Go.Proofs.Ytdhehnjidakfcaa
