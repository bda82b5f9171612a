/- The reference's walk through the rows: walked. -/
import Derived.Test.YtdhehnjidakfcaaOwnMore
namespace Go.Proofs.Ytdhehnjidakfcaa
open Go.RowKit
set_option maxHeartbeats 400000
set_option maxRecDepth 4000
set_option linter.unusedVariables false
set_option linter.unusedSimpArgs false
/-- where a walk through the rows stands -/
def itr (nx : List Nat) : Nat → Nat → Nat
  | 0, k => k
  | m + 1, k => nx.getD (itr nx m k) 0
theorem itr_shift (nx : List Nat) (m k : Nat) : itr nx m (nx.getD k 0) = nx.getD (itr nx m k) 0 := by
  induction m with
  | zero => rfl
  | succ m ih => simp only [itr, ih]
theorem back_snoc (nx l : List Nat) : ∀ m k, Bwt.back nx l (m + 1) k = Bwt.back nx l m k ++ [l.getD (itr nx (m + 1) k) 0] := by
  intro m
  induction m with
  | zero => intro k; rfl
  | succ m ih =>
    intro k
    rw [Bwt.back, ih]
    simp only [Bwt.back, itr, List.cons_append, itr_shift]
theorem itr_lt (l : List Nat) (o : Nat) (ho : o < l.length) : ∀ m, itr (Bwt.order l) m o < l.length := by
  intro m
  cases m with
  | zero => exact ho
  | succ m =>
    have h : itr (Bwt.order l) (m + 1) o = (Bwt.order l).getD (itr (Bwt.order l) m o) 0 := rfl
    rw [h]
    rcases Nat.lt_or_ge (itr (Bwt.order l) m o) (Bwt.order l).length with hlt | hge
    · rw [List.getD_eq_getElem?_getD, List.getElem?_eq_getElem hlt]
      exact Bwt.order_lt l _ hlt
    · rw [List.getD_eq_getElem?_getD, List.getElem?_eq_none hge]
      simp; omega
/-- how many of a list are below -/
def cnt (l : List Nat) (x : Nat) : Nat := l.countP fun y => decide (y < x)
def eqs (l : List Nat) (x : Nat) : Nat := l.countP fun y => y == x
theorem cnt_succ (l : List Nat) (k : Nat) (hk : k < l.length) (y : Nat) (hy : l.getD k 0 = y) (x : Nat) : cnt (l.take (k + 1)) x = cnt (l.take k) x + if y < x then 1 else 0 := by
  unfold cnt
  rw [count_take_succ l _ k hk y hy]
  simp
theorem eqs_succ (l : List Nat) (k : Nat) (hk : k < l.length) (y : Nat) (hy : l.getD k 0 = y) (x : Nat) : eqs (l.take (k + 1)) x = eqs (l.take k) x + if x = y then 1 else 0 := by
  unfold eqs
  rw [count_take_succ l _ k hk y hy]
  by_cases e : x = y
  · subst e; simp
  · have : (y == x) = false := by simp; omega
    simp [this, e]
theorem pos_cnt (l : List Nat) (k y : Nat) (hy : l.getD k 0 = y) : Bwt.pos l k = cnt l y + eqs (l.take k) y := by
  subst hy; rfl
theorem back_any (A : Option Addr) (cap n o : Nat) (l : List Nat) (w : World) (hA : Ints w .u8 A l) (hn : l.length = n) (h0 : 0 < n) (hm : n ≤ 900000) (ho : o < n) (hb : ∀ x ∈ l, x < 256) :
    Calls Try.prog 23 #[.slice A n cap, .int .i64 o] w fun e w' => ∃ A' c', e = .returned (.slice A' n c') ∧ Own w' w.heap.size 5 1 A' n c' (cellsN .u8 (Bwt.back (Bwt.order l) l n o)) ∧ Below w.heap.size w w' := by
  subst hn
  have HB := Lib.hid hb
  clear hb
  go_enter Try.func23, Try.ntmps23
  go_wp2_with fail
  rw [zero50]
  simp only [Result.andThen]
  rw [Oper.upon_value]
  obtain ⟨Z, hZ, own0⟩ := own_array2 w w.heap.size .i64 50 256 (by unfold maxLen; omega) (Nat.le_refl _)
  have bel0 : Below w.heap.size w (w.alloc (.cells (Array.replicate 256 (.int .i64 0)) 50)) := (Below.refl _ _).alloc (Nat.le_refl _) _
  generalize Array.replicate 256 (Value.int .i64 0) = R at own0 bel0
  go_wp2_with fail
  go_loopw [8, 16] (fun u8 i wr => ∃ (k : Nat) (F : List Nat), k ≤ l.length ∧ i = .int .i64 k ∧ Own wr w.heap.size 50 1 (some ⟨w.heap.size, 0, none⟩) 256 256 (cellsN .i64 F) ∧ Hid (∀ x, x < 256 → F.getD x 0 = cnt (l.take k) x) ∧ Below w.heap.size w wr) (fun _ i _ => l.length - (intOf i).toNat)
  case atStart => exact ⟨0, _, by omega, rfl, own0, fun x hx => by rw [hZ.out]; rfl, bel0⟩
  case round =>
    obtain ⟨k, F, hk, rfl, own, HF, bel⟩ := hrel
    by_cases hlt : k < l.length
    · obtain ⟨b1, o1, rfl, hb1', hc1⟩ := hA k hlt
      have hd1 := (bel.cell (p := ⟨b1, o1 + k, none⟩) hb1').trans hc1
      have hyl : l.getD k 0 < 256 := getD_mem_lt HB.out hlt
      generalize hy : l.getD k 0 = y at hd1 hc1 hyl
      have HY := Lib.hid hy
      clear hy hc1
      go_wp2_with fail
      go_loopw [8] (fun dv wr => ∃ (d : Nat) (F : List Nat), y < d ∧ d ≤ 256 ∧ dv = .int .i64 d ∧ Own wr w.heap.size 50 1 (some ⟨w.heap.size, 0, none⟩) 256 256 (cellsN .i64 F) ∧ Hid (∀ x, x < 256 → F.getD x 0 = cnt (l.take k) x + if y < x ∧ x < d then 1 else 0) ∧ Below w.heap.size w wr) (fun dv _ => 256 - (intOf dv).toNat)
      case atStart => exact ⟨y + 1, F, by omega, by omega, by go_num, own, fun x hx => by rw [HF.out x hx, if_neg (by omega)]; rfl, bel⟩
      case round =>
        obtain ⟨d, F, hyd, hd, rfl, own, HF, bel⟩ := hrel
        by_cases hdl : d < 256
        · have hv := HF.out d hdl
          have hle := count_take_le l (fun y => decide (y < d)) k
          rw [if_neg (by omega)] at hv
          obtain ⟨v, hv2⟩ : ∃ v, F.getD d 0 = v := ⟨_, rfl⟩
          have hvk : v ≤ k := by rw [← hv2, hv]; simpa [cnt] using hle
          have hcf := own_int own d hdl v hv2
          obtain ⟨hc, hf⟩ := hcf
          have HO := Lib.hid (own_set own d (v + 1) ((v : Int) + 1) (by omega))
          have HV := Lib.hid hv2
          have HFL := own_length own
          clear hv hv2 hle
          go_wp2_with fail
          go_roundw
          case rel =>
            refine ⟨d + 1, F.set d (v + 1), by omega, by omega, by go_num, HO.out.1, fun x hx => ?_, below_grown bel (A := some ⟨w.heap.size, 0, none⟩) HO.out.2 bel.size (fun g hg => by cases hg; exact Nat.le_refl _)⟩
            rw [getD_set _ _ _ _ (by rw [HFL.out]; exact hdl), ← HV.out]
            by_cases e : x = d
            · subst e
              rw [if_pos rfl, HF.out x hx, if_neg (by omega), if_pos (by omega)]
            · rw [if_neg e, HF.out x hx]
              by_cases e2 : y < x ∧ x < d
              · rw [if_pos e2, if_pos (by omega)]
              · rw [if_neg e2, if_neg (by omega)]
          case measure => simp [intOf]; omega
        · obtain rfl : d = 256 := by omega
          go_wp2_with fail
          go_roundw
          case rel =>
            refine ⟨k + 1, F, by omega, by go_num, own, fun x hx => ?_, bel⟩
            rw [HF.out x hx, cnt_succ l k hlt y HY.out]
            by_cases e : y < x
            · rw [if_pos ⟨e, hx⟩, if_pos e]
            · rw [if_neg (by omega), if_neg e]
          case measure => simp [intOf]; omega
    · obtain rfl : k = l.length := by omega
      rw [List.take_length] at HF
      clear bel0 own0 hk hlt
      go_wp2_with (with_reducible refine make_nat rfl (.tmp 34) (.tmp 34) 23 rfl w.heap.size 3 .i64 8 Try.underlying23 infoInt (by omega) l.length rfl rfl (by omega) bel.size ?_; intro w2 own2 grow2)
      have bs1 := bel.size
      have ownF := own.kept grow2 (.inr (by simp [blockOf]))
      have bel2 : Below w.heap.size w w2 := bel.grown grow2 bs1 (fun g hg => by cases hg)
      have hgt : w.heap.size < wr.heap.size := (own.block _ rfl).2
      have hbx := (own2.block _ rfl)
      generalize wr.heap.size = g2 at own2 hgt hbx
      clear own bel grow2
      go_loopw [10, 11, 38] (fun u10 u11 i wr => ∃ (k : Nat) (F : List Nat), k ≤ l.length ∧ i = .int .i64 k ∧ Own wr w.heap.size 50 1 (some ⟨w.heap.size, 0, none⟩) 256 256 (cellsN .i64 F) ∧ Own wr w.heap.size 3 1 (some ⟨g2, 0, none⟩) l.length l.length (cellsN .i64 (Bwt.laid l k)) ∧ Hid (∀ x, x < 256 → F.getD x 0 = cnt l x + eqs (l.take k) x) ∧ Below w.heap.size w wr) (fun _ _ i _ => l.length - (intOf i).toNat)
      case atStart => exact ⟨0, F, by omega, rfl, ownF, own2, fun x hx => by rw [HF.out x hx]; rfl, bel2⟩
      case round =>
        obtain ⟨k, F, hk, rfl, own, ownN, HF, bel⟩ := hrel
        by_cases hlt : k < l.length
        · obtain ⟨b1, o1, rfl, hb1', hc1⟩ := hA k hlt
          have hd1 := (bel.cell (p := ⟨b1, o1 + k, none⟩) hb1').trans hc1
          have hyl : l.getD k 0 < 256 := getD_mem_lt HB.out hlt
          generalize hy : l.getD k 0 = y at hd1 hc1 hyl
          have HY := Lib.hid hy
          have hp1 := Bwt.pos_lt l k hlt
          have hp2 := pos_cnt l k y hy
          have hv := HF.out y hyl
          rw [← hp2] at hv
          have HLS := Lib.hid (show Bwt.laid l (k + 1) = (Bwt.laid l k).set (Bwt.pos l k) k from rfl)
          generalize Bwt.pos l k = q at hv hp1 hp2 HLS
          obtain ⟨hc, hf⟩ := own_int own y hyl q hv
          obtain ⟨hc2, hf2⟩ := own_int ownN q hp1 _ rfl
          have HO1 := own_set ownN q k (k : Int) rfl
          have own3 := own.kept HO1.2 (.inr (by simp [blockOf]; omega))
          obtain ⟨hc3, hf3⟩ := own_int own3 y hyl q hv
          have HO2 := own_set own3 y (q + 1) ((q : Int) + 1) (by omega)
          have ownN3 := HO1.1.kept HO2.2 (.inr (by simp [blockOf]; omega))
          have bel3 := below_grown bel (A := some ⟨g2, 0, none⟩) HO1.2 bel.size (fun g hg => by cases hg; omega)
          have bel4 := below_grown bel3 (A := some ⟨w.heap.size, 0, none⟩) HO2.2 bel3.size (fun g hg => by cases hg; exact Nat.le_refl _)
          have HR := Lib.hid (And.intro HO2.1 (And.intro ownN3 bel4))
          have HFL := own_length own
          have HV := Lib.hid hv
          have HP2 := Lib.hid hp2
          clear hv hc1 hy HO1 own3 HO2 ownN3 bel3 bel4 hp2
          have hq9 : (q : Int) < (l.length : Int) := by omega
          have hy9 : (y : Int) < 256 := by omega
          go_wp2_with fail
          go_roundw
          case rel =>
            refine ⟨k + 1, F.set y (q + 1), by omega, by go_num, HR.out.1, by rw [HLS.out]; exact HR.out.2.1, fun x hx => ?_, HR.out.2.2⟩
            rw [getD_set _ _ _ _ (by rw [HFL.out]; exact hyl), eqs_succ l k hlt y HY.out x]
            by_cases e : x = y
            · subst e
              rw [if_pos rfl, if_pos rfl, HP2.out]; rfl
            · rw [if_neg e, if_neg e, HF.out x hx]; rfl
          case measure => simp [intOf]; omega
        · obtain rfl : k = l.length := by omega
          rw [Bwt.laid_order] at ownN
          clear own HF hk hlt
          go_wp2_with fail
          go_loopw [12, 13, 58] (fun ov kv i wr => ∃ (j : Nat) (A1 : Option Addr) (c1 : Nat), j ≤ l.length ∧ i = .int .i64 j ∧ kv = .int .i64 (itr (Bwt.order l) j o : Nat) ∧ ov = .slice A1 j c1 ∧ Own wr w.heap.size 5 1 A1 j c1 (cellsN .u8 (Bwt.back (Bwt.order l) l j o)) ∧ Own wr w.heap.size 3 1 (some ⟨g2, 0, none⟩) l.length l.length (cellsN .i64 (Bwt.order l)) ∧ Apart A1 (some ⟨g2, 0, none⟩) ∧ Below w.heap.size w wr) (fun _ _ i _ => l.length - (intOf i).toNat)
          case atStart => exact ⟨0, none, 0, by omega, rfl, rfl, rfl, Own.nil _ _ _ _, ownN, .inl rfl, bel⟩
          case round =>
            obtain ⟨j, A1, c1, hj, rfl, rfl, rfl, own, ownN, ap, bel⟩ := hrel
            by_cases hlt : j < l.length
            · have hk := itr_lt l o ho j
              have hk2 := itr_lt l o ho (j + 1)
              have hbs := back_snoc (Bwt.order l) l j o
              have hk3 : (Bwt.order l).getD (itr (Bwt.order l) j o) 0 = itr (Bwt.order l) (j + 1) o := rfl
              obtain ⟨hc, _⟩ := own_int ownN _ hk _ hk3
              have HK3 := Lib.hid hk3
              clear hk3
              generalize itr (Bwt.order l) j o = k at hk hc HK3
              generalize hk4 : itr (Bwt.order l) (j + 1) o = k2 at hk2 hc hbs HK3
              obtain ⟨b1, o1, rfl, hb1', hc1⟩ := hA k2 hk2
              have hd1 := (bel.cell (p := ⟨b1, o1 + k2, none⟩) hb1').trans hc1
              generalize hy : l.getD k2 0 = y at hd1 hc1 hbs
              have HBS := Lib.hid hbs
              have HK4 := Lib.hid hk4
              clear hbs hc1 hy hk4
              have hsz := bel.size
              go_wp2_with (at_builtin; refine app_nat rfl (.tmp 64) (.tmp 69) 22 rfl w.heap.size 5 .u8 1 Try.underlying22 infoByte (by omega) rfl (own.alloc _) rfl (l2 := [y]) (srcAt_new wr _ _ _ _ rfl) rfl (by omega) (by simp; omega) ?_; intro A4 c4 w4 own4 grow4 fresh4)
              go_roundw
              case rel =>
                exact ⟨j + 1, A4, c4, by omega, by go_num, by rw [HK4.out], rfl, by rw [HBS.out]; exact own4, (ownN.alloc _).grown grow4 ap.flip, ap.next (fun g hg => ((ownN.alloc _).block g hg).2) fresh4, below_grown (bel.alloc bel.size _) grow4 (bel.alloc bel.size _).size (fun g hg => (own.block g hg).1)⟩
              case measure => simp [intOf]; omega
            · obtain rfl : j = l.length := by omega
              go_wp2_with fail
              go_ret
              exact ⟨_, _, rfl, own, bel⟩
end Go.Proofs.Ytdhehnjidakfcaa
