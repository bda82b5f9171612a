/- Bits written: the writer's put, walked. -/
import Derived.Test.YtdhehnjidakfcaaDoorPut
import Derived.Deep.RegionHeld3
import Derived.StillTailTactics
namespace Go.Proofs.YtdhehnjidakfcaaDoor
open Go.RowKit
set_option maxHeartbeats 400000
set_option maxRecDepth 4000
set_option linter.unusedVariables false
set_option linter.unusedSimpArgs false
/-- the writer of bits -/
structure Wt (w : World) (B W : Nat) (A : Option Addr) (cap n : Nat) (l : List Nat) (m : Nat) : Prop where
  box : Own w B 51 1 (some ⟨W, 0, none⟩) 2 2 [.slice A n cap, .int .i64 (m : Int)]
  row : Own w B 5 1 A n cap (cellsN .u8 l)
  ne : blockOf A ≠ some W
theorem Wt.setOut {w : World} {B W : Nat} {A A2 : Option Addr} {cap n cap2 n2 m : Nat} (h : Own w B 51 1 (some ⟨W, 0, none⟩) 2 2 [.slice A n cap, .int .i64 (m : Int)]) :
    Own (w.setCell ⟨W, 0, none⟩ (.slice A2 n2 cap2)) B 51 1 (some ⟨W, 0, none⟩) 2 2 [.slice A2 n2 cap2, .int .i64 (m : Int)] ∧ w.grownBy (w.setCell ⟨W, 0, none⟩ (.slice A2 n2 cap2)) (some W) :=
  Own.stored h 0 (.slice A2 n2 cap2)
theorem Wt.setMany {w : World} {B W : Nat} {A : Option Addr} {cap n m : Nat} (h : Own w B 51 1 (some ⟨W, 0, none⟩) 2 2 [.slice A n cap, .int .i64 (m : Int)]) (u : Int) (hu : u = ((m + 1 : Nat) : Int)) :
    Own (w.setCell ⟨W, 1, none⟩ (.int .i64 u)) B 51 1 (some ⟨W, 0, none⟩) 2 2 [.slice A n cap, .int .i64 ((m + 1 : Nat) : Int)] ∧ w.grownBy (w.setCell ⟨W, 1, none⟩ (.int .i64 u)) (some W) := by
  subst hu
  exact Own.stored h 1 (.int .i64 ((m + 1 : Nat) : Int))
theorem i64_and1 (n : Int) : bits .and .i64 n 1 = n % 2 := by
  have h1 : (BitVec.ofInt 64 1).toNat = 2 ^ 1 - 1 := by decide
  have key : (BitVec.ofInt 64 n &&& BitVec.ofInt 64 1).toNat = (n % ((2 ^ 64 : Nat) : Int)).toNat % 2 ^ 1 := by
    rw [BitVec.toNat_and, BitVec.toNat_ofInt, h1, Nat.and_two_pow_sub_one_eq_mod]
  show IntKind.i64.wrap ((BitVec.ofInt 64 n &&& BitVec.ofInt 64 1).toNat : Nat) = n % 2
  rw [key, IntKind.wrap_i64]
  omega
theorem bit_of (v c : Nat) : bits .and .i64 ((v : Int) / 2 ^ c) 1 = ((v / 2 ^ c % 2 : Nat) : Int) := by
  have e3 : (v : Int) / 2 ^ c = ((v / 2 ^ c : Nat) : Int) := by simp
  rw [e3, i64_and1]
  generalize v / 2 ^ c = z
  omega
theorem bit_no (v c : Nat) (h : (bits .and .i64 ((v : Int) / 2 ^ c) 1 == 1) = false) : v / 2 ^ c % 2 = 0 := by
  rw [bit_of] at h
  have := beq_eq_false_iff_ne.1 h
  have h2 := Nat.mod_lt (v / 2 ^ c) (show 0 < 2 by omega)
  generalize v / 2 ^ c % 2 = z at this h2
  omega
theorem bit_yes (v c : Nat) (h : (bits .and .i64 ((v : Int) / 2 ^ c) 1 == 1) = true) : v / 2 ^ c % 2 = 1 := by
  rw [bit_of] at h
  have := beq_iff_eq.1 h
  omega
theorem half_step (v k j : Nat) (h : j < k) : 2 * (v / 2 ^ (k - j)) + v / 2 ^ (k - 1 - j) % 2 = v / 2 ^ (k - (j + 1)) := by
  have e1 : k - j = k - 1 - j + 1 := by omega
  have e2 : k - (j + 1) = k - 1 - j := by omega
  rw [e1, e2, Nat.pow_succ, ← Nat.div_div_eq_div_mul]
  omega
theorem own_set {w : World} {B : Nat} {e : TypeId} {g n cap : Nat} {k : IntKind} {F : List Nat} (h : Own w B e 1 (some ⟨g, 0, none⟩) n cap (cellsN k F)) (j v : Nat) (u : Int) (hu : u = v) :
    Own (w.setCell ⟨g, j, none⟩ (.int k u)) B e 1 (some ⟨g, 0, none⟩) n cap (cellsN k (F.set j v)) ∧ w.grownBy (w.setCell ⟨g, j, none⟩ (.int k u)) (blockOf (some ⟨g, 0, none⟩)) := by
  have h2 := h.stored j (.int k u)
  have e1 : (cellsN k F).set j (.int k u) = cellsN k (F.set j v) := by subst hu; simp [cellsN, List.map_set]
  rw [e1] at h2
  exact h2
theorem orVal (y r : Nat) (hy : y < 256) (hr : r < 8) : bits .or .u8 (y : Int) ((2 : Int) ^ (7 - r) % 256) = ((y ||| 2 ^ (7 - r) : Nat) : Int) := by
  have h1 : 2 ^ (7 - r) < 2 ^ 8 := Nat.pow_lt_pow_right (by omega) (by omega)
  have e1 : (2 : Int) ^ (7 - r) = ((2 ^ (7 - r) : Nat) : Int) := by simp
  rw [e1]
  generalize 2 ^ (7 - r) = z at h1
  have e2 : (z : Int) % 256 = (z : Int) := by omega
  rw [e2, u8_or_nat _ _ hy (by omega)]
theorem own_length' {w : World} {B : Nat} {e : TypeId} {A : Option Addr} {n cap : Nat} {k : IntKind} {F : List Nat} (h : Own w B e 1 A n cap (cellsN k F)) : F.length = n := by
  have := h.len
  simpa [cellsN] using this
theorem put_any (B W : Nat) (A : Option Addr) (cap n : Nat) (l : List Nat) (m v k : Nat) (w : World) (hW : Wt w B W A cap n l m) (hw : Wr l m) (hk : k ≤ 48) (hv : v < 2 ^ k) (hm : m + k ≤ 1125899906842616) :
    Calls Tryd.prog 23 #[.pointer (some ⟨W, 0, none⟩), .int .i64 (v : Int), .int .i64 (k : Int)] w fun e w' => e = .returned (.tuple #[]) ∧ ∃ A' cap' n' l', Wt w' B W A' cap' n' l' (m + k) ∧ Wr l' (m + k) ∧ Fld.fld l' m k = v ∧ (∀ i, i < m → Fld.bt l' i = Fld.bt l i) ∧ Below B w w' := by
  have HW := Lib.hid hW; have HR := Lib.hid hw
  have hv48 : v < 281474976710656 := Nat.lt_of_lt_of_le hv (Nat.le_trans (Nat.pow_le_pow_right (by omega) hk) (by omega))
  have HV := Lib.hid hv
  clear hW hw hv
  go_enter Tryd.func23, Tryd.ntmps23
  go_wp2_with fail
  go_loopw [6] (fun iv wr => ∃ (j : Nat) (A2 : Option Addr) (cap2 n2 : Nat) (l2 : List Nat), j ≤ k ∧ iv = .int .i64 ((k : Int) - 1 - (j : Int)) ∧ Hid (Wt wr B W A2 cap2 n2 l2 (m + j)) ∧ Hid (Wr l2 (m + j)) ∧ Hid (Fld.fld l2 m j = v / 2 ^ (k - j)) ∧ Hid (∀ i, i < m → Fld.bt l2 i = Fld.bt l i) ∧ Hid (Below B w wr)) (fun iv _ => (intOf iv + 1).toNat)
  case atStart => exact ⟨0, A, cap, n, l, by omega, by go_num, HW, HR, by show Fld.fld l m 0 = _; rw [Fld.fld, Nat.sub_zero, Nat.div_eq_of_lt HV.out], fun i _ => rfl, Below.refl _ _⟩
  case round =>
    clear HW HR
    obtain ⟨j, A2, cap2, n2, l2, hj, rfl, HW, HR, HF, HP, HB⟩ := hrel
    obtain ⟨h0, f0⟩ := own_val HW.out.box 0 _ rfl (by omega)
    obtain ⟨h1, f1⟩ := own_val HW.out.box 1 _ rfl (by omega)
    by_cases hlt : j < k
    · obtain ⟨p, hp⟩ : ∃ p, m + j = p := ⟨_, rfl⟩
      rw [hp] at h1 HW HR
      have hbs := HB.out.size
      have hWB := Own.block HW.out.box _ rfl
      have HN2 : Hid (n2 = (p + 7) / 8) := by show n2 = (p + 7) / 8; rw [← HR.out.len]; exact (own_length' HW.out.row).symm
      have hn2 : n2 ≤ 140737488355327 := by rw [HN2.out]; omega
      by_cases h8 : p % 8 = 0
      · have hi8 : (p : Int) % 8 = 0 := by omega
        have row := HW.out.row
        have box := HW.out.box
        have HNE := Lib.hid HW.out.ne
        go_wp2_with (at_builtin; refine app_nat rfl (.tmp 23) (.tmp 24) 22 rfl B 5 .u8 1 Tryd.underlying22 infoByte (by omega) rfl (row.alloc _) rfl (l2 := [0]) (srcAt_new wr _ _ _ _ rfl) rfl (by omega) (by simp; omega) ?_; intro A4 c4 w4 own4 grow4 fresh4; have box4 := Own.kept (box.alloc _) grow4 (.inr (fun e => HNE.out e.symm)); obtain ⟨y0, z0⟩ := own_val box4 0 _ rfl (by omega); obtain ⟨y1, z1⟩ := own_val box4 1 _ rfl (by omega))
        · skip
          have NE5 : Hid (blockOf A4 ≠ some W) := fun e => by
            rcases fresh4 _ e with e2 | e2
            · exact HNE.out e2
            · have h7 : W < wr.heap.size := hWB.2; simp at e2; omega
          have st := Wt.setOut (A2 := A4) (n2 := n2 + 1) (cap2 := c4) box4
          have box5 := st.1
          have row5 := Own.kept own4 st.2 (.inr NE5.out)
          have hBr : B ≤ wr.heap.size := by have := hWB.1; have := hWB.2; omega
          have bel4 := below_grown (HB.out.alloc hBr _) grow4 (by rw [World.size_alloc]; omega) (fun g hg => (row.block g hg).1)
          have bel5 := below_grown bel4 (A := some ⟨W, 0, none⟩) st.2 (by have := grow4.size; rw [World.size_alloc] at this; omega) (fun g hg => by cases hg; exact hWB.1)
          have HG := Lib.hid (HR.out.grow h8)
          have HFX := Lib.hid ((fld_congr (l2 ++ [0]) l2 m j (fun i _ _ => bt_push l2 i)).trans HF.out)
          have HPX : Hid (∀ i, i < m → Fld.bt (l2 ++ [0]) i = Fld.bt l i) := fun i hi => (bt_push l2 i).trans (HP.out i hi)
          clear st own4 box4 grow4 bel4
          generalize w4.setCell ⟨W, 0, none⟩ (.slice A4 (n2 + 1) c4) = wx at box5 row5 bel5 ⊢
          have ht : v / 2 ^ (k - 1 - j) % 2 = 1 := bit_yes v (k - 1 - j) (by assumption)
          have hG := HG.out
          have hq5 : p / 8 < n2 + 1 := by rw [HN2.out]; omega
          obtain ⟨gg, hA5, _, hgl, _, _⟩ := row5.cell (p / 8) (by omega)
          subst hA5
          have hql : p / 8 < (l2 ++ [0]).length := by rw [hG.len]; omega
          have hy1 := row5.ints.at (p / 8) hql _ rfl
          obtain ⟨yy, hyy, hyf⟩ := Own.some row5 (p / 8) (by omega)
          have hy256 : (l2 ++ [0]).getD (p / 8) 0 < 256 := getD_lt' hG.lt hql
          rw [Nat.zero_add] at hy1
          have HSET := Lib.hid (hG.one)
          generalize (l2 ++ [0]).getD (p / 8) 0 = y at hy1 hy256 HSET
          obtain ⟨q, hq⟩ : ∃ q, p / 8 = q := ⟨_, rfl⟩
          obtain ⟨r, hr⟩ : ∃ r, p % 8 = r := ⟨_, rfl⟩
          rw [hq] at hy1 hyf HSET hq5
          rw [hr] at HSET
          have hr8 : r < 8 := by omega
          have x1 : (p : Int).tdiv 8 = (q : Int) := by rw [Int.tdiv_eq_ediv_of_nonneg (by omega)]; omega
          have x2 : (p : Int).tmod 8 = (r : Int) := by rw [Int.tmod_eq_emod_of_nonneg (by omega)]; omega
          have x3 : IntKind.i64.wrap (q : Int) = (q : Int) := by rw [IntKind.wrap_i64]; omega
          have x4 : IntKind.i64.wrap (r : Int) = (r : Int) := by rw [IntKind.wrap_i64]; omega
          have x5 : IntKind.i64.wrap (7 - (r : Int)) = 7 - (r : Int) := by rw [IntKind.wrap_i64]; omega
          have x6 : (0 : Int) ≤ 7 - (r : Int) := by omega
          have x7 : (0 : Int) ≤ (q : Int) := by omega
          have x8 : (q : Int) < ((n2 + 1 : Nat) : Int) := by omega
          have x9 : (q : Int) < (n2 : Int) + 1 := by omega
          have xa : (7 - (r : Int)).toNat = 7 - r := by omega
          have xb : ¬ 7 - (r : Int) < 0 := by omega
          obtain ⟨k0, _⟩ := own_val box5 0 _ rfl (by omega)
          obtain ⟨k1, _⟩ := own_val box5 1 _ rfl (by omega)
          have HRS := Lib.hid (own_set row5 q _ _ (orVal y r hy256 hr8))
          have HBS := Lib.hid (Own.kept box5 HRS.out.2 (.inr (fun e => NE5.out e.symm)))
          obtain ⟨m1, m2⟩ := own_val HBS.out 1 _ rfl (by omega)
          go_still_tail 20, (by kernel_rfl)
          change wpList _ _ _ _ _ wx.drew
          clear x1 x2 x3 x4 x5 x6 x7 x8 x9 xa xb
          have hyf2 : wx.drew.frozen? ⟨gg, q, none⟩ = false := hyf
          have hy2 : wx.drew.cell? ⟨gg, q, none⟩ = some (.int .u8 (y : Int)) := hy1
          go_wp2_with fail
          have HMANY := Lib.hid (Wt.setMany HBS.out ((p : Int) + 1) (by omega))
          have HROW := Lib.hid (Own.kept HRS.out.1 HMANY.out.2 (.inr NE5.out))
          have hs5 := bel5.size
          have h9 : W < wx.heap.size := (Own.block box5 _ rfl).2
          have h10 : B ≤ W := hWB.1
          have h11 : B ≤ gg := (Own.block row5 _ rfl).1
          have bel6 := below_grown bel5 HRS.out.2 (by omega) (fun g hg => (by cases hg; exact h11))
          have h12 := HRS.out.2.size
          have HBB := Lib.hid (below_grown bel6 (A := some ⟨W, 0, none⟩) HMANY.out.2 (by omega) (fun g hg => by cases hg; exact h10))
          go_roundw
          case rel =>
            refine ⟨j + 1, _, _, _, _, by omega, by go_num, ⟨by rw [show m + (j + 1) = p + 1 by omega]; exact Own.drew HMANY.out.1, Own.drew HROW.out, NE5.out⟩, by rw [show m + (j + 1) = p + 1 by omega]; exact HSET.out.1, ?_, fun i hi => (HSET.out.2.2 i (by omega)).trans (HPX.out i hi), Below.drew HBB.out⟩
            show 2 * Fld.fld _ m j + Fld.bt _ (m + j) = v / 2 ^ (k - (j + 1))
            rw [fld_congr _ _ m j (fun i _ h2 => HSET.out.2.2 i (by omega)), HFX.out, hp, HSET.out.2.1, ← half_step v k j hlt, ht]
          case measure => simp [intOf]; omega
        · skip
          have NE5 : Hid (blockOf A4 ≠ some W) := fun e => by
            rcases fresh4 _ e with e2 | e2
            · exact HNE.out e2
            · have h7 : W < wr.heap.size := hWB.2; simp at e2; omega
          have st := Wt.setOut (A2 := A4) (n2 := n2 + 1) (cap2 := c4) box4
          have box5 := st.1
          have row5 := Own.kept own4 st.2 (.inr NE5.out)
          have hBr : B ≤ wr.heap.size := by have := hWB.1; have := hWB.2; omega
          have bel4 := below_grown (HB.out.alloc hBr _) grow4 (by rw [World.size_alloc]; omega) (fun g hg => (row.block g hg).1)
          have bel5 := below_grown bel4 (A := some ⟨W, 0, none⟩) st.2 (by have := grow4.size; rw [World.size_alloc] at this; omega) (fun g hg => by cases hg; exact hWB.1)
          have HG := Lib.hid (HR.out.grow h8)
          have HFX := Lib.hid ((fld_congr (l2 ++ [0]) l2 m j (fun i _ _ => bt_push l2 i)).trans HF.out)
          have HPX : Hid (∀ i, i < m → Fld.bt (l2 ++ [0]) i = Fld.bt l i) := fun i hi => (bt_push l2 i).trans (HP.out i hi)
          clear st own4 box4 grow4 bel4
          generalize w4.setCell ⟨W, 0, none⟩ (.slice A4 (n2 + 1) c4) = wx at box5 row5 bel5 ⊢
          have ht : v / 2 ^ (k - 1 - j) % 2 = 0 := bit_no v (k - 1 - j) (by assumption)
          have hs5 := bel5.size
          have HMANY := Lib.hid (Wt.setMany box5 ((p : Int) + 1) (by omega))
          have HROW := Lib.hid (Own.kept row5 HMANY.out.2 (.inr NE5.out))
          have HBB := Lib.hid (below_grown bel5 (A := some ⟨W, 0, none⟩) HMANY.out.2 (by have h9 : W < wx.heap.size := (Own.block box5 _ rfl).2; have h10 : B ≤ W := hWB.1; omega) (fun g hg => by cases hg; exact hWB.1))
          go_roundw
          case rel =>
            refine ⟨j + 1, _, _, _, _, by omega, by go_num, ⟨by rw [show m + (j + 1) = p + 1 by omega]; exact HMANY.out.1, HROW.out, NE5.out⟩, by rw [show m + (j + 1) = p + 1 by omega]; exact HG.out.nought.1, ?_, HPX.out, HBB.out⟩
            show 2 * Fld.fld _ m j + Fld.bt _ (m + j) = v / 2 ^ (k - (j + 1))
            rw [HFX.out, hp, HG.out.nought.2, ← half_step v k j hlt, ht]
          case measure => simp [intOf]; omega
      · have hi8 : ((p : Int) % 8 == 0) = false := by rw [beq_eq_false_iff_ne]; omega
        go_wp2_with fail
        · skip
          have box5 := HW.out.box
          have row5 := HW.out.row
          have NE5 := Lib.hid HW.out.ne
          have bel5 := HB.out
          have HG := Lib.hid (HR.out.same h8)
          have HFX := HF
          have HPX := HP
          have ht : v / 2 ^ (k - 1 - j) % 2 = 1 := bit_yes v (k - 1 - j) (by assumption)
          have hG := HG.out
          have hq5 : p / 8 < n2 := by rw [HN2.out]; omega
          obtain ⟨gg, hA5, _, hgl, _, _⟩ := row5.cell (p / 8) (by omega)
          subst hA5
          have hql : p / 8 < l2.length := by rw [hG.len]; omega
          have hy1 := row5.ints.at (p / 8) hql _ rfl
          obtain ⟨yy, hyy, hyf⟩ := Own.some row5 (p / 8) (by omega)
          have hy256 : l2.getD (p / 8) 0 < 256 := getD_lt' hG.lt hql
          rw [Nat.zero_add] at hy1
          have HSET := Lib.hid (hG.one)
          generalize l2.getD (p / 8) 0 = y at hy1 hy256 HSET
          obtain ⟨q, hq⟩ : ∃ q, p / 8 = q := ⟨_, rfl⟩
          obtain ⟨r, hr⟩ : ∃ r, p % 8 = r := ⟨_, rfl⟩
          rw [hq] at hy1 hyf HSET hq5
          rw [hr] at HSET
          have hr8 : r < 8 := by omega
          have x1 : (p : Int).tdiv 8 = (q : Int) := by rw [Int.tdiv_eq_ediv_of_nonneg (by omega)]; omega
          have x2 : (p : Int).tmod 8 = (r : Int) := by rw [Int.tmod_eq_emod_of_nonneg (by omega)]; omega
          have x3 : IntKind.i64.wrap (q : Int) = (q : Int) := by rw [IntKind.wrap_i64]; omega
          have x4 : IntKind.i64.wrap (r : Int) = (r : Int) := by rw [IntKind.wrap_i64]; omega
          have x5 : IntKind.i64.wrap (7 - (r : Int)) = 7 - (r : Int) := by rw [IntKind.wrap_i64]; omega
          have x6 : (0 : Int) ≤ 7 - (r : Int) := by omega
          have x7 : (0 : Int) ≤ (q : Int) := by omega
          have x8 : (q : Int) < ((n2 : Nat) : Int) := by omega
          have x9 : (q : Int) < (n2 : Int) + 1 := by omega
          have xa : (7 - (r : Int)).toNat = 7 - r := by omega
          have xb : ¬ 7 - (r : Int) < 0 := by omega
          obtain ⟨k0, _⟩ := own_val box5 0 _ rfl (by omega)
          obtain ⟨k1, _⟩ := own_val box5 1 _ rfl (by omega)
          have HRS := Lib.hid (own_set row5 q _ _ (orVal y r hy256 hr8))
          have HBS := Lib.hid (Own.kept box5 HRS.out.2 (.inr (fun e => NE5.out e.symm)))
          obtain ⟨m1, m2⟩ := own_val HBS.out 1 _ rfl (by omega)
          go_still_tail 20, (by kernel_rfl)
          change wpList _ _ _ _ _ wr.drew
          clear x1 x2 x3 x4 x5 x6 x7 x8 x9 xa xb
          have hyf2 : wr.drew.frozen? ⟨gg, q, none⟩ = false := hyf
          have hy2 : wr.drew.cell? ⟨gg, q, none⟩ = some (.int .u8 (y : Int)) := hy1
          go_wp2_with fail
          have HMANY := Lib.hid (Wt.setMany HBS.out ((p : Int) + 1) (by omega))
          have HROW := Lib.hid (Own.kept HRS.out.1 HMANY.out.2 (.inr NE5.out))
          have hs5 := bel5.size
          have h9 : W < wr.heap.size := (Own.block box5 _ rfl).2
          have h10 : B ≤ W := hWB.1
          have h11 : B ≤ gg := (Own.block row5 _ rfl).1
          have bel6 := below_grown bel5 HRS.out.2 (by omega) (fun g hg => (by cases hg; exact h11))
          have h12 := HRS.out.2.size
          have HBB := Lib.hid (below_grown bel6 (A := some ⟨W, 0, none⟩) HMANY.out.2 (by omega) (fun g hg => by cases hg; exact h10))
          go_roundw
          case rel =>
            refine ⟨j + 1, _, _, _, _, by omega, by go_num, ⟨by rw [show m + (j + 1) = p + 1 by omega]; exact Own.drew HMANY.out.1, Own.drew HROW.out, NE5.out⟩, by rw [show m + (j + 1) = p + 1 by omega]; exact HSET.out.1, ?_, fun i hi => (HSET.out.2.2 i (by omega)).trans (HPX.out i hi), Below.drew HBB.out⟩
            show 2 * Fld.fld _ m j + Fld.bt _ (m + j) = v / 2 ^ (k - (j + 1))
            rw [fld_congr _ _ m j (fun i _ h2 => HSET.out.2.2 i (by omega)), HFX.out, hp, HSET.out.2.1, ← half_step v k j hlt, ht]
          case measure => simp [intOf]; omega
        · skip
          have box5 := HW.out.box
          have row5 := HW.out.row
          have NE5 := Lib.hid HW.out.ne
          have bel5 := HB.out
          have HG := Lib.hid (HR.out.same h8)
          have HFX := HF
          have HPX := HP
          have ht : v / 2 ^ (k - 1 - j) % 2 = 0 := bit_no v (k - 1 - j) (by assumption)
          have hs5 := bel5.size
          have HMANY := Lib.hid (Wt.setMany box5 ((p : Int) + 1) (by omega))
          have HROW := Lib.hid (Own.kept row5 HMANY.out.2 (.inr NE5.out))
          have HBB := Lib.hid (below_grown bel5 (A := some ⟨W, 0, none⟩) HMANY.out.2 (by have h9 : W < wr.heap.size := (Own.block box5 _ rfl).2; have h10 : B ≤ W := hWB.1; omega) (fun g hg => by cases hg; exact hWB.1))
          go_roundw
          case rel =>
            refine ⟨j + 1, _, _, _, _, by omega, by go_num, ⟨by rw [show m + (j + 1) = p + 1 by omega]; exact HMANY.out.1, HROW.out, NE5.out⟩, by rw [show m + (j + 1) = p + 1 by omega]; exact HG.out.nought.1, ?_, HPX.out, HBB.out⟩
            show 2 * Fld.fld _ m j + Fld.bt _ (m + j) = v / 2 ^ (k - (j + 1))
            rw [HFX.out, hp, HG.out.nought.2, ← half_step v k j hlt, ht]
          case measure => simp [intOf]; omega
    · obtain rfl : j = k := by omega
      have HF2 : Hid (Fld.fld l2 m j = v) := by have := HF.out; rwa [Nat.sub_self, Nat.pow_zero, Nat.div_one] at this
      go_wp2_with fail
      go_end0
      exact ⟨rfl, _, _, _, l2, HW.out, HR.out, HF2.out, HP.out, HB.out⟩
end Go.Proofs.YtdhehnjidakfcaaDoor
