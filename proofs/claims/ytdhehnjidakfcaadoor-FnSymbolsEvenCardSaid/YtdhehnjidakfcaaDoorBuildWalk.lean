/- The tree of codes built: walked. -/
import Derived.Test.YtdhehnjidakfcaaDoorNodes
import Derived.StillTailTactics
import Derived.Deep.Cut
import Derived.Deep.CutRange
namespace Go.Proofs.YtdhehnjidakfcaaDoor
open Go.RowKit Huff
set_option maxHeartbeats 400000
set_option maxRecDepth 4000
set_option linter.unusedVariables false
set_option linter.unusedSimpArgs false
theorem OwnK.stored {w : World} {B : Nat} {e : TypeId} {size g n cap : Nat} {xs : List Value} (h : Own w B e size (some ⟨g, 0, none⟩) n cap xs) (j : Nat) (u : Value) :
    Own (w.setCell ⟨g, j, none⟩ u) B e size (some ⟨g, 0, none⟩) n cap (xs.set j u) ∧ w.grownBy (w.setCell ⟨g, j, none⟩ u) (blockOf (some ⟨g, 0, none⟩)) := World.ownsRow.stored h j u
/-- codes that lie one behind the other -/
structure Codes (w : World) (b off : Nat) (cs : List E) : Prop where
  code : ∀ i e, cs[i]? = some e → w.cell? ⟨b, off + i * 3, none⟩ = some (.int .u32 (e.code : Nat)) ∧ w.cell? ⟨b, off + i * 3 + 1, none⟩ = some (.int .u8 (e.len : Nat)) ∧ w.cell? ⟨b, off + i * 3 + 2, none⟩ = some (.int .u16 (e.sym : Nat))
  lt : ∀ e ∈ cs, e.code < 4294967296 ∧ e.len < 256 ∧ e.sym < 65535
theorem Codes.take {w : World} {b off : Nat} {cs : List E} (h : Codes w b off cs) (m : Nat) : Codes w b off (cs.take m) :=
  ⟨fun i e he => h.code i e (by
    rw [List.getElem?_take] at he
    split at he
    · exact he
    · cases he), fun e he => h.lt e (List.mem_of_mem_take he)⟩
theorem Codes.drop {w : World} {b off : Nat} {cs : List E} (h : Codes w b off cs) (m : Nat) : Codes w b (off + m * 3) (cs.drop m) :=
  ⟨fun i e he => by
    rw [List.getElem?_drop] at he
    have := h.code _ e he
    rw [Nat.add_mul, ← Nat.add_assoc] at this
    exact this, fun e he => h.lt e (List.mem_of_mem_drop he)⟩
theorem Codes.kept {w w' : World} {H G b off : Nat} {cs : List E} (h : Codes w b off cs) (hk : Kept2 H G w w') (h1 : b ≠ H) (h2 : b ≠ G) : Codes w' b off cs :=
  ⟨fun i e he => by
    obtain ⟨a1, a2, a3⟩ := h.code i e he
    exact ⟨hk.cell a1 h1 h2, hk.cell a2 h1 h2, hk.cell a3 h1 h2⟩, h.lt⟩
theorem Kept2.alloc {R Q : Nat} {w w' : World} (h : Kept2 R Q w w') (o : Obj) : Kept2 R Q w (w'.alloc o) :=
  ⟨h.os, h.tape, h.output, by rw [World.size_alloc]; have := h.size; omega, fun k hk h1 h2 => by
    rw [← h.block k hk h1 h2]
    have hlt := Nat.lt_of_lt_of_le hk h.size
    show (w'.heap.push o)[k]? = _
    rw [Array.getElem?_push_lt hlt, Array.getElem?_eq_getElem hlt]⟩
theorem Rep.value {F : List Nat} {lo hi : Nat} {l r : T} {a v1 v2 : Nat} (h : Rep F lo hi (.node l r) a v1) : Rep F lo hi (.node l r) a v2 := by
  unfold Rep at h ⊢; exact h
/-- the tree that is built: where it stands -/
structure Tb (w : World) (B H G n j : Nat) (F : List Nat) : Prop where
  box : Own w B 72 1 (some ⟨H, 0, none⟩) 2 2 [.slice (some ⟨G, 0, none⟩) n n, .int .i64 (j : Int)]
  row : Own w B 100 4 (some ⟨G, 0, none⟩) n n (cellsN .u16 F)
  ne : H ≠ G
theorem Tb.alloc {w : World} {B H G n j : Nat} {F : List Nat} (h : Tb w B H G n j F) (o : Obj) : Tb (w.alloc o) B H G n j F := ⟨h.box.alloc o, h.row.alloc o, h.ne⟩
theorem Tb.next {w : World} {B H G n j : Nat} {F : List Nat} (h : Tb w B H G n j F) (u : Int) (hu : u = ((j + 1 : Nat) : Int)) : Tb (w.setCell ⟨H, 1, none⟩ (.int .i64 u)) B H G n (j + 1) F ∧ Kept2 H G w (w.setCell ⟨H, 1, none⟩ (.int .i64 u)) := by
  subst hu
  have := OwnK.stored h.box 1 (.int .i64 ((j + 1 : Nat) : Int))
  exact ⟨⟨this.1, Own.kept h.row this.2 (.inr (by simp [blockOf]; exact fun e => h.ne e.symm)), h.ne⟩, Kept2.left this.2⟩
theorem Tb.put {w : World} {B H G n j : Nat} {F : List Nat} (h : Tb w B H G n j F) (x v : Nat) (u : Int) (hu : u = (v : Int)) : Tb (w.setCell ⟨G, x, none⟩ (.int .u16 u)) B H G n j (F.set x v) ∧ Kept2 H G w (w.setCell ⟨G, x, none⟩ (.int .u16 u)) := by
  subst hu
  have := OwnK.stored h.row x (.int .u16 (v : Int))
  have e1 : (cellsN .u16 F).set x (.int .u16 (v : Int)) = cellsN .u16 (F.set x v) := by simp [cellsN, List.map_set]
  rw [e1] at this
  exact ⟨⟨Own.kept h.box this.2 (.inr (by simp [blockOf]; exact h.ne)), this.1, h.ne⟩, Kept2.right this.2⟩
theorem Tb.len {w : World} {B H G n j : Nat} {F : List Nat} (h : Tb w B H G n j F) : F.length = n * 4 := by
  have := h.row.len
  simpa [cellsN] using this
theorem Tb.cell {w : World} {B H G n j : Nat} {F : List Nat} (h : Tb w B H G n j F) (x : Nat) (hx : x < n * 4) : w.cell? ⟨G, x, none⟩ = some (.int .u16 (F.getD x 0 : Nat)) ∧ w.frozen? ⟨G, x, none⟩ = false := by
  obtain ⟨g, hg, _, _, hc, hf⟩ := h.row.cell x hx
  injection hg with hg
  injection hg with hg _
  subst hg
  exact ⟨by rw [hc, cellsN_at .u16 F x (by rw [h.len]; exact hx)], hf⟩
def BuildOk (n H G B k : Nat) : Prop := ∀ (base : Nat) (cs : List E) (b off cap j : Nat) (F : List Nat) (w : World), k ≤ 31 → Tiles base (2 ^ (k + 1)) cs → base % 2 ^ (k + 1) = 0 → base + 2 ^ (k + 1) ≤ 4294967296 → 2 ≤ cs.length → cs.length ≤ cap → cap ≤ 258 → Codes w b off cs → b ≠ H → b ≠ G → b < w.heap.size → Tb w B H G n j F → j + cs.length - 1 ≤ n →
    Calls Tryd.prog 41 #[.pointer (some ⟨H, 0, none⟩), .slice (some ⟨b, off, none⟩) cs.length cap, .int .u32 ((31 - k : Nat) : Int)] w fun e w' => e = .returned (.tuple #[.int .u16 (j : Int), .nilIface]) ∧
      ∃ F', Tb w' B H G n (j + cs.length - 1) F' ∧ (∀ x, x < j * 4 ∨ (j + cs.length - 1) * 4 ≤ x → F'.getD x 0 = F.getD x 0) ∧ Rep F' j (j + cs.length - 1) (build (k + 1) base cs) j 0 ∧ Kept2 H G w w'
theorem test_val (k : Nat) (hk : k ≤ 31) : IntKind.u32.wrap ((2 : Int) ^ k) = ((2 ^ k : Nat) : Int) := by
  have h := Nat.pow_le_pow_right (show 0 < 2 by omega) hk
  have e1 : (2 : Int) ^ k = ((2 ^ k : Nat) : Int) := by simp
  rw [e1, IntKind.wrap_u32]
  have h2 : (2 : Nat) ^ 31 = 2147483648 := by decide
  rw [h2] at h
  generalize 2 ^ k = t at h
  omega
set_option maxHeartbeats 2000000 in
theorem build_step (n H G B k : Nat) (hn : n ≤ 258) (ih : ∀ k', k = k' + 1 → BuildOk n H G B k') : BuildOk n H G B k := by
    intro base cs b off cap j F w hk hT hB hB32 hl hcap hcap2 hC hbH hbG hbw hTb hj
    have HT := Lib.hid hT; have HC := Lib.hid hC; have HTb := Lib.hid hTb; have HIH := Lib.hid ih
    obtain ⟨c, hc⟩ : ∃ c, cs.length = c := ⟨_, rfl⟩
    obtain ⟨h1, h2, h3, h4, h5, h6⟩ := halves k base cs hT hB hl
    rw [hc] at hl hcap hj h2
    have HB2 := Lib.hid (build_two k base cs (by omega))
    have HP : Hid (∀ (i : Nat) (e : E), cs[i]? = some e → bits .and .u32 (e.code : Int) ((2 ^ k : Nat) : Int) = if base + 2 ^ k ≤ e.code then ((2 ^ k : Nat) : Int) else 0) := fun i e he => by
      have hr := hT.range e (List.mem_of_getElem? he)
      have hs := size_pos e
      have hlt := (hC.lt e (List.mem_of_getElem? he)).1
      have hp := Nat.pow_le_pow_right (show 0 < 2 by omega) hk
      rw [u32_and_nat _ _ hlt (by have : (2 : Nat) ^ 31 = 2147483648 := by decide
                                  omega), and_half e.code base k hB hr.1 (by omega)]
      split <;> rfl
    have HMB := Lib.hid (mid_below (base + 2 ^ k) cs)
    have HMA := Lib.hid (mid_at (base + 2 ^ k) cs)
    generalize mid (base + 2 ^ k) cs = m at h1 h2 h3 h4 HB2 HMB HMA
    have HT1 := Lib.hid h3; have HT2 := Lib.hid h4; have HM5 := Lib.hid h5; have HM6 := Lib.hid h6
    have hpos := Nat.two_pow_pos k
    have htv := test_val k hk
    generalize ht : 2 ^ k = t at HP htv hpos HB2 HMB HMA HT1 HT2 HM5 HM6
    have HTT := Lib.hid ht
    clear hT hC hTb ih h3 h4 h5 h6 ht hB
    have i1 : 31 - (31 - k) = k := by omega
    have i2 : (31 : Int) - ((31 - k : Nat) : Int) = (k : Int) := by omega
    rw [hc]
    go_enter Tryd.func41, Tryd.ntmps41
    go_wp2_with fail
    go_loopw [10, 11, 22] (fun u10 u11 iv wr => ∃ (i : Nat), i ≤ m ∧ iv = .int .i64 i ∧ Hid (Kept2 H G w wr) ∧ Hid (Tb wr B H G n j F)) (fun _ _ iv _ => m - (intOf iv).toNat)
    case atStart => exact ⟨0, by omega, rfl, Kept2.refl _ _ _, HTb⟩
    case round =>
      clear HTb
      obtain ⟨i, hi, rfl, HK, HTb⟩ := hrel
      have hic : i < cs.length := by omega
      obtain ⟨d1, d2, d3⟩ := (HC.out.kept HK.out hbH hbG).code i cs[i] (List.getElem?_eq_getElem hic)
      have hand := HP.out i cs[i] (List.getElem?_eq_getElem hic)
      have hle := HC.out.lt cs[i] (List.getElem_mem hic)
      have hlo := HMB.out i cs[i] (List.getElem?_eq_getElem hic)
      have hhi : i = m → base + t ≤ cs[i].code := fun h => HMA.out cs[i] (by rw [← h]; exact List.getElem?_eq_getElem hic)
      generalize cs[i] = e at d1 d2 d3 hand hle hlo hhi
      obtain ⟨x, y, z⟩ := e
      simp only at d1 d2 d3 hand hle hlo hhi
      have hii : (i : Int) < (c : Int) := by omega
      by_cases hlt : i < m
      · have hx := hlo hlt
        rw [if_neg (by omega)] at hand
        clear hlo hhi
        have hsz := HK.out.size
        go_wp2_with fail
        go_roundw
        case rel => exact ⟨i + 1, by omega, by go_num, HK.out.alloc _, HTb.out.alloc _⟩
        case measure => simp [intOf]; omega
      · have him : i = m := by omega
        have hx := hhi him
        subst him
        rw [if_pos hx] at hand
        clear hlo hhi
        have tne : ((t : Int) != 0) = true := by simp; omega
        have i4 : (0 : Int) ≤ (i : Int) := by omega
        have i5 : (i : Int) ≤ (cap : Int) := by omega
        have i6 : (i : Int) ≤ (c : Int) := by omega
        have i7 : (c : Int) ≤ (cap : Int) := by omega
        have i8 : ((i : Int) == 0) = false := by rw [beq_eq_false_iff_ne]; omega
        have i9 : (((c - i : Nat) : Int) == 0) = false := by rw [beq_eq_false_iff_ne]; omega
        obtain ⟨p0, q0⟩ := own_val HTb.out.box 0 _ rfl (by omega)
        obtain ⟨p1, q1⟩ := own_val HTb.out.box 1 _ rfl (by omega)
        have hjn : j < n := by omega
        have i10 : (j : Int) < (n : Int) := by omega
        have hbw2 := HK.out.size
        have hHw : H < wr.heap.size := (HTb.out.box.block H rfl).2
        have hGw : G < wr.heap.size := (HTb.out.row.block G rfl).2
        go_wp2_with fail
        have HK1 := Lib.hid (HK.out.alloc (.cells #[.int .u32 x, .int .u8 y, .int .u16 z] 91))
        have HTb1 := Lib.hid (HTb.out.alloc (.cells #[.int .u32 x, .int .u8 y, .int .u16 z] 91))
        generalize wr.alloc (.cells #[.int .u32 x, .int .u8 y, .int .u16 z] 91) = w1 at HK1 HTb1
        clear HK HTb p0 q0 p1 q1 hHw hGw hbw2 d1 d2 d3 hand hle hx
        obtain ⟨p0, q0⟩ := own_val HTb1.out.box 0 _ rfl (by omega)
        obtain ⟨p1, q1⟩ := own_val HTb1.out.box 1 _ rfl (by omega)
        go_quiet (fail)
        have HK2 := Lib.hid (HK1.out.drewN nq)
        have HTb2 : Hid (Tb (w1.drewN nq) B H G n j F) := ⟨HTb1.out.box, HTb1.out.row, HTb1.out.ne⟩
        generalize w1.drewN nq = w2 at HK2 HTb2
        clear p0 q0 p1 q1 HK1 HTb1
        obtain ⟨p0, q0⟩ := own_val HTb2.out.box 0 _ rfl (by omega)
        obtain ⟨p1, q1⟩ := own_val HTb2.out.box 1 _ rfl (by omega)
        have HN := Lib.hid (HTb2.out.next ((j : Int) + 1) (by omega))
        go_upto_if 95 with fail
        obtain ⟨HTb3, HK3⟩ := HN.out
        have HTb3 := Lib.hid HTb3
        have HK3 := Lib.hid (HK2.out.trans HK3)
        generalize w2.setCell ⟨H, 1, none⟩ (.int .i64 ((j : Int) + 1)) = w3 at HTb3 HK3
        clear HN HK2 HTb2 p0 p1 q0 q1
        go_cut [7] from 95 (fun u7 wx => u7 = .nilIface ∧ ∃ F3, Hid (Kept2 H G w wx) ∧ Hid (Tb wx B H G n (j + i) F3) ∧ Hid (Rep F3 (j + 1) (j + i) (build k base (cs.take i)) (F3.getD (j * 4) 0) (F3.getD (j * 4 + 2) 0)) ∧ Hid (∀ x, x < j * 4 ∨ (j + i) * 4 ≤ x → F3.getD x 0 = F.getD x 0))
        case first =>
          have hj4 : j * 4 + 3 < n * 4 := by omega
          by_cases hm1 : i = 1
          · subst hm1
            have h0c : 0 < cs.length := by omega
            obtain ⟨e1, e2, e3⟩ := (HC.out.kept HK3.out hbH hbG).code 0 cs[0] (List.getElem?_eq_getElem h0c)
            have hsym := (HC.out.lt cs[0] (List.getElem_mem h0c)).2.2
            have hb1 := Lib.hid (build_one k base (cs.take 1) cs[0] (by
              rw [List.take_one]
              cases cs with
              | nil => simp at h0c
              | cons a r => rfl))
            generalize cs[0] = e0 at e3 hsym hb1
            rw [Nat.zero_mul, Nat.add_zero] at e3
            obtain ⟨L0, M0⟩ := HTb3.out.cell (j * 4) (by omega)
            obtain ⟨L2, M2⟩ := HTb3.out.cell (j * 4 + 2) (by omega)
            have HP1 := Lib.hid (HTb3.out.put (j * 4) 65535 65535 rfl)
            have HP2 := Lib.hid (HP1.out.1.put (j * 4 + 2) e0.sym (e0.sym : Int) rfl)
            clear e1 e2
            go_wp2_with fail
            go_meet
            case rel =>
              have hl3 := HTb3.out.len
              refine ⟨rfl, _, HK3.out.trans (HP1.out.2.trans HP2.out.2), HP2.out.1, ?_, fun x hx => ?_⟩
              · rw [hb1.out]
                show _ = 65535 ∧ _ = e0.sym
                rw [getD_set _ _ _ _ (by rw [List.length_set]; omega), getD_set _ _ _ _ (by omega), getD_set _ _ _ _ (by rw [List.length_set]; omega)]
                rw [if_neg (by omega), if_pos rfl, if_pos rfl]
                exact ⟨rfl, rfl⟩
              · rw [getD_set _ _ _ _ (by rw [List.length_set]; omega), getD_set _ _ _ _ (by omega), if_neg (by omega), if_neg (by omega)]
          · have hli : (cs.take i).length = i := by rw [List.length_take]; omega
            obtain ⟨k', hk'⟩ : ∃ k', k = k' + 1 := Tiles.succ (by rw [HTT.out]; exact HT1.out) (by rw [hli]; omega)
            have hp2 : 2 ^ (k + 1) = 2 ^ k * 2 := Nat.pow_succ ..
            have HK' := Lib.hid hk'
            have hcall := HIH.out k' hk' base (cs.take i) b off cap (j + 1) F w3 (by omega) (by rw [← hk', HTT.out]; exact HT1.out) (by rw [← hk', HTT.out]; exact HM5.out) (by rw [← hk']; omega) (by rw [hli]; omega) (by rw [hli]; omega) hcap2 ((HC.out.kept HK3.out hbH hbG).take i) hbH hbG (Nat.lt_of_lt_of_le hbw HK3.out.size) HTb3.out (by rw [hli]; omega)
            rw [hli, ← hk'] at hcall
            have HCALL := Lib.hid hcall
            have i3 : ((31 - k : Nat) : Int) + 1 = ((31 - k' : Nat) : Int) := by omega
            clear hcall hp2 hk'
            go_wp2_with fail
            with_reducible refine HCALL.out.mono ?_
            rintro e w4 ⟨rfl, F1, hTb1, hF1, hR1, hK1⟩
            have HTb4 := Lib.hid hTb1; have HF1 := Lib.hid hF1; have HR1 := Lib.hid hR1; have HK4 := Lib.hid hK1
            clear hTb1 hF1 hR1 hK1
            obtain ⟨L0, M0⟩ := HTb4.out.cell (j * 4) (by omega)
            have HP1 := Lib.hid (HTb4.out.put (j * 4) (j + 1) ((j : Int) + 1) (by omega))
            go_wp2_with fail
            go_meet
            case rel =>
              have hl4 := HTb4.out.len
              have hR1 := HR1.out
              have hF1 := HF1.out
              have e9 : j + 1 + i - 1 = j + i := by omega
              rw [e9] at hR1 hF1
              have hT9 := HP1.out.1
              rw [e9] at hT9
              refine ⟨rfl, _, HK3.out.trans (HK4.out.trans HP1.out.2), hT9, ?_, fun x hx => ?_⟩
              · rw [getD_set _ _ _ _ (by omega), getD_set _ _ _ _ (by omega), if_pos rfl, if_neg (by omega)]
                obtain ⟨l, r, hlr⟩ : ∃ l r, build k base (cs.take i) = .node l r := ⟨_, _, by rw [HK'.out]; exact build_two k' base (cs.take i) (by rw [hli]; omega)⟩
                rw [hlr] at hR1 ⊢
                refine Rep.frame (F := F1) (fun x h1 h2 => ?_) _ _ _ (Rep.value hR1)
                rw [getD_set _ _ _ _ (by omega), if_neg (by omega)]
              · rw [getD_set _ _ _ _ (by omega), if_neg (by omega)]
                exact hF1 x (by omega)
        case rest =>
          obtain ⟨rfl, F3, HK5, HTb5, HR5, HF5⟩ := hcut
          clear HK3 HTb3
          have hj4 : j * 4 + 3 < n * 4 := by omega
          have i11 : ((c - i : Nat) : Int) = (c : Int) - (i : Int) := by omega
          have hC2 := (HC.out.drop i)
          have hwl := Nat.lt_of_lt_of_le hbw HK5.out.size
          by_cases hm1 : c - i = 1
          · have i12 : (((c - i : Nat) : Int) == 1) = true := by rw [beq_iff_eq]; omega
            have h0c : i < cs.length := by omega
            obtain ⟨e1, e2, e3⟩ := (HC.out.kept HK5.out hbH hbG).code i cs[i] (List.getElem?_eq_getElem h0c)
            have hsym := (HC.out.lt cs[i] (List.getElem_mem h0c)).2.2
            have hb1 := Lib.hid (build_one k (base + t) (cs.drop i) cs[i] (by
              rw [List.drop_eq_getElem_cons h0c, List.drop_of_length_le (by omega)]))
            generalize cs[i] = e0 at e3 hsym hb1
            obtain ⟨L0, M0⟩ := HTb5.out.cell (j * 4 + 1) (by omega)
            obtain ⟨L2, M2⟩ := HTb5.out.cell (j * 4 + 3) (by omega)
            have HP1 := Lib.hid (HTb5.out.put (j * 4 + 1) 65535 65535 rfl)
            have HP2 := Lib.hid (HP1.out.1.put (j * 4 + 3) e0.sym (e0.sym : Int) rfl)
            have i13 : (0 : Int) < ((c - i : Nat) : Int) := by omega
            clear e1 e2
            go_wp2_with fail
            go_ret2
            have hl3 := HTb5.out.len
            have e9 : j + c - 1 = j + i := by omega
            rw [e9]
            refine ⟨rfl, _, HP2.out.1, fun x hx => ?_, ?_, HK5.out.trans (HP1.out.2.trans HP2.out.2)⟩
            · rw [getD_set _ _ _ _ (by rw [List.length_set]; omega), getD_set _ _ _ _ (by omega), if_neg (by omega), if_neg (by omega)]
              exact HF5.out x hx
            · rw [HB2.out, hb1.out]
              refine ⟨by omega, by omega, ?_, ?_⟩
              · refine Rep.mono (lo := j + 1) (hi := j + i) (by omega) (by omega) _ _ _ ?_
                rw [getD_set _ _ _ _ (by rw [List.length_set]; omega), getD_set _ _ _ _ (by omega), getD_set _ _ _ _ (by rw [List.length_set]; omega), getD_set _ _ _ _ (by omega)]
                rw [if_neg (by omega), if_neg (by omega), if_neg (by omega), if_neg (by omega)]
                refine Rep.frame (F := F3) (fun x h1 h2 => ?_) _ _ _ HR5.out
                rw [getD_set _ _ _ _ (by rw [List.length_set]; omega), getD_set _ _ _ _ (by omega), if_neg (by omega), if_neg (by omega)]
              · show _ = 65535 ∧ _ = e0.sym
                rw [getD_set _ _ _ _ (by rw [List.length_set]; omega), getD_set _ _ _ _ (by omega), getD_set _ _ _ _ (by rw [List.length_set]; omega)]
                rw [if_neg (by omega), if_pos rfl, if_pos rfl]
                exact ⟨rfl, rfl⟩
          · have i12 : (((c - i : Nat) : Int) == 1) = false := by rw [beq_eq_false_iff_ne]; omega
            have hli : (cs.drop i).length = c - i := by rw [List.length_drop]; omega
            obtain ⟨k', hk'⟩ : ∃ k', k = k' + 1 := Tiles.succ (by rw [HTT.out]; exact HT2.out) (by rw [hli]; omega)
            have hp2 : 2 ^ (k + 1) = 2 ^ k * 2 := Nat.pow_succ ..
            have HK' := Lib.hid hk'
            have hT6 := HTT.out
            have hcall := HIH.out k' hk' (base + t) (cs.drop i) b (off + i * 3) (cap - i) (j + i) F3 wc (by omega) (by rw [← hk', HTT.out]; exact HT2.out) (by rw [← hk', HTT.out]; exact HM6.out) (by rw [← hk']; omega) (by rw [hli]; omega) (by rw [hli]; omega) (by omega) ((HC.out.kept HK5.out hbH hbG).drop i) hbH hbG hwl HTb5.out (by rw [hli]; omega)
            rw [hli, ← hk'] at hcall
            have HCALL := Lib.hid hcall
            have i3 : ((31 - k : Nat) : Int) + 1 = ((31 - k' : Nat) : Int) := by omega
            clear hcall hp2 hT6 hk'
            go_wp2_with fail
            with_reducible refine HCALL.out.mono ?_
            rintro e w4 ⟨rfl, F1, hTb1, hF1, hR1, hK1⟩
            have HTb4 := Lib.hid hTb1; have HF1 := Lib.hid hF1; have HR1 := Lib.hid hR1; have HK4 := Lib.hid hK1
            clear hTb1 hF1 hR1 hK1
            obtain ⟨L0, M0⟩ := HTb4.out.cell (j * 4 + 1) (by omega)
            have HP1 := Lib.hid (HTb4.out.put (j * 4 + 1) (j + i) ((j : Int) + (i : Int)) (by omega))
            go_wp2_with fail
            go_ret2
            have hl4 := HTb4.out.len
            have hR1 := HR1.out
            have hF1 := HF1.out
            have e9 : j + i + (c - i) - 1 = j + c - 1 := by omega
            rw [e9] at hR1 hF1
            have hT9 := HP1.out.1
            rw [e9] at hT9
            refine ⟨rfl, _, hT9, fun x hx => ?_, ?_, HK5.out.trans (HK4.out.trans HP1.out.2)⟩
            · rw [getD_set _ _ _ _ (by omega), if_neg (by omega), hF1 x (by omega)]
              exact HF5.out x (by omega)
            · rw [HB2.out]
              refine ⟨by omega, by omega, ?_, ?_⟩
              · refine Rep.mono (lo := j + 1) (hi := j + i) (by omega) (by omega) _ _ _ ?_
                rw [getD_set _ _ _ _ (by omega), getD_set _ _ _ _ (by omega), if_neg (by omega), if_neg (by omega)]
                rw [hF1 (j * 4) (by omega), hF1 (j * 4 + 2) (by omega)]
                refine Rep.frame (F := F3) (fun x h1 h2 => ?_) _ _ _ HR5.out
                rw [getD_set _ _ _ _ (by omega), if_neg (by omega)]
                exact hF1 x (by omega)
              · refine Rep.mono (lo := j + i) (hi := j + c - 1) (by omega) (by omega) _ _ _ ?_
                rw [getD_set _ _ _ _ (by omega), getD_set _ _ _ _ (by omega), if_pos rfl, if_neg (by omega)]
                obtain ⟨l, r, hlr⟩ : ∃ l r, build k (base + t) (cs.drop i) = .node l r := ⟨_, _, by rw [HK'.out]; exact build_two k' (base + t) (cs.drop i) (by rw [hli]; omega)⟩
                rw [hlr] at hR1 ⊢
                refine Rep.frame (F := F1) (fun x h1 h2 => ?_) _ _ _ (Rep.value hR1)
                rw [getD_set _ _ _ _ (by omega), if_neg (by omega)]
theorem build_any (n H G B : Nat) (hn : n ≤ 258) : ∀ k, BuildOk n H G B k := by
  intro k
  induction k with
  | zero => exact build_step n H G B 0 hn (fun k' h => by omega)
  | succ k ih => exact build_step n H G B (k + 1) hn (fun k' h => by
    have e : k = k' := by omega
    subst e
    exact ih)
end Go.Proofs.YtdhehnjidakfcaaDoor
