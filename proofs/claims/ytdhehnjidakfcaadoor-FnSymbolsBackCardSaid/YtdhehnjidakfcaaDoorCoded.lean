/- Symbols written in a code: walked. -/
import Derived.Test.YtdhehnjidakfcaaDoorCodes
import Derived.Test.YtdhehnjidakfcaaDoorWritten
import Derived.StillTailTactics
namespace Go.Proofs.YtdhehnjidakfcaaDoor
open Go.RowKit Huff
set_option maxHeartbeats 1000000
set_option maxRecDepth 4000
set_option linter.unusedVariables false
set_option linter.unusedSimpArgs false
/-- the words of symbols -/
def words (L ts : List Nat) : List Bool := ts.flatMap fun v => bitsOf (code L v) (L.getD v 0)
/-- the first bits of what is written -/
def bf (l : List Nat) (m : Nat) : List Bool := (List.range m).map fun i => Fld.bt l i == 1
theorem bf_length (l : List Nat) (m : Nat) : (bf l m).length = m := by simp [bf]
theorem bf_more (l l2 : List Nat) (m k : Nat) (h : ∀ i, i < m → Fld.bt l2 i = Fld.bt l i) : bf l2 (m + k) = bf l m ++ bitsOf (Fld.fld l2 m k) k := by
  unfold bf
  rw [List.range_add, List.map_append, List.map_map]
  congr 1
  · apply List.map_congr_left
    intro i hi
    rw [h i (List.mem_range.1 hi)]
  · rw [← bits_of]; rfl
theorem bf_bl (l : List Nat) (n m : Nat) (h : m ≤ 8 * n) : bl l n 0 = bf l m ++ bl l n m := by
  have := bl_split l n 0 m (by omega)
  rw [Nat.zero_add] at this
  rw [this, ← bits_of]
  unfold bf
  simp
theorem words_snoc (L ts : List Nat) (k : Nat) (hk : k < ts.length) (v : Nat) (hv : ts.getD k 0 = v) : words L (ts.take (k + 1)) = words L (ts.take k) ++ bitsOf (code L v) (L.getD v 0) := by
  rw [take_snoc ts k hk, hv]
  simp [words]
theorem words_length (L ts : List Nat) : (words L ts).length = (ts.map fun v => L.getD v 0).sum := by
  unfold words
  induction ts with
  | nil => rfl
  | cons a ts ih => rw [List.flatMap_cons, List.length_append, bitsOf_length, ih]; rfl
set_option maxHeartbeats 4000000 in
theorem coded_any (AL AT : Option Addr) (capL capT nL K : Nat) (L ts : List Nat) (w : World) (hLA : Ints w .i64 AL L) (hnL : L.length = nL) (hF : Full L) (h258 : nL ≤ 258) (h20 : ∀ x ∈ L, x ≤ 20) (hTA : Ints w .i64 AT ts) (hK : ts.length = K) (hts : ∀ v ∈ ts, v < nL) (hK8 : K * 8 ≤ 140737488351232) :
    Calls Tryd.prog 20 #[.slice AL nL capL, .slice AT K capT] w fun e w' => ∃ A' cap' n' l' R, e = .returned (.slice A' n' cap') ∧ Own w' w.heap.size 5 1 A' n' cap' (cellsN .u8 l') ∧ (∀ x ∈ l', x < 256) ∧ n' ≤ 140737488351232 ∧ bl l' n' 0 = words L ts ++ R ∧ Below w.heap.size w w' := by
  have HNL := Lib.hid hnL; have HKK := Lib.hid hK; have HTS := Lib.hid hts; have HLA := Lib.hid hLA; have HTA := Lib.hid hTA
  have HF := Lib.hid hF
  have HL20 : Hid (∀ v, v < nL → L.getD v 0 ≤ 20 ∧ code L v < 2 ^ L.getD v 0) := fun v hv => by
    have hv' : v < L.length := by omega
    have : L.getD v 0 = L[v] := by simp [List.getD_eq_getElem?_getD, List.getElem?_eq_getElem hv']
    exact ⟨by rw [this]; exact h20 _ (List.getElem_mem hv'), code_lt L hF v hv'⟩
  have hcodes := Lib.hid (codes_any AL nL capL L w hLA hnL hF h258 h20)
  clear hnL hK hts hLA hTA hF h20
  go_enter Tryd.func20, Tryd.ntmps20
  go_wp2_with fail
  refine hcodes.out.mono ?_
  rintro e w1 ⟨AC, cC, C, rfl, ownC, hCV, bel1⟩
  have HCV := Lib.hid hCV
  have hs1 := bel1.size
  clear hCV
  go_wp2_with fail
  have w0 : Wt (w1.alloc (.cells #[.slice none 0 0, .int .i64 0] 51)) w1.heap.size w1.heap.size none 0 0 [] 0 := ⟨own_box w1 w1.heap.size 51 2 #[.slice none 0 0, .int .i64 0] rfl (Nat.le_refl _) (by omega), Own.nil _ _ _ _, by simp [blockOf]⟩
  have b0 : Below w1.heap.size w1 (w1.alloc (.cells #[.slice none 0 0, .int .i64 0] 51)) := (Below.refl _ _).alloc (Nat.le_refl _) _
  generalize w1.alloc (.cells #[.slice none 0 0, .int .i64 0] 51) = w2 at w0 b0
  go_loopw [8, 15] (fun u8 iv wr => ∃ (k : Nat) (A : Option Addr) (cap n' m : Nat) (l' : List Nat), k ≤ K ∧ iv = .int .i64 (k : Int) ∧ m ≤ 20 * k ∧ Hid (Wt wr w1.heap.size w1.heap.size A cap n' l' m) ∧ Hid (Wr l' m) ∧ Hid (bf l' m = words L (ts.take k)) ∧ Hid (Below w1.heap.size w1 wr)) (fun _ iv _ => K - (intOf iv).toNat)
  case atStart => exact ⟨0, none, 0, 0, 0, [], by omega, rfl, by omega, w0, Wr.nil, rfl, b0⟩
  case round =>
    clear w0 b0
    obtain ⟨k, A, cap, n', m, l', hk, rfl, hmk, HWT, HWR, HBF, HBL⟩ := hrel
    by_cases hlt : k < K
    · have hx : ts.getD k 0 < nL := getD_lt' HTS.out (by rw [HKK.out]; exact hlt)
      obtain ⟨b1, o1, rfl, hb1, hc1⟩ := HTA.out k (by rw [HKK.out]; exact hlt)
      have hd1 := (HBL.out.cell (p := ⟨b1, o1 + k, none⟩) (Nat.lt_of_lt_of_le hb1 hs1)).trans ((bel1.cell (p := ⟨b1, o1 + k, none⟩) hb1).trans hc1)
      obtain ⟨x, hxe⟩ : ∃ x, ts.getD k 0 = x := ⟨_, rfl⟩
      rw [hxe] at hx hd1
      have HWS := Lib.hid (words_snoc L ts k (by rw [HKK.out]; exact hlt) x hxe)
      obtain ⟨b2, o2, rfl, hb2, hc2⟩ := ((HLA.out.below bel1).below HBL.out) x (by rw [HNL.out]; exact hx)
      obtain ⟨b3, o3, rfl, hb3, hc3⟩ := (ownC.ints.below HBL.out) x (by rw [own_length' ownC]; exact hx)
      rw [HCV.out x hx] at hc3
      obtain ⟨hv20, hq2⟩ := HL20.out x hx
      obtain ⟨v, hv⟩ : ∃ v, L.getD x 0 = v := ⟨_, rfl⟩
      obtain ⟨q, hq⟩ : ∃ q, code L x = q := ⟨_, rfl⟩
      rw [hv] at hc2 hv20 hq2
      rw [hq] at hc3 hq2
      have HV := Lib.hid hv; have HQ := Lib.hid hq; have HQ2 := Lib.hid hq2
      have i1 : (x : Int) < (nL : Int) := by omega
      clear hv hq hq2 hc1 hxe
      go_wp2_with fail
      go_still_tail 9, (by kernel_rfl)
      change wpList _ _ _ _ _ wr.drew
      go_wp2_with fail
      refine (put_any w1.heap.size w1.heap.size A cap n' l' m q v wr.drew HWT.out.drew HWR.out (by omega) HQ2.out (by omega)).mono ?_
      rintro e w3 ⟨rfl, A3, cap3, n3, l3, hWT, hWR, hFV, hOLD, hBL⟩
      have HWT3 := Lib.hid hWT; have HWR3 := Lib.hid hWR; have HFV := Lib.hid hFV; have HOLD := Lib.hid hOLD; have HBL3 := Lib.hid hBL
      clear hWT hWR hFV hOLD hBL
      go_wp2_with fail
      go_roundw
      case rel =>
        refine ⟨k + 1, A3, cap3, n3, m + v, l3, by omega, by go_num, by omega, HWT3, HWR3, ?_, HBL.out.drew.trans HBL3.out⟩
        show bf l3 (m + v) = words L (ts.take (k + 1))
        rw [bf_more l' l3 m v HOLD.out, HFV.out, HBF.out, HWS.out, HQ.out, HV.out]
      case measure => simp [intOf]; omega
    · obtain rfl : k = K := by omega
      have hlen := HWR.out.len
      have hrow := own_length' HWT.out.row
      have hn9 : n' ≤ 140737488351232 := by omega
      have HBLS : Hid (bl l' n' 0 = words L ts ++ bl l' n' m) := by
        show bl l' n' 0 = _
        rw [bf_bl l' n' m (by omega), HBF.out, List.take_of_length_le (by rw [HKK.out]; exact Nat.le_refl _)]
      obtain ⟨y0, _⟩ := own_val HWT.out.box 0 _ rfl (by omega)
      clear hlen hrow
      go_wp2_with fail
      go_ret
      exact ⟨_, _, _, l', _, rfl, HWT.out.row.mono hs1, HWR.out.lt, hn9, HBLS.out, bel1.trans (HBL.out.mono hs1)⟩
end Go.Proofs.YtdhehnjidakfcaaDoor
