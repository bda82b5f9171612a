/- Numbers written as bits: walked. -/
import Derived.Test.YtdhehnjidakfcaaDoorPutWalk
import Derived.StillTailTactics
namespace Go.Proofs.YtdhehnjidakfcaaDoor
open Go.RowKit
set_option maxHeartbeats 400000
set_option maxRecDepth 4000
set_option linter.unusedVariables false
set_option linter.unusedSimpArgs false
theorem lowVal (N k : Nat) (hN : N < 18446744073709551616) (hk : k ≤ 48) : bits .and .u64 (N : Int) (IntKind.u64.wrap (IntKind.u64.wrap ((2 : Int) ^ k) - 1)) = ((N % 2 ^ k : Nat) : Int) := by
  have := maskVal N 0 k hN hk
  simpa using this
theorem low_any (N k : Nat) (w : World) (hN : N < 18446744073709551616) (hk : k ≤ 48) :
    Calls Tryd.prog 13 #[.int .u64 (N : Int), .int .i64 (k : Int)] w fun e w' => e = .returned (.int .u64 ((N % 2 ^ k : Nat) : Int)) ∧ w' = w := by
  have HV := Lib.hid (lowVal N k hN hk)
  go_enter Tryd.func13, Tryd.ntmps13
  go_wp2_with fail
  go_ret
  exact ⟨ret_int HV.out, rfl⟩
/-- how many bits the first widths are -/
def sm (ws : List Nat) (k : Nat) : Nat := (ws.take k).sum
theorem sm_succ (ws : List Nat) (k : Nat) (hk : k < ws.length) (v : Nat) (hv : ws.getD k 0 = v) : sm ws (k + 1) = sm ws k + v := by
  have e1 : ws[k] = v := by rw [← hv]; simp [List.getD_eq_getElem?_getD, List.getElem?_eq_getElem hk]
  unfold sm
  rw [List.take_succ_eq_append_getElem hk, List.sum_append, e1]
  simp
theorem sm_le (ws : List Nat) (h : ∀ x ∈ ws, x ≤ 48) : ∀ k, k ≤ ws.length → sm ws k ≤ 48 * k := by
  intro k
  induction k with
  | zero => intro _; simp [sm]
  | succ k ih =>
    intro hk
    rw [sm_succ ws k (by omega) _ rfl]
    have := ih (by omega)
    have := getD_le h (show k < ws.length by omega)
    omega
theorem sm_mono (ws : List Nat) (i : Nat) : ∀ d, i + d ≤ ws.length → sm ws i ≤ sm ws (i + d) := by
  intro d
  induction d with
  | zero => intro _; exact Nat.le_refl _
  | succ d ih =>
    intro h
    rw [← Nat.add_assoc, sm_succ ws (i + d) (by omega) _ rfl]
    have := ih (by omega)
    omega
/-- the last bits of numbers -/
def lows (Ns ws : List Nat) (k : Nat) : List Nat := (List.range k).map fun i => Ns.getD i 0 % 2 ^ ws.getD i 0
theorem run_lows (l : List Nat) (n : Nat) (Ns ws : List Nat) (hf : ∀ i, i < ws.length → Fld.fld l (sm ws i) (ws.getD i 0) = Ns.getD i 0 % 2 ^ ws.getD i 0) (hn : sm ws ws.length ≤ 8 * n) : run l n 0 ws = (lows Ns ws ws.length, false) := by
  have h : ∀ k, k ≤ ws.length → At l n ws k (sm ws k) (lows Ns ws k) := by
    intro k
    induction k with
    | zero => intro _; exact At.zero l n ws
    | succ k ih =>
      intro hk
      have h1 := ih (by omega)
      have h2 := sm_succ ws k (by omega) _ rfl
      have h3 := sm_mono ws (k + 1) (ws.length - (k + 1)) (by omega)
      rw [show k + 1 + (ws.length - (k + 1)) = ws.length by omega] at h3
      have h4 := h1.next _ rfl (by omega) (by omega)
      rw [h2]
      have e : lows Ns ws (k + 1) = lows Ns ws k ++ [Fld.fld l (sm ws k) (ws.getD k 0)] := by
        rw [hf k (by omega)]
        simp [lows, List.range_succ]
      rw [e]; exact h4
  exact (h ws.length (Nat.le_refl _)).done
theorem Wt.drew {w : World} {B W : Nat} {A : Option Addr} {cap n : Nat} {l : List Nat} {m : Nat} (h : Wt w B W A cap n l m) : Wt w.drew B W A cap n l m := ⟨h.box, h.row, h.ne⟩
theorem written_any (An Aw : Option Addr) (capn capw K : Nat) (Ns ws : List Nat) (w : World) (hN : Ints w .u64 An Ns) (hW : Ints w .i64 Aw ws) (hn : Ns.length = K) (hm : ws.length = K) (hK : K * 8 ≤ 140737488351232) (hb : ∀ x ∈ Ns, x < 18446744073709551616) (hw : ∀ x ∈ ws, x ≤ 48) :
    Calls Tryd.prog 14 #[.slice An K capn, .slice Aw K capw] w fun e w' => ∃ A' cap' n' l', e = .returned (.slice A' n' cap') ∧ Own w' w.heap.size 5 1 A' n' cap' (cellsN .u8 l') ∧ (∀ x ∈ l', x < 256) ∧ n' ≤ 140737488351232 ∧ run l' n' 0 ws = (lows Ns ws K, false) ∧ Below w.heap.size w w' := by
  have HL := Lib.hid hn; have HM := Lib.hid hm; have HB := Lib.hid hb; have HW := Lib.hid hw
  clear hn hm hb hw
  go_enter Tryd.func14, Tryd.ntmps14
  go_wp2_with fail
  have w0 : Wt (w.alloc (.cells #[.slice none 0 0, .int .i64 0] 51)) w.heap.size w.heap.size none 0 0 [] 0 := ⟨own_box w w.heap.size 51 2 #[.slice none 0 0, .int .i64 0] rfl (Nat.le_refl _) (by omega), Own.nil _ _ _ _, by simp [blockOf]⟩
  have b0 : Below w.heap.size w (w.alloc (.cells #[.slice none 0 0, .int .i64 0] 51)) := (Below.refl _ _).alloc (Nat.le_refl _) _
  generalize w.alloc (.cells #[.slice none 0 0, .int .i64 0] 51) = w1 at w0 b0
  go_loopw [6, 7, 12] (fun u6 u7 iv wr => ∃ (k : Nat) (A : Option Addr) (cap n' m : Nat) (l' : List Nat), k ≤ K ∧ iv = .int .i64 k ∧ Hid (m = sm ws k) ∧ Hid (Wt wr w.heap.size w.heap.size A cap n' l' m) ∧ Hid (Wr l' m) ∧ Hid (∀ i, i < k → Fld.fld l' (sm ws i) (ws.getD i 0) = Ns.getD i 0 % 2 ^ ws.getD i 0) ∧ Hid (Below w.heap.size w wr)) (fun _ _ iv _ => K - (intOf iv).toNat)
  case atStart => exact ⟨0, none, 0, 0, 0, [], by omega, rfl, rfl, w0, Wr.nil, fun i hi => absurd hi (by omega), b0⟩
  case round =>
    clear w0 b0
    obtain ⟨k, A, cap, n', m, l', hk, rfl, HS, HWT, HWR, HF, HBL⟩ := hrel
    by_cases hlt : k < K
    · obtain ⟨b1, o1, rfl, hb1, hc1⟩ := hN k (by rw [HL.out]; exact hlt)
      obtain ⟨b2, o2, rfl, hb2, hc2⟩ := hW k (by rw [HM.out]; exact hlt)
      have hd1 := (HBL.out.cell (p := ⟨b1, o1 + k, none⟩) hb1).trans hc1
      have hd2 := (HBL.out.cell (p := ⟨b2, o2 + k, none⟩) hb2).trans hc2
      have hx : Ns.getD k 0 < 18446744073709551616 := getD_lt' HB.out (by rw [HL.out]; exact hlt)
      have hv : ws.getD k 0 ≤ 48 := getD_le HW.out (by rw [HM.out]; exact hlt)
      have hsl := sm_le ws HW.out k (by rw [HM.out]; exact hk)
      have hsu := sm_succ ws k (by rw [HM.out]; exact hlt) _ rfl
      generalize hxe : Ns.getD k 0 = x at hd1 hx hc1
      generalize hve : ws.getD k 0 = v at hd2 hv hc2 hsu
      have HXE := Lib.hid hxe; have HVE := Lib.hid hve; have HSU := Lib.hid hsu
      have hmk : m + v ≤ 1125899906842616 := by rw [HS.out]; omega
      have hlow : x % 2 ^ v < 2 ^ v := Nat.mod_lt _ (Nat.two_pow_pos v)
      have hl64 : x % 2 ^ v < 281474976710656 := Nat.lt_of_lt_of_le hlow (Nat.le_trans (Nat.pow_le_pow_right (by omega) hv) (by omega))
      have HLOW := Lib.hid hlow
      have hcall := low_any x v wr.drew hx hv
      have HCALL := Lib.hid hcall
      generalize hz : x % 2 ^ v = z at hlow hl64 HLOW HCALL
      have HZ := Lib.hid hz
      clear hxe hve hsu hsl hc1 hc2 hcall hz hlow
      have i1 : (0 : Int) ≤ (k : Int) := by omega
      have i2 : (k : Int) < (K : Int) := by omega
      have i3 : IntKind.i64.wrap (z : Int) = (z : Int) := by rw [IntKind.wrap_i64]; omega
      go_wp2_with fail
      go_still_tail 12, (by kernel_rfl)
      still_call HCALL.out
      repeat still_step
      refine wpStill_nil ?_
      change wpList _ _ _ _ _ wr.drew
      go_wp2_with fail
      refine (put_any w.heap.size w.heap.size A cap n' l' m z v wr.drew HWT.out.drew HWR.out hv HLOW.out hmk).mono ?_
      rintro e w3 ⟨rfl, A3, cap3, n3, l3, hWT, hWR, hFV, hOLD, hBL⟩
      have HWT3 := Lib.hid hWT; have HWR3 := Lib.hid hWR; have HFV := Lib.hid hFV; have HOLD := Lib.hid hOLD; have HBL3 := Lib.hid hBL
      clear hWT hWR hFV hOLD hBL
      go_wp2_with fail
      go_roundw
      case rel =>
        refine ⟨k + 1, A3, cap3, n3, m + v, l3, by omega, by go_num, by show m + v = sm ws (k + 1); rw [HSU.out, HS.out], HWT3, HWR3, fun i hi => ?_, HBL.out.drew.trans HBL3.out⟩
        rcases Nat.lt_or_ge i k with h | h
        · rw [← HF.out i h]
          refine fld_congr _ _ _ _ (fun q h1 h2 => HOLD.out q ?_)
          have h3 := sm_succ ws i (by rw [HM.out]; omega) _ rfl
          have h4 := sm_mono ws (i + 1) (k - (i + 1)) (by rw [HM.out]; omega)
          rw [show i + 1 + (k - (i + 1)) = k by omega] at h4
          rw [HS.out]; omega
        · obtain rfl : i = k := by omega
          rw [HVE.out, HXE.out, ← HS.out, HFV.out, HZ.out]
      case measure => simp [intOf]; omega
    · obtain rfl : k = K := by omega
      have hm := HM.out
      have hlen := HWR.out.len
      have hrow := own_length' HWT.out.row
      have hsl := sm_le ws HW.out k (by omega)
      have HN9 : Hid (n' = (sm ws k + 7) / 8) := by show n' = _; rw [← hrow, hlen, HS.out]
      have hn9 : Hid (n' ≤ 140737488351232) := by show n' ≤ _; rw [HN9.out]; omega
      have HRUN : Hid (run l' n' 0 ws = (lows Ns ws k, false)) := by
        have := run_lows l' n' Ns ws (fun i hi => HF.out i (by omega)) (by rw [hm, HN9.out]; omega)
        rw [hm] at this
        exact this
      obtain ⟨y0, _⟩ := own_val HWT.out.box 0 _ rfl (by omega)
      clear hm hlen hrow hsl
      go_wp2_with fail
      go_ret
      exact ⟨_, _, _, l', rfl, HWT.out.row, HWR.out.lt, hn9.out, HRUN.out, HBL.out⟩
end Go.Proofs.YtdhehnjidakfcaaDoor
