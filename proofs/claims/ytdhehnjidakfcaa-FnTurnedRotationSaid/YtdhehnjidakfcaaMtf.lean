/- Moves to the front: the walks of the two lists. -/
import Derived.Test.YtdhehnjidakfcaaStep
import Derived.StillTailTactics
import Derived.Deep.RegionHeld3
namespace Go.Proofs.Ytdhehnjidakfcaa
open Go.RowKit
set_option maxHeartbeats 400000
/-- the list behind a move to the front -/
def mtf (L : List Nat) (k : Nat) : List Nat := L.getD k 0 :: (L.take k ++ L.drop (k + 1))
theorem mtf_length (L : List Nat) (k : Nat) (hk : k < L.length) : (mtf L k).length = L.length := by
  simp only [mtf, List.length_cons, List.length_append, List.length_take, List.length_drop]; omega
theorem mtf_cells (L : List Nat) (k d : Nat) (hk : k < L.length) (hd : k ≤ d) (v : Int) (hv : v = L.getD k 0) :
    ((cellsN .u8 L).take 1 ++ ((cellsN .u8 (L.take k)).take d ++ (cellsN .u8 L).drop (1 + min k d))).set 0 (.int .u8 v) = cellsN .u8 (mtf L k) := by
  subst hv
  have e : min k d = k := by omega
  rw [e]
  cases L with
  | nil => simp at hk
  | cons x L =>
    have e2 : (cellsN .u8 ((x :: L).take k)).take d = cellsN .u8 ((x :: L).take k) := List.take_of_length_le (by simp [cellsN]; omega)
    rw [e2, Nat.add_comm]
    simp [cellsN, mtf, List.map_take, List.map_drop]
theorem own_front {w w1 : World} {B g n cap k d : Nat} {L : List Nat} {v : Int} (own : Own w1 B 5 1 (some ⟨g, 0, none⟩) n cap ((cellsN .u8 L).take 1 ++ ((cellsN .u8 (L.take k)).take d ++ (cellsN .u8 L).drop (1 + min k d))))
    (hg : w.grownBy w1 (blockOf (some ⟨g, 0, none⟩))) (hk : k < L.length) (hd : k ≤ d) (hv : v = L.getD k 0) :
    Own (w1.setCell ⟨g, 0, none⟩ (.int .u8 v)) B 5 1 (some ⟨g, 0, none⟩) n cap (cellsN .u8 (mtf L k)) ∧ w.grownBy (w1.setCell ⟨g, 0, none⟩ (.int .u8 v)) (blockOf (some ⟨g, 0, none⟩)) := by
  have h := own.stored 0 (.int .u8 v)
  rw [mtf_cells L k d hk hd v hv] at h
  exact ⟨h.1, hg.trans h.2⟩
theorem front_any (B : Nat) (A : Option Addr) (n cap k : Nat) (L : List Nat) (w : World) (own : Own w B 5 1 A n cap (cellsN .u8 L)) (hk : k < n) (hn : n ≤ 256) :
    Calls Try.prog 21 #[.slice A n cap, .int .i64 k] w fun e w' => e = .returned (.tuple #[]) ∧ Own w' B 5 1 A n cap (cellsN .u8 (mtf L k)) ∧ w.grownBy w' (blockOf A) := by
  have hl : L.length = n := by simpa [cellsN] using own.len
  obtain ⟨g, hA, hB, hg, hc, _⟩ := own.cell k (by omega)
  subst hA
  rw [cellsN_at _ _ _ (by omega)] at hc
  have S : Hid (SrcAt w.drew (some ⟨g, 0, none⟩) k cap (cellsN .u8 (L.take k))) := srcAt_own own.drew k cap hk
  have hcap := own.caps
  unfold maxLen at hcap
  have OW := Lib.hid own.drew
  have HL := Lib.hid hl
  clear hl own
  generalize hv : L.getD k 0 = v at hc
  have HV := Lib.hid hv
  clear hv
  have hw : IntKind.i64.wrap ((k : Int) + 1) = (k : Int) + 1 := by rw [IntKind.wrap]; simp [IntKind.bits]; omega
  have a1 : (0 : Int) ≤ (k : Int) + 1 := by omega
  have a2 : (k : Int) + 1 ≤ (cap : Int) := by omega
  have a3 : (1 : Int) ≤ max ((k : Int) + 1) 0 := by omega
  have a4 : ((k : Int) + 1).toNat = k + 1 := by omega
  have a5 : (k : Int) ≤ (cap : Int) := by omega
  have a6 : (1 : Int) ≤ (k : Int) + 1 := by omega
  have hfin := hk
  have hl0 : 0 < L.length := by rw [HL.out]; omega
  have HF := Lib.hid (fun (w1 : World) d (own1 : Own w1 B 5 1 (some ⟨g, 0, none⟩) n cap ((cellsN .u8 L).take 1 ++ ((cellsN .u8 (L.take k)).take d ++ (cellsN .u8 L).drop (1 + min k d)))) (hg : w.drew.grownBy w1 (blockOf (some ⟨g, 0, none⟩))) (hd : k ≤ d) =>
    own_front own1 hg (by rw [HL.out]; exact hk) hd (by rw [HV.out]))
  by_cases hc1 : cap = 1
  · obtain rfl : k = 0 := by omega
    subst hc1
    have hw1 : IntKind.i64.wrap 1 = 1 := by decide
    go_enter Try.func21, Try.ntmps21
    go_wp2_with fail
    go_region_law (with_reducible refine step_copy_own rfl (.tmp 12) (.tmp 15) 22 22 rfl 5 Try.underlying22 (by kernel_rfl) (some ⟨g, 0, none⟩) 0 0 (some ⟨g, 0, none⟩) 0 1 (by simp [Act.eval, Act.put]) (by simp [Act.eval, Act.put]) OW.out 1 (fun h => by omega) (by omega) _ S.out (by simp [cellsN]) (cellsN_one _ _) ?_; intro w1 own1 grow1)
    obtain ⟨u, hu, hz⟩ := own1.some 0 (by omega)
    have HH := Lib.hid (HF.out w1 _ own1 grow1 (by omega))
    clear own1
    go_wp2_with fail
    go_end0
    exact ⟨rfl, HH.out.1, grown_drew HH.out.2⟩
  · go_enter Try.func21, Try.ntmps21
    go_wp2_with fail
    go_region_law (with_reducible refine step_copy_own rfl (.tmp 12) (.tmp 15) 22 22 rfl 5 Try.underlying22 (by kernel_rfl) (some ⟨g, 1, none⟩) k (cap - 1) (some ⟨g, 0, none⟩) k cap (by simp [Act.eval, Act.put]) (by simp [Act.eval, Act.put]) OW.out 1 (fun _ g' e => by injection e with e; injection e with e; subst e; rfl) (by omega) _ S.out (by simp [cellsN]; have := HL.out; omega) (cellsN_one _ _) ?_; intro w1 own1 grow1)
    obtain ⟨u, hu, hz⟩ := own1.some 0 (by omega)
    have HH := Lib.hid (HF.out w1 _ own1 grow1 (by omega))
    clear own1
    go_wp2_with fail
    go_end0
    exact ⟨rfl, HH.out.1, grown_drew HH.out.2⟩
theorem decode_any (B : Nat) (A : Option Addr) (n cap k : Nat) (L : List Nat) (w : World) (own : Own w B 5 1 A n cap (cellsN .u8 L)) (hk : k < n) (hn : n ≤ 256) :
    Calls Try.prog 26 #[.slice A n cap, .int .i64 k] w fun e w' => e = .returned (.int .u8 (L.getD k 0 : Nat)) ∧ Own w' B 5 1 A n cap (cellsN .u8 (mtf L k)) ∧ w.grownBy w' (blockOf A) := by
  have hl : L.length = n := by simpa [cellsN] using own.len
  obtain ⟨g, hA, hB, hg, hc, _⟩ := own.cell k (by omega)
  subst hA
  rw [cellsN_at _ _ _ (by omega)] at hc
  have S : Hid (SrcAt w.drew (some ⟨g, 0, none⟩) k cap (cellsN .u8 (L.take k))) := srcAt_own own.drew k cap hk
  have hcap := own.caps
  unfold maxLen at hcap
  have OW := Lib.hid own.drew
  have HL := Lib.hid hl
  clear hl own
  generalize hv : L.getD k 0 = v at hc
  have HV := Lib.hid hv
  clear hv
  have a5 : (k : Int) ≤ (cap : Int) := by omega
  have a6 : (1 : Int) ≤ (n : Int) := by omega
  have hfin := hk
  have hl0 : 0 < L.length := by rw [HL.out]; omega
  have HF := Lib.hid (fun (w1 : World) d (own1 : Own w1 B 5 1 (some ⟨g, 0, none⟩) n cap ((cellsN .u8 L).take 1 ++ ((cellsN .u8 (L.take k)).take d ++ (cellsN .u8 L).drop (1 + min k d)))) (hg : w.drew.grownBy w1 (blockOf (some ⟨g, 0, none⟩))) (hd : k ≤ d) =>
    own_front own1 hg (by rw [HL.out]; exact hk) hd (by rw [HV.out]))
  by_cases hc1 : cap = 1
  · obtain rfl : k = 0 := by omega
    obtain rfl : n = 1 := by omega
    subst hc1
    go_enter Try.func26, Try.ntmps26
    go_wp2_with fail
    go_region_law (with_reducible refine step_copy_own rfl (.tmp 10) (.tmp 13) 42 42 rfl 5 Try.underlying42 (by kernel_rfl) (some ⟨g, 0, none⟩) 0 0 (some ⟨g, 0, none⟩) 0 1 (by simp [Act.eval, Act.put]) (by simp [Act.eval, Act.put]) OW.out 1 (fun h => by omega) (by omega) _ S.out (by simp [cellsN]) (cellsN_one _ _) ?_; intro w1 own1 grow1)
    obtain ⟨u, hu, hz⟩ := own1.some 0 (by omega)
    have HH := Lib.hid (HF.out w1 _ own1 grow1 (by omega))
    clear own1
    go_wp2_with fail
    go_ret
    exact ⟨ret_int rfl, HH.out.1, grown_drew HH.out.2⟩
  · go_enter Try.func26, Try.ntmps26
    go_wp2_with fail
    go_region_law (with_reducible refine step_copy_own rfl (.tmp 10) (.tmp 13) 42 42 rfl 5 Try.underlying42 (by kernel_rfl) (some ⟨g, 1, none⟩) (n - 1) (cap - 1) (some ⟨g, 0, none⟩) k cap (by simp [Act.eval, Act.put]) (by simp [Act.eval, Act.put]) OW.out 1 (fun _ g' e => by injection e with e; injection e with e; subst e; rfl) (by omega) _ S.out (by simp [cellsN]; have := HL.out; omega) (cellsN_one _ _) ?_; intro w1 own1 grow1)
    obtain ⟨u, hu, hz⟩ := own1.some 0 (by omega)
    have HH := Lib.hid (HF.out w1 _ own1 grow1 (by omega))
    clear own1
    go_wp2_with fail
    go_ret
    exact ⟨ret_int rfl, HH.out.1, grown_drew HH.out.2⟩
end Go.Proofs.Ytdhehnjidakfcaa
