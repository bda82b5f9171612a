/- The reader of bytes: walked. -/
import Derived.Test.YtdhehnjidakfcaaDoorEntry
import Derived.Test.YtdhehnjidakfcaaDoorBits
import Derived.BigQuiet
import Derived.Deep.QuietTactic
namespace Go.Proofs.YtdhehnjidakfcaaDoor
open Go.RowKit
set_option maxHeartbeats 400000
set_option maxRecDepth 4000
set_option linter.unusedVariables false
set_option linter.unusedSimpArgs false
theorem own_val {w : World} {B : Nat} {e : TypeId} {g n cap : Nat} {xs : List Value} (h : Own w B e 1 (some ⟨g, 0, none⟩) n cap xs) (j : Nat) (v : Value) (hv : xs[j]? = some v) (hj : j < n) :
    w.cell? ⟨g, j, none⟩ = some v ∧ w.frozen? ⟨g, j, none⟩ = false := by
  obtain ⟨g', e, _, _, hc, hf⟩ := h.cell j (by omega)
  obtain rfl : g = g' := by simpa using e
  exact ⟨hc.trans hv, hf⟩
/-- the reader of bytes: where it stands -/
def Rd (w : World) (B Q : Nat) (A : Option Addr) (n cap p : Nat) : Prop := Own w B 78 1 (some ⟨Q, 0, none⟩) 3 3 [.slice A n cap, .int .i64 (p : Int), .int .i64 (-1)]
theorem Rd.touch {w : World} {B Q : Nat} {A : Option Addr} {n cap p : Nat} (h : Rd w B Q A n cap p) : Rd (w.setCell ⟨Q, 2, none⟩ (.int .i64 (-1))) B Q A n cap p ∧ w.grownBy (w.setCell ⟨Q, 2, none⟩ (.int .i64 (-1))) (some Q) :=
  Own.stored h 2 (.int .i64 (-1))
theorem Rd.step {w : World} {B Q : Nat} {A : Option Addr} {n cap p : Nat} (h : Rd w B Q A n cap p) (u : Int) (hu : u = ((p + 1 : Nat) : Int)) : Rd (w.setCell ⟨Q, 1, none⟩ (.int .i64 u)) B Q A n cap (p + 1) ∧ w.grownBy (w.setCell ⟨Q, 1, none⟩ (.int .i64 u)) (some Q) := by
  subst hu
  exact Own.stored h 1 (.int .i64 ((p + 1 : Nat) : Int))
theorem Rd.drewN {w : World} {B Q : Nat} {A : Option Addr} {n cap p : Nat} (h : Rd w B Q A n cap p) (d : Nat) : Rd (w.drewN d) B Q A n cap p := h
theorem grown_drewN {w w' : World} {r : Option Nat} (h : w.grownBy w' r) (d : Nat) : w.grownBy (w'.drewN d) r := ⟨h.1, h.2, h.3, h.4, h.5⟩
theorem cell_far {w w' : World} {g : Nat} (h : w.grownBy w' (some g)) {a : Addr} {v : Value} (hc : w.cell? a = some v) (hne : a.block ≠ g) : w'.cell? a = some v :=
  (World.cell?_of_block (w := w) (h.block a.block (lt_of_cell hc) (fun e => hne (by injection e)))).trans hc
theorem readByte_more (B Q : Nat) (b o : Nat) (n cap p y : Nat) (w : World) (hR : Rd w B Q (some ⟨b, o, none⟩) n cap p) (hc : w.cell? ⟨b, o + p, none⟩ = some (.int .u8 (y : Int))) (hp : p < n) (hn : n ≤ 140737488351232) (hy : y < 256) (hb : b ≠ Q) :
    Calls Tryd.prog 93 #[.pointer (some ⟨Q, 0, none⟩)] w fun e w' => e = .returned (.tuple #[.int .u8 (y : Int), .nilIface]) ∧ Rd w' B Q (some ⟨b, o, none⟩) n cap (p + 1) ∧ w.grownBy w' (some Q) := by
  obtain ⟨h2, f2⟩ := own_val hR 2 _ rfl (by omega)
  have HT := Lib.hid hR.touch
  have HC := Lib.hid hc
  go_enter Tryd.func93, Tryd.ntmps93
  go_wp2_with fail
  have hT := HT.out
  have hc1 := cell_far hT.2 HC.out hb
  generalize w.setCell ⟨Q, 2, none⟩ (.int .i64 (-1)) = w1 at hT hc1
  obtain ⟨k0, _⟩ := own_val hT.1 0 _ rfl (by omega)
  obtain ⟨k1, _⟩ := own_val hT.1 1 _ rfl (by omega)
  have HT1 := Lib.hid hT
  clear hT HT h2 f2 hc HC
  have p1 : (0 : Int) ≤ (p : Int) := by omega
  have p2 : (p : Int) < (n : Int) := by omega
  go_quiet (fail)
  have k0' : (w1.drewN nq).cell? ⟨Q, 0, none⟩ = some (.slice (some ⟨b, o, none⟩) n cap) := k0
  have k1' : (w1.drewN nq).cell? ⟨Q, 1, none⟩ = some (.int .i64 (p : Int)) := k1
  have k2' : (w1.drewN nq).cell? ⟨b, o + p, none⟩ = some (.int .u8 (y : Int)) := hc1
  have HR2 := Lib.hid (HT1.out.1.drewN nq)
  have HG2 := Lib.hid (grown_drewN HT1.out.2 nq)
  generalize w1.drewN nq = w2 at k0' k1' k2' HR2 HG2
  clear k0 k1 hc1 HT1
  go_wp2_with fail
  go_quiet (fail)
  have HR3 := Lib.hid (HR2.out.drewN nq)
  have HG3 := Lib.hid (grown_drewN HG2.out nq)
  generalize w2.drewN nq = w3 at HR3 HG3
  clear k0' k1' k2' HR2 HG2
  obtain ⟨k1, f1⟩ := own_val HR3.out 1 _ rfl (by omega)
  have HF := Lib.hid (HR3.out.step ((p : Int) + 1) (by omega))
  go_wp2_with fail
  go_ret2
  exact ⟨rfl, HF.out.1, HG3.out.trans HF.out.2⟩
theorem readByte_end (B Q : Nat) (A : Option Addr) (n cap : Nat) (a0 a1 : Addr) (w : World) (hR : Rd w B Q A n cap n) (hE : Errs w a0 a1) (hn : n ≤ 140737488351232) (hQ : 1 < Q) :
    Calls Tryd.prog 93 #[.pointer (some ⟨Q, 0, none⟩)] w fun e w' => e = .returned (.tuple #[.int .u8 0, .iface 135 (.pointer (some a0))]) ∧ Rd w' B Q A n cap n ∧ w.grownBy w' (some Q) := by
  obtain ⟨h2, f2⟩ := own_val hR 2 _ rfl (by omega)
  have HT := Lib.hid hR.touch
  have HC := Lib.hid hE.1
  go_enter Tryd.func93, Tryd.ntmps93
  go_wp2_with fail
  have hT := HT.out
  have hc1 := cell_far hT.2 HC.out (by simp; omega)
  generalize w.setCell ⟨Q, 2, none⟩ (.int .i64 (-1)) = w1 at hT hc1
  obtain ⟨k0, _⟩ := own_val hT.1 0 _ rfl (by omega)
  obtain ⟨k1, _⟩ := own_val hT.1 1 _ rfl (by omega)
  have HT1 := Lib.hid hT
  clear hT HT h2 f2 HC
  go_quiet (fail)
  have k2' : (w1.drewN nq).cell? ⟨0, 0, none⟩ = some (.iface 135 (.pointer (some a0))) := hc1
  have HR2 := Lib.hid (HT1.out.1.drewN nq)
  have HG2 := Lib.hid (grown_drewN HT1.out.2 nq)
  generalize w1.drewN nq = w2 at k2' HR2 HG2
  clear k0 k1 hc1 HT1
  go_wp2_with fail
  go_quiet (fail)
  have HR3 := Lib.hid (HR2.out.drewN nq)
  have HG3 := Lib.hid (grown_drewN HG2.out nq)
  generalize w2.drewN nq = w3 at HR3 HG3
  clear k2' HR2 HG2
  go_wp2_with fail
  go_ret2
  exact ⟨rfl, HR3.out, HG3.out⟩
end Go.Proofs.YtdhehnjidakfcaaDoor
