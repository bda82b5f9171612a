/- What the two listed errors are when the call begins. -/
import Derived.Test.YtdhehnjidakfcaaDoorStep
import Derived.Test.YtdhehnjidakfcaaDoorRows
import Derived.ChangeSame
import Derived.ChangeVars
import Derived.JoinedOf
import Derived.RowKitTokens
import Derived.LaidLaws
import Derived.ProofKit
import Derived.LaidMore
import Derived.LaidEql
import Derived.Stop.ErrReads
namespace Go.Proofs.YtdhehnjidakfcaaDoor
open Go.ChangeShapes Go.WideShapes Go.RowKit
set_option linter.unusedVariables false
set_option maxRecDepth 100000
theorem gEof : Tryd.prog.globalNamed "io.EOF" = some 0 := by kernel_rfl
theorem gUnx : Tryd.prog.globalNamed "io.ErrUnexpectedEOF" = some 1 := by kernel_rfl
theorem gEofType : (Tryd.prog.globals[0]?).map (·.type) = some 64 := by kernel_rfl
theorem gUnxType : (Tryd.prog.globals[1]?).map (·.type) = some 64 := by kernel_rfl
theorem cells153 : Tryd.prog.cellsOf 153 = 1 := by kernel_rfl
theorem cells9 : Tryd.prog.cellsOf 9 = 1 := by kernel_rfl
theorem starName : "*" ++ "errors.errorString" = "*errors.errorString" := by decide
theorem row135 (u : TypeId) (h : Tryd.prog.typeName? 3 u = some "*errors.errorString") : u = 135 :=
  typeName_ptr_named (nm := "errors.errorString") (by rw [starName]; kernel_rfl) (by kernel_rfl) (by decide) u (by rw [starName]; exact h)
/-- what the two listed errors are -/
def Errs (w : World) (a0 a1 : Addr) : Prop := w.cell? ⟨0, 0, none⟩ = some (.iface 135 (.pointer (some a0))) ∧ w.cell? ⟨1, 0, none⟩ = some (.iface 135 (.pointer (some a1)))
theorem entry_of {W : World} (h : laidMet Tryd.prog [("io.EOF", Rows.laid_io_EOF), ("io.ErrUnexpectedEOF", Rows.laid_io_ErrUnexpectedEOF)] W) : ∃ a0 a1, Errs W a0 a1 := by
  obtain ⟨ps, ⟨g0, t0, cs0, f0, p0, q0, hg0, ht0, hv0, hd0, ⟨g1, t1, cs1, f1, p1, q1, hg1, ht1, hv1, hd1, hq1, e1⟩, e0⟩, hnd, hrows⟩ := h
  obtain rfl := Option.some.inj (gEof.symm.trans hg0)
  obtain rfl := Option.some.inj (gUnx.symm.trans hg1)
  obtain rfl := Option.some.inj (gEofType.symm.trans ht0)
  obtain rfl := Option.some.inj (gUnxType.symm.trans ht1)
  have hq1' : q1 = [] := hq1
  subst hq1'
  subst e1
  subst e0
  obtain ⟨l0⟩ := cs0
  obtain ⟨l1⟩ := cs1
  have ok0 : ∀ u v, l0 = [.iface u v] → Value.okWide Tryd.prog W .any 0 u v := fun u v e => by
    subst e
    exact (hrows 0 0 (by simp [MemPlace.row])).2 u v (by simpa using World.var?_cell hg0 hv0 0)
  have ok1 : ∀ u v, l1 = [.iface u v] → Value.okWide Tryd.prog W .any 0 u v := fun u v e => by
    subst e
    exact (hrows 1 0 (by simp [MemPlace.row])).2 u v (by simpa using World.var?_cell hg1 hv1 0)
  obtain ⟨a0, s0, rfl, hc0, hs0, hz0, rfl⟩ := errorString_of_trod Tryd.underlying64 row135 Tryd.underlying135 Tryd.underlying153 rfl rfl Tryd.underlying9 cells153 cells9 hd0 ok0
  obtain ⟨a1, s1, rfl, hc1, hs1, hz1, rfl⟩ := errorString_of_trod Tryd.underlying64 row135 Tryd.underlying135 Tryd.underlying153 rfl rfl Tryd.underlying9 cells153 cells9 hd1 ok1
  exact ⟨a0, a1, by simpa using World.var?_cell hg0 hv0 0, by simpa using World.var?_cell hg1 hv1 0⟩
theorem entry {W : World} (_ : W.ShapedOpen Tryd.prog) (h : laidMetH Tryd.prog [("io.EOF", Rows.laid_io_EOF), ("io.ErrUnexpectedEOF", Rows.laid_io_ErrUnexpectedEOF)] W) : ∃ a0 a1, Errs W a0 a1 := entry_of h
theorem Errs.below {w w' : World} {a0 a1 : Addr} (h : Errs w a0 a1) (hb : Below w.heap.size w w') : Errs w' a0 a1 :=
  ⟨(hb.cell (p := ⟨0, 0, none⟩) (lt_of_cell h.1)).trans h.1, (hb.cell (p := ⟨1, 0, none⟩) (lt_of_cell h.2)).trans h.2⟩
end Go.Proofs.YtdhehnjidakfcaaDoor
