/-
  No cell of these rows narrows 'for every input' (looked for: loops, veiled, ifaces, maps, wideKeys, modest, calm, conditions, laid).
  DERIVED. THE GIVEN ROWS OF THIS SEAT. 6 by the template 'for every input the law returns true; each argument reads behind the call as it read before'; 0 by the template 'total and deterministic' (their statements: YtdhehnjidakfcaaTotals.lean).
  GIVEN WITH THE SEED: the statements are not yours to turn. If you find one false, say at which input.
  Laid BY PROGRAM, IN A SANDBOX (cutbox-rows.mjs): the forced cells as the released guide's own fill.sh prints them over the translation b6afc4f3de97b7a9… (all of the seat's roots in one cut). By AI agents, Wed Nov 11 2026. No macro, syntax, notation, axiom, sorry.
-/
import Derived.Test.YtdhehnjidakfcaaChecked
import GoSem.Claim
import GoSem.ClaimJoined
import GoSem.ClaimMapViews
import Derived.JoinedTies
import Derived.KernelRfl
namespace Go.Proofs.Ytdhehnjidakfcaa
/- THE CELL 'sum', in the pinned program and in every row, IS THE sha256 OF THE DUMP (.gsa) THAT YtdhehnjidakfcaaProg.lean LOADS. Nothing in Lean hashes anything: it is a label: what it is worth is what the hold of that sum in a sandbox is worth. -/
noncomputable def Try.pinned : Pinned := { name := "ytdhehnjidakfcaa", sum := "b6afc4f3de97b7a95af4266b07d14ce7827e2f48a97bd76f50cebbab41c6252b", checked := Try.checked }
namespace Rows
def none {H : Type} : Left H := { results := [], args := [] }

/-- 'laws.FnFront': WHATEVER THE INPUT: true; the input reads as it did. -/
def fnFrontSpec : ChangeSpec := { name := "fnFront", fn := fun _ => fun
  | [d1, d2] => { results := [.lit (.bool true)], args := [d1, d2] }
  | _ => none }
def fnFrontRow : OpenClaim := { program := "ytdhehnjidakfcaa", sum := "b6afc4f3de97b7a95af4266b07d14ce7827e2f48a97bd76f50cebbab41c6252b", func := "barrowwheel/laws.FnFront", spec := "fnFront", apart := false }
def FnFrontSaid : Prop := fnFrontRow.holds Try.pinned (OpenSpec.ofChange fnFrontSpec)

/-- ITS FALSE NEIGHBOUR: 'it returns false'. Refute it at one input. -/
def fnFrontWrong : ChangeSpec := { name := "fnFront", fn := fun _ => fun
  | [d1, d2] => { results := [.lit (.bool false)], args := [d1, d2] }
  | _ => none }
def FnFrontWrongFalsely : Prop := fnFrontRow.holds Try.pinned (OpenSpec.ofChange fnFrontWrong)

/-- 'laws.FnFrontAgain': WHATEVER THE INPUT: true; the input reads as it did. -/
def fnFrontAgainSpec : ChangeSpec := { name := "fnFrontAgain", fn := fun _ => fun
  | [d1, d2, d3] => { results := [.lit (.bool true)], args := [d1, d2, d3] }
  | _ => none }
def fnFrontAgainRow : OpenClaim := { program := "ytdhehnjidakfcaa", sum := "b6afc4f3de97b7a95af4266b07d14ce7827e2f48a97bd76f50cebbab41c6252b", func := "barrowwheel/laws.FnFrontAgain", spec := "fnFrontAgain", apart := false }
def FnFrontAgainSaid : Prop := fnFrontAgainRow.holds Try.pinned (OpenSpec.ofChange fnFrontAgainSpec)

/-- ITS FALSE NEIGHBOUR: 'it returns false'. Refute it at one input. -/
def fnFrontAgainWrong : ChangeSpec := { name := "fnFrontAgain", fn := fun _ => fun
  | [d1, d2, d3] => { results := [.lit (.bool false)], args := [d1, d2, d3] }
  | _ => none }
def FnFrontAgainWrongFalsely : Prop := fnFrontAgainRow.holds Try.pinned (OpenSpec.ofChange fnFrontAgainWrong)

/-- 'laws.FnFrontBack': WHATEVER THE INPUT: true; the input reads as it did. -/
def fnFrontBackSpec : ChangeSpec := { name := "fnFrontBack", fn := fun _ => fun
  | [d1, d2] => { results := [.lit (.bool true)], args := [d1, d2] }
  | _ => none }
def fnFrontBackRow : OpenClaim := { program := "ytdhehnjidakfcaa", sum := "b6afc4f3de97b7a95af4266b07d14ce7827e2f48a97bd76f50cebbab41c6252b", func := "barrowwheel/laws.FnFrontBack", spec := "fnFrontBack", apart := false }
def FnFrontBackSaid : Prop := fnFrontBackRow.holds Try.pinned (OpenSpec.ofChange fnFrontBackSpec)

/-- ITS FALSE NEIGHBOUR: 'it returns false'. Refute it at one input. -/
def fnFrontBackWrong : ChangeSpec := { name := "fnFrontBack", fn := fun _ => fun
  | [d1, d2] => { results := [.lit (.bool false)], args := [d1, d2] }
  | _ => none }
def FnFrontBackWrongFalsely : Prop := fnFrontBackRow.holds Try.pinned (OpenSpec.ofChange fnFrontBackWrong)

/-- 'laws.FnTurnedAny': WHATEVER THE INPUT: true; the input reads as it did. -/
def fnTurnedAnySpec : ChangeSpec := { name := "fnTurnedAny", fn := fun _ => fun
  | [d1, d2] => { results := [.lit (.bool true)], args := [d1, d2] }
  | _ => none }
def fnTurnedAnyRow : OpenClaim := { program := "ytdhehnjidakfcaa", sum := "b6afc4f3de97b7a95af4266b07d14ce7827e2f48a97bd76f50cebbab41c6252b", func := "barrowwheel/laws.FnTurnedAny", spec := "fnTurnedAny", apart := false }
def FnTurnedAnySaid : Prop := fnTurnedAnyRow.holds Try.pinned (OpenSpec.ofChange fnTurnedAnySpec)

/-- ITS FALSE NEIGHBOUR: 'it returns false'. Refute it at one input. -/
def fnTurnedAnyWrong : ChangeSpec := { name := "fnTurnedAny", fn := fun _ => fun
  | [d1, d2] => { results := [.lit (.bool false)], args := [d1, d2] }
  | _ => none }
def FnTurnedAnyWrongFalsely : Prop := fnTurnedAnyRow.holds Try.pinned (OpenSpec.ofChange fnTurnedAnyWrong)

/-- 'laws.FnTurnedBack': WHATEVER THE INPUT: true; the input reads as it did. -/
def fnTurnedBackSpec : ChangeSpec := { name := "fnTurnedBack", fn := fun _ => fun
  | [d] => { results := [.lit (.bool true)], args := [d] }
  | _ => none }
def fnTurnedBackRow : OpenClaim := { program := "ytdhehnjidakfcaa", sum := "b6afc4f3de97b7a95af4266b07d14ce7827e2f48a97bd76f50cebbab41c6252b", func := "barrowwheel/laws.FnTurnedBack", spec := "fnTurnedBack", recurses := true, apart := false }
def FnTurnedBackSaid : Prop := fnTurnedBackRow.holds Try.pinned (OpenSpec.ofChange fnTurnedBackSpec)

/-- ITS FALSE NEIGHBOUR: 'it returns false'. Refute it at one input. -/
def fnTurnedBackWrong : ChangeSpec := { name := "fnTurnedBack", fn := fun _ => fun
  | [d] => { results := [.lit (.bool false)], args := [d] }
  | _ => none }
def FnTurnedBackWrongFalsely : Prop := fnTurnedBackRow.holds Try.pinned (OpenSpec.ofChange fnTurnedBackWrong)

/-- 'laws.FnTurnedRotation': WHATEVER THE INPUT: true; the input reads as it did. -/
def fnTurnedRotationSpec : ChangeSpec := { name := "fnTurnedRotation", fn := fun _ => fun
  | [d1, d2] => { results := [.lit (.bool true)], args := [d1, d2] }
  | _ => none }
def fnTurnedRotationRow : OpenClaim := { program := "ytdhehnjidakfcaa", sum := "b6afc4f3de97b7a95af4266b07d14ce7827e2f48a97bd76f50cebbab41c6252b", func := "barrowwheel/laws.FnTurnedRotation", spec := "fnTurnedRotation", recurses := true, apart := false }
def FnTurnedRotationSaid : Prop := fnTurnedRotationRow.holds Try.pinned (OpenSpec.ofChange fnTurnedRotationSpec)

/-- ITS FALSE NEIGHBOUR: 'it returns false'. Refute it at one input. -/
def fnTurnedRotationWrong : ChangeSpec := { name := "fnTurnedRotation", fn := fun _ => fun
  | [d1, d2] => { results := [.lit (.bool false)], args := [d1, d2] }
  | _ => none }
def FnTurnedRotationWrongFalsely : Prop := fnTurnedRotationRow.holds Try.pinned (OpenSpec.ofChange fnTurnedRotationWrong)

/- THE SECOND FORM. 'bulk': how many values and letters a reading holds, each counted each time it is reached (what is shared counts as often as it is met; a slice's spare places count too). A statement '..UptoSaid' is the law's where the arguments, and the package variables that the reading takes, are together of bulk at most 1048576: NARROWER than '..Said'. Prove '..Said' where nothing that the law and all that it calls make is longer than what came in: it says more and counts as full. Else prove '..UptoSaid'. A law counts once. -/
mutual
def uptoBulk {H : Type} : DataW H → Nat
  | .lit (.string bytes) => bytes.length + 1
  | .lit _ => 1
  | .nil => 1
  | .ptr d => uptoBulk d + 1
  | .slice elems spare => uptoBulkAll elems + uptoBulkAll spare + 1
  | .agg parts => uptoBulkAll parts + 1
  | .iface _ d => uptoBulk d + 1
  | .map entries => uptoBulkEntries entries + 1
  | .held _ => 1
def uptoBulkAll {H : Type} : List (DataW H) → Nat
  | [] => 0
  | d :: r => uptoBulk d + uptoBulkAll r
def uptoBulkEntries {H : Type} : List (Lit × DataW H) → Nat
  | [] => 0
  | x :: r => uptoBulkEntry x + uptoBulkEntries r
def uptoBulkEntry {H : Type} : Lit × DataW H → Nat
  | (.string bytes, d) => bytes.length + uptoBulk d + 1
  | (_, d) => uptoBulk d + 1
 end
def uptoSmall : (H : Type) → List (DataW H) → Bool := fun _ ds => decide (uptoBulkAll ds ≤ 1048576)
def OpenSpec.upto (s : _root_.Go.ChangeSpec) : _root_.Go.OpenSpec := { _root_.Go.OpenSpec.ofChange s with cond := some uptoSmall }

/-- 'laws.FnFront', WHERE WHAT IT READS IS OF BULK AT MOST 1048576: true; the input reads as it did. -/
def fnFrontUptoRow : OpenClaim := { program := "ytdhehnjidakfcaa", sum := "b6afc4f3de97b7a95af4266b07d14ce7827e2f48a97bd76f50cebbab41c6252b", func := "barrowwheel/laws.FnFront", spec := "fnFront", apart := false, narrowed := true }
def FnFrontUptoSaid : Prop := fnFrontUptoRow.holds Try.pinned (OpenSpec.upto fnFrontSpec)

/-- 'laws.FnFrontAgain', WHERE WHAT IT READS IS OF BULK AT MOST 1048576: true; the input reads as it did. -/
def fnFrontAgainUptoRow : OpenClaim := { program := "ytdhehnjidakfcaa", sum := "b6afc4f3de97b7a95af4266b07d14ce7827e2f48a97bd76f50cebbab41c6252b", func := "barrowwheel/laws.FnFrontAgain", spec := "fnFrontAgain", apart := false, narrowed := true }
def FnFrontAgainUptoSaid : Prop := fnFrontAgainUptoRow.holds Try.pinned (OpenSpec.upto fnFrontAgainSpec)

/-- 'laws.FnFrontBack', WHERE WHAT IT READS IS OF BULK AT MOST 1048576: true; the input reads as it did. -/
def fnFrontBackUptoRow : OpenClaim := { program := "ytdhehnjidakfcaa", sum := "b6afc4f3de97b7a95af4266b07d14ce7827e2f48a97bd76f50cebbab41c6252b", func := "barrowwheel/laws.FnFrontBack", spec := "fnFrontBack", apart := false, narrowed := true }
def FnFrontBackUptoSaid : Prop := fnFrontBackUptoRow.holds Try.pinned (OpenSpec.upto fnFrontBackSpec)

/-- 'laws.FnTurnedAny', WHERE WHAT IT READS IS OF BULK AT MOST 1048576: true; the input reads as it did. -/
def fnTurnedAnyUptoRow : OpenClaim := { program := "ytdhehnjidakfcaa", sum := "b6afc4f3de97b7a95af4266b07d14ce7827e2f48a97bd76f50cebbab41c6252b", func := "barrowwheel/laws.FnTurnedAny", spec := "fnTurnedAny", apart := false, narrowed := true }
def FnTurnedAnyUptoSaid : Prop := fnTurnedAnyUptoRow.holds Try.pinned (OpenSpec.upto fnTurnedAnySpec)

/-- 'laws.FnTurnedBack', WHERE WHAT IT READS IS OF BULK AT MOST 1048576: true; the input reads as it did. -/
def fnTurnedBackUptoRow : OpenClaim := { program := "ytdhehnjidakfcaa", sum := "b6afc4f3de97b7a95af4266b07d14ce7827e2f48a97bd76f50cebbab41c6252b", func := "barrowwheel/laws.FnTurnedBack", spec := "fnTurnedBack", recurses := true, apart := false, narrowed := true }
def FnTurnedBackUptoSaid : Prop := fnTurnedBackUptoRow.holds Try.pinned (OpenSpec.upto fnTurnedBackSpec)

/-- 'laws.FnTurnedRotation', WHERE WHAT IT READS IS OF BULK AT MOST 1048576: true; the input reads as it did. -/
def fnTurnedRotationUptoRow : OpenClaim := { program := "ytdhehnjidakfcaa", sum := "b6afc4f3de97b7a95af4266b07d14ce7827e2f48a97bd76f50cebbab41c6252b", func := "barrowwheel/laws.FnTurnedRotation", spec := "fnTurnedRotation", recurses := true, apart := false, narrowed := true }
def FnTurnedRotationUptoSaid : Prop := fnTurnedRotationUptoRow.holds Try.pinned (OpenSpec.upto fnTurnedRotationSpec)

end Rows
end Go.Proofs.Ytdhehnjidakfcaa
