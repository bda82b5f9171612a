/-
  NARROWER THAN 'FOR EVERY INPUT', by the rows' own cells (each row's printed sentence says how): FnBits: laid · FnBitsBack: laid · FnBitsTwo: laid · FnSymbols: laid · FnSymbolsBack: laid · FnSymbolsEven: laid.
  DERIVED. THE GIVEN ROWS OF THIS SEAT. 6 by the template 'for every input the law returns true; each argument reads behind the call as it read before'; 0 by the template 'total and deterministic' (their statements: YtdhehnjidakfcaaDoorTotals.lean).
  GIVEN WITH THE SEED: the statements are not yours to turn. If you find one false, say at which input.
  Laid BY PROGRAM, IN A SANDBOX (cutbox-rows.mjs): the forced cells as the released guide's own fill.sh prints them over the translation c40d61af58fa7db2… (all of the seat's roots in one cut). By AI agents, Wed Nov 11 2026. No macro, syntax, notation, axiom, sorry.
-/
import Derived.Test.YtdhehnjidakfcaaDoorChecked
import GoSem.Claim
import GoSem.ClaimJoined
import GoSem.ClaimMapViews
import Derived.JoinedTies
import Derived.KernelRfl
namespace Go.Proofs.YtdhehnjidakfcaaDoor
/- THE CELL 'sum', in the pinned program and in every row, IS THE sha256 OF THE DUMP (.gsa) THAT YtdhehnjidakfcaaDoorProg.lean LOADS. Nothing in Lean hashes anything: it is a label: what it is worth is what the hold of that sum in a sandbox is worth. -/
noncomputable def Tryd.pinned : Pinned := { name := "ytdhehnjidakfcaadoor", sum := "c40d61af58fa7db22e1a4f975e64159af63a927f54ec68959b280203d5925984", checked := Tryd.checked }
namespace Rows
def none {H : Type} : Left H := { results := [], args := [] }

/- WHAT THE LISTED PACKAGE-LEVEL VARIABLES READ AS WHEN THE CALL BEGINS. Each datum BY PROGRAM (the guide's laid-datum.mjs) off the statement by which the dump's own 'gosem.cut.vars' lays the variable. In a bare row this is a premise. The card (YtdhehnjidakfcaaDoorCards.lean) ties it to the program's text. -/
def laid_io_EOF {H : Type} : DataW H := .iface "*errors.errorString" (.ptr (.agg [.lit (.string [69, 79, 70])]))
def laid_io_ErrUnexpectedEOF {H : Type} : DataW H := .iface "*errors.errorString" (.ptr (.agg [.lit (.string [117, 110, 101, 120, 112, 101, 99, 116, 101, 100, 32, 69, 79, 70])]))

/-- 'laws.FnBits': WHATEVER THE INPUT: true; the input reads as it did. -/
def fnBitsSpec : ChangeSpec := { name := "fnBits", fn := fun _ => fun
  | [d1, d2] => { results := [.lit (.bool true)], args := [d1, d2] }
  | _ => none }
def fnBitsRow : OpenClaim := { program := "ytdhehnjidakfcaadoor", sum := "c40d61af58fa7db22e1a4f975e64159af63a927f54ec68959b280203d5925984", func := "barrowwheel/laws.FnBits", spec := "fnBits", unfollowed := true, recurses := true, named := ["io.EOF", "io.ErrUnexpectedEOF"], apart := false, laid := [("io.EOF", laid_io_EOF), ("io.ErrUnexpectedEOF", laid_io_ErrUnexpectedEOF)] }
def FnBitsSaid : Prop := fnBitsRow.holds Tryd.pinned (OpenSpec.ofChange fnBitsSpec)

/-- ITS FALSE NEIGHBOUR: 'it returns false'. Refute it at one input. -/
def fnBitsWrong : ChangeSpec := { name := "fnBits", fn := fun _ => fun
  | [d1, d2] => { results := [.lit (.bool false)], args := [d1, d2] }
  | _ => none }
def FnBitsWrongFalsely : Prop := fnBitsRow.holds Tryd.pinned (OpenSpec.ofChange fnBitsWrong)

/-- 'laws.FnBitsBack': WHATEVER THE INPUT: true; the input reads as it did. -/
def fnBitsBackSpec : ChangeSpec := { name := "fnBitsBack", fn := fun _ => fun
  | [d1, d2] => { results := [.lit (.bool true)], args := [d1, d2] }
  | _ => none }
def fnBitsBackRow : OpenClaim := { program := "ytdhehnjidakfcaadoor", sum := "c40d61af58fa7db22e1a4f975e64159af63a927f54ec68959b280203d5925984", func := "barrowwheel/laws.FnBitsBack", spec := "fnBitsBack", unfollowed := true, recurses := true, named := ["io.EOF", "io.ErrUnexpectedEOF"], apart := false, laid := [("io.EOF", laid_io_EOF), ("io.ErrUnexpectedEOF", laid_io_ErrUnexpectedEOF)] }
def FnBitsBackSaid : Prop := fnBitsBackRow.holds Tryd.pinned (OpenSpec.ofChange fnBitsBackSpec)

/-- ITS FALSE NEIGHBOUR: 'it returns false'. Refute it at one input. -/
def fnBitsBackWrong : ChangeSpec := { name := "fnBitsBack", fn := fun _ => fun
  | [d1, d2] => { results := [.lit (.bool false)], args := [d1, d2] }
  | _ => none }
def FnBitsBackWrongFalsely : Prop := fnBitsBackRow.holds Tryd.pinned (OpenSpec.ofChange fnBitsBackWrong)

/-- 'laws.FnBitsTwo': WHATEVER THE INPUT: true; the input reads as it did. -/
def fnBitsTwoSpec : ChangeSpec := { name := "fnBitsTwo", fn := fun _ => fun
  | [d1, d2, d3] => { results := [.lit (.bool true)], args := [d1, d2, d3] }
  | _ => none }
def fnBitsTwoRow : OpenClaim := { program := "ytdhehnjidakfcaadoor", sum := "c40d61af58fa7db22e1a4f975e64159af63a927f54ec68959b280203d5925984", func := "barrowwheel/laws.FnBitsTwo", spec := "fnBitsTwo", unfollowed := true, recurses := true, named := ["io.EOF", "io.ErrUnexpectedEOF"], apart := false, laid := [("io.EOF", laid_io_EOF), ("io.ErrUnexpectedEOF", laid_io_ErrUnexpectedEOF)] }
def FnBitsTwoSaid : Prop := fnBitsTwoRow.holds Tryd.pinned (OpenSpec.ofChange fnBitsTwoSpec)

/-- ITS FALSE NEIGHBOUR: 'it returns false'. Refute it at one input. -/
def fnBitsTwoWrong : ChangeSpec := { name := "fnBitsTwo", fn := fun _ => fun
  | [d1, d2, d3] => { results := [.lit (.bool false)], args := [d1, d2, d3] }
  | _ => none }
def FnBitsTwoWrongFalsely : Prop := fnBitsTwoRow.holds Tryd.pinned (OpenSpec.ofChange fnBitsTwoWrong)

/-- 'laws.FnSymbols': WHATEVER THE INPUT: true; the input reads as it did. -/
def fnSymbolsSpec : ChangeSpec := { name := "fnSymbols", fn := fun _ => fun
  | [d1, d2, d3, d4] => { results := [.lit (.bool true)], args := [d1, d2, d3, d4] }
  | _ => none }
def fnSymbolsRow : OpenClaim := { program := "ytdhehnjidakfcaadoor", sum := "c40d61af58fa7db22e1a4f975e64159af63a927f54ec68959b280203d5925984", func := "barrowwheel/laws.FnSymbols", spec := "fnSymbols", unfollowed := true, recurses := true, named := ["io.EOF", "io.ErrUnexpectedEOF"], apart := false, laid := [("io.EOF", laid_io_EOF), ("io.ErrUnexpectedEOF", laid_io_ErrUnexpectedEOF)] }
def FnSymbolsSaid : Prop := fnSymbolsRow.holds Tryd.pinned (OpenSpec.ofChange fnSymbolsSpec)

/-- ITS FALSE NEIGHBOUR: 'it returns false'. Refute it at one input. -/
def fnSymbolsWrong : ChangeSpec := { name := "fnSymbols", fn := fun _ => fun
  | [d1, d2, d3, d4] => { results := [.lit (.bool false)], args := [d1, d2, d3, d4] }
  | _ => none }
def FnSymbolsWrongFalsely : Prop := fnSymbolsRow.holds Tryd.pinned (OpenSpec.ofChange fnSymbolsWrong)

/-- 'laws.FnSymbolsBack': WHATEVER THE INPUT: true; the input reads as it did. -/
def fnSymbolsBackSpec : ChangeSpec := { name := "fnSymbolsBack", fn := fun _ => fun
  | [d1, d2, d3] => { results := [.lit (.bool true)], args := [d1, d2, d3] }
  | _ => none }
def fnSymbolsBackRow : OpenClaim := { program := "ytdhehnjidakfcaadoor", sum := "c40d61af58fa7db22e1a4f975e64159af63a927f54ec68959b280203d5925984", func := "barrowwheel/laws.FnSymbolsBack", spec := "fnSymbolsBack", unfollowed := true, recurses := true, named := ["io.EOF", "io.ErrUnexpectedEOF"], apart := false, laid := [("io.EOF", laid_io_EOF), ("io.ErrUnexpectedEOF", laid_io_ErrUnexpectedEOF)] }
def FnSymbolsBackSaid : Prop := fnSymbolsBackRow.holds Tryd.pinned (OpenSpec.ofChange fnSymbolsBackSpec)

/-- ITS FALSE NEIGHBOUR: 'it returns false'. Refute it at one input. -/
def fnSymbolsBackWrong : ChangeSpec := { name := "fnSymbolsBack", fn := fun _ => fun
  | [d1, d2, d3] => { results := [.lit (.bool false)], args := [d1, d2, d3] }
  | _ => none }
def FnSymbolsBackWrongFalsely : Prop := fnSymbolsBackRow.holds Tryd.pinned (OpenSpec.ofChange fnSymbolsBackWrong)

/-- 'laws.FnSymbolsEven': WHATEVER THE INPUT: true; the input reads as it did. -/
def fnSymbolsEvenSpec : ChangeSpec := { name := "fnSymbolsEven", fn := fun _ => fun
  | [d1, d2, d3] => { results := [.lit (.bool true)], args := [d1, d2, d3] }
  | _ => none }
def fnSymbolsEvenRow : OpenClaim := { program := "ytdhehnjidakfcaadoor", sum := "c40d61af58fa7db22e1a4f975e64159af63a927f54ec68959b280203d5925984", func := "barrowwheel/laws.FnSymbolsEven", spec := "fnSymbolsEven", unfollowed := true, recurses := true, named := ["io.EOF", "io.ErrUnexpectedEOF"], apart := false, laid := [("io.EOF", laid_io_EOF), ("io.ErrUnexpectedEOF", laid_io_ErrUnexpectedEOF)] }
def FnSymbolsEvenSaid : Prop := fnSymbolsEvenRow.holds Tryd.pinned (OpenSpec.ofChange fnSymbolsEvenSpec)

/-- ITS FALSE NEIGHBOUR: 'it returns false'. Refute it at one input. -/
def fnSymbolsEvenWrong : ChangeSpec := { name := "fnSymbolsEven", fn := fun _ => fun
  | [d1, d2, d3] => { results := [.lit (.bool false)], args := [d1, d2, d3] }
  | _ => none }
def FnSymbolsEvenWrongFalsely : Prop := fnSymbolsEvenRow.holds Tryd.pinned (OpenSpec.ofChange fnSymbolsEvenWrong)

/- THE SECOND FORM. 'bulk': how many values and letters a reading holds, each counted each time it is reached (what is shared counts as often as it is met; a slice's spare places count too). A statement '..UptoSaid' is the law's where the arguments, and the package variables that the reading takes, are together of bulk at most 1048576: NARROWER than '..Said'. Prove '..Said' where nothing that the law and all that it calls make is longer than what came in: it says more and counts as full. Else prove '..UptoSaid'. A law counts once. -/
mutual
def uptoBulk {H : Type} : DataW H → Nat
  | .lit (.string bytes) => bytes.length + 1
  | .lit _ => 1
  | .nil => 1
  | .ptr d => uptoBulk d + 1
  | .slice elems spare => uptoBulkAll elems + uptoBulkAll spare + 1
  | .agg parts => uptoBulkAll parts + 1
  | .iface _ d => uptoBulk d + 1
  | .map entries => uptoBulkEntries entries + 1
  | .held _ => 1
def uptoBulkAll {H : Type} : List (DataW H) → Nat
  | [] => 0
  | d :: r => uptoBulk d + uptoBulkAll r
def uptoBulkEntries {H : Type} : List (Lit × DataW H) → Nat
  | [] => 0
  | x :: r => uptoBulkEntry x + uptoBulkEntries r
def uptoBulkEntry {H : Type} : Lit × DataW H → Nat
  | (.string bytes, d) => bytes.length + uptoBulk d + 1
  | (_, d) => uptoBulk d + 1
 end
def uptoSmall : (H : Type) → List (DataW H) → Bool := fun _ ds => decide (uptoBulkAll ds ≤ 1048576)
def OpenSpec.upto (s : _root_.Go.ChangeSpec) : _root_.Go.OpenSpec := { _root_.Go.OpenSpec.ofChange s with cond := some uptoSmall }

/-- 'laws.FnBits', WHERE WHAT IT READS IS OF BULK AT MOST 1048576: true; the input reads as it did. -/
def fnBitsUptoRow : OpenClaim := { program := "ytdhehnjidakfcaadoor", sum := "c40d61af58fa7db22e1a4f975e64159af63a927f54ec68959b280203d5925984", func := "barrowwheel/laws.FnBits", spec := "fnBits", unfollowed := true, recurses := true, named := ["io.EOF", "io.ErrUnexpectedEOF"], apart := false, laid := [("io.EOF", laid_io_EOF), ("io.ErrUnexpectedEOF", laid_io_ErrUnexpectedEOF)], narrowed := true }
def FnBitsUptoSaid : Prop := fnBitsUptoRow.holds Tryd.pinned (OpenSpec.upto fnBitsSpec)

/-- 'laws.FnBitsBack', WHERE WHAT IT READS IS OF BULK AT MOST 1048576: true; the input reads as it did. -/
def fnBitsBackUptoRow : OpenClaim := { program := "ytdhehnjidakfcaadoor", sum := "c40d61af58fa7db22e1a4f975e64159af63a927f54ec68959b280203d5925984", func := "barrowwheel/laws.FnBitsBack", spec := "fnBitsBack", unfollowed := true, recurses := true, named := ["io.EOF", "io.ErrUnexpectedEOF"], apart := false, laid := [("io.EOF", laid_io_EOF), ("io.ErrUnexpectedEOF", laid_io_ErrUnexpectedEOF)], narrowed := true }
def FnBitsBackUptoSaid : Prop := fnBitsBackUptoRow.holds Tryd.pinned (OpenSpec.upto fnBitsBackSpec)

/-- 'laws.FnBitsTwo', WHERE WHAT IT READS IS OF BULK AT MOST 1048576: true; the input reads as it did. -/
def fnBitsTwoUptoRow : OpenClaim := { program := "ytdhehnjidakfcaadoor", sum := "c40d61af58fa7db22e1a4f975e64159af63a927f54ec68959b280203d5925984", func := "barrowwheel/laws.FnBitsTwo", spec := "fnBitsTwo", unfollowed := true, recurses := true, named := ["io.EOF", "io.ErrUnexpectedEOF"], apart := false, laid := [("io.EOF", laid_io_EOF), ("io.ErrUnexpectedEOF", laid_io_ErrUnexpectedEOF)], narrowed := true }
def FnBitsTwoUptoSaid : Prop := fnBitsTwoUptoRow.holds Tryd.pinned (OpenSpec.upto fnBitsTwoSpec)

/-- 'laws.FnSymbols', WHERE WHAT IT READS IS OF BULK AT MOST 1048576: true; the input reads as it did. -/
def fnSymbolsUptoRow : OpenClaim := { program := "ytdhehnjidakfcaadoor", sum := "c40d61af58fa7db22e1a4f975e64159af63a927f54ec68959b280203d5925984", func := "barrowwheel/laws.FnSymbols", spec := "fnSymbols", unfollowed := true, recurses := true, named := ["io.EOF", "io.ErrUnexpectedEOF"], apart := false, laid := [("io.EOF", laid_io_EOF), ("io.ErrUnexpectedEOF", laid_io_ErrUnexpectedEOF)], narrowed := true }
def FnSymbolsUptoSaid : Prop := fnSymbolsUptoRow.holds Tryd.pinned (OpenSpec.upto fnSymbolsSpec)

/-- 'laws.FnSymbolsBack', WHERE WHAT IT READS IS OF BULK AT MOST 1048576: true; the input reads as it did. -/
def fnSymbolsBackUptoRow : OpenClaim := { program := "ytdhehnjidakfcaadoor", sum := "c40d61af58fa7db22e1a4f975e64159af63a927f54ec68959b280203d5925984", func := "barrowwheel/laws.FnSymbolsBack", spec := "fnSymbolsBack", unfollowed := true, recurses := true, named := ["io.EOF", "io.ErrUnexpectedEOF"], apart := false, laid := [("io.EOF", laid_io_EOF), ("io.ErrUnexpectedEOF", laid_io_ErrUnexpectedEOF)], narrowed := true }
def FnSymbolsBackUptoSaid : Prop := fnSymbolsBackUptoRow.holds Tryd.pinned (OpenSpec.upto fnSymbolsBackSpec)

/-- 'laws.FnSymbolsEven', WHERE WHAT IT READS IS OF BULK AT MOST 1048576: true; the input reads as it did. -/
def fnSymbolsEvenUptoRow : OpenClaim := { program := "ytdhehnjidakfcaadoor", sum := "c40d61af58fa7db22e1a4f975e64159af63a927f54ec68959b280203d5925984", func := "barrowwheel/laws.FnSymbolsEven", spec := "fnSymbolsEven", unfollowed := true, recurses := true, named := ["io.EOF", "io.ErrUnexpectedEOF"], apart := false, laid := [("io.EOF", laid_io_EOF), ("io.ErrUnexpectedEOF", laid_io_ErrUnexpectedEOF)], narrowed := true }
def FnSymbolsEvenUptoSaid : Prop := fnSymbolsEvenUptoRow.holds Tryd.pinned (OpenSpec.upto fnSymbolsEvenSpec)

end Rows
end Go.Proofs.YtdhehnjidakfcaaDoor
