/-
  DERIVED. GIVEN WITH THE SEED: THE CARDS: each row of YtdhehnjidakfcaaDoorRows.lean that lists a variable, with what it lists TIED to the program's text (the seventh form; the later family's looks); each row that meets fmt, with fmt's text TOLD by the authors' own Lean function (tested against real Go, not proved from fmt's source: count such statements apart). THE CARD IS WHAT COUNTS. Prove the row's statement (the work); the ties are given (YtdhehnjidakfcaaDoorTie.lean); close each card by the builder's one call (the guide's Derived/Test/ToyasCard.lean, 'card_holds'). Laid BY PROGRAM, IN A SANDBOX (cutbox-door.mjs). By AI agents, Wed Nov 11 2026. No macro, syntax, notation, axiom, sorry.
-/
import Derived.Test.YtdhehnjidakfcaaDoorRows
import GoSem.ClaimSeven
namespace Go.Proofs.YtdhehnjidakfcaaDoor
namespace Rows

/-- THE TIED CARD OF 'laws.FnBits'. -/
def fnBitsCard : Claim7 := { stood := { row := fnBitsRow, standIns := [], harness := (true, "1eaa5755de1e8c20f5b39afedc34cb6c3be77b3d1b59bd0c49e0a9e95434aa6d"), looks := true }, kinds := [], alts := [], laidByText := true, laidKinds := [.sentinel, .sentinel], laidTests := true, laidLooks := .later }
def FnBitsCardSaid : Prop := Claim7.holds Tryd.pinned (.plain (OpenSpec.ofChange fnBitsSpec)) fnBitsCard

/-- THE TIED CARD OF 'laws.FnBitsBack'. -/
def fnBitsBackCard : Claim7 := { stood := { row := fnBitsBackRow, standIns := [], harness := (true, "1eaa5755de1e8c20f5b39afedc34cb6c3be77b3d1b59bd0c49e0a9e95434aa6d"), looks := true }, kinds := [], alts := [], laidByText := true, laidKinds := [.sentinel, .sentinel], laidTests := true, laidLooks := .later }
def FnBitsBackCardSaid : Prop := Claim7.holds Tryd.pinned (.plain (OpenSpec.ofChange fnBitsBackSpec)) fnBitsBackCard

/-- THE TIED CARD OF 'laws.FnBitsTwo'. -/
def fnBitsTwoCard : Claim7 := { stood := { row := fnBitsTwoRow, standIns := [], harness := (true, "1eaa5755de1e8c20f5b39afedc34cb6c3be77b3d1b59bd0c49e0a9e95434aa6d"), looks := true }, kinds := [], alts := [], laidByText := true, laidKinds := [.sentinel, .sentinel], laidTests := true, laidLooks := .later }
def FnBitsTwoCardSaid : Prop := Claim7.holds Tryd.pinned (.plain (OpenSpec.ofChange fnBitsTwoSpec)) fnBitsTwoCard

/-- THE TIED CARD OF 'laws.FnSymbols'. -/
def fnSymbolsCard : Claim7 := { stood := { row := fnSymbolsRow, standIns := [], harness := (true, "1eaa5755de1e8c20f5b39afedc34cb6c3be77b3d1b59bd0c49e0a9e95434aa6d"), looks := true }, kinds := [], alts := [], laidByText := true, laidKinds := [.sentinel, .sentinel], laidTests := true, laidLooks := .later }
def FnSymbolsCardSaid : Prop := Claim7.holds Tryd.pinned (.plain (OpenSpec.ofChange fnSymbolsSpec)) fnSymbolsCard

/-- THE TIED CARD OF 'laws.FnSymbolsBack'. -/
def fnSymbolsBackCard : Claim7 := { stood := { row := fnSymbolsBackRow, standIns := [], harness := (true, "1eaa5755de1e8c20f5b39afedc34cb6c3be77b3d1b59bd0c49e0a9e95434aa6d"), looks := true }, kinds := [], alts := [], laidByText := true, laidKinds := [.sentinel, .sentinel], laidTests := true, laidLooks := .later }
def FnSymbolsBackCardSaid : Prop := Claim7.holds Tryd.pinned (.plain (OpenSpec.ofChange fnSymbolsBackSpec)) fnSymbolsBackCard

/-- THE TIED CARD OF 'laws.FnSymbolsEven'. -/
def fnSymbolsEvenCard : Claim7 := { stood := { row := fnSymbolsEvenRow, standIns := [], harness := (true, "1eaa5755de1e8c20f5b39afedc34cb6c3be77b3d1b59bd0c49e0a9e95434aa6d"), looks := true }, kinds := [], alts := [], laidByText := true, laidKinds := [.sentinel, .sentinel], laidTests := true, laidLooks := .later }
def FnSymbolsEvenCardSaid : Prop := Claim7.holds Tryd.pinned (.plain (OpenSpec.ofChange fnSymbolsEvenSpec)) fnSymbolsEvenCard

/-- THE SECOND FORM's CARD OF 'laws.FnBits'. -/
def fnBitsUptoCard : Claim7 := { stood := { row := fnBitsUptoRow, standIns := [], harness := (true, "1eaa5755de1e8c20f5b39afedc34cb6c3be77b3d1b59bd0c49e0a9e95434aa6d"), looks := true }, kinds := [], alts := [], laidByText := true, laidKinds := [.sentinel, .sentinel], laidTests := true, laidLooks := .later }
def FnBitsUptoCardSaid : Prop := Claim7.holds Tryd.pinned (.plain (OpenSpec.upto fnBitsSpec)) fnBitsUptoCard

/-- THE SECOND FORM's CARD OF 'laws.FnBitsBack'. -/
def fnBitsBackUptoCard : Claim7 := { stood := { row := fnBitsBackUptoRow, standIns := [], harness := (true, "1eaa5755de1e8c20f5b39afedc34cb6c3be77b3d1b59bd0c49e0a9e95434aa6d"), looks := true }, kinds := [], alts := [], laidByText := true, laidKinds := [.sentinel, .sentinel], laidTests := true, laidLooks := .later }
def FnBitsBackUptoCardSaid : Prop := Claim7.holds Tryd.pinned (.plain (OpenSpec.upto fnBitsBackSpec)) fnBitsBackUptoCard

/-- THE SECOND FORM's CARD OF 'laws.FnBitsTwo'. -/
def fnBitsTwoUptoCard : Claim7 := { stood := { row := fnBitsTwoUptoRow, standIns := [], harness := (true, "1eaa5755de1e8c20f5b39afedc34cb6c3be77b3d1b59bd0c49e0a9e95434aa6d"), looks := true }, kinds := [], alts := [], laidByText := true, laidKinds := [.sentinel, .sentinel], laidTests := true, laidLooks := .later }
def FnBitsTwoUptoCardSaid : Prop := Claim7.holds Tryd.pinned (.plain (OpenSpec.upto fnBitsTwoSpec)) fnBitsTwoUptoCard

/-- THE SECOND FORM's CARD OF 'laws.FnSymbols'. -/
def fnSymbolsUptoCard : Claim7 := { stood := { row := fnSymbolsUptoRow, standIns := [], harness := (true, "1eaa5755de1e8c20f5b39afedc34cb6c3be77b3d1b59bd0c49e0a9e95434aa6d"), looks := true }, kinds := [], alts := [], laidByText := true, laidKinds := [.sentinel, .sentinel], laidTests := true, laidLooks := .later }
def FnSymbolsUptoCardSaid : Prop := Claim7.holds Tryd.pinned (.plain (OpenSpec.upto fnSymbolsSpec)) fnSymbolsUptoCard

/-- THE SECOND FORM's CARD OF 'laws.FnSymbolsBack'. -/
def fnSymbolsBackUptoCard : Claim7 := { stood := { row := fnSymbolsBackUptoRow, standIns := [], harness := (true, "1eaa5755de1e8c20f5b39afedc34cb6c3be77b3d1b59bd0c49e0a9e95434aa6d"), looks := true }, kinds := [], alts := [], laidByText := true, laidKinds := [.sentinel, .sentinel], laidTests := true, laidLooks := .later }
def FnSymbolsBackUptoCardSaid : Prop := Claim7.holds Tryd.pinned (.plain (OpenSpec.upto fnSymbolsBackSpec)) fnSymbolsBackUptoCard

/-- THE SECOND FORM's CARD OF 'laws.FnSymbolsEven'. -/
def fnSymbolsEvenUptoCard : Claim7 := { stood := { row := fnSymbolsEvenUptoRow, standIns := [], harness := (true, "1eaa5755de1e8c20f5b39afedc34cb6c3be77b3d1b59bd0c49e0a9e95434aa6d"), looks := true }, kinds := [], alts := [], laidByText := true, laidKinds := [.sentinel, .sentinel], laidTests := true, laidLooks := .later }
def FnSymbolsEvenUptoCardSaid : Prop := Claim7.holds Tryd.pinned (.plain (OpenSpec.upto fnSymbolsEvenSpec)) fnSymbolsEvenUptoCard
end Rows
end Go.Proofs.YtdhehnjidakfcaaDoor
