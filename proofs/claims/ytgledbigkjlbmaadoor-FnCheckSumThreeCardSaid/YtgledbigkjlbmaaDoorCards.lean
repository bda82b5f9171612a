/-
  DERIVED. GIVEN WITH THE SEED: THE CARDS: each row of YtgledbigkjlbmaaDoorRows.lean that lists a variable, with what it lists TIED to the program's text (the seventh form; the later family's looks); each row that meets fmt, with fmt's text TOLD by the authors' own Lean function (tested against real Go, not proved from fmt's source: count such statements apart). THE CARD IS WHAT COUNTS. Prove the row's statement (the work); the ties are given (YtgledbigkjlbmaaDoorTie.lean); close each card by the builder's one call (the guide's Derived/Test/ToyasCard.lean, 'card_holds'). Laid BY PROGRAM, IN A SANDBOX (cutbox-door.mjs). By AI agents, Wed Nov 11 2026. No macro, syntax, notation, axiom, sorry.
-/
import Derived.Test.YtgledbigkjlbmaaDoorRows
import GoSem.ClaimSeven
namespace Go.Proofs.YtgledbigkjlbmaaDoor
namespace Rows

/-- THE TIED CARD OF 'laws.FnCheckSum'. -/
def fnCheckSumCard : Claim7 := { stood := { row := fnCheckSumRow, standIns := [], harness := (true, "436793a8198b8097a8e5def7fcc0c65b137913e0ffdffff3e7a2620d462b9e45"), looks := false }, kinds := [], alts := [], laidByText := true, laidKinds := [.data], laidTests := true, laidLooks := .later }
def FnCheckSumCardSaid : Prop := Claim7.holds Tryd.pinned (.plain (OpenSpec.ofChange fnCheckSumSpec)) fnCheckSumCard

/-- THE TIED CARD OF 'laws.FnCheckSumForged'. -/
def fnCheckSumForgedCard : Claim7 := { stood := { row := fnCheckSumForgedRow, standIns := [], harness := (true, "436793a8198b8097a8e5def7fcc0c65b137913e0ffdffff3e7a2620d462b9e45"), looks := false }, kinds := [], alts := [], laidByText := true, laidKinds := [.data], laidTests := true, laidLooks := .later }
def FnCheckSumForgedCardSaid : Prop := Claim7.holds Tryd.pinned (.plain (OpenSpec.ofChange fnCheckSumForgedSpec)) fnCheckSumForgedCard

/-- THE TIED CARD OF 'laws.FnCheckSumOn'. -/
def fnCheckSumOnCard : Claim7 := { stood := { row := fnCheckSumOnRow, standIns := [], harness := (true, "436793a8198b8097a8e5def7fcc0c65b137913e0ffdffff3e7a2620d462b9e45"), looks := false }, kinds := [], alts := [], laidByText := true, laidKinds := [.data], laidTests := true, laidLooks := .later }
def FnCheckSumOnCardSaid : Prop := Claim7.holds Tryd.pinned (.plain (OpenSpec.ofChange fnCheckSumOnSpec)) fnCheckSumOnCard

/-- THE TIED CARD OF 'laws.FnCheckSumParts'. -/
def fnCheckSumPartsCard : Claim7 := { stood := { row := fnCheckSumPartsRow, standIns := [], harness := (true, "436793a8198b8097a8e5def7fcc0c65b137913e0ffdffff3e7a2620d462b9e45"), looks := false }, kinds := [], alts := [], laidByText := true, laidKinds := [.data], laidTests := true, laidLooks := .later }
def FnCheckSumPartsCardSaid : Prop := Claim7.holds Tryd.pinned (.plain (OpenSpec.ofChange fnCheckSumPartsSpec)) fnCheckSumPartsCard

/-- THE TIED CARD OF 'laws.FnCheckSumThree'. -/
def fnCheckSumThreeCard : Claim7 := { stood := { row := fnCheckSumThreeRow, standIns := [], harness := (true, "436793a8198b8097a8e5def7fcc0c65b137913e0ffdffff3e7a2620d462b9e45"), looks := false }, kinds := [], alts := [], laidByText := true, laidKinds := [.data], laidTests := true, laidLooks := .later }
def FnCheckSumThreeCardSaid : Prop := Claim7.holds Tryd.pinned (.plain (OpenSpec.ofChange fnCheckSumThreeSpec)) fnCheckSumThreeCard

/-- THE TIED CARD OF 'laws.FnCheckSumWord'. -/
def fnCheckSumWordCard : Claim7 := { stood := { row := fnCheckSumWordRow, standIns := [], harness := (true, "436793a8198b8097a8e5def7fcc0c65b137913e0ffdffff3e7a2620d462b9e45"), looks := false }, kinds := [], alts := [], laidByText := true, laidKinds := [.data], laidTests := true, laidLooks := .later }
def FnCheckSumWordCardSaid : Prop := Claim7.holds Tryd.pinned (.plain (OpenSpec.ofChange fnCheckSumWordSpec)) fnCheckSumWordCard

/-- THE SECOND FORM's CARD OF 'laws.FnCheckSum'. -/
def fnCheckSumUptoCard : Claim7 := { stood := { row := fnCheckSumUptoRow, standIns := [], harness := (true, "436793a8198b8097a8e5def7fcc0c65b137913e0ffdffff3e7a2620d462b9e45"), looks := false }, kinds := [], alts := [], laidByText := true, laidKinds := [.data], laidTests := true, laidLooks := .later }
def FnCheckSumUptoCardSaid : Prop := Claim7.holds Tryd.pinned (.plain (OpenSpec.upto fnCheckSumSpec)) fnCheckSumUptoCard

/-- THE SECOND FORM's CARD OF 'laws.FnCheckSumForged'. -/
def fnCheckSumForgedUptoCard : Claim7 := { stood := { row := fnCheckSumForgedUptoRow, standIns := [], harness := (true, "436793a8198b8097a8e5def7fcc0c65b137913e0ffdffff3e7a2620d462b9e45"), looks := false }, kinds := [], alts := [], laidByText := true, laidKinds := [.data], laidTests := true, laidLooks := .later }
def FnCheckSumForgedUptoCardSaid : Prop := Claim7.holds Tryd.pinned (.plain (OpenSpec.upto fnCheckSumForgedSpec)) fnCheckSumForgedUptoCard

/-- THE SECOND FORM's CARD OF 'laws.FnCheckSumOn'. -/
def fnCheckSumOnUptoCard : Claim7 := { stood := { row := fnCheckSumOnUptoRow, standIns := [], harness := (true, "436793a8198b8097a8e5def7fcc0c65b137913e0ffdffff3e7a2620d462b9e45"), looks := false }, kinds := [], alts := [], laidByText := true, laidKinds := [.data], laidTests := true, laidLooks := .later }
def FnCheckSumOnUptoCardSaid : Prop := Claim7.holds Tryd.pinned (.plain (OpenSpec.upto fnCheckSumOnSpec)) fnCheckSumOnUptoCard

/-- THE SECOND FORM's CARD OF 'laws.FnCheckSumParts'. -/
def fnCheckSumPartsUptoCard : Claim7 := { stood := { row := fnCheckSumPartsUptoRow, standIns := [], harness := (true, "436793a8198b8097a8e5def7fcc0c65b137913e0ffdffff3e7a2620d462b9e45"), looks := false }, kinds := [], alts := [], laidByText := true, laidKinds := [.data], laidTests := true, laidLooks := .later }
def FnCheckSumPartsUptoCardSaid : Prop := Claim7.holds Tryd.pinned (.plain (OpenSpec.upto fnCheckSumPartsSpec)) fnCheckSumPartsUptoCard

/-- THE SECOND FORM's CARD OF 'laws.FnCheckSumThree'. -/
def fnCheckSumThreeUptoCard : Claim7 := { stood := { row := fnCheckSumThreeUptoRow, standIns := [], harness := (true, "436793a8198b8097a8e5def7fcc0c65b137913e0ffdffff3e7a2620d462b9e45"), looks := false }, kinds := [], alts := [], laidByText := true, laidKinds := [.data], laidTests := true, laidLooks := .later }
def FnCheckSumThreeUptoCardSaid : Prop := Claim7.holds Tryd.pinned (.plain (OpenSpec.upto fnCheckSumThreeSpec)) fnCheckSumThreeUptoCard

/-- THE SECOND FORM's CARD OF 'laws.FnCheckSumWord'. -/
def fnCheckSumWordUptoCard : Claim7 := { stood := { row := fnCheckSumWordUptoRow, standIns := [], harness := (true, "436793a8198b8097a8e5def7fcc0c65b137913e0ffdffff3e7a2620d462b9e45"), looks := false }, kinds := [], alts := [], laidByText := true, laidKinds := [.data], laidTests := true, laidLooks := .later }
def FnCheckSumWordUptoCardSaid : Prop := Claim7.holds Tryd.pinned (.plain (OpenSpec.upto fnCheckSumWordSpec)) fnCheckSumWordUptoCard
end Rows
end Go.Proofs.YtgledbigkjlbmaaDoor
