/-
  DERIVED. GIVEN WITH THE SEED: THE CARDS: each row of YtamldngoemdfgaaGreatDoorRows.lean that lists a variable, with what it lists TIED to the program's text (the seventh form; the later family's looks); each row that meets fmt, with fmt's text TOLD by the authors' own Lean function (tested against real Go, not proved from fmt's source: count such statements apart). THE CARD IS WHAT COUNTS. Prove the row's statement (the work); the ties are given (YtamldngoemdfgaaGreatDoorTie.lean); close each card by the builder's one call (the guide's Derived/Test/ToyasCard.lean, 'card_holds'). Laid BY PROGRAM, IN A SANDBOX (cutbox-door.mjs). By AI agents, Wed Nov 11 2026. No macro, syntax, notation, axiom, sorry.
-/
import Derived.Test.YtamldngoemdfgaaGreatDoorRows
import GoSem.ClaimSeven
namespace Go.Proofs.YtamldngoemdfgaaGreatDoor
namespace Rows

/-- THE TIED CARD OF 'laws.FnCeil'. -/
def fnCeilCard : Claim7 := { stood := { row := fnCeilRow, standIns := [], harness := (true, "45739be6b2e0506a16875fa59425a4873211215b3d544f5216537959bf7ebc5d"), looks := true }, kinds := [], alts := [], laidByText := true, laidKinds := [.data, .data, .sentinel, .sentinel, .sentinel, .data, .data, .data, .data, .data], laidTests := true, laidLooks := .later }
def FnCeilCardSaid : Prop := Claim7.holds Tryz.pinned (.plain (OpenSpec.ofChange fnCeilSpec)) fnCeilCard

/-- THE TIED CARD OF 'laws.FnFloor'. -/
def fnFloorCard : Claim7 := { stood := { row := fnFloorRow, standIns := [], harness := (true, "45739be6b2e0506a16875fa59425a4873211215b3d544f5216537959bf7ebc5d"), looks := true }, kinds := [], alts := [], laidByText := true, laidKinds := [.data, .data, .sentinel, .sentinel, .sentinel, .data, .data, .data, .data, .data], laidTests := true, laidLooks := .later }
def FnFloorCardSaid : Prop := Claim7.holds Tryz.pinned (.plain (OpenSpec.ofChange fnFloorSpec)) fnFloorCard

/-- THE SECOND FORM's CARD OF 'laws.FnCeil'. -/
def fnCeilUptoCard : Claim7 := { stood := { row := fnCeilUptoRow, standIns := [], harness := (true, "45739be6b2e0506a16875fa59425a4873211215b3d544f5216537959bf7ebc5d"), looks := true }, kinds := [], alts := [], laidByText := true, laidKinds := [.data, .data, .sentinel, .sentinel, .sentinel, .data, .data, .data, .data, .data], laidTests := true, laidLooks := .later }
def FnCeilUptoCardSaid : Prop := Claim7.holds Tryz.pinned (.plain (OpenSpec.upto fnCeilSpec)) fnCeilUptoCard

/-- THE SECOND FORM's CARD OF 'laws.FnFloor'. -/
def fnFloorUptoCard : Claim7 := { stood := { row := fnFloorUptoRow, standIns := [], harness := (true, "45739be6b2e0506a16875fa59425a4873211215b3d544f5216537959bf7ebc5d"), looks := true }, kinds := [], alts := [], laidByText := true, laidKinds := [.data, .data, .sentinel, .sentinel, .sentinel, .data, .data, .data, .data, .data], laidTests := true, laidLooks := .later }
def FnFloorUptoCardSaid : Prop := Claim7.holds Tryz.pinned (.plain (OpenSpec.upto fnFloorSpec)) fnFloorUptoCard
end Rows
end Go.Proofs.YtamldngoemdfgaaGreatDoor
