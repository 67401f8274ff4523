/-
  DERIVED. GIVEN WITH THE SEED: THE CARDS: each row of YtegjllplmnpbdaaGreatDoorRows.lean that lists a variable, with what it lists TIED to the program's text (the seventh form; the later family's looks); each row that meets fmt, with fmt's text TOLD by the authors' own Lean function (tested against real Go, not proved from fmt's source: count such statements apart). THE CARD IS WHAT COUNTS. Prove the row's statement (the work); the ties are given (YtegjllplmnpbdaaGreatDoorTie.lean); close each card by the builder's one call (the guide's Derived/Test/ToyasCard.lean, 'card_holds'). Laid BY PROGRAM, IN A SANDBOX (cutbox-door.mjs). By AI agents, Wed Nov 11 2026. No macro, syntax, notation, axiom, sorry.
-/
import Derived.Test.YtegjllplmnpbdaaGreatDoorRows
import GoSem.ClaimSeven
namespace Go.Proofs.YtegjllplmnpbdaaGreatDoor
namespace Rows

/-- THE TIED CARD OF 'laws.FnAbs'. -/
def fnAbsCard : Claim7 := { stood := { row := fnAbsRow, standIns := [], harness := (true, "46d0ba18d894d9c1a58c24240d89d37067f143f6dedbbe64b0f4c9877d66fea9"), looks := true }, kinds := [], alts := [], laidByText := true, laidKinds := [.data, .data, .sentinel, .sentinel, .sentinel, .data, .data, .data, .data, .data], laidTests := true, laidLooks := .later }
def FnAbsCardSaid : Prop := Claim7.holds Tryz.pinned (.plain (OpenSpec.ofChange fnAbsSpec)) fnAbsCard

/-- THE SECOND FORM's CARD OF 'laws.FnAbs'. -/
def fnAbsUptoCard : Claim7 := { stood := { row := fnAbsUptoRow, standIns := [], harness := (true, "46d0ba18d894d9c1a58c24240d89d37067f143f6dedbbe64b0f4c9877d66fea9"), looks := true }, kinds := [], alts := [], laidByText := true, laidKinds := [.data, .data, .sentinel, .sentinel, .sentinel, .data, .data, .data, .data, .data], laidTests := true, laidLooks := .later }
def FnAbsUptoCardSaid : Prop := Claim7.holds Tryz.pinned (.plain (OpenSpec.upto fnAbsSpec)) fnAbsUptoCard
end Rows
end Go.Proofs.YtegjllplmnpbdaaGreatDoor
