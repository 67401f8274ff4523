/-
  DERIVED. GIVEN WITH THE SEED: THE CARDS: each row of YtakldnejjodpeaaGreatDoorRows.lean that lists a variable, with what it lists TIED to the program's text (the seventh form; the later family's looks); each row that meets fmt, with fmt's text TOLD by the authors' own Lean function (tested against real Go, not proved from fmt's source: count such statements apart). THE CARD IS WHAT COUNTS. Prove the row's statement (the work); the ties are given (YtakldnejjodpeaaGreatDoorTie.lean); close each card by the builder's one call (the guide's Derived/Test/ToyasCard.lean, 'card_holds'). Laid BY PROGRAM, IN A SANDBOX (cutbox-door.mjs). By AI agents, Wed Nov 11 2026. No macro, syntax, notation, axiom, sorry.
-/
import Derived.Test.YtakldnejjodpeaaGreatDoorRows
import GoSem.ClaimSeven
namespace Go.Proofs.YtakldnejjodpeaaGreatDoor
namespace Rows

/-- THE TIED CARD OF 'laws.FnIntegralExact'. -/
def fnIntegralExactCard : Claim7 := { stood := { row := fnIntegralExactRow, standIns := [], harness := (true, "b835f7a8b0def60598f1f59424fa18cb3d48aab15362e0a0ad80c71217375e60"), looks := true }, kinds := [], alts := [], laidByText := true, laidKinds := [.data, .data, .sentinel, .sentinel, .sentinel, .data, .data, .data, .data, .data], laidTests := true, laidLooks := .later }
def FnIntegralExactCardSaid : Prop := Claim7.holds Tryz.pinned (.plain (OpenSpec.ofChange fnIntegralExactSpec)) fnIntegralExactCard

/-- THE TIED CARD OF 'laws.FnIntegralValue'. -/
def fnIntegralValueCard : Claim7 := { stood := { row := fnIntegralValueRow, standIns := [], harness := (true, "b835f7a8b0def60598f1f59424fa18cb3d48aab15362e0a0ad80c71217375e60"), looks := true }, kinds := [], alts := [], laidByText := true, laidKinds := [.data, .data, .sentinel, .sentinel, .sentinel, .data, .data, .data, .data, .data], laidTests := true, laidLooks := .later }
def FnIntegralValueCardSaid : Prop := Claim7.holds Tryz.pinned (.plain (OpenSpec.ofChange fnIntegralValueSpec)) fnIntegralValueCard

/-- THE TIED CARD OF 'laws.FnNeg'. -/
def fnNegCard : Claim7 := { stood := { row := fnNegRow, standIns := [], harness := (true, "b835f7a8b0def60598f1f59424fa18cb3d48aab15362e0a0ad80c71217375e60"), looks := true }, kinds := [], alts := [], laidByText := true, laidKinds := [.data, .data, .sentinel, .sentinel, .sentinel, .data, .data, .data, .data, .data], laidTests := true, laidLooks := .later }
def FnNegCardSaid : Prop := Claim7.holds Tryz.pinned (.plain (OpenSpec.ofChange fnNegSpec)) fnNegCard

/-- THE TIED CARD OF 'laws.FnRound'. -/
def fnRoundCard : Claim7 := { stood := { row := fnRoundRow, standIns := [], harness := (true, "b835f7a8b0def60598f1f59424fa18cb3d48aab15362e0a0ad80c71217375e60"), looks := true }, kinds := [], alts := [], laidByText := true, laidKinds := [.data, .data, .sentinel, .sentinel, .sentinel, .data, .data, .data, .data, .data], laidTests := true, laidLooks := .later }
def FnRoundCardSaid : Prop := Claim7.holds Tryz.pinned (.plain (OpenSpec.ofChange fnRoundSpec)) fnRoundCard

/-- THE SECOND FORM's CARD OF 'laws.FnIntegralExact'. -/
def fnIntegralExactUptoCard : Claim7 := { stood := { row := fnIntegralExactUptoRow, standIns := [], harness := (true, "b835f7a8b0def60598f1f59424fa18cb3d48aab15362e0a0ad80c71217375e60"), looks := true }, kinds := [], alts := [], laidByText := true, laidKinds := [.data, .data, .sentinel, .sentinel, .sentinel, .data, .data, .data, .data, .data], laidTests := true, laidLooks := .later }
def FnIntegralExactUptoCardSaid : Prop := Claim7.holds Tryz.pinned (.plain (OpenSpec.upto fnIntegralExactSpec)) fnIntegralExactUptoCard

/-- THE SECOND FORM's CARD OF 'laws.FnIntegralValue'. -/
def fnIntegralValueUptoCard : Claim7 := { stood := { row := fnIntegralValueUptoRow, standIns := [], harness := (true, "b835f7a8b0def60598f1f59424fa18cb3d48aab15362e0a0ad80c71217375e60"), looks := true }, kinds := [], alts := [], laidByText := true, laidKinds := [.data, .data, .sentinel, .sentinel, .sentinel, .data, .data, .data, .data, .data], laidTests := true, laidLooks := .later }
def FnIntegralValueUptoCardSaid : Prop := Claim7.holds Tryz.pinned (.plain (OpenSpec.upto fnIntegralValueSpec)) fnIntegralValueUptoCard

/-- THE SECOND FORM's CARD OF 'laws.FnNeg'. -/
def fnNegUptoCard : Claim7 := { stood := { row := fnNegUptoRow, standIns := [], harness := (true, "b835f7a8b0def60598f1f59424fa18cb3d48aab15362e0a0ad80c71217375e60"), looks := true }, kinds := [], alts := [], laidByText := true, laidKinds := [.data, .data, .sentinel, .sentinel, .sentinel, .data, .data, .data, .data, .data], laidTests := true, laidLooks := .later }
def FnNegUptoCardSaid : Prop := Claim7.holds Tryz.pinned (.plain (OpenSpec.upto fnNegSpec)) fnNegUptoCard

/-- THE SECOND FORM's CARD OF 'laws.FnRound'. -/
def fnRoundUptoCard : Claim7 := { stood := { row := fnRoundUptoRow, standIns := [], harness := (true, "b835f7a8b0def60598f1f59424fa18cb3d48aab15362e0a0ad80c71217375e60"), looks := true }, kinds := [], alts := [], laidByText := true, laidKinds := [.data, .data, .sentinel, .sentinel, .sentinel, .data, .data, .data, .data, .data], laidTests := true, laidLooks := .later }
def FnRoundUptoCardSaid : Prop := Claim7.holds Tryz.pinned (.plain (OpenSpec.upto fnRoundSpec)) fnRoundUptoCard
end Rows
end Go.Proofs.YtakldnejjodpeaaGreatDoor
