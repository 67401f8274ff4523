/-
  DERIVED. GIVEN WITH THE SEED: THE CARDS: each row of YtpebcmfpehdafaaGreatDoorRows.lean that lists a variable, with what it lists TIED to the program's text (the seventh form; the later family's looks); each row that meets fmt, with fmt's text TOLD by the authors' own Lean function (tested against real Go, not proved from fmt's source: count such statements apart). THE CARD IS WHAT COUNTS. Prove the row's statement (the work); the ties are given (YtpebcmfpehdafaaGreatDoorTie.lean); close each card by the builder's one call (the guide's Derived/Test/ToyasCard.lean, 'card_holds'). Laid BY PROGRAM, IN A SANDBOX (cutbox-door.mjs). By AI agents, Wed Nov 11 2026. No macro, syntax, notation, axiom, sorry.
-/
import Derived.Test.YtpebcmfpehdafaaGreatDoorRows
import GoSem.ClaimSeven
namespace Go.Proofs.YtpebcmfpehdafaaGreatDoor
namespace Rows

/-- THE TIED CARD OF 'laws.FnReduceIn'. -/
def fnReduceInCard : Claim7 := { stood := { row := fnReduceInRow, standIns := [], harness := (true, "a8f8c5d1dafc9a971742561e41bcc9c589378a3f2a5264a1f423de2c7019f83c"), looks := true }, kinds := [], alts := [], laidByText := true, laidKinds := [.data, .data, .sentinel, .sentinel, .sentinel, .data, .data, .data, .data, .data], laidTests := true, laidLooks := .later }
def FnReduceInCardSaid : Prop := Claim7.holds Tryz.pinned (.plain (OpenSpec.ofChange fnReduceInSpec)) fnReduceInCard

/-- THE TIED CARD OF 'laws.FnQuo'. -/
def fnQuoCard : Claim7 := { stood := { row := fnQuoRow, standIns := [], harness := (true, "a8f8c5d1dafc9a971742561e41bcc9c589378a3f2a5264a1f423de2c7019f83c"), looks := true }, kinds := [], alts := [], laidByText := true, laidKinds := [.data, .data, .sentinel, .sentinel, .sentinel, .data, .data, .data, .data, .data], laidTests := true, laidLooks := .later }
def FnQuoCardSaid : Prop := Claim7.holds Tryz.pinned (.plain (OpenSpec.ofChange fnQuoSpec)) fnQuoCard

/-- THE TIED CARD OF 'laws.FnQuoInteger'. -/
def fnQuoIntegerCard : Claim7 := { stood := { row := fnQuoIntegerRow, standIns := [], harness := (true, "a8f8c5d1dafc9a971742561e41bcc9c589378a3f2a5264a1f423de2c7019f83c"), looks := true }, kinds := [], alts := [], laidByText := true, laidKinds := [.data, .data, .sentinel, .sentinel, .sentinel, .data, .data, .data, .data, .data], laidTests := true, laidLooks := .later }
def FnQuoIntegerCardSaid : Prop := Claim7.holds Tryz.pinned (.plain (OpenSpec.ofChange fnQuoIntegerSpec)) fnQuoIntegerCard

/-- THE TIED CARD OF 'laws.FnRem'. -/
def fnRemCard : Claim7 := { stood := { row := fnRemRow, standIns := [], harness := (true, "a8f8c5d1dafc9a971742561e41bcc9c589378a3f2a5264a1f423de2c7019f83c"), looks := true }, kinds := [], alts := [], laidByText := true, laidKinds := [.data, .data, .sentinel, .sentinel, .sentinel, .data, .data, .data, .data, .data], laidTests := true, laidLooks := .later }
def FnRemCardSaid : Prop := Claim7.holds Tryz.pinned (.plain (OpenSpec.ofChange fnRemSpec)) fnRemCard

/-- THE SECOND FORM's CARD OF 'laws.FnReduceIn'. -/
def fnReduceInUptoCard : Claim7 := { stood := { row := fnReduceInUptoRow, standIns := [], harness := (true, "a8f8c5d1dafc9a971742561e41bcc9c589378a3f2a5264a1f423de2c7019f83c"), looks := true }, kinds := [], alts := [], laidByText := true, laidKinds := [.data, .data, .sentinel, .sentinel, .sentinel, .data, .data, .data, .data, .data], laidTests := true, laidLooks := .later }
def FnReduceInUptoCardSaid : Prop := Claim7.holds Tryz.pinned (.plain (OpenSpec.upto fnReduceInSpec)) fnReduceInUptoCard

/-- THE SECOND FORM's CARD OF 'laws.FnQuo'. -/
def fnQuoUptoCard : Claim7 := { stood := { row := fnQuoUptoRow, standIns := [], harness := (true, "a8f8c5d1dafc9a971742561e41bcc9c589378a3f2a5264a1f423de2c7019f83c"), looks := true }, kinds := [], alts := [], laidByText := true, laidKinds := [.data, .data, .sentinel, .sentinel, .sentinel, .data, .data, .data, .data, .data], laidTests := true, laidLooks := .later }
def FnQuoUptoCardSaid : Prop := Claim7.holds Tryz.pinned (.plain (OpenSpec.upto fnQuoSpec)) fnQuoUptoCard

/-- THE SECOND FORM's CARD OF 'laws.FnQuoInteger'. -/
def fnQuoIntegerUptoCard : Claim7 := { stood := { row := fnQuoIntegerUptoRow, standIns := [], harness := (true, "a8f8c5d1dafc9a971742561e41bcc9c589378a3f2a5264a1f423de2c7019f83c"), looks := true }, kinds := [], alts := [], laidByText := true, laidKinds := [.data, .data, .sentinel, .sentinel, .sentinel, .data, .data, .data, .data, .data], laidTests := true, laidLooks := .later }
def FnQuoIntegerUptoCardSaid : Prop := Claim7.holds Tryz.pinned (.plain (OpenSpec.upto fnQuoIntegerSpec)) fnQuoIntegerUptoCard

/-- THE SECOND FORM's CARD OF 'laws.FnRem'. -/
def fnRemUptoCard : Claim7 := { stood := { row := fnRemUptoRow, standIns := [], harness := (true, "a8f8c5d1dafc9a971742561e41bcc9c589378a3f2a5264a1f423de2c7019f83c"), looks := true }, kinds := [], alts := [], laidByText := true, laidKinds := [.data, .data, .sentinel, .sentinel, .sentinel, .data, .data, .data, .data, .data], laidTests := true, laidLooks := .later }
def FnRemUptoCardSaid : Prop := Claim7.holds Tryz.pinned (.plain (OpenSpec.upto fnRemSpec)) fnRemUptoCard
end Rows
end Go.Proofs.YtpebcmfpehdafaaGreatDoor
