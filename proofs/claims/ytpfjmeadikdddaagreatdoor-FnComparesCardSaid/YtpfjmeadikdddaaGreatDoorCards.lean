/-
  DERIVED. GIVEN WITH THE SEED: THE CARDS: each row of YtpfjmeadikdddaaGreatDoorRows.lean that lists a variable, with what it lists TIED to the program's text (the seventh form; the later family's looks); each row that meets fmt, with fmt's text TOLD by the authors' own Lean function (tested against real Go, not proved from fmt's source: count such statements apart). THE CARD IS WHAT COUNTS. Prove the row's statement (the work); the ties are given (YtpfjmeadikdddaaGreatDoorTie.lean); close each card by the builder's one call (the guide's Derived/Test/ToyasCard.lean, 'card_holds'). Laid BY PROGRAM, IN A SANDBOX (cutbox-door.mjs). By AI agents, Wed Nov 11 2026. No macro, syntax, notation, axiom, sorry.
-/
import Derived.Test.YtpfjmeadikdddaaGreatDoorRows
import GoSem.ClaimSeven
namespace Go.Proofs.YtpfjmeadikdddaaGreatDoor
namespace Rows

/-- THE TIED CARD OF 'laws.FnAdd'. -/
def fnAddCard : Claim7 := { stood := { row := fnAddRow, standIns := [], harness := (true, "05b43d583511567ea46fada774e58beecf20e7bb53337ae03f939af21c4fa49b"), looks := true }, kinds := [], alts := [], laidByText := true, laidKinds := [.data, .data, .sentinel, .sentinel, .sentinel, .data, .data, .data, .data, .data], laidTests := true, laidLooks := .later }
def FnAddCardSaid : Prop := Claim7.holds Tryz.pinned (.plain (OpenSpec.ofChange fnAddSpec)) fnAddCard

/-- THE TIED CARD OF 'laws.FnQuantize'. -/
def fnQuantizeCard : Claim7 := { stood := { row := fnQuantizeRow, standIns := [], harness := (true, "05b43d583511567ea46fada774e58beecf20e7bb53337ae03f939af21c4fa49b"), looks := true }, kinds := [], alts := [], laidByText := true, laidKinds := [.data, .data, .sentinel, .sentinel, .sentinel, .data, .data, .data, .data, .data], laidTests := true, laidLooks := .later }
def FnQuantizeCardSaid : Prop := Claim7.holds Tryz.pinned (.plain (OpenSpec.ofChange fnQuantizeSpec)) fnQuantizeCard

/-- THE TIED CARD OF 'laws.FnCompares'. -/
def fnComparesCard : Claim7 := { stood := { row := fnComparesRow, standIns := [], harness := (true, "05b43d583511567ea46fada774e58beecf20e7bb53337ae03f939af21c4fa49b"), looks := true }, kinds := [], alts := [], laidByText := true, laidKinds := [.data, .data, .sentinel, .sentinel, .sentinel, .data, .data, .data, .data, .data], laidTests := true, laidLooks := .later }
def FnComparesCardSaid : Prop := Claim7.holds Tryz.pinned (.plain (OpenSpec.ofChange fnComparesSpec)) fnComparesCard

/-- THE TIED CARD OF 'laws.FnCmp'. -/
def fnCmpCard : Claim7 := { stood := { row := fnCmpRow, standIns := [], harness := (true, "05b43d583511567ea46fada774e58beecf20e7bb53337ae03f939af21c4fa49b"), looks := true }, kinds := [], alts := [], laidByText := true, laidKinds := [.data, .data, .sentinel, .sentinel, .sentinel, .data, .data, .data, .data, .data], laidTests := true, laidLooks := .later }
def FnCmpCardSaid : Prop := Claim7.holds Tryz.pinned (.plain (OpenSpec.ofChange fnCmpSpec)) fnCmpCard

/-- THE TIED CARD OF 'laws.FnReduceIn'. -/
def fnReduceInCard : Claim7 := { stood := { row := fnReduceInRow, standIns := [], harness := (true, "05b43d583511567ea46fada774e58beecf20e7bb53337ae03f939af21c4fa49b"), looks := true }, kinds := [], alts := [], laidByText := true, laidKinds := [.data, .data, .sentinel, .sentinel, .sentinel, .data, .data, .data, .data, .data], laidTests := true, laidLooks := .later }
def FnReduceInCardSaid : Prop := Claim7.holds Tryz.pinned (.plain (OpenSpec.ofChange fnReduceInSpec)) fnReduceInCard

/-- THE TIED CARD OF 'laws.FnMul'. -/
def fnMulCard : Claim7 := { stood := { row := fnMulRow, standIns := [], harness := (true, "05b43d583511567ea46fada774e58beecf20e7bb53337ae03f939af21c4fa49b"), looks := true }, kinds := [], alts := [], laidByText := true, laidKinds := [.data, .data, .sentinel, .sentinel, .sentinel, .data, .data, .data, .data, .data], laidTests := true, laidLooks := .later }
def FnMulCardSaid : Prop := Claim7.holds Tryz.pinned (.plain (OpenSpec.ofChange fnMulSpec)) fnMulCard

/-- THE TIED CARD OF 'laws.FnSub'. -/
def fnSubCard : Claim7 := { stood := { row := fnSubRow, standIns := [], harness := (true, "05b43d583511567ea46fada774e58beecf20e7bb53337ae03f939af21c4fa49b"), looks := true }, kinds := [], alts := [], laidByText := true, laidKinds := [.data, .data, .sentinel, .sentinel, .sentinel, .data, .data, .data, .data, .data], laidTests := true, laidLooks := .later }
def FnSubCardSaid : Prop := Claim7.holds Tryz.pinned (.plain (OpenSpec.ofChange fnSubSpec)) fnSubCard

/-- THE SECOND FORM's CARD OF 'laws.FnAdd'. -/
def fnAddUptoCard : Claim7 := { stood := { row := fnAddUptoRow, standIns := [], harness := (true, "05b43d583511567ea46fada774e58beecf20e7bb53337ae03f939af21c4fa49b"), looks := true }, kinds := [], alts := [], laidByText := true, laidKinds := [.data, .data, .sentinel, .sentinel, .sentinel, .data, .data, .data, .data, .data], laidTests := true, laidLooks := .later }
def FnAddUptoCardSaid : Prop := Claim7.holds Tryz.pinned (.plain (OpenSpec.upto fnAddSpec)) fnAddUptoCard

/-- THE SECOND FORM's CARD OF 'laws.FnQuantize'. -/
def fnQuantizeUptoCard : Claim7 := { stood := { row := fnQuantizeUptoRow, standIns := [], harness := (true, "05b43d583511567ea46fada774e58beecf20e7bb53337ae03f939af21c4fa49b"), looks := true }, kinds := [], alts := [], laidByText := true, laidKinds := [.data, .data, .sentinel, .sentinel, .sentinel, .data, .data, .data, .data, .data], laidTests := true, laidLooks := .later }
def FnQuantizeUptoCardSaid : Prop := Claim7.holds Tryz.pinned (.plain (OpenSpec.upto fnQuantizeSpec)) fnQuantizeUptoCard

/-- THE SECOND FORM's CARD OF 'laws.FnCompares'. -/
def fnComparesUptoCard : Claim7 := { stood := { row := fnComparesUptoRow, standIns := [], harness := (true, "05b43d583511567ea46fada774e58beecf20e7bb53337ae03f939af21c4fa49b"), looks := true }, kinds := [], alts := [], laidByText := true, laidKinds := [.data, .data, .sentinel, .sentinel, .sentinel, .data, .data, .data, .data, .data], laidTests := true, laidLooks := .later }
def FnComparesUptoCardSaid : Prop := Claim7.holds Tryz.pinned (.plain (OpenSpec.upto fnComparesSpec)) fnComparesUptoCard

/-- THE SECOND FORM's CARD OF 'laws.FnCmp'. -/
def fnCmpUptoCard : Claim7 := { stood := { row := fnCmpUptoRow, standIns := [], harness := (true, "05b43d583511567ea46fada774e58beecf20e7bb53337ae03f939af21c4fa49b"), looks := true }, kinds := [], alts := [], laidByText := true, laidKinds := [.data, .data, .sentinel, .sentinel, .sentinel, .data, .data, .data, .data, .data], laidTests := true, laidLooks := .later }
def FnCmpUptoCardSaid : Prop := Claim7.holds Tryz.pinned (.plain (OpenSpec.upto fnCmpSpec)) fnCmpUptoCard

/-- THE SECOND FORM's CARD OF 'laws.FnReduceIn'. -/
def fnReduceInUptoCard : Claim7 := { stood := { row := fnReduceInUptoRow, standIns := [], harness := (true, "05b43d583511567ea46fada774e58beecf20e7bb53337ae03f939af21c4fa49b"), looks := true }, kinds := [], alts := [], laidByText := true, laidKinds := [.data, .data, .sentinel, .sentinel, .sentinel, .data, .data, .data, .data, .data], laidTests := true, laidLooks := .later }
def FnReduceInUptoCardSaid : Prop := Claim7.holds Tryz.pinned (.plain (OpenSpec.upto fnReduceInSpec)) fnReduceInUptoCard

/-- THE SECOND FORM's CARD OF 'laws.FnMul'. -/
def fnMulUptoCard : Claim7 := { stood := { row := fnMulUptoRow, standIns := [], harness := (true, "05b43d583511567ea46fada774e58beecf20e7bb53337ae03f939af21c4fa49b"), looks := true }, kinds := [], alts := [], laidByText := true, laidKinds := [.data, .data, .sentinel, .sentinel, .sentinel, .data, .data, .data, .data, .data], laidTests := true, laidLooks := .later }
def FnMulUptoCardSaid : Prop := Claim7.holds Tryz.pinned (.plain (OpenSpec.upto fnMulSpec)) fnMulUptoCard

/-- THE SECOND FORM's CARD OF 'laws.FnSub'. -/
def fnSubUptoCard : Claim7 := { stood := { row := fnSubUptoRow, standIns := [], harness := (true, "05b43d583511567ea46fada774e58beecf20e7bb53337ae03f939af21c4fa49b"), looks := true }, kinds := [], alts := [], laidByText := true, laidKinds := [.data, .data, .sentinel, .sentinel, .sentinel, .data, .data, .data, .data, .data], laidTests := true, laidLooks := .later }
def FnSubUptoCardSaid : Prop := Claim7.holds Tryz.pinned (.plain (OpenSpec.upto fnSubSpec)) fnSubUptoCard
end Rows
end Go.Proofs.YtpfjmeadikdddaaGreatDoor
