/-
  NARROWER THAN 'FOR EVERY INPUT', by the rows' own cells (each row's printed sentence says how): FnReduceIn: laid · FnQuo: laid · FnQuoInteger: laid · FnRem: laid.
  DERIVED. THE GIVEN ROWS OF THIS SEAT. 4 by the template 'for every input the law returns true; each argument reads behind the call as it read before'; 0 by the template 'total and deterministic' (their statements: YtpebcmfpehdafaaGreatDoorTotals.lean).
  GIVEN WITH THE SEED: the statements are not yours to turn. If you find one false, say at which input.
  Laid BY PROGRAM, IN A SANDBOX (cutbox-rows.mjs): the forced cells as the released guide's own fill.sh prints them over the translation c8d23a8db9a5fffa… (all of the seat's roots in one cut). By AI agents, Wed Nov 11 2026. No macro, syntax, notation, axiom, sorry.
-/
import Derived.Test.YtpebcmfpehdafaaGreatDoorChecked
import GoSem.Claim
import GoSem.ClaimJoined
import GoSem.ClaimMapViews
import Derived.JoinedTies
import Derived.KernelRfl
namespace Go.Proofs.YtpebcmfpehdafaaGreatDoor
/- THE CELL 'sum', in the pinned program and in every row, IS THE sha256 OF THE DUMP (.gsa) THAT YtpebcmfpehdafaaGreatDoorProg.lean LOADS. Nothing in Lean hashes anything: it is a label: what it is worth is what the hold of that sum in a sandbox is worth. -/
noncomputable def Tryz.pinned : Pinned := { name := "ytpebcmfpehdafaagreatdoor", sum := "c8d23a8db9a5fffa421172fac710046a8ebb004a975319a5421b00c9e1174722", checked := Tryz.checked }
namespace Rows
def none {H : Type} : Left H := { results := [], args := [] }

/- WHAT THE LISTED PACKAGE-LEVEL VARIABLES READ AS WHEN THE CALL BEGINS. Each datum BY PROGRAM (the guide's laid-datum.mjs) off the statement by which the dump's own 'gosem.cut.vars' lays the variable. In a bare row this is a premise. The card (YtpebcmfpehdafaaGreatDoorCards.lean) ties it to the program's text. -/
def laid_math_bits_deBruijn32tab {H : Type} : DataW H := .agg [.lit (.int .u8 0), .lit (.int .u8 1), .lit (.int .u8 28), .lit (.int .u8 2), .lit (.int .u8 29), .lit (.int .u8 14), .lit (.int .u8 24), .lit (.int .u8 3), .lit (.int .u8 30), .lit (.int .u8 22), .lit (.int .u8 20), .lit (.int .u8 15), .lit (.int .u8 25), .lit (.int .u8 17), .lit (.int .u8 4), .lit (.int .u8 8), .lit (.int .u8 31), .lit (.int .u8 27), .lit (.int .u8 13), .lit (.int .u8 23), .lit (.int .u8 21), .lit (.int .u8 19), .lit (.int .u8 16), .lit (.int .u8 7), .lit (.int .u8 26), .lit (.int .u8 12), .lit (.int .u8 18), .lit (.int .u8 6), .lit (.int .u8 11), .lit (.int .u8 5), .lit (.int .u8 10), .lit (.int .u8 9)]
def laid_math_bits_deBruijn64tab {H : Type} : DataW H := .agg [.lit (.int .u8 0), .lit (.int .u8 1), .lit (.int .u8 56), .lit (.int .u8 2), .lit (.int .u8 57), .lit (.int .u8 49), .lit (.int .u8 28), .lit (.int .u8 3), .lit (.int .u8 61), .lit (.int .u8 58), .lit (.int .u8 42), .lit (.int .u8 50), .lit (.int .u8 38), .lit (.int .u8 29), .lit (.int .u8 17), .lit (.int .u8 4), .lit (.int .u8 62), .lit (.int .u8 47), .lit (.int .u8 59), .lit (.int .u8 36), .lit (.int .u8 45), .lit (.int .u8 43), .lit (.int .u8 51), .lit (.int .u8 22), .lit (.int .u8 53), .lit (.int .u8 39), .lit (.int .u8 33), .lit (.int .u8 30), .lit (.int .u8 24), .lit (.int .u8 18), .lit (.int .u8 12), .lit (.int .u8 5), .lit (.int .u8 63), .lit (.int .u8 55), .lit (.int .u8 48), .lit (.int .u8 27), .lit (.int .u8 60), .lit (.int .u8 41), .lit (.int .u8 37), .lit (.int .u8 16), .lit (.int .u8 46), .lit (.int .u8 35), .lit (.int .u8 44), .lit (.int .u8 21), .lit (.int .u8 52), .lit (.int .u8 32), .lit (.int .u8 23), .lit (.int .u8 11), .lit (.int .u8 54), .lit (.int .u8 26), .lit (.int .u8 40), .lit (.int .u8 15), .lit (.int .u8 34), .lit (.int .u8 20), .lit (.int .u8 31), .lit (.int .u8 10), .lit (.int .u8 25), .lit (.int .u8 14), .lit (.int .u8 19), .lit (.int .u8 9), .lit (.int .u8 13), .lit (.int .u8 8), .lit (.int .u8 7), .lit (.int .u8 6)]
def laid_io_EOF {H : Type} : DataW H := .iface "*errors.errorString" (.ptr (.agg [.lit (.string [69, 79, 70])]))
def laid_pub_gyrfalcon_pub_bigall_errNoDigits {H : Type} : DataW H := .iface "*errors.errorString" (.ptr (.agg [.lit (.string [110, 117, 109, 98, 101, 114, 32, 104, 97, 115, 32, 110, 111, 32, 100, 105, 103, 105, 116, 115])]))
def laid_pub_gyrfalcon_pub_bigall_errInvalSep {H : Type} : DataW H := .iface "*errors.errorString" (.ptr (.agg [.lit (.string [39, 95, 39, 32, 109, 117, 115, 116, 32, 115, 101, 112, 97, 114, 97, 116, 101, 32, 115, 117, 99, 99, 101, 115, 115, 105, 118, 101, 32, 100, 105, 103, 105, 116, 115])]))
def laid_pub_gyrfalcon_pub_bigall_leafSize {H : Type} : DataW H := .lit (.int .i64 8)
def laid_pub_gyrfalcon_pub_bigall_divRecursiveThreshold {H : Type} : DataW H := .lit (.int .i64 40)
def laid_pub_gyrfalcon_pub_bigall_karatsubaThreshold {H : Type} : DataW H := .lit (.int .i64 40)
def laid_pub_gyrfalcon_pub_bigall_basicSqrThreshold {H : Type} : DataW H := .lit (.int .i64 12)
def laid_pub_gyrfalcon_pub_bigall_karatsubaSqrThreshold {H : Type} : DataW H := .lit (.int .i64 80)

/-- 'laws.FnReduceIn': WHATEVER THE INPUT: true; the input reads as it did. -/
def fnReduceInSpec : ChangeSpec := { name := "fnReduceIn", fn := fun _ => fun
  | [d1, d2, d3] => { results := [.lit (.bool true)], args := [d1, d2, d3] }
  | _ => none }
def fnReduceInRow : OpenClaim := { program := "ytpebcmfpehdafaagreatdoor", sum := "c8d23a8db9a5fffa421172fac710046a8ebb004a975319a5421b00c9e1174722", func := "pub-gyrfalcon/laws.FnReduceIn", spec := "fnReduceIn", inPlace := ["math/bits.Add64", "internal/abi.NoEscape", "internal/bytealg.MakeNoZero", "math/bits.Sub64", "math.Float64bits", "math.Float64frombits", "math.archLog"], unfollowed := true, recurses := true, named := ["io.EOF", "pub-gyrfalcon/pub/bigall.errInvalSep", "pub-gyrfalcon/pub/bigall.errNoDigits", "pub-gyrfalcon/pub/bigall.divRecursiveThreshold", "pub-gyrfalcon/pub/bigall.karatsubaThreshold", "pub-gyrfalcon/pub/bigall.basicSqrThreshold", "pub-gyrfalcon/pub/bigall.karatsubaSqrThreshold", "math/bits.deBruijn32tab", "math/bits.deBruijn64tab", "pub-gyrfalcon/pub/bigall.leafSize"], apart := false, laid := [("math/bits.deBruijn32tab", laid_math_bits_deBruijn32tab), ("math/bits.deBruijn64tab", laid_math_bits_deBruijn64tab), ("io.EOF", laid_io_EOF), ("pub-gyrfalcon/pub/bigall.errNoDigits", laid_pub_gyrfalcon_pub_bigall_errNoDigits), ("pub-gyrfalcon/pub/bigall.errInvalSep", laid_pub_gyrfalcon_pub_bigall_errInvalSep), ("pub-gyrfalcon/pub/bigall.leafSize", laid_pub_gyrfalcon_pub_bigall_leafSize), ("pub-gyrfalcon/pub/bigall.divRecursiveThreshold", laid_pub_gyrfalcon_pub_bigall_divRecursiveThreshold), ("pub-gyrfalcon/pub/bigall.karatsubaThreshold", laid_pub_gyrfalcon_pub_bigall_karatsubaThreshold), ("pub-gyrfalcon/pub/bigall.basicSqrThreshold", laid_pub_gyrfalcon_pub_bigall_basicSqrThreshold), ("pub-gyrfalcon/pub/bigall.karatsubaSqrThreshold", laid_pub_gyrfalcon_pub_bigall_karatsubaSqrThreshold)] }
def FnReduceInSaid : Prop := fnReduceInRow.holds Tryz.pinned (OpenSpec.ofChange fnReduceInSpec)

/-- ITS FALSE NEIGHBOUR: 'it returns false'. Refute it at one input. -/
def fnReduceInWrong : ChangeSpec := { name := "fnReduceIn", fn := fun _ => fun
  | [d1, d2, d3] => { results := [.lit (.bool false)], args := [d1, d2, d3] }
  | _ => none }
def FnReduceInWrongFalsely : Prop := fnReduceInRow.holds Tryz.pinned (OpenSpec.ofChange fnReduceInWrong)

/-- 'laws.FnQuo': WHATEVER THE INPUT: true; the input reads as it did. -/
def fnQuoSpec : ChangeSpec := { name := "fnQuo", fn := fun _ => fun
  | [d1, d2, d3, d4] => { results := [.lit (.bool true)], args := [d1, d2, d3, d4] }
  | _ => none }
def fnQuoRow : OpenClaim := { program := "ytpebcmfpehdafaagreatdoor", sum := "c8d23a8db9a5fffa421172fac710046a8ebb004a975319a5421b00c9e1174722", func := "pub-gyrfalcon/laws.FnQuo", spec := "fnQuo", inPlace := ["math/bits.Add64", "internal/abi.NoEscape", "internal/bytealg.MakeNoZero", "math/bits.Sub64", "math.Float64bits", "math.Float64frombits", "math.archLog"], unfollowed := true, recurses := true, named := ["io.EOF", "pub-gyrfalcon/pub/bigall.errInvalSep", "pub-gyrfalcon/pub/bigall.errNoDigits", "pub-gyrfalcon/pub/bigall.divRecursiveThreshold", "pub-gyrfalcon/pub/bigall.karatsubaThreshold", "pub-gyrfalcon/pub/bigall.basicSqrThreshold", "pub-gyrfalcon/pub/bigall.karatsubaSqrThreshold", "math/bits.deBruijn32tab", "math/bits.deBruijn64tab", "pub-gyrfalcon/pub/bigall.leafSize"], apart := false, laid := [("math/bits.deBruijn32tab", laid_math_bits_deBruijn32tab), ("math/bits.deBruijn64tab", laid_math_bits_deBruijn64tab), ("io.EOF", laid_io_EOF), ("pub-gyrfalcon/pub/bigall.errNoDigits", laid_pub_gyrfalcon_pub_bigall_errNoDigits), ("pub-gyrfalcon/pub/bigall.errInvalSep", laid_pub_gyrfalcon_pub_bigall_errInvalSep), ("pub-gyrfalcon/pub/bigall.leafSize", laid_pub_gyrfalcon_pub_bigall_leafSize), ("pub-gyrfalcon/pub/bigall.divRecursiveThreshold", laid_pub_gyrfalcon_pub_bigall_divRecursiveThreshold), ("pub-gyrfalcon/pub/bigall.karatsubaThreshold", laid_pub_gyrfalcon_pub_bigall_karatsubaThreshold), ("pub-gyrfalcon/pub/bigall.basicSqrThreshold", laid_pub_gyrfalcon_pub_bigall_basicSqrThreshold), ("pub-gyrfalcon/pub/bigall.karatsubaSqrThreshold", laid_pub_gyrfalcon_pub_bigall_karatsubaSqrThreshold)] }
def FnQuoSaid : Prop := fnQuoRow.holds Tryz.pinned (OpenSpec.ofChange fnQuoSpec)

/-- ITS FALSE NEIGHBOUR: 'it returns false'. Refute it at one input. -/
def fnQuoWrong : ChangeSpec := { name := "fnQuo", fn := fun _ => fun
  | [d1, d2, d3, d4] => { results := [.lit (.bool false)], args := [d1, d2, d3, d4] }
  | _ => none }
def FnQuoWrongFalsely : Prop := fnQuoRow.holds Tryz.pinned (OpenSpec.ofChange fnQuoWrong)

/-- 'laws.FnQuoInteger': WHATEVER THE INPUT: true; the input reads as it did. -/
def fnQuoIntegerSpec : ChangeSpec := { name := "fnQuoInteger", fn := fun _ => fun
  | [d1, d2, d3, d4] => { results := [.lit (.bool true)], args := [d1, d2, d3, d4] }
  | _ => none }
def fnQuoIntegerRow : OpenClaim := { program := "ytpebcmfpehdafaagreatdoor", sum := "c8d23a8db9a5fffa421172fac710046a8ebb004a975319a5421b00c9e1174722", func := "pub-gyrfalcon/laws.FnQuoInteger", spec := "fnQuoInteger", inPlace := ["math/bits.Add64", "internal/abi.NoEscape", "internal/bytealg.MakeNoZero", "math/bits.Sub64", "math.Float64bits", "math.Float64frombits", "math.archLog"], unfollowed := true, recurses := true, named := ["io.EOF", "pub-gyrfalcon/pub/bigall.errInvalSep", "pub-gyrfalcon/pub/bigall.errNoDigits", "pub-gyrfalcon/pub/bigall.divRecursiveThreshold", "pub-gyrfalcon/pub/bigall.karatsubaThreshold", "pub-gyrfalcon/pub/bigall.basicSqrThreshold", "pub-gyrfalcon/pub/bigall.karatsubaSqrThreshold", "math/bits.deBruijn32tab", "math/bits.deBruijn64tab", "pub-gyrfalcon/pub/bigall.leafSize"], apart := false, laid := [("math/bits.deBruijn32tab", laid_math_bits_deBruijn32tab), ("math/bits.deBruijn64tab", laid_math_bits_deBruijn64tab), ("io.EOF", laid_io_EOF), ("pub-gyrfalcon/pub/bigall.errNoDigits", laid_pub_gyrfalcon_pub_bigall_errNoDigits), ("pub-gyrfalcon/pub/bigall.errInvalSep", laid_pub_gyrfalcon_pub_bigall_errInvalSep), ("pub-gyrfalcon/pub/bigall.leafSize", laid_pub_gyrfalcon_pub_bigall_leafSize), ("pub-gyrfalcon/pub/bigall.divRecursiveThreshold", laid_pub_gyrfalcon_pub_bigall_divRecursiveThreshold), ("pub-gyrfalcon/pub/bigall.karatsubaThreshold", laid_pub_gyrfalcon_pub_bigall_karatsubaThreshold), ("pub-gyrfalcon/pub/bigall.basicSqrThreshold", laid_pub_gyrfalcon_pub_bigall_basicSqrThreshold), ("pub-gyrfalcon/pub/bigall.karatsubaSqrThreshold", laid_pub_gyrfalcon_pub_bigall_karatsubaSqrThreshold)] }
def FnQuoIntegerSaid : Prop := fnQuoIntegerRow.holds Tryz.pinned (OpenSpec.ofChange fnQuoIntegerSpec)

/-- ITS FALSE NEIGHBOUR: 'it returns false'. Refute it at one input. -/
def fnQuoIntegerWrong : ChangeSpec := { name := "fnQuoInteger", fn := fun _ => fun
  | [d1, d2, d3, d4] => { results := [.lit (.bool false)], args := [d1, d2, d3, d4] }
  | _ => none }
def FnQuoIntegerWrongFalsely : Prop := fnQuoIntegerRow.holds Tryz.pinned (OpenSpec.ofChange fnQuoIntegerWrong)

/-- 'laws.FnRem': WHATEVER THE INPUT: true; the input reads as it did. -/
def fnRemSpec : ChangeSpec := { name := "fnRem", fn := fun _ => fun
  | [d1, d2, d3, d4] => { results := [.lit (.bool true)], args := [d1, d2, d3, d4] }
  | _ => none }
def fnRemRow : OpenClaim := { program := "ytpebcmfpehdafaagreatdoor", sum := "c8d23a8db9a5fffa421172fac710046a8ebb004a975319a5421b00c9e1174722", func := "pub-gyrfalcon/laws.FnRem", spec := "fnRem", inPlace := ["math/bits.Add64", "internal/abi.NoEscape", "internal/bytealg.MakeNoZero", "math/bits.Sub64", "math.Float64bits", "math.Float64frombits", "math.archLog"], unfollowed := true, recurses := true, named := ["io.EOF", "pub-gyrfalcon/pub/bigall.errInvalSep", "pub-gyrfalcon/pub/bigall.errNoDigits", "pub-gyrfalcon/pub/bigall.divRecursiveThreshold", "pub-gyrfalcon/pub/bigall.karatsubaThreshold", "pub-gyrfalcon/pub/bigall.basicSqrThreshold", "pub-gyrfalcon/pub/bigall.karatsubaSqrThreshold", "math/bits.deBruijn32tab", "math/bits.deBruijn64tab", "pub-gyrfalcon/pub/bigall.leafSize"], apart := false, laid := [("math/bits.deBruijn32tab", laid_math_bits_deBruijn32tab), ("math/bits.deBruijn64tab", laid_math_bits_deBruijn64tab), ("io.EOF", laid_io_EOF), ("pub-gyrfalcon/pub/bigall.errNoDigits", laid_pub_gyrfalcon_pub_bigall_errNoDigits), ("pub-gyrfalcon/pub/bigall.errInvalSep", laid_pub_gyrfalcon_pub_bigall_errInvalSep), ("pub-gyrfalcon/pub/bigall.leafSize", laid_pub_gyrfalcon_pub_bigall_leafSize), ("pub-gyrfalcon/pub/bigall.divRecursiveThreshold", laid_pub_gyrfalcon_pub_bigall_divRecursiveThreshold), ("pub-gyrfalcon/pub/bigall.karatsubaThreshold", laid_pub_gyrfalcon_pub_bigall_karatsubaThreshold), ("pub-gyrfalcon/pub/bigall.basicSqrThreshold", laid_pub_gyrfalcon_pub_bigall_basicSqrThreshold), ("pub-gyrfalcon/pub/bigall.karatsubaSqrThreshold", laid_pub_gyrfalcon_pub_bigall_karatsubaSqrThreshold)] }
def FnRemSaid : Prop := fnRemRow.holds Tryz.pinned (OpenSpec.ofChange fnRemSpec)

/-- ITS FALSE NEIGHBOUR: 'it returns false'. Refute it at one input. -/
def fnRemWrong : ChangeSpec := { name := "fnRem", fn := fun _ => fun
  | [d1, d2, d3, d4] => { results := [.lit (.bool false)], args := [d1, d2, d3, d4] }
  | _ => none }
def FnRemWrongFalsely : Prop := fnRemRow.holds Tryz.pinned (OpenSpec.ofChange fnRemWrong)

/- THE SECOND FORM. 'bulk': how many values and letters a reading holds, each counted each time it is reached (what is shared counts as often as it is met; a slice's spare places count too). A statement '..UptoSaid' is the law's where the arguments, and the package variables that the reading takes, are together of bulk at most 1048576: NARROWER than '..Said'. Prove '..Said' where nothing that the law and all that it calls make is longer than what came in: it says more and counts as full. Else prove '..UptoSaid'. A law counts once. -/
mutual
def uptoBulk {H : Type} : DataW H → Nat
  | .lit (.string bytes) => bytes.length + 1
  | .lit _ => 1
  | .nil => 1
  | .ptr d => uptoBulk d + 1
  | .slice elems spare => uptoBulkAll elems + uptoBulkAll spare + 1
  | .agg parts => uptoBulkAll parts + 1
  | .iface _ d => uptoBulk d + 1
  | .map entries => uptoBulkEntries entries + 1
  | .held _ => 1
def uptoBulkAll {H : Type} : List (DataW H) → Nat
  | [] => 0
  | d :: r => uptoBulk d + uptoBulkAll r
def uptoBulkEntries {H : Type} : List (Lit × DataW H) → Nat
  | [] => 0
  | x :: r => uptoBulkEntry x + uptoBulkEntries r
def uptoBulkEntry {H : Type} : Lit × DataW H → Nat
  | (.string bytes, d) => bytes.length + uptoBulk d + 1
  | (_, d) => uptoBulk d + 1
 end
def uptoSmall : (H : Type) → List (DataW H) → Bool := fun _ ds => decide (uptoBulkAll ds ≤ 1048576)
def OpenSpec.upto (s : _root_.Go.ChangeSpec) : _root_.Go.OpenSpec := { _root_.Go.OpenSpec.ofChange s with cond := some uptoSmall }

/-- 'laws.FnReduceIn', WHERE WHAT IT READS IS OF BULK AT MOST 1048576: true; the input reads as it did. -/
def fnReduceInUptoRow : OpenClaim := { program := "ytpebcmfpehdafaagreatdoor", sum := "c8d23a8db9a5fffa421172fac710046a8ebb004a975319a5421b00c9e1174722", func := "pub-gyrfalcon/laws.FnReduceIn", spec := "fnReduceIn", inPlace := ["math/bits.Add64", "internal/abi.NoEscape", "internal/bytealg.MakeNoZero", "math/bits.Sub64", "math.Float64bits", "math.Float64frombits", "math.archLog"], unfollowed := true, recurses := true, named := ["io.EOF", "pub-gyrfalcon/pub/bigall.errInvalSep", "pub-gyrfalcon/pub/bigall.errNoDigits", "pub-gyrfalcon/pub/bigall.divRecursiveThreshold", "pub-gyrfalcon/pub/bigall.karatsubaThreshold", "pub-gyrfalcon/pub/bigall.basicSqrThreshold", "pub-gyrfalcon/pub/bigall.karatsubaSqrThreshold", "math/bits.deBruijn32tab", "math/bits.deBruijn64tab", "pub-gyrfalcon/pub/bigall.leafSize"], apart := false, laid := [("math/bits.deBruijn32tab", laid_math_bits_deBruijn32tab), ("math/bits.deBruijn64tab", laid_math_bits_deBruijn64tab), ("io.EOF", laid_io_EOF), ("pub-gyrfalcon/pub/bigall.errNoDigits", laid_pub_gyrfalcon_pub_bigall_errNoDigits), ("pub-gyrfalcon/pub/bigall.errInvalSep", laid_pub_gyrfalcon_pub_bigall_errInvalSep), ("pub-gyrfalcon/pub/bigall.leafSize", laid_pub_gyrfalcon_pub_bigall_leafSize), ("pub-gyrfalcon/pub/bigall.divRecursiveThreshold", laid_pub_gyrfalcon_pub_bigall_divRecursiveThreshold), ("pub-gyrfalcon/pub/bigall.karatsubaThreshold", laid_pub_gyrfalcon_pub_bigall_karatsubaThreshold), ("pub-gyrfalcon/pub/bigall.basicSqrThreshold", laid_pub_gyrfalcon_pub_bigall_basicSqrThreshold), ("pub-gyrfalcon/pub/bigall.karatsubaSqrThreshold", laid_pub_gyrfalcon_pub_bigall_karatsubaSqrThreshold)], narrowed := true }
def FnReduceInUptoSaid : Prop := fnReduceInUptoRow.holds Tryz.pinned (OpenSpec.upto fnReduceInSpec)

/-- 'laws.FnQuo', WHERE WHAT IT READS IS OF BULK AT MOST 1048576: true; the input reads as it did. -/
def fnQuoUptoRow : OpenClaim := { program := "ytpebcmfpehdafaagreatdoor", sum := "c8d23a8db9a5fffa421172fac710046a8ebb004a975319a5421b00c9e1174722", func := "pub-gyrfalcon/laws.FnQuo", spec := "fnQuo", inPlace := ["math/bits.Add64", "internal/abi.NoEscape", "internal/bytealg.MakeNoZero", "math/bits.Sub64", "math.Float64bits", "math.Float64frombits", "math.archLog"], unfollowed := true, recurses := true, named := ["io.EOF", "pub-gyrfalcon/pub/bigall.errInvalSep", "pub-gyrfalcon/pub/bigall.errNoDigits", "pub-gyrfalcon/pub/bigall.divRecursiveThreshold", "pub-gyrfalcon/pub/bigall.karatsubaThreshold", "pub-gyrfalcon/pub/bigall.basicSqrThreshold", "pub-gyrfalcon/pub/bigall.karatsubaSqrThreshold", "math/bits.deBruijn32tab", "math/bits.deBruijn64tab", "pub-gyrfalcon/pub/bigall.leafSize"], apart := false, laid := [("math/bits.deBruijn32tab", laid_math_bits_deBruijn32tab), ("math/bits.deBruijn64tab", laid_math_bits_deBruijn64tab), ("io.EOF", laid_io_EOF), ("pub-gyrfalcon/pub/bigall.errNoDigits", laid_pub_gyrfalcon_pub_bigall_errNoDigits), ("pub-gyrfalcon/pub/bigall.errInvalSep", laid_pub_gyrfalcon_pub_bigall_errInvalSep), ("pub-gyrfalcon/pub/bigall.leafSize", laid_pub_gyrfalcon_pub_bigall_leafSize), ("pub-gyrfalcon/pub/bigall.divRecursiveThreshold", laid_pub_gyrfalcon_pub_bigall_divRecursiveThreshold), ("pub-gyrfalcon/pub/bigall.karatsubaThreshold", laid_pub_gyrfalcon_pub_bigall_karatsubaThreshold), ("pub-gyrfalcon/pub/bigall.basicSqrThreshold", laid_pub_gyrfalcon_pub_bigall_basicSqrThreshold), ("pub-gyrfalcon/pub/bigall.karatsubaSqrThreshold", laid_pub_gyrfalcon_pub_bigall_karatsubaSqrThreshold)], narrowed := true }
def FnQuoUptoSaid : Prop := fnQuoUptoRow.holds Tryz.pinned (OpenSpec.upto fnQuoSpec)

/-- 'laws.FnQuoInteger', WHERE WHAT IT READS IS OF BULK AT MOST 1048576: true; the input reads as it did. -/
def fnQuoIntegerUptoRow : OpenClaim := { program := "ytpebcmfpehdafaagreatdoor", sum := "c8d23a8db9a5fffa421172fac710046a8ebb004a975319a5421b00c9e1174722", func := "pub-gyrfalcon/laws.FnQuoInteger", spec := "fnQuoInteger", inPlace := ["math/bits.Add64", "internal/abi.NoEscape", "internal/bytealg.MakeNoZero", "math/bits.Sub64", "math.Float64bits", "math.Float64frombits", "math.archLog"], unfollowed := true, recurses := true, named := ["io.EOF", "pub-gyrfalcon/pub/bigall.errInvalSep", "pub-gyrfalcon/pub/bigall.errNoDigits", "pub-gyrfalcon/pub/bigall.divRecursiveThreshold", "pub-gyrfalcon/pub/bigall.karatsubaThreshold", "pub-gyrfalcon/pub/bigall.basicSqrThreshold", "pub-gyrfalcon/pub/bigall.karatsubaSqrThreshold", "math/bits.deBruijn32tab", "math/bits.deBruijn64tab", "pub-gyrfalcon/pub/bigall.leafSize"], apart := false, laid := [("math/bits.deBruijn32tab", laid_math_bits_deBruijn32tab), ("math/bits.deBruijn64tab", laid_math_bits_deBruijn64tab), ("io.EOF", laid_io_EOF), ("pub-gyrfalcon/pub/bigall.errNoDigits", laid_pub_gyrfalcon_pub_bigall_errNoDigits), ("pub-gyrfalcon/pub/bigall.errInvalSep", laid_pub_gyrfalcon_pub_bigall_errInvalSep), ("pub-gyrfalcon/pub/bigall.leafSize", laid_pub_gyrfalcon_pub_bigall_leafSize), ("pub-gyrfalcon/pub/bigall.divRecursiveThreshold", laid_pub_gyrfalcon_pub_bigall_divRecursiveThreshold), ("pub-gyrfalcon/pub/bigall.karatsubaThreshold", laid_pub_gyrfalcon_pub_bigall_karatsubaThreshold), ("pub-gyrfalcon/pub/bigall.basicSqrThreshold", laid_pub_gyrfalcon_pub_bigall_basicSqrThreshold), ("pub-gyrfalcon/pub/bigall.karatsubaSqrThreshold", laid_pub_gyrfalcon_pub_bigall_karatsubaSqrThreshold)], narrowed := true }
def FnQuoIntegerUptoSaid : Prop := fnQuoIntegerUptoRow.holds Tryz.pinned (OpenSpec.upto fnQuoIntegerSpec)

/-- 'laws.FnRem', WHERE WHAT IT READS IS OF BULK AT MOST 1048576: true; the input reads as it did. -/
def fnRemUptoRow : OpenClaim := { program := "ytpebcmfpehdafaagreatdoor", sum := "c8d23a8db9a5fffa421172fac710046a8ebb004a975319a5421b00c9e1174722", func := "pub-gyrfalcon/laws.FnRem", spec := "fnRem", inPlace := ["math/bits.Add64", "internal/abi.NoEscape", "internal/bytealg.MakeNoZero", "math/bits.Sub64", "math.Float64bits", "math.Float64frombits", "math.archLog"], unfollowed := true, recurses := true, named := ["io.EOF", "pub-gyrfalcon/pub/bigall.errInvalSep", "pub-gyrfalcon/pub/bigall.errNoDigits", "pub-gyrfalcon/pub/bigall.divRecursiveThreshold", "pub-gyrfalcon/pub/bigall.karatsubaThreshold", "pub-gyrfalcon/pub/bigall.basicSqrThreshold", "pub-gyrfalcon/pub/bigall.karatsubaSqrThreshold", "math/bits.deBruijn32tab", "math/bits.deBruijn64tab", "pub-gyrfalcon/pub/bigall.leafSize"], apart := false, laid := [("math/bits.deBruijn32tab", laid_math_bits_deBruijn32tab), ("math/bits.deBruijn64tab", laid_math_bits_deBruijn64tab), ("io.EOF", laid_io_EOF), ("pub-gyrfalcon/pub/bigall.errNoDigits", laid_pub_gyrfalcon_pub_bigall_errNoDigits), ("pub-gyrfalcon/pub/bigall.errInvalSep", laid_pub_gyrfalcon_pub_bigall_errInvalSep), ("pub-gyrfalcon/pub/bigall.leafSize", laid_pub_gyrfalcon_pub_bigall_leafSize), ("pub-gyrfalcon/pub/bigall.divRecursiveThreshold", laid_pub_gyrfalcon_pub_bigall_divRecursiveThreshold), ("pub-gyrfalcon/pub/bigall.karatsubaThreshold", laid_pub_gyrfalcon_pub_bigall_karatsubaThreshold), ("pub-gyrfalcon/pub/bigall.basicSqrThreshold", laid_pub_gyrfalcon_pub_bigall_basicSqrThreshold), ("pub-gyrfalcon/pub/bigall.karatsubaSqrThreshold", laid_pub_gyrfalcon_pub_bigall_karatsubaSqrThreshold)], narrowed := true }
def FnRemUptoSaid : Prop := fnRemUptoRow.holds Tryz.pinned (OpenSpec.upto fnRemSpec)

end Rows
end Go.Proofs.YtpebcmfpehdafaaGreatDoor
