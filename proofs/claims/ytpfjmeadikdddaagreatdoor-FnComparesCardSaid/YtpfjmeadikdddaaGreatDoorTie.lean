/-
  DERIVED. GIVEN WITH THE SEED: THE PROGRAM's TIES (one call each: nine closed facts by the kernel) AND EACH ROW's TIE, after the 31st guide's Derived/Test/Toyas{Tie, Card}.lean. No idea stands in it: it is a product of the set-up. Laid BY PROGRAM, IN A SANDBOX (cutbox-door.mjs). By AI agents, Wed Nov 11 2026. No macro, syntax, notation, axiom, sorry.
-/
import Derived.Test.YtpfjmeadikdddaaGreatDoorRows
import Derived.LaidByTextLater
import Derived.SevenTiedAt
import Derived.LaidSub
import Derived.LaidOnce
namespace Go.Proofs.YtpfjmeadikdddaaGreatDoor
open Go
set_option maxRecDepth 100000
theorem seatTie1 : Tryz.prog.laidByTextLater [("math/bits.deBruijn32tab", Rows.laid_math_bits_deBruijn32tab), ("math/bits.deBruijn64tab", Rows.laid_math_bits_deBruijn64tab), ("io.EOF", Rows.laid_io_EOF), ("pub-gyrfalcon/pub/bigall.errNoDigits", Rows.laid_pub_gyrfalcon_pub_bigall_errNoDigits), ("pub-gyrfalcon/pub/bigall.errInvalSep", Rows.laid_pub_gyrfalcon_pub_bigall_errInvalSep), ("pub-gyrfalcon/pub/bigall.leafSize", Rows.laid_pub_gyrfalcon_pub_bigall_leafSize), ("pub-gyrfalcon/pub/bigall.divRecursiveThreshold", Rows.laid_pub_gyrfalcon_pub_bigall_divRecursiveThreshold), ("pub-gyrfalcon/pub/bigall.karatsubaThreshold", Rows.laid_pub_gyrfalcon_pub_bigall_karatsubaThreshold), ("pub-gyrfalcon/pub/bigall.basicSqrThreshold", Rows.laid_pub_gyrfalcon_pub_bigall_basicSqrThreshold), ("pub-gyrfalcon/pub/bigall.karatsubaSqrThreshold", Rows.laid_pub_gyrfalcon_pub_bigall_karatsubaSqrThreshold)] [.data, .data, .sentinel, .sentinel, .sentinel, .data, .data, .data, .data, .data] true :=
  Program.laidByTextLater_by_one 96 8 65 (by kernel_rfl) (by kernel_rfl) (by kernel_rfl) (by kernel_rfl) (by kernel_rfl) (by kernel_rfl) (fun _ _ => by kernel_rfl)
theorem noOwnUnsafe : Tryz.pinned.checked.prog.headLifts.contains "ownunsafe" = false := by kernel_rfl
theorem tie : Tryz.prog.laidByTextLater [("math/bits.deBruijn32tab", Rows.laid_math_bits_deBruijn32tab), ("math/bits.deBruijn64tab", Rows.laid_math_bits_deBruijn64tab), ("io.EOF", Rows.laid_io_EOF), ("pub-gyrfalcon/pub/bigall.errNoDigits", Rows.laid_pub_gyrfalcon_pub_bigall_errNoDigits), ("pub-gyrfalcon/pub/bigall.errInvalSep", Rows.laid_pub_gyrfalcon_pub_bigall_errInvalSep), ("pub-gyrfalcon/pub/bigall.leafSize", Rows.laid_pub_gyrfalcon_pub_bigall_leafSize), ("pub-gyrfalcon/pub/bigall.divRecursiveThreshold", Rows.laid_pub_gyrfalcon_pub_bigall_divRecursiveThreshold), ("pub-gyrfalcon/pub/bigall.karatsubaThreshold", Rows.laid_pub_gyrfalcon_pub_bigall_karatsubaThreshold), ("pub-gyrfalcon/pub/bigall.basicSqrThreshold", Rows.laid_pub_gyrfalcon_pub_bigall_basicSqrThreshold), ("pub-gyrfalcon/pub/bigall.karatsubaSqrThreshold", Rows.laid_pub_gyrfalcon_pub_bigall_karatsubaSqrThreshold)] [.data, .data, .sentinel, .sentinel, .sentinel, .data, .data, .data, .data, .data] true :=
  Program.laidByTextLater.sub seatTie1 ["math/bits.deBruijn32tab", "math/bits.deBruijn64tab", "io.EOF", "pub-gyrfalcon/pub/bigall.errNoDigits", "pub-gyrfalcon/pub/bigall.errInvalSep", "pub-gyrfalcon/pub/bigall.leafSize", "pub-gyrfalcon/pub/bigall.divRecursiveThreshold", "pub-gyrfalcon/pub/bigall.karatsubaThreshold", "pub-gyrfalcon/pub/bigall.basicSqrThreshold", "pub-gyrfalcon/pub/bigall.karatsubaSqrThreshold"] (by kernel_rfl) (by kernel_rfl)
theorem fnAdd_row_tie : Rows.fnAddRow.laidByTextAt .later Tryz.pinned [.data, .data, .sentinel, .sentinel, .sentinel, .data, .data, .data, .data, .data] true :=
  OpenClaim.laidByTextAt_later rfl rfl tie noOwnUnsafe
theorem fnQuantize_row_tie : Rows.fnQuantizeRow.laidByTextAt .later Tryz.pinned [.data, .data, .sentinel, .sentinel, .sentinel, .data, .data, .data, .data, .data] true :=
  OpenClaim.laidByTextAt_later rfl rfl tie noOwnUnsafe
theorem fnCompares_row_tie : Rows.fnComparesRow.laidByTextAt .later Tryz.pinned [.data, .data, .sentinel, .sentinel, .sentinel, .data, .data, .data, .data, .data] true :=
  OpenClaim.laidByTextAt_later rfl rfl tie noOwnUnsafe
theorem fnCmp_row_tie : Rows.fnCmpRow.laidByTextAt .later Tryz.pinned [.data, .data, .sentinel, .sentinel, .sentinel, .data, .data, .data, .data, .data] true :=
  OpenClaim.laidByTextAt_later rfl rfl tie noOwnUnsafe
theorem fnReduceIn_row_tie : Rows.fnReduceInRow.laidByTextAt .later Tryz.pinned [.data, .data, .sentinel, .sentinel, .sentinel, .data, .data, .data, .data, .data] true :=
  OpenClaim.laidByTextAt_later rfl rfl tie noOwnUnsafe
theorem fnMul_row_tie : Rows.fnMulRow.laidByTextAt .later Tryz.pinned [.data, .data, .sentinel, .sentinel, .sentinel, .data, .data, .data, .data, .data] true :=
  OpenClaim.laidByTextAt_later rfl rfl tie noOwnUnsafe
theorem fnSub_row_tie : Rows.fnSubRow.laidByTextAt .later Tryz.pinned [.data, .data, .sentinel, .sentinel, .sentinel, .data, .data, .data, .data, .data] true :=
  OpenClaim.laidByTextAt_later rfl rfl tie noOwnUnsafe
theorem fnAddUpto_row_tie : Rows.fnAddUptoRow.laidByTextAt .later Tryz.pinned [.data, .data, .sentinel, .sentinel, .sentinel, .data, .data, .data, .data, .data] true :=
  OpenClaim.laidByTextAt_later rfl rfl tie noOwnUnsafe
theorem fnQuantizeUpto_row_tie : Rows.fnQuantizeUptoRow.laidByTextAt .later Tryz.pinned [.data, .data, .sentinel, .sentinel, .sentinel, .data, .data, .data, .data, .data] true :=
  OpenClaim.laidByTextAt_later rfl rfl tie noOwnUnsafe
theorem fnComparesUpto_row_tie : Rows.fnComparesUptoRow.laidByTextAt .later Tryz.pinned [.data, .data, .sentinel, .sentinel, .sentinel, .data, .data, .data, .data, .data] true :=
  OpenClaim.laidByTextAt_later rfl rfl tie noOwnUnsafe
theorem fnCmpUpto_row_tie : Rows.fnCmpUptoRow.laidByTextAt .later Tryz.pinned [.data, .data, .sentinel, .sentinel, .sentinel, .data, .data, .data, .data, .data] true :=
  OpenClaim.laidByTextAt_later rfl rfl tie noOwnUnsafe
theorem fnReduceInUpto_row_tie : Rows.fnReduceInUptoRow.laidByTextAt .later Tryz.pinned [.data, .data, .sentinel, .sentinel, .sentinel, .data, .data, .data, .data, .data] true :=
  OpenClaim.laidByTextAt_later rfl rfl tie noOwnUnsafe
theorem fnMulUpto_row_tie : Rows.fnMulUptoRow.laidByTextAt .later Tryz.pinned [.data, .data, .sentinel, .sentinel, .sentinel, .data, .data, .data, .data, .data] true :=
  OpenClaim.laidByTextAt_later rfl rfl tie noOwnUnsafe
theorem fnSubUpto_row_tie : Rows.fnSubUptoRow.laidByTextAt .later Tryz.pinned [.data, .data, .sentinel, .sentinel, .sentinel, .data, .data, .data, .data, .data] true :=
  OpenClaim.laidByTextAt_later rfl rfl tie noOwnUnsafe
end Go.Proofs.YtpfjmeadikdddaaGreatDoor
