/-
  DERIVED. GIVEN WITH THE SEED: THE PROGRAM's TIES (one call each: nine closed facts by the kernel) AND EACH ROW's TIE, after the 31st guide's Derived/Test/Toyas{Tie, Card}.lean. No idea stands in it: it is a product of the set-up. Laid BY PROGRAM, IN A SANDBOX (cutbox-door.mjs). By AI agents, Wed Nov 11 2026. No macro, syntax, notation, axiom, sorry.
-/
import Derived.Test.YtpebcmfpehdafaaGreatDoorRows
import Derived.LaidByTextLater
import Derived.SevenTiedAt
import Derived.LaidSub
import Derived.LaidOnce
namespace Go.Proofs.YtpebcmfpehdafaaGreatDoor
open Go
set_option maxRecDepth 100000
theorem seatTie1 : Tryz.prog.laidByTextLater [("math/bits.deBruijn32tab", Rows.laid_math_bits_deBruijn32tab), ("math/bits.deBruijn64tab", Rows.laid_math_bits_deBruijn64tab), ("io.EOF", Rows.laid_io_EOF), ("pub-gyrfalcon/pub/bigall.errNoDigits", Rows.laid_pub_gyrfalcon_pub_bigall_errNoDigits), ("pub-gyrfalcon/pub/bigall.errInvalSep", Rows.laid_pub_gyrfalcon_pub_bigall_errInvalSep), ("pub-gyrfalcon/pub/bigall.leafSize", Rows.laid_pub_gyrfalcon_pub_bigall_leafSize), ("pub-gyrfalcon/pub/bigall.divRecursiveThreshold", Rows.laid_pub_gyrfalcon_pub_bigall_divRecursiveThreshold), ("pub-gyrfalcon/pub/bigall.karatsubaThreshold", Rows.laid_pub_gyrfalcon_pub_bigall_karatsubaThreshold), ("pub-gyrfalcon/pub/bigall.basicSqrThreshold", Rows.laid_pub_gyrfalcon_pub_bigall_basicSqrThreshold), ("pub-gyrfalcon/pub/bigall.karatsubaSqrThreshold", Rows.laid_pub_gyrfalcon_pub_bigall_karatsubaSqrThreshold)] [.data, .data, .sentinel, .sentinel, .sentinel, .data, .data, .data, .data, .data] true :=
  Program.laidByTextLater_by_one 96 8 65 (by kernel_rfl) (by kernel_rfl) (by kernel_rfl) (by kernel_rfl) (by kernel_rfl) (by kernel_rfl) (fun _ _ => by kernel_rfl)
theorem noOwnUnsafe : Tryz.pinned.checked.prog.headLifts.contains "ownunsafe" = false := by kernel_rfl
theorem tie : Tryz.prog.laidByTextLater [("math/bits.deBruijn32tab", Rows.laid_math_bits_deBruijn32tab), ("math/bits.deBruijn64tab", Rows.laid_math_bits_deBruijn64tab), ("io.EOF", Rows.laid_io_EOF), ("pub-gyrfalcon/pub/bigall.errNoDigits", Rows.laid_pub_gyrfalcon_pub_bigall_errNoDigits), ("pub-gyrfalcon/pub/bigall.errInvalSep", Rows.laid_pub_gyrfalcon_pub_bigall_errInvalSep), ("pub-gyrfalcon/pub/bigall.leafSize", Rows.laid_pub_gyrfalcon_pub_bigall_leafSize), ("pub-gyrfalcon/pub/bigall.divRecursiveThreshold", Rows.laid_pub_gyrfalcon_pub_bigall_divRecursiveThreshold), ("pub-gyrfalcon/pub/bigall.karatsubaThreshold", Rows.laid_pub_gyrfalcon_pub_bigall_karatsubaThreshold), ("pub-gyrfalcon/pub/bigall.basicSqrThreshold", Rows.laid_pub_gyrfalcon_pub_bigall_basicSqrThreshold), ("pub-gyrfalcon/pub/bigall.karatsubaSqrThreshold", Rows.laid_pub_gyrfalcon_pub_bigall_karatsubaSqrThreshold)] [.data, .data, .sentinel, .sentinel, .sentinel, .data, .data, .data, .data, .data] true :=
  Program.laidByTextLater.sub seatTie1 ["math/bits.deBruijn32tab", "math/bits.deBruijn64tab", "io.EOF", "pub-gyrfalcon/pub/bigall.errNoDigits", "pub-gyrfalcon/pub/bigall.errInvalSep", "pub-gyrfalcon/pub/bigall.leafSize", "pub-gyrfalcon/pub/bigall.divRecursiveThreshold", "pub-gyrfalcon/pub/bigall.karatsubaThreshold", "pub-gyrfalcon/pub/bigall.basicSqrThreshold", "pub-gyrfalcon/pub/bigall.karatsubaSqrThreshold"] (by kernel_rfl) (by kernel_rfl)
theorem fnReduceIn_row_tie : Rows.fnReduceInRow.laidByTextAt .later Tryz.pinned [.data, .data, .sentinel, .sentinel, .sentinel, .data, .data, .data, .data, .data] true :=
  OpenClaim.laidByTextAt_later rfl rfl tie noOwnUnsafe
theorem fnQuo_row_tie : Rows.fnQuoRow.laidByTextAt .later Tryz.pinned [.data, .data, .sentinel, .sentinel, .sentinel, .data, .data, .data, .data, .data] true :=
  OpenClaim.laidByTextAt_later rfl rfl tie noOwnUnsafe
theorem fnQuoInteger_row_tie : Rows.fnQuoIntegerRow.laidByTextAt .later Tryz.pinned [.data, .data, .sentinel, .sentinel, .sentinel, .data, .data, .data, .data, .data] true :=
  OpenClaim.laidByTextAt_later rfl rfl tie noOwnUnsafe
theorem fnRem_row_tie : Rows.fnRemRow.laidByTextAt .later Tryz.pinned [.data, .data, .sentinel, .sentinel, .sentinel, .data, .data, .data, .data, .data] true :=
  OpenClaim.laidByTextAt_later rfl rfl tie noOwnUnsafe
theorem fnReduceInUpto_row_tie : Rows.fnReduceInUptoRow.laidByTextAt .later Tryz.pinned [.data, .data, .sentinel, .sentinel, .sentinel, .data, .data, .data, .data, .data] true :=
  OpenClaim.laidByTextAt_later rfl rfl tie noOwnUnsafe
theorem fnQuoUpto_row_tie : Rows.fnQuoUptoRow.laidByTextAt .later Tryz.pinned [.data, .data, .sentinel, .sentinel, .sentinel, .data, .data, .data, .data, .data] true :=
  OpenClaim.laidByTextAt_later rfl rfl tie noOwnUnsafe
theorem fnQuoIntegerUpto_row_tie : Rows.fnQuoIntegerUptoRow.laidByTextAt .later Tryz.pinned [.data, .data, .sentinel, .sentinel, .sentinel, .data, .data, .data, .data, .data] true :=
  OpenClaim.laidByTextAt_later rfl rfl tie noOwnUnsafe
theorem fnRemUpto_row_tie : Rows.fnRemUptoRow.laidByTextAt .later Tryz.pinned [.data, .data, .sentinel, .sentinel, .sentinel, .data, .data, .data, .data, .data] true :=
  OpenClaim.laidByTextAt_later rfl rfl tie noOwnUnsafe
end Go.Proofs.YtpebcmfpehdafaaGreatDoor
