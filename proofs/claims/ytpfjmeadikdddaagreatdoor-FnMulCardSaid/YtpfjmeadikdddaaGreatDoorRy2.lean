/- The row's closed facts, the great ones each by itself. -/
import Derived.Test.YtpfjmeadikdddaaGreatDoorCards
import Derived.JoinedCond
set_option linter.all false
namespace Go.Proofs.YtpfjmeadikdddaaGreatDoor
open Go
theorem closed1 : (Rows.fnMulRow.inPlace == Tryz.pinned.checked.prog.inPlace 8) = true := by kernel_rfl
theorem closed2 : (Rows.fnMulRow.unfollowed == Tryz.pinned.checked.prog.unfollowed 8) = true := by kernel_rfl
theorem closed3 : (Rows.fnMulRow.recurses == Tryz.pinned.checked.prog.recurses 8) = true := by kernel_rfl
theorem closed4 : (Rows.fnMulRow.named == Tryz.pinned.checked.prog.varsNamed 8) = true := by kernel_rfl
theorem closed : joinedFacts Tryz.pinned.checked.prog 8 Tryz.f8 (OpenSpec.ofChange Rows.fnMulSpec).bare Rows.fnMulRow = true := by
  unfold joinedFacts
  rw [closed1, closed2, closed3, closed4]
  kernel_rfl
end Go.Proofs.YtpfjmeadikdddaaGreatDoor
