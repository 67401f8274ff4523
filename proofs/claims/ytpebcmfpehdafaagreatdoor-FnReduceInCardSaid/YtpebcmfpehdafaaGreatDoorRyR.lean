/- The row's closed facts, the great ones each by itself. -/
import Derived.Test.YtpebcmfpehdafaaGreatDoorCards
import Derived.JoinedCond
set_option linter.all false
namespace Go.Proofs.YtpebcmfpehdafaaGreatDoor
open Go
theorem closed1 : (Rows.fnReduceInRow.inPlace == Tryz.pinned.checked.prog.inPlace 3) = true := by kernel_rfl
theorem closed2 : (Rows.fnReduceInRow.unfollowed == Tryz.pinned.checked.prog.unfollowed 3) = true := by kernel_rfl
theorem closed3 : (Rows.fnReduceInRow.recurses == Tryz.pinned.checked.prog.recurses 3) = true := by kernel_rfl
theorem closed4 : (Rows.fnReduceInRow.named == Tryz.pinned.checked.prog.varsNamed 3) = true := by kernel_rfl
theorem closed : joinedFacts Tryz.pinned.checked.prog 3 Tryz.f3 (OpenSpec.ofChange Rows.fnReduceInSpec).bare Rows.fnReduceInRow = true := by
  unfold joinedFacts
  rw [closed1, closed2, closed3, closed4]
  kernel_rfl
end Go.Proofs.YtpebcmfpehdafaaGreatDoor
