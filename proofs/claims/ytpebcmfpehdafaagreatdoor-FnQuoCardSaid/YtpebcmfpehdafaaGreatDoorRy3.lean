/- The row's closed facts, the great ones each by itself. -/
import Derived.Test.YtpebcmfpehdafaaGreatDoorCards
import Derived.JoinedCond
set_option linter.all false
namespace Go.Proofs.YtpebcmfpehdafaaGreatDoor
open Go
theorem closed1 : (Rows.fnQuoRow.inPlace == Tryz.pinned.checked.prog.inPlace 4) = true := by kernel_rfl
theorem closed2 : (Rows.fnQuoRow.unfollowed == Tryz.pinned.checked.prog.unfollowed 4) = true := by kernel_rfl
theorem closed3 : (Rows.fnQuoRow.recurses == Tryz.pinned.checked.prog.recurses 4) = true := by kernel_rfl
theorem closed4 : (Rows.fnQuoRow.named == Tryz.pinned.checked.prog.varsNamed 4) = true := by kernel_rfl
theorem closed : joinedFacts Tryz.pinned.checked.prog 4 Tryz.f4 (OpenSpec.ofChange Rows.fnQuoSpec).bare Rows.fnQuoRow = true := by
  unfold joinedFacts
  rw [closed1, closed2, closed3, closed4]
  kernel_rfl
end Go.Proofs.YtpebcmfpehdafaaGreatDoor
