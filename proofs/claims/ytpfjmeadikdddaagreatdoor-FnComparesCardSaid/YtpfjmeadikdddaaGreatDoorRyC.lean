/- The row's closed facts, the great ones each by itself. -/
import Derived.Test.YtpfjmeadikdddaaGreatDoorCards
import Derived.JoinedCond
set_option linter.all false
namespace Go.Proofs.YtpfjmeadikdddaaGreatDoor
open Go
theorem closed1 : (Rows.fnComparesRow.inPlace == Tryz.pinned.checked.prog.inPlace 5) = true := by kernel_rfl
theorem closed2 : (Rows.fnComparesRow.unfollowed == Tryz.pinned.checked.prog.unfollowed 5) = true := by kernel_rfl
theorem closed3 : (Rows.fnComparesRow.recurses == Tryz.pinned.checked.prog.recurses 5) = true := by kernel_rfl
theorem closed4 : (Rows.fnComparesRow.named == Tryz.pinned.checked.prog.varsNamed 5) = true := by kernel_rfl
theorem closed : joinedFacts Tryz.pinned.checked.prog 5 Tryz.f5 (OpenSpec.ofChange Rows.fnComparesSpec).bare Rows.fnComparesRow = true := by
  unfold joinedFacts
  rw [closed1, closed2, closed3, closed4]
  kernel_rfl
end Go.Proofs.YtpfjmeadikdddaaGreatDoor
