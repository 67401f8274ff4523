/- The row's closed facts, the great ones each by itself. -/
import Derived.Test.YtamldngoemdfgaaGreatDoorCards
import Derived.JoinedCond
set_option linter.all false
namespace Go.Proofs.YtamldngoemdfgaaGreatDoor
open Go
theorem closed1 : (Rows.fnFloorRow.inPlace == Tryz.pinned.checked.prog.inPlace 4) = true := by kernel_rfl
theorem closed2 : (Rows.fnFloorRow.unfollowed == Tryz.pinned.checked.prog.unfollowed 4) = true := by kernel_rfl
theorem closed3 : (Rows.fnFloorRow.recurses == Tryz.pinned.checked.prog.recurses 4) = true := by kernel_rfl
theorem closed4 : (Rows.fnFloorRow.named == Tryz.pinned.checked.prog.varsNamed 4) = true := by kernel_rfl
theorem closed : joinedFacts Tryz.pinned.checked.prog 4 Tryz.f4 (OpenSpec.ofChange Rows.fnFloorSpec).bare Rows.fnFloorRow = true := by
  unfold joinedFacts
  rw [closed1, closed2, closed3, closed4]
  kernel_rfl
end Go.Proofs.YtamldngoemdfgaaGreatDoor
