/- The row's closed facts, the great ones each by itself. -/
import Derived.Test.YtakldnejjodpeaaGreatDoorCards
import Derived.JoinedCond
set_option linter.all false
namespace Go.Proofs.YtakldnejjodpeaaGreatDoor
open Go
theorem closed1 : (Rows.fnNegRow.inPlace == Tryz.pinned.checked.prog.inPlace 5) = true := by kernel_rfl
theorem closed2 : (Rows.fnNegRow.unfollowed == Tryz.pinned.checked.prog.unfollowed 5) = true := by kernel_rfl
theorem closed3 : (Rows.fnNegRow.recurses == Tryz.pinned.checked.prog.recurses 5) = true := by kernel_rfl
theorem closed4 : (Rows.fnNegRow.named == Tryz.pinned.checked.prog.varsNamed 5) = true := by kernel_rfl
theorem closed : joinedFacts Tryz.pinned.checked.prog 5 Tryz.f5 (OpenSpec.ofChange Rows.fnNegSpec).bare Rows.fnNegRow = true := by
  unfold joinedFacts
  rw [closed1, closed2, closed3, closed4]
  kernel_rfl
end Go.Proofs.YtakldnejjodpeaaGreatDoor
