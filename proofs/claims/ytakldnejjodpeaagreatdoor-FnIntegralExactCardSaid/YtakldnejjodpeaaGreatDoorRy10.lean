/- The row's closed facts, the great ones each by itself. -/
import Derived.Test.YtakldnejjodpeaaGreatDoorCards
import Derived.JoinedCond
set_option linter.all false
namespace Go.Proofs.YtakldnejjodpeaaGreatDoor
open Go
theorem closed1 : (Rows.fnIntegralExactRow.inPlace == Tryz.pinned.checked.prog.inPlace 3) = true := by kernel_rfl
theorem closed2 : (Rows.fnIntegralExactRow.unfollowed == Tryz.pinned.checked.prog.unfollowed 3) = true := by kernel_rfl
theorem closed3 : (Rows.fnIntegralExactRow.recurses == Tryz.pinned.checked.prog.recurses 3) = true := by kernel_rfl
theorem closed4 : (Rows.fnIntegralExactRow.named == Tryz.pinned.checked.prog.varsNamed 3) = true := by kernel_rfl
theorem closed : joinedFacts Tryz.pinned.checked.prog 3 Tryz.f3 (OpenSpec.ofChange Rows.fnIntegralExactSpec).bare Rows.fnIntegralExactRow = true := by
  unfold joinedFacts
  rw [closed1, closed2, closed3, closed4]
  kernel_rfl
end Go.Proofs.YtakldnejjodpeaaGreatDoor
