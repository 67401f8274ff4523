/- The row's closed facts, the great ones each by itself. -/
import Derived.Test.YtakldnejjodpeaaGreatDoorCards
import Derived.JoinedCond
set_option linter.all false
namespace Go.Proofs.YtakldnejjodpeaaGreatDoor
open Go
theorem closed1 : (Rows.fnIntegralValueRow.inPlace == Tryz.pinned.checked.prog.inPlace 4) = true := by kernel_rfl
theorem closed2 : (Rows.fnIntegralValueRow.unfollowed == Tryz.pinned.checked.prog.unfollowed 4) = true := by kernel_rfl
theorem closed3 : (Rows.fnIntegralValueRow.recurses == Tryz.pinned.checked.prog.recurses 4) = true := by kernel_rfl
theorem closed4 : (Rows.fnIntegralValueRow.named == Tryz.pinned.checked.prog.varsNamed 4) = true := by kernel_rfl
theorem closed : joinedFacts Tryz.pinned.checked.prog 4 Tryz.f4 (OpenSpec.ofChange Rows.fnIntegralValueSpec).bare Rows.fnIntegralValueRow = true := by
  unfold joinedFacts
  rw [closed1, closed2, closed3, closed4]
  kernel_rfl
end Go.Proofs.YtakldnejjodpeaaGreatDoor
