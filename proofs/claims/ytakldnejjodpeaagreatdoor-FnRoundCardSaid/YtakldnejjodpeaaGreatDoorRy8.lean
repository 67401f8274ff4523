/- The row's closed facts, the great ones each by itself. -/
import Derived.Test.YtakldnejjodpeaaGreatDoorCards
import Derived.JoinedCond
set_option linter.all false
namespace Go.Proofs.YtakldnejjodpeaaGreatDoor
open Go
theorem closed1 : (Rows.fnRoundRow.inPlace == Tryz.pinned.checked.prog.inPlace 6) = true := by kernel_rfl
theorem closed2 : (Rows.fnRoundRow.unfollowed == Tryz.pinned.checked.prog.unfollowed 6) = true := by kernel_rfl
theorem closed3 : (Rows.fnRoundRow.recurses == Tryz.pinned.checked.prog.recurses 6) = true := by kernel_rfl
theorem closed4 : (Rows.fnRoundRow.named == Tryz.pinned.checked.prog.varsNamed 6) = true := by kernel_rfl
theorem closed : joinedFacts Tryz.pinned.checked.prog 6 Tryz.f6 (OpenSpec.ofChange Rows.fnRoundSpec).bare Rows.fnRoundRow = true := by
  unfold joinedFacts
  rw [closed1, closed2, closed3, closed4]
  kernel_rfl
end Go.Proofs.YtakldnejjodpeaaGreatDoor
