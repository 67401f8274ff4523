/- The row's closed facts, the great ones each by itself. -/
import Derived.Test.YtamldngoemdfgaaGreatDoorCards
import Derived.JoinedCond
set_option linter.all false
namespace Go.Proofs.YtamldngoemdfgaaGreatDoor
open Go
theorem closed1 : (Rows.fnCeilRow.inPlace == Tryz.pinned.checked.prog.inPlace 3) = true := by kernel_rfl
theorem closed2 : (Rows.fnCeilRow.unfollowed == Tryz.pinned.checked.prog.unfollowed 3) = true := by kernel_rfl
theorem closed3 : (Rows.fnCeilRow.recurses == Tryz.pinned.checked.prog.recurses 3) = true := by kernel_rfl
theorem closed4 : (Rows.fnCeilRow.named == Tryz.pinned.checked.prog.varsNamed 3) = true := by kernel_rfl
theorem closed : joinedFacts Tryz.pinned.checked.prog 3 Tryz.f3 (OpenSpec.ofChange Rows.fnCeilSpec).bare Rows.fnCeilRow = true := by
  unfold joinedFacts
  rw [closed1, closed2, closed3, closed4]
  kernel_rfl
end Go.Proofs.YtamldngoemdfgaaGreatDoor
