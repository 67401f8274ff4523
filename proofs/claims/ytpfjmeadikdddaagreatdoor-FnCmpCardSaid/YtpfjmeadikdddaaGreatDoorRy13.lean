/- The row's closed facts, the great ones each by itself. -/
import Derived.Test.YtpfjmeadikdddaaGreatDoorCards
import Derived.JoinedCond
set_option linter.all false
namespace Go.Proofs.YtpfjmeadikdddaaGreatDoor
open Go
theorem closed1 : (Rows.fnCmpRow.inPlace == Tryz.pinned.checked.prog.inPlace 6) = true := by kernel_rfl
theorem closed2 : (Rows.fnCmpRow.unfollowed == Tryz.pinned.checked.prog.unfollowed 6) = true := by kernel_rfl
theorem closed3 : (Rows.fnCmpRow.recurses == Tryz.pinned.checked.prog.recurses 6) = true := by kernel_rfl
theorem closed4 : (Rows.fnCmpRow.named == Tryz.pinned.checked.prog.varsNamed 6) = true := by kernel_rfl
theorem closed : joinedFacts Tryz.pinned.checked.prog 6 Tryz.f6 (OpenSpec.ofChange Rows.fnCmpSpec).bare Rows.fnCmpRow = true := by
  unfold joinedFacts
  rw [closed1, closed2, closed3, closed4]
  kernel_rfl
end Go.Proofs.YtpfjmeadikdddaaGreatDoor
