/- a part of the proof -/
import Derived.Test.YtamldngoemdfgaaGreatDoorZ21
set_option linter.all false
set_option maxRecDepth 100000
set_option maxHeartbeats 16000000
namespace Go.Proofs.YtamldngoemdfgaaGreatDoor
open Go Go.RowKit
theorem Q9k : finK 0 = 0 := by decide
end Go.Proofs.YtamldngoemdfgaaGreatDoor
