/- a part of the proof -/
import Derived.Test.YtpfjmeadikdddaaGreatDoorZ0
set_option linter.all false
set_option maxRecDepth 100000
set_option maxHeartbeats 16000000
namespace Go.Proofs.YtpfjmeadikdddaaGreatDoor
open Go Go.RowKit
def ordI (f:Int)(n:Bool):Int:=if n then -(f+1) else f+1
theorem QaW {f f':Int}{n n':Bool}(hf:0≤f)(hf':0≤f')(h:ordI f n=ordI f' n'):f=f'∧n=n':=by
 unfold ordI at h
 cases n <;> cases n' <;> simp at h ⊢ <;> omega
end Go.Proofs.YtpfjmeadikdddaaGreatDoor
