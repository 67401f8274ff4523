/- a part of the proof -/
import Derived.Test.YtpebcmfpehdafaaGreatDoorZ20
import Derived.Test.YtpebcmfpehdafaaGreatDoorZ21
import Derived.Test.YtpebcmfpehdafaaGreatDoorZ22
import Derived.Test.YtpebcmfpehdafaaGreatDoorZ23
set_option linter.all false
set_option maxRecDepth 100000
set_option maxHeartbeats 16000000
namespace Go.Proofs.YtpebcmfpehdafaaGreatDoor
open Go Go.RowKit
theorem Q4W {w:World}(p md tr:Nat)(mx mn:Int)(hp:p≤60)(hmx:0≤mx∧mx≤500)(hmn:mn≤0 ∧ -500≤mn)(hmd:md<8){v:Value}{n:Bool}{c:Nat}{e:Int}(hx:FinV w v n c e)(he : -10000≤e∧e≤10000)(hlen:(dgs c).length≤10000) :
  Calls Tryz.prog 11 #[CV p mx mn tr md,v,.int .u32 0] w fun r w'=>r=.returned (SRV (finS p mx mn md n e c))∧Below w.heap.size w w':=by
 by_cases hc:c=0
 ·exact Q5H p md tr mx mn hp hmx hmn hmd hx he hlen hc
 ·by_cases ha:e+ndg c - 1<mn
  ·exact Q7a p md tr mx mn hp hmx hmn hmd hx he hlen hc ha
  ·by_cases hk:0<p∧p<ndg c
   ·by_cases hx':c % 10^(ndg c - p)=0
    ·exact Q2p p md tr mx mn hp hmx hmn hmd hx he hlen hc ha hk hx'
    ·exact Q39 p md tr mx mn hp hmx hmn hmd hx he hlen hc ha hk hx'
   ·exact Q5I p md tr mx mn hp hmx hmn hmd hx he hlen hc ha hk
end Go.Proofs.YtpebcmfpehdafaaGreatDoor
