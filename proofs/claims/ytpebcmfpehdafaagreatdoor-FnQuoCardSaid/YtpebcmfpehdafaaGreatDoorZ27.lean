/- a part of the proof -/
import Derived.Test.YtpebcmfpehdafaaGreatDoorZ15
set_option linter.all false
set_option maxRecDepth 100000
set_option maxHeartbeats 16000000
namespace Go.Proofs.YtpebcmfpehdafaaGreatDoor
open Go Go.RowKit
theorem Qb1 {Q:Nat}(hs:ndg Q<ndg (Q+1)):(Q+1) / 10*10=Q+1∧ndg ((Q+1) / 10)+1=ndg (Q+1):=by
 have q1:=Q0m Q
 have q2:10^(ndg (Q+1) - 1)≤Q+1:=Q0y (by omega)
 have q3:10^ndg Q≤10^(ndg (Q+1) - 1):=QI (by omega)
 have q4:Q+1=10^ndg Q:=by omega
 have q5:=Qi Q
 have q6:(Q+1) / 10*10=Q+1:=by
  rw [q4,show ndg Q=ndg Q - 1+1 by omega,Nat.pow_succ];omega
 refine ⟨q6,?_⟩
 have h10:10≤Q+1:=by
  rw [q4]
  exact Nat.le_trans (by decide:10≤10^1) (QI q5)
 rw [QT h10]
end Go.Proofs.YtpebcmfpehdafaaGreatDoor
