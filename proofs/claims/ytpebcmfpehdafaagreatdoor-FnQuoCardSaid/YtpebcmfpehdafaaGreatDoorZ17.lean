/- a part of the proof -/
import Derived.Test.YtpebcmfpehdafaaGreatDoorZ15
set_option linter.all false
set_option maxRecDepth 100000
set_option maxHeartbeats 16000000
namespace Go.Proofs.YtpebcmfpehdafaaGreatDoor
open Go Go.RowKit
structure SR where
 known:Bool
 over:Bool
 d:DR
def srNo:SR:=⟨false,false,⟨0,false,0,0,0⟩⟩
def endS (mx:Int)(n:Bool)(e:Int)(c k:Nat):SR :=
 if mx<e+ndg c - 1 then ⟨true,true,⟨1,n,0,0,4⟩⟩ else ⟨true,false,⟨0,n,e,c,k⟩⟩
def subK (z x:Bool):Nat:=if x then (if z then 2144 else 96) else (if z then 2168 else 120)
def finS (p:Nat)(mx mn:Int)(md:Nat)(n:Bool)(e:Int)(c:Nat):SR :=
  if c=0 then (if e<mn - p+1∨mx<e then srNo else ⟨true,false,⟨0,n,e,0,0⟩⟩)
  else if e+ndg c - 1<mn then
    (if p=0 then srNo
     else if e<mn - p+1 then
       (if c % 10^(mn - p+1 - e).toNat≠0∧n=true∧(md=3∨md=4) then srNo
        else ⟨true,false,⟨0,n,mn - p+1,rdiv md n c (mn - p+1 - e).toNat,subK (decide (rdiv md n c (mn - p+1 - e).toNat=0)) (decide (c % 10^(mn - p+1 - e).toNat=0))⟩⟩)
     else ⟨true,false,⟨0,n,e,c,32⟩⟩)
  else if 0<p∧p<ndg c then
    (if p<ndg (rdiv md n c (ndg c - p)) then endS mx n (e+(ndg c - p:Nat)+1) (rdiv md n c (ndg c - p) / 10) (cutK c (ndg c - p))
     else endS mx n (e+(ndg c - p:Nat)) (rdiv md n c (ndg c - p)) (cutK c (ndg c - p)))
  else endS mx n e c 0
end Go.Proofs.YtpebcmfpehdafaaGreatDoor
