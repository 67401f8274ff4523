/- a part of the proof -/
import Derived.Test.YtpfjmeadikdddaaGreatDoorZ41
import Derived.Test.YtpfjmeadikdddaaGreatDoorZ43
set_option linter.all false
set_option maxRecDepth 100000
set_option maxHeartbeats 16000000
namespace Go.Proofs.YtpfjmeadikdddaaGreatDoor
open Go Go.RowKit
theorem Q7F (p:Nat)(mx mn:Int)(md:Nat)(n:Bool)(e:Int)(c:Nat):(∃ rf:Nat,rf<4∧(prdF p mx mn md n e c).f=(rf:Int))∧(prdF p mx mn md n e c).c≤c+3:=by
 unfold prdF
 have h1:=Q2h p mx mn md 0 n c (ndg c) 0 e
 generalize sxF p mx mn md 0 n c (ndg c) 0 e=X at h1 ⊢
 have h2:=Q8Z p mx mn md X.f X.n X.e X.c
 refine ⟨?_,by show (rndF p mx mn md X.f X.n X.e X.c).c≤c+3;omega⟩
 rcases h2.2 with q | q
 ·rcases h1.2 with q' | q'
  ·exact ⟨0,by decide,q.trans q'⟩
  ·exact ⟨1,by decide,q.trans q'⟩
 ·exact ⟨1,by decide,q⟩
theorem Qa9 (p md tr:Nat)(mx mn:Int)(hmd:md<8)(hmx:0≤mx)(hmn:mn≤0)(n:Bool)(e:Int)(c:Nat)(hk:(finS p mx mn md n e c).known=true) :
  (∃ f' n' e' s' k' v' o',SRV (finS p mx mn md n e c)=RsV f' n' e' s' k' true v' o')∧(c=0→(e<mn→mn - ((p:Int) - 1)≤e)∧e≤mx)∧(p=0→c≠0→mn≤e+ndg c - 1) ∧
   ∀ w:World,Calls Tryz.prog 16 #[CV p mx mn tr md,SRV (finS p mx mn md n e c),DV (prdF p mx mn md n e c).f (prdF p mx mn md n e c).n (prdF p mx mn md n e c).e (decS (prdF p mx mn md n e c).c),.int .u32 ((prdF p mx mn md n e c).k:Int)] w fun r w'=>r=.returned (.bool true)∧Below w.heap.size w w':=by
 obtain ⟨k1,k2,k3⟩:=Qa8 hmx hmn hk
 refine ⟨Q7D hk,k3,fun hp hc=>?_,fun w=>?_⟩
 ·by_cases a:e+ndg c - 1<mn
  ·exfalso
   unfold finS at hk
   rw [if_neg hc,if_pos a,if_pos hp] at hk;cases hk
  ·omega
 ·cases ho:(finS p mx mn md n e c).over with
  | false =>
   have q:=k1 ho
   have hV:SRV (finS p mx mn md n e c)=RsV 0 (finS p mx mn md n e c).d.n (finS p mx mn md n e c).d.e (txS (finS p mx mn md n e c).d.c) (finS p mx mn md n e c).d.k true false false:=by
    unfold SRV;rw [if_pos hk,if_neg (by rw [ho];decide)]
   have hf0:(prdF p mx mn md n e c).f=0:=by
    rw [q];exact Q7E hk ho
   rw [hV,hf0,q,Q5v]
   exact Q5o p md tr mx mn _ _ _ _ w
  | true =>
   obtain ⟨q1,q2,q3,q4⟩:=k2 ho
   have hV:SRV (finS p mx mn md n e c)=RsV 1 n 0 ⟨#[]⟩ 4 true false true:=by
    unfold SRV;rw [if_pos hk,if_pos ho,q1]
   rw [hV,q2,q3]
   exact Q7w p md tr mx mn hmd n _ (Q94 _ _ _ _ _ _ _).1 q4 _ _ w
end Go.Proofs.YtpfjmeadikdddaaGreatDoor
