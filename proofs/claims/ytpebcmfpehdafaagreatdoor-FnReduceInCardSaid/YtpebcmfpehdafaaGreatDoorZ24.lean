/- a part of the proof -/
import Derived.Test.YtpebcmfpehdafaaGreatDoorZ22
set_option linter.all false
set_option maxRecDepth 100000
set_option maxHeartbeats 16000000
namespace Go.Proofs.YtpebcmfpehdafaaGreatDoor
open Go Go.RowKit
structure SR where
 known:Bool
 over:Bool
 d:DR
def srNo:SR:=⟨false,false,⟨0,false,0,0,0⟩⟩
def endS (mx:Int)(n:Bool)(e:Int)(c k:Nat):SR :=
 if mx<e+ndg c - 1 then ⟨true,true,⟨1,n,0,0,4⟩⟩ else ⟨true,false,⟨0,n,e,c,k⟩⟩
def subK (z x:Bool):Nat:=if x then (if z then 2144 else 96) else (if z then 2168 else 120)
def finS (p:Nat)(mx mn:Int)(md:Nat)(n:Bool)(e:Int)(c:Nat):SR :=
  if c=0 then (if e<mn - p+1∨mx<e then srNo else ⟨true,false,⟨0,n,e,0,0⟩⟩)
  else if e+ndg c - 1<mn then
    (if p=0 then srNo
     else if e<mn - p+1 then
       (if c % 10^(mn - p+1 - e).toNat≠0∧n=true∧(md=3∨md=4) then srNo
        else ⟨true,false,⟨0,n,mn - p+1,rdiv md n c (mn - p+1 - e).toNat,subK (decide (rdiv md n c (mn - p+1 - e).toNat=0)) (decide (c % 10^(mn - p+1 - e).toNat=0))⟩⟩)
     else ⟨true,false,⟨0,n,e,c,32⟩⟩)
  else if 0<p∧p<ndg c then
    (if p<ndg (rdiv md n c (ndg c - p)) then endS mx n (e+(ndg c - p:Nat)+1) (rdiv md n c (ndg c - p) / 10) (cutK c (ndg c - p))
     else endS mx n (e+(ndg c - p:Nat)) (rdiv md n c (ndg c - p)) (cutK c (ndg c - p)))
  else endS mx n e c 0
theorem Q85 {md:Nat}{n:Bool}{c p:Nat}(hp:0<p)(h:p<ndg c) :
  (p<ndg (rdiv md n c (ndg c - p))→rdq md n c (ndg c - p)=(rdiv md n c (ndg c - p) / 10,ndg c - p+1))∧(¬ p<ndg (rdiv md n c (ndg c - p))→rdq md n c (ndg c - p)=(rdiv md n c (ndg c - p),ndg c - p)):=by
 have h1:=Q45 (n:=c) (k:=ndg c - p) (by omega)
 have h2:ndg (c / 10^(ndg c - p))=p:=by omega
 unfold rdq rdiv
 by_cases hR:c % 10^(ndg c - p)=0
 ·rw [if_pos hR,if_pos hR]
  exact ⟨fun q=>by omega,fun _=>rfl⟩
 ·rw [if_neg hR,if_neg hR]
  cases hU:upR md n (c / 10^(ndg c - p)) (cmpN (2*(c % 10^(ndg c - p))) (10^(ndg c - p))) with
  | false=>exact ⟨fun q=>by rw [if_neg (by simp)] at q;omega,fun _=>rfl⟩
  | true =>
   simp only [if_true]
   rw [h2]
   exact ⟨fun q=>by rw [if_pos q,if_pos q],fun q=>by rw [if_neg q,if_neg q]⟩
theorem Q4g:finK 0=0:=by decide
theorem Q6i {p:Nat}{mx mn:Int}{md:Nat}{n:Bool}{e:Int}{c k:Nat}(h:¬ e+ndg c - 1<mn)(hk:k=0∨k=64∨k=80) :
  ((endS mx n e c k).over=false→(endS mx n e c k).known=true∧sxF p mx mn md 0 n c (ndg c) k e=(endS mx n e c k).d)∧((endS mx n e c k).over=true→(endS mx n e c k).known=true∧(endS mx n e c k).d=⟨1,n,0,0,4⟩∧(sxF p mx mn md 0 n c (ndg c) k e).f=1∧(sxF p mx mn md 0 n c (ndg c) k e).n=n∧(sxF p mx mn md 0 n c (ndg c) k e).k=k+20 - k % 20*0 - (if k=80 then 16 else 0)):=by
 unfold endS sxF
 rw [if_neg h]
 by_cases h2:mx<e+ndg c - 1
 ·rw [if_pos h2,if_pos h2]
  refine ⟨fun q=>(by cases q),fun _=>⟨rfl,rfl,rfl,rfl,?_⟩⟩
  rcases hk with rfl | rfl | rfl <;> rfl
 ·rw [if_neg h2,if_neg h2]
  refine ⟨fun _=>⟨rfl,?_⟩,fun q=>(by cases q)⟩
  rcases hk with rfl | rfl | rfl <;> rfl
theorem Q6j (c d:Nat):cutK c d=64∨cutK c d=80:=by unfold cutK;split <;> simp
theorem Q86 {p:Nat}{mx mn:Int}{md:Nat}{n:Bool}{e:Int}{c:Nat}(h:(finS p mx mn md n e c).known=true) :
  ((finS p mx mn md n e c).over=false→rndF p mx mn md 0 n e c=(finS p mx mn md n e c).d) ∧
  ((finS p mx mn md n e c).over=true→(finS p mx mn md n e c).d=⟨1,n,0,0,4⟩∧(rndF p mx mn md 0 n e c).f=1∧(rndF p mx mn md 0 n e c).n=n∧(rndF p mx mn md 0 n e c).k &&& 4≠0) ∧
  (c=0→(e<mn→mn - ((p:Int) - 1)≤e)∧e≤mx)∧(rndF p mx mn md 0 n e c).k &&& 3=0:=by
 have e1:∀ i:Int,mn - ((p:Int) - 1)=mn - p+1:=fun _=>by omega
 unfold finS at h ⊢
 by_cases c0:c=0
 ·subst c0
  rw [if_pos rfl] at h ⊢
  by_cases h1:e<mn - p+1∨mx<e
  ·rw [if_pos h1] at h;cases h
  ·rw [if_neg h1]
   have hn1:ndg 0=1:=Qj (by decide)
   have key:rndF p mx mn md 0 n e 0=⟨0,n,e,0,0⟩:=by
    unfold rndF sxF
    rw [hn1]
    by_cases hp:p=0
    ·subst hp
     rw [if_pos rfl,if_neg (by omega),if_neg (by omega),Q4g]
    ·rw [if_neg hp,if_neg (by omega),if_neg (by omega)]
     by_cases h2:e<mn
     ·rw [if_pos (by omega),if_neg (by omega),if_pos ⟨rfl,rfl⟩,Q4g]
     ·rw [if_neg (by omega),if_neg (by omega),Q4g]
   exact ⟨fun _=>key,fun q=>(by cases q),fun _=>⟨fun _=>by omega,by omega⟩,by rw [key];show (0 &&& 3:Nat)=0;decide⟩
 ·rw [if_neg c0] at h ⊢
  by_cases h1:e+ndg c - 1<mn
  ·rw [if_pos h1] at h ⊢
   by_cases hp:p=0
   ·rw [if_pos hp] at h;cases h
   ·rw [if_neg hp] at h ⊢
    by_cases h2:e<mn - p+1
    ·rw [if_pos h2] at h ⊢
     by_cases h3:c % 10^(mn - p+1 - e).toNat≠0∧n=true∧(md=3∨md=4)
     ·rw [if_pos h3] at h;cases h
     ·rw [if_neg h3]
      have hq:rdiv md n c (mn - p+1 - e).toNat=rdiv md false c (mn - p+1 - e).toNat:=Q7L (by
       cases n
       ·exact .inl rfl
       ·right
        by_cases q:c % 10^(mn - p+1 - e).toNat=0
        ·exact .inl q
        ·exact .inr ⟨fun r=>h3 ⟨q,rfl,.inl r⟩,fun r=>h3 ⟨q,rfl,.inr r⟩⟩)
      have key:rndF p mx mn md 0 n e c=⟨0,n,mn - p+1,rdiv md n c (mn - p+1 - e).toNat,subK (decide (rdiv md n c (mn - p+1 - e).toNat=0)) (decide (c % 10^(mn - p+1 - e).toNat=0))⟩:=by
       unfold rndF sxF
       rw [if_neg hp,if_pos ⟨by omega,h1⟩,if_pos h1,if_pos (by omega),hq,e1 0]
       by_cases a:rdiv md false c (mn - p+1 - e).toNat=0 <;> by_cases b:c % 10^(mn - p+1 - e).toNat=0 <;> simp only [a,b,if_true,if_false,decide_true,decide_false] <;> rfl
      refine ⟨fun _=>key,fun q=>(by cases q),fun q=>absurd q c0,?_⟩
      rw [key]
      show subK _ _ &&& 3=0
      cases decide (rdiv md n c (mn - p+1 - e).toNat=0) <;> cases decide (c % 10^(mn - p+1 - e).toNat=0) <;> decide
    ·rw [if_neg h2]
     have key:rndF p mx mn md 0 n e c=⟨0,n,e,c,32⟩:=by
      unfold rndF sxF
      rw [if_neg hp,if_pos ⟨by omega,h1⟩,if_pos h1,if_neg (by omega),if_neg (by omega)]
      dsimp only;congr 1
     exact ⟨fun _=>key,fun q=>(by cases q),fun q=>absurd q c0,by rw [key];show (32 &&& 3:Nat)=0;decide⟩
  ·rw [if_neg h1] at h ⊢
   by_cases hp:0<p∧p<ndg c
   ·rw [if_pos hp] at h ⊢
    obtain ⟨r1,r2⟩:=Q85 (md:=md) (n:=n) hp.1 hp.2
    have hk:=Q6j c (ndg c - p)
    have hdv:=Q2C md n c (ndg c - p)
    have hnd:=Q45 (n:=c) (k:=ndg c - p) (by omega)
    have hfin:∀ (q d:Nat),rdq md n c (ndg c - p)=(q,d)→(¬ e+(d:Int)+ndg q - 1<mn)→((endS mx n (e+d) q (cutK c (ndg c - p))).over=false→rndF p mx mn md 0 n e c=(endS mx n (e+d) q (cutK c (ndg c - p))).d)∧((endS mx n (e+d) q (cutK c (ndg c - p))).over=true→(endS mx n (e+d) q (cutK c (ndg c - p))).d=⟨1,n,0,0,4⟩∧(rndF p mx mn md 0 n e c).f=1∧(rndF p mx mn md 0 n e c).n=n∧(rndF p mx mn md 0 n e c).k &&& 4≠0)∧(rndF p mx mn md 0 n e c).k &&& 3=0:=by
     intro q d hqd hq
     obtain ⟨s1,s2⟩:=Q6i (p:=p) (mx:=mx) (mn:=mn) (md:=md) (n:=n) (e:=e+d) (c:=q) (k:=cutK c (ndg c - p)) hq (.inr hk)
     have hr:rndF p mx mn md 0 n e c={ sxF p mx mn md 0 n q (ndg q) (cutK c (ndg c - p)) (e+d) with k:=orN (cutK c (ndg c - p)) (sxF p mx mn md 0 n q (ndg q) (cutK c (ndg c - p)) (e+d)).k }:=by
      unfold rndF
      rw [if_neg (by omega),if_neg (by omega),if_pos hp.2,hqd]
     rw [hr]
     generalize cutK c (ndg c - p)=K at hk s1 s2 ⊢
     cases ho:(endS mx n (e+d) q K).over with
     | false =>
      obtain ⟨_,s⟩:=s1 ho
      rw [s]
      have hd:(endS mx n (e+d) q K).d=⟨0,n,e+d,q,K⟩:=by
       unfold endS at ho ⊢
       by_cases h2:mx<e+(d:Int)+ndg q - 1
       ·rw [if_pos h2] at ho;cases ho
       ·rw [if_neg h2]
      rw [hd]
      refine ⟨fun _=>?_,fun w=>(by cases w),?_⟩
      ·dsimp only;rcases hk with rfl | rfl <;> congr 1
      ·show orN K K &&& 3=0
       rcases hk with rfl | rfl <;> decide
     | true =>
      obtain ⟨_,a1,a2,a3,a4⟩:=s2 ho
      refine ⟨fun w=>(by cases w),fun _=>⟨a1,a2,a3,?_⟩,?_⟩
      ·show orN K _ &&& 4≠0
       rw [a4]
       rcases hk with rfl | rfl <;> decide
      ·show orN K _ &&& 3=0
       rw [a4]
       rcases hk with rfl | rfl <;> decide
    have hq1:p≤ndg (rdiv md n c (ndg c - p)):=by
     have h3:0<c / 10^(ndg c - p):=by
      rcases Nat.eq_zero_or_pos (c / 10^(ndg c - p)) with q | q
      ·rw [q,Qj (by decide)] at hnd
       have h4:=Q0y (Nat.pos_of_ne_zero c0)
       have h5:10^(ndg c - p)≤10^(ndg c - 1):=QI (by omega)
       have:=Nat.div_pos (Nat.le_trans h5 h4) (QE (ndg c - p))
       omega
      ·exact q
     have h4:=Q0y h3
     have h5:=Q44 (n:=rdiv md n c (ndg c - p)) (k:=ndg (c / 10^(ndg c - p)) - 1) (by omega)
     have:=Qi (c / 10^(ndg c - p))
     omega
    by_cases h2:p<ndg (rdiv md n c (ndg c - p))
    ·rw [if_pos h2] at h ⊢
     have hx:ndg (rdiv md n c (ndg c - p))=ndg (rdiv md n c (ndg c - p) / 10)+1:=by
      refine QT ?_
      rcases Nat.lt_or_ge (rdiv md n c (ndg c - p)) 10 with q | q
      ·rw [Qj q] at h2;omega
      ·exact q
     obtain ⟨t1,t2,t3⟩:=hfin _ _ (r1 h2) (by omega)
     rw [show e+((ndg c - p:Nat):Int)+1=e+((ndg c - p+1:Nat):Int) by omega]
     exact ⟨t1,t2,fun q=>absurd q c0,t3⟩
    ·rw [if_neg h2] at h ⊢
     obtain ⟨t1,t2,t3⟩:=hfin _ _ (r2 h2) (by omega)
     exact ⟨t1,t2,fun q=>absurd q c0,t3⟩
   ·rw [if_neg hp] at h ⊢
    obtain ⟨s1,s2⟩:=Q6i (p:=p) (mx:=mx) (mn:=mn) (md:=md) (n:=n) (e:=e) (c:=c) (k:=0) h1 (.inl rfl)
    have hr:rndF p mx mn md 0 n e c=sxF p mx mn md 0 n c (ndg c) 0 e:=by
     unfold rndF
     by_cases hp0:p=0
     ·rw [if_pos hp0]
     ·rw [if_neg hp0,if_neg (by omega),if_neg (by omega)]
    rw [hr]
    cases ho:(endS mx n e c 0).over with
    | false =>
     obtain ⟨_,s⟩:=s1 ho
     have hd:(endS mx n e c 0).d=⟨0,n,e,c,0⟩:=by
      unfold endS at ho ⊢
      by_cases h2:mx<e+ndg c - 1
      ·rw [if_pos h2] at ho;cases ho
      ·rw [if_neg h2]
     exact ⟨fun _=>s,fun w=>(by cases w),fun q=>absurd q c0,by rw [s,hd];show (0 &&& 3:Nat)=0;decide⟩
    | true =>
     obtain ⟨_,a1,a2,a3,a4⟩:=s2 ho
     exact ⟨fun w=>(by cases w),fun _=>⟨a1,a2,a3,by rw [a4];decide⟩,fun q=>absurd q c0,by rw [a4];decide⟩
end Go.Proofs.YtpebcmfpehdafaaGreatDoor
