/- a part of the proof -/
import Derived.Test.YtpfjmeadikdddaaGreatDoorZ25
set_option linter.all false
set_option maxRecDepth 100000
set_option maxHeartbeats 16000000
namespace Go.Proofs.YtpfjmeadikdddaaGreatDoor
open Go Go.RowKit
def prdF (p:Nat)(mx mn:Int)(md:Nat)(n:Bool)(e:Int)(c:Nat):DR :=
 let x:=sxF p mx mn md 0 n c (ndg c) 0 e
 let y:=rndF p mx mn md x.f x.n x.e x.c
 { y with k:=orN x.k y.k }
theorem Q2F {a b:Nat}(h:a &&& 3=0)(h':b &&& 3=0):orN a b &&& 3=0:=by
 unfold orN;rw [Nat.and_or_distrib_right,h,h'];rfl
theorem QaQ {a:Nat}(b:Nat)(h:a &&& 4=4):orN a b &&& 4≠0:=by
 unfold orN;rw [Nat.and_or_distrib_right,h]
 intro q
 have:=Nat.left_le_or (n:=4) (m:=b &&& 4)
 omega
theorem Q4L {a:Nat}(h:a &&& 3=0):finK a &&& 3=0:=by
 unfold finK;split
 ·exact Q2F h (by decide)
 ·exact h
theorem Q3v {p:Nat}{mx mn:Int}{md:Nat}{f:Int}{n:Bool}{c nd res:Nat}{s:Int}(h:res &&& 3=0):(sxF p mx mn md f n c nd res s).k &&& 3=0:=by
 have o:=fun m (hm:m &&& 3=0)=>@Q2F res m h hm
 unfold sxF
 split
 ·split
  ·refine Q4L (Q2F ?_ (by decide))
   have h1:(if c % 10^(mn - ((p:Int) - 1) - s).toNat=0 then orN res 32 else orN (orN res 32) 16) &&& 3=0:=by
    split
    ·exact o 32 (by decide)
    ·exact Q2F (o 32 (by decide)) (by decide)
   split
   ·exact Q2F h1 (by decide)
   ·exact h1
  ·refine Q4L ?_
   split
   ·exact h
   ·exact o 32 (by decide)
 ·split
  ·exact Q4L (o 20 (by decide))
  ·exact Q4L h
theorem Q93 (c d:Nat):cutK c d &&& 3=0:=by unfold cutK;split <;> decide
theorem Qa7 (p:Nat)(mx mn:Int)(md:Nat)(f:Int)(n:Bool)(e:Int)(c:Nat):(rndF p mx mn md f n e c).k &&& 3=0:=by
 unfold rndF
 split
 ·exact Q3v (by decide)
 ·split
  ·exact Q2F (by decide) (Q3v (by decide))
  ·split
   ·exact Q2F (Q93 _ _) (Q3v (Q93 _ _))
   ·exact Q3v (by decide)
theorem Q4M {p:Nat}{mx mn:Int}{md:Nat}{n:Bool}{c nd res:Nat}{s:Int}:(sxF p mx mn md 1 n c nd res s).f=1∧(sxF p mx mn md 1 n c nd res s).n=n:=by
 unfold sxF
 split
 ·split <;> exact ⟨rfl,rfl⟩
 ·split <;> exact ⟨rfl,rfl⟩
theorem Q6K (p:Nat)(mx mn:Int)(md:Nat)(n:Bool)(e:Int)(c:Nat):(rndF p mx mn md 1 n e c).f=1∧(rndF p mx mn md 1 n e c).n=n:=by
 unfold rndF
 split
 ·exact Q4M
 ·split
  ·exact Q4M
  ·split
   ·exact Q4M
   ·exact Q4M
theorem Q94 (p:Nat)(mx mn:Int)(md:Nat)(n:Bool)(e:Int)(c:Nat):(prdF p mx mn md n e c).k<4096∧(prdF p mx mn md n e c).k &&& 3=0:=by
 unfold prdF
 exact ⟨Qr (Q0q (by decide)) Q4v,Q2F (Q3v (by decide)) (Qa7 _ _ _ _ _ _ _ _)⟩
theorem Q3w {p:Nat}{mx mn:Int}{md:Nat}{n:Bool}{e:Int}{c:Nat}(hp:p≠0)(hmx:0≤mx)(hmn:mn≤0)(h1:mn - p+1≤e)(h2:e+ndg c - 1≤mn)(hc:ndg c≤p)(hz:c=0→e=mn - p+1) :
  rndF p mx mn md 0 n e c=⟨0,n,e,c,if c≠0∧e+ndg c - 1<mn then 32 else 0⟩:=by
 have hpos:=Qh c
 unfold rndF sxF
 rw [if_neg hp]
 by_cases c0:c=0
 ·subst c0
  have hn1:ndg 0=1:=Qi (by decide)
  have he:=hz rfl
  rw [hn1,if_neg (by omega),if_neg (by omega),if_neg (show ¬ ((0:Nat)≠0∧e+((1:Nat):Int) - 1<mn) by omega)]
  by_cases h3:e<mn
  ·rw [if_pos (by omega),if_neg (by omega),if_pos ⟨rfl,rfl⟩,Q0E]
  ·rw [if_neg (by omega),if_neg (by omega),Q0E]
 ·by_cases h3:e+ndg c - 1<mn
  ·rw [if_pos ⟨by omega,h3⟩,if_pos h3,if_neg (by omega),if_neg (by omega),if_pos ⟨c0,h3⟩]
   dsimp only;congr 1
  ·rw [if_neg (by omega),if_neg (by omega),if_neg h3,if_neg (by omega),if_neg (show ¬ (c≠0∧e+ndg c - 1<mn) by omega),Q0E]
theorem Q95 {md:Nat}{n:Bool}{c p d:Nat}(hd:ndg c<p+d)(hp:p≠0):ndg (rdiv md n c d)≤p:=by
 obtain ⟨_,h2⟩:=Q0J md n c d
 have h3:c / 10^d<10^(p - 1):=by
  by_cases q:ndg c≤d
  ·rw [(Q1g q).1];exact QN _
  ·have h4:=Q0o (c / 10^d)
   have h5:=Q28 (n:=c) (k:=d) (by omega)
   have h6:10^ndg (c / 10^d)≤10^(p - 1):=QI (by omega)
   omega
 refine Q0A (by omega) ?_
 have h7:10^p=10^(p - 1)*10:=by rw [← Nat.pow_succ];congr 1;omega
 have:=QN (p - 1)
 omega
theorem Qa8 {p:Nat}{mx mn:Int}{md:Nat}{n:Bool}{e:Int}{c:Nat}(hmx:0≤mx)(hmn:mn≤0)(h:(finS p mx mn md n e c).known=true) :
  ((finS p mx mn md n e c).over=false→prdF p mx mn md n e c=(finS p mx mn md n e c).d) ∧
  ((finS p mx mn md n e c).over=true→(finS p mx mn md n e c).d=⟨1,n,0,0,4⟩∧(prdF p mx mn md n e c).f=1∧(prdF p mx mn md n e c).n=n∧(prdF p mx mn md n e c).k &&& 4≠0) ∧
  (c=0→(e<mn→mn - ((p:Int) - 1)≤e)∧e≤mx):=by
 obtain ⟨k1,k2,k3,k4⟩:=Q8B h
 have e1:∀ i:Int,mn - ((p:Int) - 1)=mn - p+1:=fun _=>by omega
 have same:sxF p mx mn md 0 n c (ndg c) 0 e=⟨0,n,e,c,0⟩→prdF p mx mn md n e c=rndF p mx mn md 0 n e c:=by
  intro q
  unfold prdF
  rw [q]
  dsimp only
  rw [show orN 0 (rndF p mx mn md 0 n e c).k=(rndF p mx mn md 0 n e c).k from Nat.zero_or _]
 refine ⟨?_,?_,k3⟩
 ·intro ho
  rw [← k1 ho]
  by_cases c0:c=0
  ·subst c0
   have hn1:ndg 0=1:=Qi (by decide)
   obtain ⟨g1,g2⟩:=k3 rfl
   refine same ?_
   unfold sxF
   rw [hn1]
   by_cases h2:e<mn
   ·have:=g1 h2
    rw [if_pos (by omega),if_neg (by omega),if_pos ⟨rfl,rfl⟩,Q0E]
   ·rw [if_neg (by omega),if_neg (by omega),Q0E]
  ·by_cases h1:e+ndg c - 1<mn
   ·have hp:p≠0:=by
     intro hp
     unfold finS at h
     rw [if_neg c0,if_pos h1,if_pos hp] at h;cases h
    by_cases h2:e<mn - p+1
    ·obtain ⟨d,hd⟩:∃ d:Nat,d=(mn - p+1 - e).toNat:=⟨_,rfl⟩
     have hr:∀ res,sxF p mx mn md 0 n c (ndg c) res e=⟨0,n,mn - p+1,rdiv md false c d,finK (orN (if rdiv md false c d=0 then orN (if c % 10^d=0 then orN res 32 else orN (orN res 32) 16) 2048 else (if c % 10^d=0 then orN res 32 else orN (orN res 32) 16)) 64)⟩:=by
      intro res
      unfold sxF
      rw [if_pos h1,if_pos (by omega),e1 0,← hd]
     have hx:sxF p mx mn md 0 n c (ndg c) 0 e=⟨0,n,mn - p+1,rdiv md false c d,(sxF p mx mn md 0 n c (ndg c) 32 e).k⟩:=by
      rw [hr 0,hr 32]
      dsimp only
      by_cases a:rdiv md false c d=0 <;> by_cases b:c % 10^d=0 <;> simp only [a,b,if_true,if_false] <;> rfl
     have hy:rndF p mx mn md 0 n e c=⟨0,n,mn - p+1,rdiv md false c d,orN 32 (sxF p mx mn md 0 n c (ndg c) 32 e).k⟩:=by
      have hs:rndF p mx mn md 0 n e c={ sxF p mx mn md 0 n c (ndg c) 32 e with k:=orN 32 (sxF p mx mn md 0 n c (ndg c) 32 e).k }:=by
       unfold rndF
       rw [if_neg hp,if_pos ⟨by omega,h1⟩]
      rw [hs,hr 32]
     have hq:=Q95 (md:=md) (n:=false) (c:=c) (p:=p) (d:=d) (by omega) hp
     have hz:=Q3w (md:=md) (n:=n) (mx:=mx) (e:=mn - p+1) (c:=rdiv md false c d) hp hmx hmn (by omega) (by omega) hq (fun _=>rfl)
     unfold prdF
     rw [hx,hy]
     dsimp only
     rw [hz]
     dsimp only
     have hK:∃ K,(sxF p mx mn md 0 n c (ndg c) 32 e).k=K∧(K=96∨K=120∨K=2144∨K=2168):=by
      refine ⟨_,rfl,?_⟩
      rw [hr 32]
      dsimp only
      split <;> split <;> decide
     obtain ⟨K,hK1,hK2⟩:=hK
     rw [hK1]
     congr 1
     split <;> rcases hK2 with rfl | rfl | rfl | rfl <;> decide
    ·have hx:sxF p mx mn md 0 n c (ndg c) 0 e=⟨0,n,e,c,32⟩:=by
      unfold sxF
      rw [if_pos h1,if_neg (by omega),if_neg (by omega)]
      rfl
     have hz:=Q3w (md:=md) (n:=n) (mx:=mx) (e:=e) (c:=c) hp hmx hmn (by omega) (by omega) (by omega) (fun q=>absurd q c0)
     rw [if_pos ⟨c0,h1⟩] at hz
     unfold prdF
     rw [hx]
     dsimp only
     rw [hz]
     dsimp only
     congr 1
   ·refine same ?_
    have hm:¬ mx<e+ndg c - 1:=by
     intro hm
     have hov:(finS p mx mn md n e c).over=true:=by
      unfold finS
      rw [if_neg c0,if_neg h1]
      by_cases hp:0<p∧p<ndg c
      ·rw [if_pos hp]
       have hdv:=Q0J md n c (ndg c - p)
       have hnd:=Q28 (n:=c) (k:=ndg c - p) (by omega)
       have hq1:p≤ndg (rdiv md n c (ndg c - p)):=by
        have h3:0<c / 10^(ndg c - p):=by
         rcases Nat.eq_zero_or_pos (c / 10^(ndg c - p)) with q | q
         ·rw [q,Qi (by decide)] at hnd
          have h4:=Q0p (Nat.pos_of_ne_zero c0)
          have h5:10^(ndg c - p)≤10^(ndg c - 1):=QI (by omega)
          have:=Nat.div_pos (Nat.le_trans h5 h4) (QN (ndg c - p))
          omega
         ·exact q
        have h4:=Q0p h3
        have h5:=Q4n (n:=rdiv md n c (ndg c - p)) (k:=ndg (c / 10^(ndg c - p)) - 1) (by omega)
        have:=Qh (c / 10^(ndg c - p))
        omega
       by_cases h2:p<ndg (rdiv md n c (ndg c - p))
       ·have hx:ndg (rdiv md n c (ndg c - p))=ndg (rdiv md n c (ndg c - p) / 10)+1:=by
         refine QS ?_
         rcases Nat.lt_or_ge (rdiv md n c (ndg c - p)) 10 with q | q
         ·rw [Qi q] at h2;omega
         ·exact q
        rw [if_pos h2]
        unfold endS
        rw [if_pos (by omega)]
       ·rw [if_neg h2]
        unfold endS
        rw [if_pos (by omega)]
      ·rw [if_neg hp]
       unfold endS
       rw [if_pos hm]
     rw [hov] at ho;cases ho
    unfold sxF
    rw [if_neg h1,if_neg hm,Q0E]
 ·intro ho
  obtain ⟨a1,a2,a3,a4⟩:=k2 ho
  refine ⟨a1,?_⟩
  have c0:c≠0:=by
   intro q
   unfold finS at ho
   rw [if_pos q] at ho
   split at ho <;> cases ho
  have h1:¬ e+ndg c - 1<mn:=by
   intro q
   unfold finS at ho
   rw [if_neg c0,if_pos q] at ho
   repeat' split at ho
   all_goals cases ho
  by_cases hm:mx<e+ndg c - 1
  ·have hx:sxF p mx mn md 0 n c (ndg c) 0 e=⟨1,n,e,c,20⟩:=by
    unfold sxF
    rw [if_neg h1,if_pos hm]
    rfl
   unfold prdF
   rw [hx]
   dsimp only
   exact ⟨(Q6K _ _ _ _ _ _ _).1,(Q6K _ _ _ _ _ _ _).2,QaQ _ (by decide)⟩
  ·have hx:=same (by
    unfold sxF
    rw [if_neg h1,if_neg hm,Q0E])
   rw [hx]
   exact ⟨a2,a3,a4⟩
end Go.Proofs.YtpfjmeadikdddaaGreatDoor
