/- a part of the proof -/
import Derived.Maps.AppendAt
import Derived.Laws.AppendOwn
import Derived.Test.YtpebcmfpehdafaaGreatDoorZ16
import Derived.Test.YtpebcmfpehdafaaGreatDoorZ20
import Derived.Test.YtpebcmfpehdafaaGreatDoorZ21
set_option linter.all false
set_option maxRecDepth 100000
set_option maxHeartbeats 16000000
namespace Go.Proofs.YtpebcmfpehdafaaGreatDoor
open Go Go.RowKit
def sxF (p:Nat)(mx mn:Int)(md:Nat)(f:Int)(n:Bool)(c nd res:Nat)(s:Int):DR :=
 if s+nd - 1<mn then
  if s<mn - ((p:Int) - 1) then
   ⟨f,n,mn - ((p:Int) - 1),rdiv md false c (mn - ((p:Int) - 1) - s).toNat,
    finK (orN (if rdiv md false c (mn - ((p:Int) - 1) - s).toNat=0 then orN (if c % 10^(mn - ((p:Int) - 1) - s).toNat=0 then orN res 32 else orN (orN res 32) 16) 2048 else (if c % 10^(mn - ((p:Int) - 1) - s).toNat=0 then orN res 32 else orN (orN res 32) 16)) 64)⟩
  else ⟨f,n,s,c,finK (if f=0∧c=0 then res else orN res 32)⟩
 else if mx<s+nd - 1 then ⟨1,n,s,c,finK (orN res 20)⟩
 else ⟨f,n,s,c,finK res⟩
def rdq (md:Nat)(n:Bool)(c d:Nat):Nat × Nat :=
 if c % 10^d=0 then (c / 10^d,d)
 else if upR md n (c / 10^d) (cmpN (2*(c % 10^d)) (10^d)) then
  (if ndg (c / 10^d)<ndg (c / 10^d+1) then (c / 10^d+1) / 10 else c / 10^d+1,if ndg (c / 10^d)<ndg (c / 10^d+1) then d+1 else d)
 else (c / 10^d,d)
def cutK (c d:Nat):Nat:=if c % 10^d=0 then 64 else 80
def rndF (p:Nat)(mx mn:Int)(md:Nat)(f:Int)(n:Bool)(e:Int)(c:Nat):DR :=
 if p=0 then sxF p mx mn md f n c (ndg c) 0 e
 else if ¬ (f=0∧c=0)∧e+ndg c - 1<mn then
  let x:=sxF p mx mn md f n c (ndg c) 32 e
  { x with k:=orN 32 x.k }
 else if p<ndg c then
  let q:=rdq md n c (ndg c - p)
  let x:=sxF p mx mn md f n q.1 (ndg q.1) (cutK c (ndg c - p)) (e+q.2)
  { x with k:=orN (cutK c (ndg c - p)) x.k }
 else sxF p mx mn md f n c (ndg c) 0 e
def DR.ob (x:DR):Ob:=.dec x.f x.n x.e (x.c:Int)
theorem Q2G {k:Nat}(h:k<4096):finK k<4096:=by unfold finK;split;exact Qv h (by decide);exact h
theorem SX.of {W:World}{σ:Sg}{b bk:Nat}{nd:Int}{res:Nat}{xs:List Int}{k:Nat}{D:Ob}
  (H:∀ w1 ba Ta τ,Ext σ τ→τ ba=some (.raw (.cells (xs.map (Value.int .i64)).toArray Ta))→St W τ w1→Calls Tryz.prog 86 #[.pointer (some ⟨b,0,none⟩),.pointer (some ⟨bk,0,none⟩),.int .i64 nd,.int .u32 (res:Int),.slice (some ⟨ba,0,none⟩) xs.length xs.length] w1 fun r w'=>r=.returned (.int .u32 (k:Int))∧St W (upd τ b D) w'):SX W σ b bk nd res xs k D:=fun w1 ba Ta hn h1 =>
 (H w1 ba Ta _ (Ext.new hn _) (Q1 _ _ _) h1).mono fun r w' ⟨a,q⟩=>⟨a,q.less ((Ext.new hn _).upd b D)⟩
theorem Q83 {W:World}{σ:Sg}(hW:GW W){b bk:Nat}{f:Int}{n:Bool}{e0:Int}{c p md res:Nat}{mx mn tr s:Int}(hb:σ b=some (.dec f n e0 (c:Int)))(hk:Ctx σ bk p mx mn tr md)(hc:c<BB^21)(hs:s.natAbs≤420)(hres:res<4096)
  (g1:f=0∨mn≤s+ndg c - 1) (g2:c=0→(s<mn→mn - ((p:Int) - 1)≤s)∧s≤mx) :
  SX W σ b bk (ndg c:Int) res [s] (sxF p mx mn md f n c (ndg c) res s).k (sxF p mx mn md f n c (ndg c) res s).ob:=by
 have hnd:=QG hc
 refine SX.of fun w1 ba Ta τ hE ha h1=>?_
 have hb':=hE _ _ hb
 have hk':=hk.ext hE
 have hmn:mn≤0:=by obtain ⟨_,_,_,_,_,q,_⟩:=hk;exact q
 have hs9:s.natAbs≤90000:=by omega
 unfold DR.ob sxF
 by_cases a1:s+ndg c - 1<mn
 ·rw [if_pos a1]
  rcases g1 with rfl | g1
  ·by_cases a2:s<mn - ((p:Int) - 1)
   ·rw [if_pos a2]
    have c0:0<c:=by
     rcases Nat.eq_zero_or_pos c with e | e
     ·have:=g2 e;have:=Qi c;omega
     ·exact e
    obtain ⟨kk,hkk⟩:∃ kk,kk=(mn - ((p:Int) - 1) - s).toNat:=⟨_,rfl⟩
    rw [← hkk]
    have hk1:s - (mn - ((p:Int) - 1)) = -(kk:Int):=by omega
    have hk4:kk≤423:=by omega
    by_cases hR:c % 10^kk=0
    ·have hq:rdiv md false c kk=c / 10^kk:=by unfold rdiv;rw [if_pos hR]
     rw [hq,if_pos hR]
     by_cases hz:c / 10^kk=0
     ·rw [if_pos hz]
      exact Q1Y hW h1 hb' hk' ha hs9 hnd hres hc c0 a1 a2 kk hk1 hk4 hR hz
     ·rw [if_neg hz]
      exact Q2l hW h1 hb' hk' ha hs9 hnd hres hc c0 a1 a2 kk hk1 hk4 hR hz
    ·rw [if_neg hR]
     cases hU:upR md false (c / 10^kk) (cmpN (2*(c % 10^kk)) (10^kk)) with
     | false =>
      have hq:rdiv md false c kk=c / 10^kk:=by unfold rdiv;rw [if_neg hR,hU];rfl
      rw [hq]
      by_cases hz:c / 10^kk=0
      ·rw [if_pos hz]
       exact Q28 hW h1 hb' hk' ha hs9 hnd hres hc c0 a1 a2 kk hk1 hk4 hR hU hz
      ·rw [if_neg hz]
       exact Q36 hW h1 hb' hk' ha hs9 hnd hres hc c0 a1 a2 kk hk1 hk4 hR hU hz
     | true =>
      have hq:rdiv md false c kk=c / 10^kk+1:=by unfold rdiv;rw [if_neg hR,hU];rfl
      rw [hq,if_neg (Nat.succ_ne_zero _)]
      exact Q2m hW h1 hb' hk' ha hs9 hnd hres hc c0 a1 a2 kk hk1 hk4 hR hU
   ·rw [if_neg a2]
    have a2':mn - ((p:Int) - 1)≤s:=by omega
    by_cases c0:c=0
    ·subst c0
     rw [if_pos ⟨rfl,rfl⟩]
     exact Q3o hW h1 hb' hk' ha hs9 hnd hres a1 a2'
    ·rw [if_neg (by omega)]
     exact Q3q hW h1 hb' hk' ha hs9 hnd hres hc (Nat.pos_of_ne_zero c0) a1 a2'
  ·omega
 ·rw [if_neg a1]
  by_cases a3:mx<s+ndg c - 1
  ·rw [if_pos a3]
   have c0:0<c:=by
    rcases Nat.eq_zero_or_pos c with e | e
    ·have:=g2 e
     rw [e,Qj (by decide)] at a3;omega
    ·exact e
   exact Q3l hW h1 hb' hk' ha hs9 hnd hres hc c0 a3
  ·rw [if_neg a3]
   have a1':mn≤s+ndg c - 1:=by omega
   have a3':s+ndg c - 1≤mx:=by omega
   exact Q4b hW h1 hb' hk' ha hs9 hnd hres hc a1' a3'
theorem Q84 {W:World}{σ:Sg}(hW:GW W){b bk:Nat}{f:Int}{n:Bool}{e0:Int}{c p md res:Nat}{mx mn tr s:Int}(hb:σ b=some (.dec f n e0 (c:Int)))(hk:Ctx σ bk p mx mn tr md)(hc:c<BB^21)(hs:s.natAbs≤420)(hres:res<4096)
  (g1:f=0∨mn≤s+ndg c - 1) (g2:c=0→(s<mn→mn - ((p:Int) - 1)≤s)∧s≤mx) (g3:c≠0→mn≤s+ndg c - 1) :
  SX W σ b bk (ndg c:Int) res [s,0] (sxF p mx mn md f n c (ndg c) res s).k (sxF p mx mn md f n c (ndg c) res s).ob:=by
 have hnd:=QG hc
 refine SX.of fun w1 ba Ta τ hE ha h1=>?_
 have hb':=hE _ _ hb
 have hk':=hk.ext hE
 have hs9:s.natAbs≤40000:=by omega
 have h09:(0:Int).natAbs≤40000:=by decide
 unfold DR.ob sxF
 by_cases a1:s+ndg c - 1<mn
 ·rw [if_pos a1]
  have c0:c=0:=by
   rcases Nat.eq_zero_or_pos c with e | e
   ·exact e
   ·have:=g3 (by omega);omega
  rcases g1 with rfl | g1
  ·have a2':mn - ((p:Int) - 1)≤s:=by have:=g2 c0;have:=Qi c;omega
   rw [if_neg (by omega)]
   subst c0
   rw [if_pos ⟨rfl,rfl⟩]
   have:=Q3p hW h1 hb' hk' ha hs9 h09 hnd hres (by rw [Int.add_zero];exact a1) (by rw [Int.add_zero];exact a2')
   rw [Int.add_zero] at this
   exact this
  ·omega
 ·rw [if_neg a1]
  by_cases a3:mx<s+ndg c - 1
  ·rw [if_pos a3]
   have c0:0<c:=by
    rcases Nat.eq_zero_or_pos c with e | e
    ·have:=g2 e
     rw [e,Qj (by decide)] at a3;omega
    ·exact e
   have:=Q3m hW h1 hb' hk' ha hs9 h09 hnd hres hc c0 (by rw [Int.add_zero];exact a3)
   rw [Int.add_zero] at this
   exact this
  ·rw [if_neg a3]
   have a1':mn≤s+ndg c - 1:=by omega
   have a3':s+ndg c - 1≤mx:=by omega
   have:=Q4c hW h1 hb' hk' ha hs9 h09 hnd hres hc (by rw [Int.add_zero];exact a1') (by rw [Int.add_zero];exact a3')
   rw [Int.add_zero] at this
   exact this
theorem Q5E {W:World}{σ:Sg}(hW:GW W){b bk:Nat}{f:Int}{n:Bool}{e0:Int}{c p md res:Nat}{mx mn tr s1 s2:Int}(hb:σ b=some (.dec f n e0 (c:Int)))(hk:Ctx σ bk p mx mn tr md)(hc:c<BB^21)(hs1:s1.natAbs≤420)(hs2:s2.natAbs≤2000)(hres:res<4096)(c0:0<c)(g3:mn≤s1+s2+ndg c - 1) :
  SX W σ b bk (-1) res [s1,s2] (sxF p mx mn md f n c (ndg c) res (s1+s2)).k (sxF p mx mn md f n c (ndg c) res (s1+s2)).ob:=by
 refine SX.of fun w1 ba Ta τ hE ha h1=>?_
 have hb':=hE _ _ hb
 have hk':=hk.ext hE
 have hs9:s1.natAbs≤40000:=by omega
 have h09:s2.natAbs≤40000:=by omega
 unfold DR.ob sxF
 have a1:¬ (s1+s2+ndg c - 1<mn):=by omega
 rw [if_neg a1]
 by_cases a3:mx<s1+s2+ndg c - 1
 ·rw [if_pos a3]
  exact Q3n hW h1 hb' hk' ha hs9 h09 rfl hres hc c0 a3
 ·rw [if_neg a3]
  have a3':s1+s2+ndg c - 1≤mx:=by omega
  exact Q4d hW h1 hb' hk' ha hs9 h09 rfl hres hc g3 a3'
theorem Q0L {p:Nat}{mx mn:Int}{md:Nat}{f:Int}{n:Bool}{c nd res:Nat}{s:Int}(h:res<4096):(sxF p mx mn md f n c nd res s).k<4096:=by
 have o:=fun m (hm:m<4096)=>@Qv res m h hm
 unfold sxF
 split
 ·split
  ·refine Q2G (Qv ?_ (by decide))
   have h1:(if c % 10^(mn - ((p:Int) - 1) - s).toNat=0 then orN res 32 else orN (orN res 32) 16)<4096:=by
    split
    ·exact o 32 (by decide)
    ·exact Qv (o 32 (by decide)) (by decide)
   split
   ·exact Qv h1 (by decide)
   ·exact h1
  ·refine Q2G ?_
   split
   ·exact h
   ·exact o 32 (by decide)
 ·split
  ·exact Q2G (o 20 (by decide))
  ·exact Q2G h
theorem Q6h (c d:Nat):cutK c d<4096:=by unfold cutK;split <;> decide
theorem Q3M {W:World}{σ:Sg}{w:World}(hW:GW W){b bx bk:Nat}{f:Int}{n:Bool}{e:Int}{c p md:Nat}{mx mn tr:Int}(hS:Calls Tryz.prog 82 #[.pointer (some ⟨b,0,none⟩),.pointer (some ⟨bx,0,none⟩)] w fun r w'=>r=.returned (.pointer (some ⟨b,0,none⟩))∧St W σ w')(hb:σ b=some (.dec f n e (c:Int)))(hx:σ bx=some (.dec f n e (c:Int)))(hk:Ctx σ bk p mx mn tr md)(hc:c<BB^20)(he:e.natAbs≤420)
  (g1:f=0∨mn≤e+ndg c - 1) (g2:c=0→(e<mn→mn - ((p:Int) - 1)≤e)∧e≤mx) :
  Calls Tryz.prog 120 #[.string (rndS md),.pointer (some ⟨bk,0,none⟩),.pointer (some ⟨b,0,none⟩),.pointer (some ⟨bx,0,none⟩),.bool true] w fun r w'=>r=.returned (.int .u32 (((rndF p mx mn md f n e c).k:Nat):Int))∧St W (upd σ b (rndF p mx mn md f n e c).ob) w':=by
 have hc21:c<BB^21:=Nat.lt_trans hc (by unfold BB;decide)
 have hg1:=g1
 have he4:e.natAbs≤40000:=by omega
 have hpos:=Qi c
 unfold rndF
 by_cases hp:p=0
 ·rw [if_pos hp]
  exact Q81 hW hS hb hx hk hc21 he4 hp (Q83 hW hb hk hc21 he (by decide) hg1 g2)
 ·rw [if_neg hp]
  by_cases hsub:¬ (f=0∧c=0)∧e+ndg c - 1<mn
  ·rw [if_pos hsub]
   exact Q76 hW hS hb hx hk hc21 he4 hp hsub.1 hsub.2 (Q0L (by decide)) (Q83 hW hb hk hc21 he (by decide) hg1 g2)
  ·rw [if_neg hsub]
   by_cases hlt:p<ndg c
   ·rw [if_pos hlt]
    have c0:0<c:=by
     rcases Nat.eq_zero_or_pos c with e0 | e0
     ·rw [e0,Qj (by decide)] at hlt;omega
     ·exact e0
    have hz:¬ (f=0∧c=0):=by omega
    have ha:mn≤e+ndg c - 1:=by
     rcases Int.lt_or_le (e+ndg c - 1) mn with q | q
     ·exact absurd ⟨hz,q⟩ hsub
     ·exact q
    obtain ⟨d,hd⟩:∃ d,d=ndg c - p:=⟨_,rfl⟩
    have hd1:ndg c=p+d:=by omega
    have hd0:0<d:=by omega
    have hdl:d≤405:=by have:=QG hc21;omega
    rw [← hd]
    have hq0:0<c / 10^d∧ndg (c / 10^d)=p:=by
     have:=Q45 (n:=c) (k:=d) (by omega)
     refine ⟨?_,by omega⟩
     rcases Nat.eq_zero_or_pos (c / 10^d) with q | q
     ·have h1:=Q0y c0
      have h2:10^d≤10^(ndg c - 1):=QI (by omega)
      have:=Nat.div_pos (Nat.le_trans h2 h1) (QE d)
      omega
     ·exact q
    have hql:c / 10^d+1<BB^21:=by
     have:=Nat.div_le_self c (10^d)
     exact Nat.lt_of_le_of_lt (show c / 10^d+1≤BB^20 by omega) (by unfold BB;decide)
    unfold rdq cutK
    by_cases hR:c % 10^d=0
    ·rw [if_pos hR,if_pos hR]
     exact Q2n hW hS hb hx hk hc he4 (fun _=>hp) hz ha hd1 hd0 hR (Q0L (by decide)) ((fun q=>q) (by
      have:=Q5E hW (σ:=upd σ b (.dec f n e ((c / 10^d:Nat):Int))) (bk:=bk) (res:=64) (s1:=e) (s2:=(d:Int)) (Q1 _ _ _) (hk.upd hb _) (by omega) he (by omega) (by decide) hq0.1 (by omega)
      exact this))
    ·rw [if_neg hR,if_neg hR]
     cases hU:upR md n (c / 10^d) (cmpN (2*(c % 10^d)) (10^d)) with
     | false =>
      rw [if_neg (by simp)]
      exact Q38 hW hS hb hx hk hc he4 (fun _=>hp) hz ha hd1 hd0 hR hU (Q0L (by decide)) ((fun q=>q) (by
       have:=Q5E hW (σ:=upd σ b (.dec f n e ((c / 10^d:Nat):Int))) (bk:=bk) (res:=80) (s1:=e) (s2:=(d:Int)) (Q1 _ _ _) (hk.upd hb _) (by omega) he (by omega) (by decide) hq0.1 (by omega)
       exact this))
     | true =>
      rw [if_pos rfl]
      have hqq:0<(if ndg (c / 10^d)<ndg (c / 10^d+1) then (c / 10^d+1) / 10 else c / 10^d+1)∧(if ndg (c / 10^d)<ndg (c / 10^d+1) then (c / 10^d+1) / 10 else c / 10^d+1)<BB^21∧p≤ndg (if ndg (c / 10^d)<ndg (c / 10^d+1) then (c / 10^d+1) / 10 else c / 10^d+1):=by
       have hp2:=hq0.2
       have hp1:=hq0.1
       generalize c / 10^d=Q at hp2 hp1 hql
       by_cases hs:ndg Q<ndg (Q+1)
       ·rw [if_pos hs]
        have q1:=Q0m Q
        have q2:10^(ndg (Q+1) - 1)≤Q+1:=Q0y (by omega)
        have q3:10^ndg Q≤10^(ndg (Q+1) - 1):=QI (by omega)
        have q4:Q+1=10^ndg Q:=by omega
        have q5:=Qi Q
        have q6:(Q+1) / 10=10^(ndg Q - 1):=by
         rw [q4,show ndg Q=ndg Q - 1+1 by omega,Nat.pow_succ,Nat.add_sub_cancel];omega
        refine ⟨by rw [q6];exact QE _,by omega,?_⟩
        rw [q6]
        have:=Q44 (n:=10^(ndg Q - 1)) (k:=ndg Q - 1) (Nat.le_refl _)
        omega
       ·rw [if_neg hs]
        have q1:=Q0y hp1
        have q2:=Q44 (n:=Q+1) (k:=ndg Q - 1) (by omega)
        have q5:=Qi Q
        exact ⟨by omega,hql,by omega⟩
      have hdd:d≤(if ndg (c / 10^d)<ndg (c / 10^d+1) then d+1 else d)∧(if ndg (c / 10^d)<ndg (c / 10^d+1) then d+1 else d)≤d+1:=by split <;> omega
      refine Q2o hW hS hb hx hk hc he4 (fun _=>hp) hz ha hd1 hd0 hR hU (Q0L (by decide)) ?_
      generalize (if ndg (c / 10^d)<ndg (c / 10^d+1) then (c / 10^d+1) / 10 else c / 10^d+1)=q1 at hqq ⊢
      generalize (if ndg (c / 10^d)<ndg (c / 10^d+1) then d+1 else d)=d1 at hdd ⊢
      have:=Q5E hW (σ:=upd σ b (.dec f n e (q1:Int))) (bk:=bk) (res:=80) (s1:=e) (s2:=(d1:Int)) (Q1 _ _ _) (hk.upd hb _) hqq.2.1 he (by omega) (by decide) hqq.1 (by omega)
      exact this
   ·rw [if_neg hlt]
    by_cases hz:f=0∧c=0
    ·exact Q3r hW hS hb hx hk hc21 he4 hp hz (by omega) (Q0L (by decide)) (Q84 hW hb hk hc21 he (by decide) hg1 g2 (by omega))
    ·have ha:mn≤e+ndg c - 1:=by
      rcases Int.lt_or_le (e+ndg c - 1) mn with q | q
      ·exact absurd ⟨hz,q⟩ hsub
      ·exact q
     exact Q3s hW hS hb hx hk hc21 he4 hp hz ha (by omega) (Q0L (by decide)) (Q84 hW hb hk hc21 he (by decide) hg1 g2 (fun _=>ha))
theorem Q77 {W:World}{σ:Sg}{w:World}(hW:GW W){b bx bk:Nat}{f:Int}{n:Bool}{e:Int}{c p md:Nat}{mx mn tr:Int}(hS:Calls Tryz.prog 82 #[.pointer (some ⟨b,0,none⟩),.pointer (some ⟨bx,0,none⟩)] w fun r w'=>r=.returned (.pointer (some ⟨b,0,none⟩))∧St W σ w')(hb:σ b=some (.dec f n e (c:Int)))(hx:σ bx=some (.dec f n e (c:Int)))(hk:Ctx σ bk p mx mn tr md)(hc:c<BB^20)(he:e.natAbs≤200)
  (g1:f=0∨(c=0∧mn≤e∧e≤mx)) (g2:c=0→(e<mn→mn - ((p:Int) - 1)≤e)∧e≤mx) :
  Calls Tryz.prog 120 #[.string (rndS md),.pointer (some ⟨bk,0,none⟩),.pointer (some ⟨b,0,none⟩),.pointer (some ⟨bx,0,none⟩),.bool true] w fun r w'=>r=.returned (.int .u32 (((rndF p mx mn md f n e c).k:Nat):Int))∧St W (upd σ b (rndF p mx mn md f n e c).ob) w' :=
 Q3M hW hS hb hx hk hc (by omega) (by
  rcases g1 with g | ⟨g,g'⟩
  ·exact .inl g
  ·rw [g,Qj (by decide)];exact .inr (by omega)) g2
def btOk (q k:Nat):Bool:=(q % 2^k != 0) || (((q &&& 2^k) == 0 && q % 2^(k+1) == 0) || ((q &&& 2^k) == 2^k && (q ^^^ 2^k) % 2^(k+1) == 0 && decide (q ^^^ 2^k<4096)))
theorem Q89:(List.range 12).all (fun k=>(List.range 4096).all fun q=>btOk q k)=true:=by kernel_rfl
theorem bt {q k:Nat}(hk:k<12)(hq:q<4096)(h:q % 2^k=0):((q &&& 2^k)=0∧q % 2^(k+1)=0)∨((q &&& 2^k)=2^k∧(q ^^^ 2^k) % 2^(k+1)=0∧q ^^^ 2^k<4096):=by
 have h1:=List.all_eq_true.1 (List.all_eq_true.1 Q89 k (List.mem_range.2 hk)) q (List.mem_range.2 hq)
 unfold btOk at h1
 simp only [Bool.or_eq_true,Bool.and_eq_true,bne_iff_ne,ne_eq,beq_iff_eq,decide_eq_true_eq] at h1
 rcases h1 with h1 | h1 | ⟨⟨h1,h2⟩,h3⟩
 ·exact absurd h h1
 ·exact .inl h1
 ·exact .inr ⟨h1,h2,h3⟩
theorem Q4h (sep:List UInt8)(r:List (List UInt8))(h:∀ x ∈ r,x.length≤100):(Lib.joinTail sep r).length≤r.length*(sep.length+100):=by
 unfold Lib.joinTail
 induction r with
 | nil=>simp
 | cons x r ih =>
  have h1:=h x (List.mem_cons_self ..)
  have h2:=ih (fun y hy=>h y (List.mem_cons_of_mem _ hy))
  simp only [List.map_cons,List.flatten_cons,List.length_append,List.length_cons]
  rw [Nat.add_mul];omega
theorem Q8a (sep:List UInt8)(xs:List (List UInt8))(h:∀ x ∈ xs,x.length≤100):(Lib.join xs sep).length≤xs.length*(sep.length+100):=by
 cases xs with
 | nil=>simp [Lib.join_nil]
 | cons x r =>
  rw [Lib.join_cons,List.length_append,List.length_cons,Nat.add_mul]
  have h1:=h x (List.mem_cons_self ..)
  have h2:=Q4h sep r (fun y hy=>h y (List.mem_cons_of_mem _ hy))
  omega
theorem Q9l:(Tryz.prog.info? 9).map (fun i=>(i.zero,i.size,i.bytes))=some (some (.string ByteArray.empty),1,16):=by kernel_rfl
theorem Q5G (q0:Nat)(hq0:q0<4096)(w:World):Calls Tryz.prog 163 #[.int .u32 (q0:Int)] w fun e w'=>(∃ s,e=.returned (.string s))∧Below w.heap.size w w':=by
 obtain ⟨i0,hi,hz0,hz1,hz2⟩:=info_parts Q9l
 go_enter Tryz.func163, Tryz.ntmps163
 go_wp2_with fail
 go_loopw [0,3,4,5] (fun r v i s wr=>∃ (q k:Nat) (xs:List ByteArray) (vv:Value),k≤12∧v=vv∧r=.int .u32 (q:Int)∧i=.int .u32 ((2^k:Nat):Int)∧q<4096∧q % 2^k=0∧xs.length≤k∧(∀ x ∈ xs,x.data.toList.length≤100)∧wr.ownsRow w.heap.size 9 1 v xs.length (xs.map Value.string)∧Below w.heap.size w wr)
  (fun _ _ i _ _=>4096 - (intOf i).toNat)
 case atStart=>exact ⟨q0,0,[],_,by omega,rfl,rfl,rfl,hq0,by omega,by simp,by simp,World.ownsRow_nil _ _ _ _,Below.refl _ _⟩
 case round =>
  obtain ⟨q,k,xs,v,hk,hve,rfl,hie,hq,hm,hl,hxs,hown,hnx⟩:=hrel
  replace hve:=hve.symm
  subst hve
  by_cases hq00:q=0
  ·subst hq00
   have HJ:Hid (Calls Tryz.prog 184 #[v,.string ⟨#[44,32]⟩] wr fun e w'=>(∃ s,e=.returned (.string s))∧Below w.heap.size w w'):=by
    rcases hown.2 with ⟨e1,e2⟩ | ⟨g,cap,cur,e1,e2,e3,e4,e5,e6,e7⟩
    ·rw [e1]
     exact (Tryz.strings_Join_none none 0 _ wr).mono fun e w' ⟨h1,h2⟩=>⟨⟨_,h1⟩,h2 ▸ hnx⟩
    ·rw [e1]
     have hg:g<wr.heap.size:=(Array.getElem?_eq_some_iff.1 e3).1
     have h5:(Lib.join (xs.map (·.data.toList)) [44,32]).length≤140737488355328:=by
      have:=Q8a [44,32] (xs.map (·.data.toList)) (by intro x hx;obtain ⟨y,hy,rfl⟩:=List.mem_map.1 hx;exact hxs y hy)
      rw [List.length_map] at this
      have:xs.length*(([44,32]:List UInt8).length+100)≤12*102:=Nat.mul_le_mul (by omega) (by decide)
      omega
     refine (Tryz.strings_Join g 0 cap xs ⟨#[44,32]⟩ wr ?_ hg (by omega) e4 h5).mono fun e w' ⟨h1,h2⟩=>⟨⟨_,h1⟩,hnx.trans (h2.mono hnx.size)⟩
     intro j x hx
     have hj:j<xs.length:=(List.getElem?_eq_some_iff.1 hx).1
     have h7:(cur.toList.take (xs.length*1))[j]?=some (.string x):=by rw [e7,List.getElem?_map,hx];rfl
     rw [List.getElem?_take_of_lt (by omega)] at h7
     unfold World.cell?
     rw [e3]
     simpa using h7
   clear hown hnx hxs hie
   go_wp2_with fail
   refine HJ.out.mono ?_
   rintro r w1 ⟨⟨s1,rfl⟩,hB⟩
   replace hB:=Lh hB
   go_wp2_with fail
   go_ret
   exact ⟨⟨_,rfl⟩,hB.out⟩
  ·have hk12:k<12:=by
    rcases Nat.lt_or_ge k 12 with h | h
    ·exact h
    ·have:k=12:=by omega
     subst this;omega
   have hbt:=bt hk12 hq hm
   have hq1:((q:Int)=0)=False:=by simp;omega
   have hsz:=hnx.size
   rcases (show k=0∨k=1∨k=2∨k=3∨k=4∨k=5∨k=6∨k=7∨k=8∨k=9∨k=10∨k=11 by omega) with rfl | rfl | rfl | rfl | rfl | rfl | rfl | rfl | rfl | rfl | rfl | rfl
   ·replace hie:_=Value.int .u32 1:=hie
    subst hie
    have hS:∀ w1:World,(binOp .shl 72 (.int .u32 1) (.int .u64 1)).run Tryz.prog w1=.ok (.int .u32 2) w1:=fun _=>by kernel_rfl
    have hA:=Lh (u32_and_nat q 1 (by omega) (by decide))
    have hX:=Lh (u32_xor_nat q 1 (by omega) (by decide))
    rcases hbt with ⟨h1,h2⟩ | ⟨h1,h2,h3⟩
    ·have hA1:bits .and .u32 (q:Int) 1=0:=hA.out.trans (by show ((q &&& 2^0:Nat):Int)=0;rw [h1];rfl)
     have HR:=Lh (show q % 2^(0+1)=0 from h2)
     have Hown:=Lh hown;have Hnx:=Lh hnx;have Hxs:=Lh hxs
     clear h1 h2 hA hX hown hnx hxs hm
     go_wp2_with fail
     go_roundw
     case rel=>exact ⟨q,0+1,xs,_,by omega,rfl,rfl,rfl,hq,HR.out,by omega,Hxs.out,Hown.out,Hnx.out⟩
     case measure=>simp [intOf]
    ·have hA1:bits .and .u32 (q:Int) 1=1:=hA.out.trans (by show ((q &&& 2^0:Nat):Int)=1;rw [h1];rfl)
     have hX1:bits .xor .u32 (q:Int) 1=((q ^^^ 2^0:Nat):Int):=hX.out
     generalize hz:q ^^^ 2^0=z at hX1 h2 h3
     have HR:=Lh (show z % 2^(0+1)=0 from h2)
     have Hown:=Lh hown;have Hnx:=Lh hnx;have Hxs:=Lh hxs
     clear h1 h2 hA hX hz hown hnx hxs hm
     go_wp2_with fail
     go_roundw
     case rel=>exact ⟨z,0+1,xs,_,by omega,rfl,rfl,rfl,h3,HR.out,by omega,Hxs.out,Hown.out,Hnx.out⟩
     case measure=>simp [intOf]
   ·replace hie:_=Value.int .u32 2:=hie
    subst hie
    have hS:∀ w1:World,(binOp .shl 72 (.int .u32 2) (.int .u64 1)).run Tryz.prog w1=.ok (.int .u32 4) w1:=fun _=>by kernel_rfl
    have hA:=Lh (u32_and_nat q 2 (by omega) (by decide))
    have hX:=Lh (u32_xor_nat q 2 (by omega) (by decide))
    rcases hbt with ⟨h1,h2⟩ | ⟨h1,h2,h3⟩
    ·have hA1:bits .and .u32 (q:Int) 2=0:=hA.out.trans (by show ((q &&& 2^1:Nat):Int)=0;rw [h1];rfl)
     have HR:=Lh (show q % 2^(1+1)=0 from h2)
     have Hown:=Lh hown;have Hnx:=Lh hnx;have Hxs:=Lh hxs
     clear h1 h2 hA hX hown hnx hxs hm
     go_wp2_with fail
     go_roundw
     case rel=>exact ⟨q,1+1,xs,_,by omega,rfl,rfl,rfl,hq,HR.out,by omega,Hxs.out,Hown.out,Hnx.out⟩
     case measure=>simp [intOf]
    ·have hA1:bits .and .u32 (q:Int) 2=2:=hA.out.trans (by show ((q &&& 2^1:Nat):Int)=2;rw [h1];rfl)
     have hX1:bits .xor .u32 (q:Int) 2=((q ^^^ 2^1:Nat):Int):=hX.out
     generalize hz:q ^^^ 2^1=z at hX1 h2 h3
     have HR:=Lh (show z % 2^(1+1)=0 from h2)
     have Hown:=Lh hown;have Hnx:=Lh hnx;have Hxs:=Lh hxs
     clear h1 h2 hA hX hz hown hnx hxs hm
     go_wp2_with fail
     go_roundw
     case rel=>exact ⟨z,1+1,xs,_,by omega,rfl,rfl,rfl,h3,HR.out,by omega,Hxs.out,Hown.out,Hnx.out⟩
     case measure=>simp [intOf]
   ·replace hie:_=Value.int .u32 4:=hie
    subst hie
    have hS:∀ w1:World,(binOp .shl 72 (.int .u32 4) (.int .u64 1)).run Tryz.prog w1=.ok (.int .u32 8) w1:=fun _=>by kernel_rfl
    have hA:=Lh (u32_and_nat q 4 (by omega) (by decide))
    have hX:=Lh (u32_xor_nat q 4 (by omega) (by decide))
    rcases hbt with ⟨h1,h2⟩ | ⟨h1,h2,h3⟩
    ·have hA1:bits .and .u32 (q:Int) 4=0:=hA.out.trans (by show ((q &&& 2^2:Nat):Int)=0;rw [h1];rfl)
     have HR:=Lh (show q % 2^(2+1)=0 from h2)
     have Hown:=Lh hown;have Hnx:=Lh hnx;have Hxs:=Lh hxs
     clear h1 h2 hA hX hown hnx hxs hm
     go_wp2_with fail
     go_roundw
     case rel=>exact ⟨q,2+1,xs,_,by omega,rfl,rfl,rfl,hq,HR.out,by omega,Hxs.out,Hown.out,Hnx.out⟩
     case measure=>simp [intOf]
    ·have hA1:bits .and .u32 (q:Int) 4=4:=hA.out.trans (by show ((q &&& 2^2:Nat):Int)=4;rw [h1];rfl)
     have hX1:bits .xor .u32 (q:Int) 4=((q ^^^ 2^2:Nat):Int):=hX.out
     generalize hz:q ^^^ 2^2=z at hX1 h2 h3
     have HR:=Lh (show z % 2^(2+1)=0 from h2)
     have Hnx:=Lh hnx;have Hxs:=Lh hxs
     clear h1 h2 hA hX hz hnx hxs hm
     go_wp2_with (first
      | (at_builtin;refine wpList_append_own _ rfl _ _ 196 rfl w.heap.size 9 i0 (.string ByteArray.empty) 1 16 Tryz.underlying196 hi hz0 hz1 hz2 rfl (by decide) _ _ _ rfl (hown.alloc _) ⟨wr.heap.size,0,none⟩ 1 1 [.string ⟨#[111,118,101,114,102,108,111,119]⟩] rfl rfl (cell_one_new _ _ _) (fun x hx=>by simp at hx;subst hx;rfl) (by unfold maxLen;omega) (by omega) (by simp;omega) ?_;intro v' w3 hown' hgrow3 hnil3))
     go_roundw
     case rel=>exact ⟨z,2+1,xs ++ [⟨#[111,118,101,114,102,108,111,119]⟩],_,by omega,rfl,rfl,rfl,h3,HR.out,by simp;omega,by intro x hx;rcases List.mem_append.1 hx with hx | hx;exact Hxs.out x hx;simp at hx;subst hx;decide,by rw [List.map_append,List.length_append];exact hown',(Hnx.out.alloc hsz _).grown hgrow3 (by simp;omega) (fun q hq=>(hown.lt q hq).1)⟩
     case measure=>simp [intOf]
   ·replace hie:_=Value.int .u32 8:=hie
    subst hie
    have hS:∀ w1:World,(binOp .shl 72 (.int .u32 8) (.int .u64 1)).run Tryz.prog w1=.ok (.int .u32 16) w1:=fun _=>by kernel_rfl
    have hA:=Lh (u32_and_nat q 8 (by omega) (by decide))
    have hX:=Lh (u32_xor_nat q 8 (by omega) (by decide))
    rcases hbt with ⟨h1,h2⟩ | ⟨h1,h2,h3⟩
    ·have hA1:bits .and .u32 (q:Int) 8=0:=hA.out.trans (by show ((q &&& 2^3:Nat):Int)=0;rw [h1];rfl)
     have HR:=Lh (show q % 2^(3+1)=0 from h2)
     have Hown:=Lh hown;have Hnx:=Lh hnx;have Hxs:=Lh hxs
     clear h1 h2 hA hX hown hnx hxs hm
     go_wp2_with fail
     go_roundw
     case rel=>exact ⟨q,3+1,xs,_,by omega,rfl,rfl,rfl,hq,HR.out,by omega,Hxs.out,Hown.out,Hnx.out⟩
     case measure=>simp [intOf]
    ·have hA1:bits .and .u32 (q:Int) 8=8:=hA.out.trans (by show ((q &&& 2^3:Nat):Int)=8;rw [h1];rfl)
     have hX1:bits .xor .u32 (q:Int) 8=((q ^^^ 2^3:Nat):Int):=hX.out
     generalize hz:q ^^^ 2^3=z at hX1 h2 h3
     have HR:=Lh (show z % 2^(3+1)=0 from h2)
     have Hnx:=Lh hnx;have Hxs:=Lh hxs
     clear h1 h2 hA hX hz hnx hxs hm
     go_wp2_with (first
      | (at_builtin;refine wpList_append_own _ rfl _ _ 196 rfl w.heap.size 9 i0 (.string ByteArray.empty) 1 16 Tryz.underlying196 hi hz0 hz1 hz2 rfl (by decide) _ _ _ rfl (hown.alloc _) ⟨wr.heap.size,0,none⟩ 1 1 [.string ⟨#[117,110,100,101,114,102,108,111,119]⟩] rfl rfl (cell_one_new _ _ _) (fun x hx=>by simp at hx;subst hx;rfl) (by unfold maxLen;omega) (by omega) (by simp;omega) ?_;intro v' w3 hown' hgrow3 hnil3))
     go_roundw
     case rel=>exact ⟨z,3+1,xs ++ [⟨#[117,110,100,101,114,102,108,111,119]⟩],_,by omega,rfl,rfl,rfl,h3,HR.out,by simp;omega,by intro x hx;rcases List.mem_append.1 hx with hx | hx;exact Hxs.out x hx;simp at hx;subst hx;decide,by rw [List.map_append,List.length_append];exact hown',(Hnx.out.alloc hsz _).grown hgrow3 (by simp;omega) (fun q hq=>(hown.lt q hq).1)⟩
     case measure=>simp [intOf]
   ·replace hie:_=Value.int .u32 16:=hie
    subst hie
    have hS:∀ w1:World,(binOp .shl 72 (.int .u32 16) (.int .u64 1)).run Tryz.prog w1=.ok (.int .u32 32) w1:=fun _=>by kernel_rfl
    have hA:=Lh (u32_and_nat q 16 (by omega) (by decide))
    have hX:=Lh (u32_xor_nat q 16 (by omega) (by decide))
    rcases hbt with ⟨h1,h2⟩ | ⟨h1,h2,h3⟩
    ·have hA1:bits .and .u32 (q:Int) 16=0:=hA.out.trans (by show ((q &&& 2^4:Nat):Int)=0;rw [h1];rfl)
     have HR:=Lh (show q % 2^(4+1)=0 from h2)
     have Hown:=Lh hown;have Hnx:=Lh hnx;have Hxs:=Lh hxs
     clear h1 h2 hA hX hown hnx hxs hm
     go_wp2_with fail
     go_roundw
     case rel=>exact ⟨q,4+1,xs,_,by omega,rfl,rfl,rfl,hq,HR.out,by omega,Hxs.out,Hown.out,Hnx.out⟩
     case measure=>simp [intOf]
    ·have hA1:bits .and .u32 (q:Int) 16=16:=hA.out.trans (by show ((q &&& 2^4:Nat):Int)=16;rw [h1];rfl)
     have hX1:bits .xor .u32 (q:Int) 16=((q ^^^ 2^4:Nat):Int):=hX.out
     generalize hz:q ^^^ 2^4=z at hX1 h2 h3
     have HR:=Lh (show z % 2^(4+1)=0 from h2)
     have Hnx:=Lh hnx;have Hxs:=Lh hxs
     clear h1 h2 hA hX hz hnx hxs hm
     go_wp2_with (first
      | (at_builtin;refine wpList_append_own _ rfl _ _ 196 rfl w.heap.size 9 i0 (.string ByteArray.empty) 1 16 Tryz.underlying196 hi hz0 hz1 hz2 rfl (by decide) _ _ _ rfl (hown.alloc _) ⟨wr.heap.size,0,none⟩ 1 1 [.string ⟨#[105,110,101,120,97,99,116]⟩] rfl rfl (cell_one_new _ _ _) (fun x hx=>by simp at hx;subst hx;rfl) (by unfold maxLen;omega) (by omega) (by simp;omega) ?_;intro v' w3 hown' hgrow3 hnil3))
     go_roundw
     case rel=>exact ⟨z,4+1,xs ++ [⟨#[105,110,101,120,97,99,116]⟩],_,by omega,rfl,rfl,rfl,h3,HR.out,by simp;omega,by intro x hx;rcases List.mem_append.1 hx with hx | hx;exact Hxs.out x hx;simp at hx;subst hx;decide,by rw [List.map_append,List.length_append];exact hown',(Hnx.out.alloc hsz _).grown hgrow3 (by simp;omega) (fun q hq=>(hown.lt q hq).1)⟩
     case measure=>simp [intOf]
   ·replace hie:_=Value.int .u32 32:=hie
    subst hie
    have hS:∀ w1:World,(binOp .shl 72 (.int .u32 32) (.int .u64 1)).run Tryz.prog w1=.ok (.int .u32 64) w1:=fun _=>by kernel_rfl
    have hA:=Lh (u32_and_nat q 32 (by omega) (by decide))
    have hX:=Lh (u32_xor_nat q 32 (by omega) (by decide))
    rcases hbt with ⟨h1,h2⟩ | ⟨h1,h2,h3⟩
    ·have hA1:bits .and .u32 (q:Int) 32=0:=hA.out.trans (by show ((q &&& 2^5:Nat):Int)=0;rw [h1];rfl)
     have HR:=Lh (show q % 2^(5+1)=0 from h2)
     have Hown:=Lh hown;have Hnx:=Lh hnx;have Hxs:=Lh hxs
     clear h1 h2 hA hX hown hnx hxs hm
     go_wp2_with fail
     go_roundw
     case rel=>exact ⟨q,5+1,xs,_,by omega,rfl,rfl,rfl,hq,HR.out,by omega,Hxs.out,Hown.out,Hnx.out⟩
     case measure=>simp [intOf]
    ·have hA1:bits .and .u32 (q:Int) 32=32:=hA.out.trans (by show ((q &&& 2^5:Nat):Int)=32;rw [h1];rfl)
     have hX1:bits .xor .u32 (q:Int) 32=((q ^^^ 2^5:Nat):Int):=hX.out
     generalize hz:q ^^^ 2^5=z at hX1 h2 h3
     have HR:=Lh (show z % 2^(5+1)=0 from h2)
     have Hnx:=Lh hnx;have Hxs:=Lh hxs
     clear h1 h2 hA hX hz hnx hxs hm
     go_wp2_with (first
      | (at_builtin;refine wpList_append_own _ rfl _ _ 196 rfl w.heap.size 9 i0 (.string ByteArray.empty) 1 16 Tryz.underlying196 hi hz0 hz1 hz2 rfl (by decide) _ _ _ rfl (hown.alloc _) ⟨wr.heap.size,0,none⟩ 1 1 [.string ⟨#[115,117,98,110,111,114,109,97,108]⟩] rfl rfl (cell_one_new _ _ _) (fun x hx=>by simp at hx;subst hx;rfl) (by unfold maxLen;omega) (by omega) (by simp;omega) ?_;intro v' w3 hown' hgrow3 hnil3))
     go_roundw
     case rel=>exact ⟨z,5+1,xs ++ [⟨#[115,117,98,110,111,114,109,97,108]⟩],_,by omega,rfl,rfl,rfl,h3,HR.out,by simp;omega,by intro x hx;rcases List.mem_append.1 hx with hx | hx;exact Hxs.out x hx;simp at hx;subst hx;decide,by rw [List.map_append,List.length_append];exact hown',(Hnx.out.alloc hsz _).grown hgrow3 (by simp;omega) (fun q hq=>(hown.lt q hq).1)⟩
     case measure=>simp [intOf]
   ·replace hie:_=Value.int .u32 64:=hie
    subst hie
    have hS:∀ w1:World,(binOp .shl 72 (.int .u32 64) (.int .u64 1)).run Tryz.prog w1=.ok (.int .u32 128) w1:=fun _=>by kernel_rfl
    have hA:=Lh (u32_and_nat q 64 (by omega) (by decide))
    have hX:=Lh (u32_xor_nat q 64 (by omega) (by decide))
    rcases hbt with ⟨h1,h2⟩ | ⟨h1,h2,h3⟩
    ·have hA1:bits .and .u32 (q:Int) 64=0:=hA.out.trans (by show ((q &&& 2^6:Nat):Int)=0;rw [h1];rfl)
     have HR:=Lh (show q % 2^(6+1)=0 from h2)
     have Hown:=Lh hown;have Hnx:=Lh hnx;have Hxs:=Lh hxs
     clear h1 h2 hA hX hown hnx hxs hm
     go_wp2_with fail
     go_roundw
     case rel=>exact ⟨q,6+1,xs,_,by omega,rfl,rfl,rfl,hq,HR.out,by omega,Hxs.out,Hown.out,Hnx.out⟩
     case measure=>simp [intOf]
    ·have hA1:bits .and .u32 (q:Int) 64=64:=hA.out.trans (by show ((q &&& 2^6:Nat):Int)=64;rw [h1];rfl)
     have hX1:bits .xor .u32 (q:Int) 64=((q ^^^ 2^6:Nat):Int):=hX.out
     generalize hz:q ^^^ 2^6=z at hX1 h2 h3
     have HR:=Lh (show z % 2^(6+1)=0 from h2)
     have Hnx:=Lh hnx;have Hxs:=Lh hxs
     clear h1 h2 hA hX hz hnx hxs hm
     go_wp2_with (first
      | (at_builtin;refine wpList_append_own _ rfl _ _ 196 rfl w.heap.size 9 i0 (.string ByteArray.empty) 1 16 Tryz.underlying196 hi hz0 hz1 hz2 rfl (by decide) _ _ _ rfl (hown.alloc _) ⟨wr.heap.size,0,none⟩ 1 1 [.string ⟨#[114,111,117,110,100,101,100]⟩] rfl rfl (cell_one_new _ _ _) (fun x hx=>by simp at hx;subst hx;rfl) (by unfold maxLen;omega) (by omega) (by simp;omega) ?_;intro v' w3 hown' hgrow3 hnil3))
     go_roundw
     case rel=>exact ⟨z,6+1,xs ++ [⟨#[114,111,117,110,100,101,100]⟩],_,by omega,rfl,rfl,rfl,h3,HR.out,by simp;omega,by intro x hx;rcases List.mem_append.1 hx with hx | hx;exact Hxs.out x hx;simp at hx;subst hx;decide,by rw [List.map_append,List.length_append];exact hown',(Hnx.out.alloc hsz _).grown hgrow3 (by simp;omega) (fun q hq=>(hown.lt q hq).1)⟩
     case measure=>simp [intOf]
   ·replace hie:_=Value.int .u32 128:=hie
    subst hie
    have hS:∀ w1:World,(binOp .shl 72 (.int .u32 128) (.int .u64 1)).run Tryz.prog w1=.ok (.int .u32 256) w1:=fun _=>by kernel_rfl
    have hA:=Lh (u32_and_nat q 128 (by omega) (by decide))
    have hX:=Lh (u32_xor_nat q 128 (by omega) (by decide))
    rcases hbt with ⟨h1,h2⟩ | ⟨h1,h2,h3⟩
    ·have hA1:bits .and .u32 (q:Int) 128=0:=hA.out.trans (by show ((q &&& 2^7:Nat):Int)=0;rw [h1];rfl)
     have HR:=Lh (show q % 2^(7+1)=0 from h2)
     have Hown:=Lh hown;have Hnx:=Lh hnx;have Hxs:=Lh hxs
     clear h1 h2 hA hX hown hnx hxs hm
     go_wp2_with fail
     go_roundw
     case rel=>exact ⟨q,7+1,xs,_,by omega,rfl,rfl,rfl,hq,HR.out,by omega,Hxs.out,Hown.out,Hnx.out⟩
     case measure=>simp [intOf]
    ·have hA1:bits .and .u32 (q:Int) 128=128:=hA.out.trans (by show ((q &&& 2^7:Nat):Int)=128;rw [h1];rfl)
     have hX1:bits .xor .u32 (q:Int) 128=((q ^^^ 2^7:Nat):Int):=hX.out
     generalize hz:q ^^^ 2^7=z at hX1 h2 h3
     have HR:=Lh (show z % 2^(7+1)=0 from h2)
     have Hnx:=Lh hnx;have Hxs:=Lh hxs
     clear h1 h2 hA hX hz hnx hxs hm
     go_wp2_with (first
      | (at_builtin;refine wpList_append_own _ rfl _ _ 196 rfl w.heap.size 9 i0 (.string ByteArray.empty) 1 16 Tryz.underlying196 hi hz0 hz1 hz2 rfl (by decide) _ _ _ rfl (hown.alloc _) ⟨wr.heap.size,0,none⟩ 1 1 [.string ⟨#[100,105,118,105,115,105,111,110,32,117,110,100,101,102,105,110,101,100]⟩] rfl rfl (cell_one_new _ _ _) (fun x hx=>by simp at hx;subst hx;rfl) (by unfold maxLen;omega) (by omega) (by simp;omega) ?_;intro v' w3 hown' hgrow3 hnil3))
     go_roundw
     case rel=>exact ⟨z,7+1,xs ++ [⟨#[100,105,118,105,115,105,111,110,32,117,110,100,101,102,105,110,101,100]⟩],_,by omega,rfl,rfl,rfl,h3,HR.out,by simp;omega,by intro x hx;rcases List.mem_append.1 hx with hx | hx;exact Hxs.out x hx;simp at hx;subst hx;decide,by rw [List.map_append,List.length_append];exact hown',(Hnx.out.alloc hsz _).grown hgrow3 (by simp;omega) (fun q hq=>(hown.lt q hq).1)⟩
     case measure=>simp [intOf]
   ·replace hie:_=Value.int .u32 256:=hie
    subst hie
    have hS:∀ w1:World,(binOp .shl 72 (.int .u32 256) (.int .u64 1)).run Tryz.prog w1=.ok (.int .u32 512) w1:=fun _=>by kernel_rfl
    have hA:=Lh (u32_and_nat q 256 (by omega) (by decide))
    have hX:=Lh (u32_xor_nat q 256 (by omega) (by decide))
    rcases hbt with ⟨h1,h2⟩ | ⟨h1,h2,h3⟩
    ·have hA1:bits .and .u32 (q:Int) 256=0:=hA.out.trans (by show ((q &&& 2^8:Nat):Int)=0;rw [h1];rfl)
     have HR:=Lh (show q % 2^(8+1)=0 from h2)
     have Hown:=Lh hown;have Hnx:=Lh hnx;have Hxs:=Lh hxs
     clear h1 h2 hA hX hown hnx hxs hm
     go_wp2_with fail
     go_roundw
     case rel=>exact ⟨q,8+1,xs,_,by omega,rfl,rfl,rfl,hq,HR.out,by omega,Hxs.out,Hown.out,Hnx.out⟩
     case measure=>simp [intOf]
    ·have hA1:bits .and .u32 (q:Int) 256=256:=hA.out.trans (by show ((q &&& 2^8:Nat):Int)=256;rw [h1];rfl)
     have hX1:bits .xor .u32 (q:Int) 256=((q ^^^ 2^8:Nat):Int):=hX.out
     generalize hz:q ^^^ 2^8=z at hX1 h2 h3
     have HR:=Lh (show z % 2^(8+1)=0 from h2)
     have Hnx:=Lh hnx;have Hxs:=Lh hxs
     clear h1 h2 hA hX hz hnx hxs hm
     go_wp2_with (first
      | (at_builtin;refine wpList_append_own _ rfl _ _ 196 rfl w.heap.size 9 i0 (.string ByteArray.empty) 1 16 Tryz.underlying196 hi hz0 hz1 hz2 rfl (by decide) _ _ _ rfl (hown.alloc _) ⟨wr.heap.size,0,none⟩ 1 1 [.string ⟨#[100,105,118,105,115,105,111,110,32,98,121,32,122,101,114,111]⟩] rfl rfl (cell_one_new _ _ _) (fun x hx=>by simp at hx;subst hx;rfl) (by unfold maxLen;omega) (by omega) (by simp;omega) ?_;intro v' w3 hown' hgrow3 hnil3))
     go_roundw
     case rel=>exact ⟨z,8+1,xs ++ [⟨#[100,105,118,105,115,105,111,110,32,98,121,32,122,101,114,111]⟩],_,by omega,rfl,rfl,rfl,h3,HR.out,by simp;omega,by intro x hx;rcases List.mem_append.1 hx with hx | hx;exact Hxs.out x hx;simp at hx;subst hx;decide,by rw [List.map_append,List.length_append];exact hown',(Hnx.out.alloc hsz _).grown hgrow3 (by simp;omega) (fun q hq=>(hown.lt q hq).1)⟩
     case measure=>simp [intOf]
   ·replace hie:_=Value.int .u32 512:=hie
    subst hie
    have hS:∀ w1:World,(binOp .shl 72 (.int .u32 512) (.int .u64 1)).run Tryz.prog w1=.ok (.int .u32 1024) w1:=fun _=>by kernel_rfl
    have hA:=Lh (u32_and_nat q 512 (by omega) (by decide))
    have hX:=Lh (u32_xor_nat q 512 (by omega) (by decide))
    rcases hbt with ⟨h1,h2⟩ | ⟨h1,h2,h3⟩
    ·have hA1:bits .and .u32 (q:Int) 512=0:=hA.out.trans (by show ((q &&& 2^9:Nat):Int)=0;rw [h1];rfl)
     have HR:=Lh (show q % 2^(9+1)=0 from h2)
     have Hown:=Lh hown;have Hnx:=Lh hnx;have Hxs:=Lh hxs
     clear h1 h2 hA hX hown hnx hxs hm
     go_wp2_with fail
     go_roundw
     case rel=>exact ⟨q,9+1,xs,_,by omega,rfl,rfl,rfl,hq,HR.out,by omega,Hxs.out,Hown.out,Hnx.out⟩
     case measure=>simp [intOf]
    ·have hA1:bits .and .u32 (q:Int) 512=512:=hA.out.trans (by show ((q &&& 2^9:Nat):Int)=512;rw [h1];rfl)
     have hX1:bits .xor .u32 (q:Int) 512=((q ^^^ 2^9:Nat):Int):=hX.out
     generalize hz:q ^^^ 2^9=z at hX1 h2 h3
     have HR:=Lh (show z % 2^(9+1)=0 from h2)
     have Hnx:=Lh hnx;have Hxs:=Lh hxs
     clear h1 h2 hA hX hz hnx hxs hm
     go_wp2_with (first
      | (at_builtin;refine wpList_append_own _ rfl _ _ 196 rfl w.heap.size 9 i0 (.string ByteArray.empty) 1 16 Tryz.underlying196 hi hz0 hz1 hz2 rfl (by decide) _ _ _ rfl (hown.alloc _) ⟨wr.heap.size,0,none⟩ 1 1 [.string ⟨#[100,105,118,105,115,105,111,110,32,105,109,112,111,115,115,105,98,108,101]⟩] rfl rfl (cell_one_new _ _ _) (fun x hx=>by simp at hx;subst hx;rfl) (by unfold maxLen;omega) (by omega) (by simp;omega) ?_;intro v' w3 hown' hgrow3 hnil3))
     go_roundw
     case rel=>exact ⟨z,9+1,xs ++ [⟨#[100,105,118,105,115,105,111,110,32,105,109,112,111,115,115,105,98,108,101]⟩],_,by omega,rfl,rfl,rfl,h3,HR.out,by simp;omega,by intro x hx;rcases List.mem_append.1 hx with hx | hx;exact Hxs.out x hx;simp at hx;subst hx;decide,by rw [List.map_append,List.length_append];exact hown',(Hnx.out.alloc hsz _).grown hgrow3 (by simp;omega) (fun q hq=>(hown.lt q hq).1)⟩
     case measure=>simp [intOf]
   ·replace hie:_=Value.int .u32 1024:=hie
    subst hie
    have hS:∀ w1:World,(binOp .shl 72 (.int .u32 1024) (.int .u64 1)).run Tryz.prog w1=.ok (.int .u32 2048) w1:=fun _=>by kernel_rfl
    have hA:=Lh (u32_and_nat q 1024 (by omega) (by decide))
    have hX:=Lh (u32_xor_nat q 1024 (by omega) (by decide))
    rcases hbt with ⟨h1,h2⟩ | ⟨h1,h2,h3⟩
    ·have hA1:bits .and .u32 (q:Int) 1024=0:=hA.out.trans (by show ((q &&& 2^10:Nat):Int)=0;rw [h1];rfl)
     have HR:=Lh (show q % 2^(10+1)=0 from h2)
     have Hown:=Lh hown;have Hnx:=Lh hnx;have Hxs:=Lh hxs
     clear h1 h2 hA hX hown hnx hxs hm
     go_wp2_with fail
     go_roundw
     case rel=>exact ⟨q,10+1,xs,_,by omega,rfl,rfl,rfl,hq,HR.out,by omega,Hxs.out,Hown.out,Hnx.out⟩
     case measure=>simp [intOf]
    ·have hA1:bits .and .u32 (q:Int) 1024=1024:=hA.out.trans (by show ((q &&& 2^10:Nat):Int)=1024;rw [h1];rfl)
     have hX1:bits .xor .u32 (q:Int) 1024=((q ^^^ 2^10:Nat):Int):=hX.out
     generalize hz:q ^^^ 2^10=z at hX1 h2 h3
     have HR:=Lh (show z % 2^(10+1)=0 from h2)
     have Hnx:=Lh hnx;have Hxs:=Lh hxs
     clear h1 h2 hA hX hz hnx hxs hm
     go_wp2_with (first
      | (at_builtin;refine wpList_append_own _ rfl _ _ 196 rfl w.heap.size 9 i0 (.string ByteArray.empty) 1 16 Tryz.underlying196 hi hz0 hz1 hz2 rfl (by decide) _ _ _ rfl (hown.alloc _) ⟨wr.heap.size,0,none⟩ 1 1 [.string ⟨#[105,110,118,97,108,105,100,32,111,112,101,114,97,116,105,111,110]⟩] rfl rfl (cell_one_new _ _ _) (fun x hx=>by simp at hx;subst hx;rfl) (by unfold maxLen;omega) (by omega) (by simp;omega) ?_;intro v' w3 hown' hgrow3 hnil3))
     go_roundw
     case rel=>exact ⟨z,10+1,xs ++ [⟨#[105,110,118,97,108,105,100,32,111,112,101,114,97,116,105,111,110]⟩],_,by omega,rfl,rfl,rfl,h3,HR.out,by simp;omega,by intro x hx;rcases List.mem_append.1 hx with hx | hx;exact Hxs.out x hx;simp at hx;subst hx;decide,by rw [List.map_append,List.length_append];exact hown',(Hnx.out.alloc hsz _).grown hgrow3 (by simp;omega) (fun q hq=>(hown.lt q hq).1)⟩
     case measure=>simp [intOf]
   ·replace hie:_=Value.int .u32 2048:=hie
    subst hie
    have hS:∀ w1:World,(binOp .shl 72 (.int .u32 2048) (.int .u64 1)).run Tryz.prog w1=.ok (.int .u32 4096) w1:=fun _=>by kernel_rfl
    have hA:=Lh (u32_and_nat q 2048 (by omega) (by decide))
    have hX:=Lh (u32_xor_nat q 2048 (by omega) (by decide))
    rcases hbt with ⟨h1,h2⟩ | ⟨h1,h2,h3⟩
    ·have hA1:bits .and .u32 (q:Int) 2048=0:=hA.out.trans (by show ((q &&& 2^11:Nat):Int)=0;rw [h1];rfl)
     have HR:=Lh (show q % 2^(11+1)=0 from h2)
     have Hown:=Lh hown;have Hnx:=Lh hnx;have Hxs:=Lh hxs
     clear h1 h2 hA hX hown hnx hxs hm
     go_wp2_with fail
     go_roundw
     case rel=>exact ⟨q,11+1,xs,_,by omega,rfl,rfl,rfl,hq,HR.out,by omega,Hxs.out,Hown.out,Hnx.out⟩
     case measure=>simp [intOf]
    ·have hA1:bits .and .u32 (q:Int) 2048=2048:=hA.out.trans (by show ((q &&& 2^11:Nat):Int)=2048;rw [h1];rfl)
     have hX1:bits .xor .u32 (q:Int) 2048=((q ^^^ 2^11:Nat):Int):=hX.out
     generalize hz:q ^^^ 2^11=z at hX1 h2 h3
     have HR:=Lh (show z % 2^(11+1)=0 from h2)
     have Hnx:=Lh hnx;have Hxs:=Lh hxs
     clear h1 h2 hA hX hz hnx hxs hm
     go_wp2_with (first
      | (at_builtin;refine wpList_append_own _ rfl _ _ 196 rfl w.heap.size 9 i0 (.string ByteArray.empty) 1 16 Tryz.underlying196 hi hz0 hz1 hz2 rfl (by decide) _ _ _ rfl (hown.alloc _) ⟨wr.heap.size,0,none⟩ 1 1 [.string ⟨#[99,108,97,109,112,101,100]⟩] rfl rfl (cell_one_new _ _ _) (fun x hx=>by simp at hx;subst hx;rfl) (by unfold maxLen;omega) (by omega) (by simp;omega) ?_;intro v' w3 hown' hgrow3 hnil3))
     go_roundw
     case rel=>exact ⟨z,11+1,xs ++ [⟨#[99,108,97,109,112,101,100]⟩],_,by omega,rfl,rfl,rfl,h3,HR.out,by simp;omega,by intro x hx;rcases List.mem_append.1 hx with hx | hx;exact Hxs.out x hx;simp at hx;subst hx;decide,by rw [List.map_append,List.length_append];exact hown',(Hnx.out.alloc hsz _).grown hgrow3 (by simp;omega) (fun q hq=>(hown.lt q hq).1)⟩
     case measure=>simp [intOf]
theorem St.belowH {W:World}{σ:Sg}{w w':World}(h:St W σ w)(hB:Below w.heap.size w w'):St W σ w' :=
 h.frame (fun _=>False) ⟨hB.os,hB.tape,hB.output,hB.size,fun k hk _=>hB.block k hk,fun k hk=>by unfold hd;rw [hB.block k hk]⟩ (fun _ e=>e)
def ErrV (bad:Bool)(v:Value):Prop:=(bad=true∧∃ T x,v=.iface T x)∨(bad=false∧v=.nilIface)
def badK (k tr:Nat):Bool:=decide (k &&& 3≠0) || decide (k &&& tr≠0)
theorem Q8b {W:World}{σ:Sg}{w:World}(h:St W σ w)(s:ByteArray):Calls Tryz.prog 101 #[.string s] w fun r w'=>(∃ T x,r=.returned (.iface T x))∧St W σ w':=by
 have H:=Lh (fun o=>h.alloc_any o)
 clear h
 go_enter Tryz.func101, Tryz.ntmps101
 go_wp2_with fail
 go_ret
 exact ⟨⟨_,_,rfl⟩,H.out _⟩
theorem Qa2 {W:World}{σ:Sg}{w:World}(h:St W σ w){k tr:Nat}(hk:k<4096)(htr:tr<4096):Calls Tryz.prog 121 #[.int .u32 (k:Int),.int .u32 (tr:Int)] w fun r w'=>(∃ v,r=.returned (.tuple #[.int .u32 (k:Int),v])∧ErrV (badK k tr) v)∧St W σ w':=by
 have H:=Lh h
 have hA:=Q1V k 3 hk (by decide)
 have hT:=Q1V k tr hk htr
 have hB:=badK k tr
 have hl:k &&& tr<4096:=Nat.lt_of_le_of_lt Nat.and_le_left hk
 have hA':bits .and .u32 (k:Int) 3=((k &&& 3:Nat):Int):=hA
 clear hA h
 by_cases h3:k &&& 3=0
 ·rw [h3] at hA'
  by_cases ht:k &&& tr=0
  ·have hbad:badK k tr=false:=by unfold badK;simp [h3,ht]
   rw [hbad]
   rw [ht] at hT
   clear hbad h3 ht hl
   go_enter Tryz.func121, Tryz.ntmps121
   go_wp2_with fail
   go_ret2
   exact ⟨⟨_,rfl,.inr ⟨rfl,rfl⟩⟩,H.out⟩
  ·have hbad:badK k tr=true:=by unfold badK;simp [h3,ht]
   rw [hbad]
   have HS:=Lh (fun w1=>Q5G (k &&& tr) hl w1)
   generalize k &&& tr=z at hT ht HS
   have hz:((z:Int)=0)=False:=by simp;omega
   clear hbad h3 hl
   go_enter Tryz.func121, Tryz.ntmps121
   go_wp2_with fail
   refine (HS.out _).mono ?_
   rintro r w1 ⟨⟨s,rfl⟩,hb⟩
   have H1:=Lh (H.out.belowH hb)
   clear hb HS
   go_wp2_with fail
   refine (Q8b H1.out s).mono ?_
   rintro r w2 ⟨⟨T,x,rfl⟩,q⟩
   have H2:=Lh q
   clear q
   go_wp2_with fail
   go_ret2
   exact ⟨⟨_,rfl,.inl ⟨rfl,_,_,rfl⟩⟩,H2.out⟩
 ·have hbad:badK k tr=true:=by unfold badK;simp [h3]
  rw [hbad]
  generalize k &&& 3=z at hA' h3
  have hz:((z:Int)=0)=False:=by simp;omega
  clear hbad hl
  go_enter Tryz.func121, Tryz.ntmps121
  go_wp2_with fail
  refine (Q8b H.out _).mono ?_
  rintro r w2 ⟨⟨T,x,rfl⟩,q⟩
  have H2:=Lh q
  clear q
  go_wp2_with fail
  go_ret2
  exact ⟨⟨_,rfl,.inl ⟨rfl,_,_,rfl⟩⟩,H2.out⟩
theorem Q4i {W:World}{σ:Sg}{w:World}(h:St W σ w){bk p md:Nat}{mx mn:Int}{k tr:Nat}(hc:Ctx σ bk p mx mn (tr:Int) md)(hk:k<4096)(htr:tr<4096):Calls Tryz.prog 69 #[.pointer (some ⟨bk,0,none⟩),.int .u32 (k:Int)] w fun r w'=>(∃ v,r=.returned (.tuple #[.int .u32 (k:Int),v])∧ErrV (badK k tr) v)∧St W σ w':=by
 have H:=Lh h
 have k3:=(h.ctx hc).2.2.2.1
 by_cases h0:k=0
 ·subst h0
  rw [show badK 0 tr=false by unfold badK;simp]
  clear h hc
  go_enter Tryz.func69, Tryz.ntmps69
  go_wp2_with fail
  go_ret2
  exact ⟨⟨_,rfl,.inr ⟨rfl,rfl⟩⟩,H.out⟩
 ·have HG:=Lh (Qa2 h hk htr)
  have hz:((k:Int) == 0)=false:=by simp;omega
  generalize badK k tr=bad at HG ⊢
  clear h hc h0
  go_enter Tryz.func69, Tryz.ntmps69
  go_wp2_with fail
  refine HG.out.mono ?_
  rintro r w1 ⟨⟨v,rfl,hv⟩,q⟩
  have H2:=Lh q;have HV:=Lh hv
  clear q hv HG
  go_wp2_with fail
  go_ret2
  exact ⟨⟨_,rfl,HV.out⟩,H2.out⟩
theorem Q79 {W:World}{σ:Sg}{w:World}(h:St W σ w){bk b:Nat}{f:Int}{n:Bool}{e c:Int}(hb:σ b=some (.dec f n e c)) :
  Calls Tryz.prog 65 #[.pointer (some ⟨bk,0,none⟩),.pointer (some ⟨b,0,none⟩),.pointer none] w fun r w'=>r=.returned (.bool (decide (f=2∨f=3)))∧w'=w:=by
 obtain ⟨c0,_,_,_,_,_⟩:=h.dec hb
 clear h hb
 by_cases h2:f=2
 ·subst h2
  go_enter Tryz.func65, Tryz.ntmps65
  go_wp2_with fail
  go_ret
  exact ⟨rfl,rfl⟩
 ·by_cases h3:f=3
  ·subst h3
   go_enter Tryz.func65, Tryz.ntmps65
   go_wp2_with fail
   go_ret
   exact ⟨rfl,rfl⟩
  ·have e2:(f == 2)=false:=by simpa using h2
   have e3:(f == 3)=false:=by simpa using h3
   rw [decide_eq_false (by omega)]
   go_enter Tryz.func65, Tryz.ntmps65
   go_wp2_with fail
   go_ret
   exact ⟨rfl,rfl⟩
theorem Q6l {p:Nat}{mx mn:Int}{md:Nat}{f:Int}{n:Bool}{e:Int}{c:Nat}:(rndF p mx mn md f n e c).k<4096:=by
 unfold rndF
 split
 ·exact Q0L (by decide)
 ·split
  ·exact Qv (by decide) (Q0L (by decide))
  ·split
   ·exact Qv (Q6h _ _) (Q0L (Q6h _ _))
   ·exact Q0L (by decide)
theorem Q4j {W:World}{σ:Sg}{w:World}(hW:GW W){b bx bk:Nat}{f:Int}{n:Bool}{e:Int}{c p md:Nat}{mx mn tr:Int}(hS:Calls Tryz.prog 82 #[.pointer (some ⟨b,0,none⟩),.pointer (some ⟨bx,0,none⟩)] w fun r w'=>r=.returned (.pointer (some ⟨b,0,none⟩))∧St W σ w')(hb:σ b=some (.dec f n e (c:Int)))(hx:σ bx=some (.dec f n e (c:Int)))(hk:Ctx σ bk p mx mn tr md)(k4:w.cell? ⟨bk,4,none⟩=some (.string (rndS md)))(hc:c<BB^20)(he:e.natAbs≤200)
  (g1:f=0∨(c=0∧mn≤e∧e≤mx)) (g2:c=0→(e<mn→mn - ((p:Int) - 1)≤e)∧e≤mx) :
  Calls Tryz.prog 68 #[.pointer (some ⟨bk,0,none⟩),.pointer (some ⟨b,0,none⟩),.pointer (some ⟨bx,0,none⟩)] w fun r w'=>r=.returned (.int .u32 (((rndF p mx mn md f n e c).k:Nat):Int))∧St W (upd σ b (rndF p mx mn md f n e c).ob) w':=by
 have HR:=Lh (Q77 hW hS hb hx hk hc he g1 g2)
 generalize rndF p mx mn md f n e c=X at HR ⊢
 clear hS hb hx hk hc g1 g2
 go_enter Tryz.func68, Tryz.ntmps68
 go_wp2_with fail
 refine HR.out.mono ?_
 rintro r w1 ⟨rfl,q⟩
 have H1:=Lh q;clear q HR
 go_wp2_with fail
 go_ret
 exact ⟨rfl,H1.out⟩
theorem Q8c {W:World}{σ:Sg}{w:World}(hW:GW W)(h:St W σ w){b bk:Nat}{f:Int}{n:Bool}{e:Int}{c p md:Nat}{mx mn tr:Int}(hb:σ b=some (.dec f n e (c:Int)))(hk:Ctx σ bk p mx mn tr md)(hc:c<BB^20)(he:e.natAbs≤200)
  (g1:f=0∨(c=0∧mn≤e∧e≤mx)) (g2:c=0→(e<mn→mn - ((p:Int) - 1)≤e)∧e≤mx) :
  Calls Tryz.prog 68 #[.pointer (some ⟨bk,0,none⟩),.pointer (some ⟨b,0,none⟩),.pointer (some ⟨b,0,none⟩)] w fun r w'=>r=.returned (.int .u32 (((rndF p mx mn md f n e c).k:Nat):Int))∧St W (upd σ b (rndF p mx mn md f n e c).ob) w' :=
 Q4j hW ((Q0G h hb).mono fun r w' ⟨a,q⟩=>⟨a,q ▸ h⟩) hb hb hk (h.ctx hk).2.2.2.2 hc he g1 g2
theorem Q14 {fn:Func}{t u v x:Tmp}(h:fn.results=#[.tmp t,.tmp u,.tmp v,.tmp x])(tmps:Array Value)(P:Program)(w:World) :
  (results fn tmps).run P w=.ok (.tuple #[tmps.getD t undef,tmps.getD u undef,tmps.getD v undef,tmps.getD x undef]) w:=by
 simp [results,h]
theorem Q4l {W:World}{σ:Sg}{w:World}(h:St W σ w){b b':Nat}{f f':Int}{n n':Bool}{e c c':Int}(hb:σ b=some (.dec f n e c))(hx:σ b'=some (.dec f' n' e c'))(t:Value) :
  Calls Tryz.prog 100 #[.pointer (some ⟨b,0,none⟩),.pointer (some ⟨b',0,none⟩),t] w fun r w'=>r=.returned (.tuple #[.pointer (some ⟨b,3,none⟩),.pointer (some ⟨b',3,none⟩),.int .i32 e,.nilIface])∧St W σ w':=by
 obtain ⟨_,_,c2,_,_,_⟩:=h.dec hb
 obtain ⟨_,_,x2,_,_,_⟩:=h.dec hx
 have H:=Lh h
 clear h hb hx
 go_enter Tryz.func100, Tryz.ntmps100
 go_wp2_with fail
 go_quiet (fail)
 go_wp2_with fail
 go_quiet (fail)
 go_wp2_with fail
 refine bodyPost_ret (Q14 rfl _ _ _) rfl ?_
 exact ⟨rfl,H.out.sm ⟨rfl,rfl,rfl,rfl⟩⟩
theorem Q3a {W:World}{σ:Sg}{w:World}(h:St W σ w){bk b b':Nat}{n n':Bool}{e c e' c' f f':Int}(hb:σ b=some (.dec f n e c))(hx:σ b'=some (.dec f' n' e' c'))(hf:f≠2∧f≠3)(hf':f'≠2∧f'≠3) :
  Calls Tryz.prog 65 #[.pointer (some ⟨bk,0,none⟩),.pointer (some ⟨b,0,none⟩),.pointer (some ⟨b',0,none⟩)] w fun r w'=>r=.returned (.bool false)∧w'=w:=by
 obtain ⟨c0,_,_,_,_,_⟩:=h.dec hb
 obtain ⟨x0,_,_,_,_,_⟩:=h.dec hx
 have e2:(f == 2)=false:=by simpa using hf.1
 have e3:(f == 3)=false:=by simpa using hf.2
 have e4:(f' == 2)=false:=by simpa using hf'.1
 have e5:(f' == 3)=false:=by simpa using hf'.2
 clear h hb hx hf hf'
 go_enter Tryz.func65, Tryz.ntmps65
 go_wp2_with fail
 go_ret
 exact ⟨rfl,rfl⟩
theorem Q9p {W:World}{σ:Sg}{w:World}(hW:GW W)(h:St W σ w){b bx bu bk p md:Nat}{mx mn:Int}{tr:Nat}(hk:Ctx σ bk p mx mn (tr:Int) md)(htr:tr<4096){f ed cd e:Int}{nd n:Bool}{c c':Nat}(hb:σ b=some (.dec f nd ed cd))(hx:σ bx=some (.dec 0 n e (c:Int)))(hu:σ bu=some (.dec 0 n e (c':Int)))(n1:b≠bx)(n2:b≠bu)(hc:c<BB^19)(hc':c'<BB^19)(he:e.natAbs≤200)(g2:c+c'=0→(e<mn→mn - ((p:Int) - 1)≤e)∧e≤mx) :
  Calls Tryz.prog 80 #[.pointer (some ⟨bk,0,none⟩),.pointer (some ⟨b,0,none⟩),.pointer (some ⟨bx,0,none⟩),.pointer (some ⟨bu,0,none⟩),.bool false] w fun r w'=>(∃ v,r=.returned (.tuple #[.int .u32 ((rndF p mx mn md 0 n e (c+c')).k:Int),v])∧ErrV (badK (rndF p mx mn md 0 n e (c+c')).k tr) v)∧St W (upd σ b (rndF p mx mn md 0 n e (c+c')).ob) w':=by
 have HN:=Lh (Q3a (bk:=bk) h hx hu (by decide) (by decide))
 obtain ⟨x0,x1,x2,_,_,_⟩:=h.dec hx
 obtain ⟨u0,u1,u2,_,_,_⟩:=h.dec hu
 have hcc:c+c'<BB^20:=Nat.lt_of_lt_of_le (Nat.add_lt_add hc hc') (by unfold BB;decide)
 have HU:Hid (∀ w1 t,SM w w1→Calls Tryz.prog 100 #[.pointer (some ⟨bx,0,none⟩),.pointer (some ⟨bu,0,none⟩),t] (w1.alloc (.cells #[.bool false,.slice none 0 0] 69)) fun r w'=>r=.returned (.tuple #[.pointer (some ⟨bx,3,none⟩),.pointer (some ⟨bu,3,none⟩),.int .i32 e,.nilIface])∧(w'.cell? ⟨b,1,none⟩=some (.bool nd)∧w'.frozen? ⟨b,1,none⟩=false)∧St W (upd σ b (.dec f n ed cd)) (w'.setCell ⟨b,1,none⟩ (.bool n))):=fun w1 t hw=>by
  refine (Q4l ((h.sm hw).alloc_any _) hx hu t).mono ?_
  rintro r w' ⟨rfl,q⟩
  obtain ⟨_,d1,_,_,g1,_⟩:=q.dec hb
  exact ⟨rfl,⟨d1,g1⟩,q.setNeg hb n⟩
 have HA:Hid (∀ w1,St W (upd σ b (.dec f n ed cd)) w1→Calls Tryz.prog 98 #[.pointer (some ⟨b,3,none⟩),.pointer (some ⟨bx,3,none⟩),.pointer (some ⟨bu,3,none⟩)] w1 fun r w'=>r=.returned (.pointer (some ⟨b,3,none⟩))∧(w'.cell? ⟨b,2,none⟩=some (.int .i32 ed)∧w'.frozen? ⟨b,2,none⟩=false)∧(w'.cell? ⟨b,0,none⟩=some (.int .i8 f)∧w'.frozen? ⟨b,0,none⟩=false)∧St W (upd σ b (.dec 0 n e ((c+c':Nat):Int))) ((w'.setCell ⟨b,2,none⟩ (.int .i32 e)).setCell ⟨b,0,none⟩ (.int .i8 0))):=fun w1 q1=>by
  refine Q5t ((Q5A hW q1.drew (Num.dec (Q1 _ _ _)) (Num.dec (by rw [Qa _ _ n1.symm];exact hx)) n1 (Num.dec (by rw [Qa _ _ n2.symm];exact hu)) n2 (Q0B hc (by decide)) (Q0B hc' (by decide))).mono ?_)
  rintro r w' ⟨rfl,q⟩
  have q2:=q.decN
  obtain ⟨d0,_,d2,g0,_,g2⟩:=q2.dec (Q1 _ _ _)
  exact ⟨rfl,⟨d2,g2⟩,⟨d0,g0⟩,((q2.setExp (Q1 _ _ _) e).setForm (Q1 _ _ _) 0).upd2.upd2⟩
 have HR:Hid (∀ w1,St W (upd σ b (.dec 0 n e ((c+c':Nat):Int))) w1→Calls Tryz.prog 68 #[.pointer (some ⟨bk,0,none⟩),.pointer (some ⟨b,0,none⟩),.pointer (some ⟨b,0,none⟩)] w1 fun r w'=>r=.returned (.int .u32 (((rndF p mx mn md 0 n e (c+c')).k:Nat):Int))∧St W (upd σ b (rndF p mx mn md 0 n e (c+c')).ob) w'):=fun w1 q1 =>
  (Q8c hW q1 (Q1 _ _ _) (hk.upd hb _) hcc he (.inl rfl) g2).mono fun r w' ⟨a,q⟩=>⟨a,q.upd2⟩
 have HK:=Lh (hk.upd hb (rndF p mx mn md 0 n e (c+c')).ob)
 have hl:(rndF p mx mn md 0 n e (c+c')).k<4096:=Q6l
 generalize rndF p mx mn md 0 n e (c+c')=X at HR HK hl ⊢
 have HM:=Lh (fun k=>(SM.refl w).drewN k)
 clear h hb hx hu hk hc hc' hcc g2
 go_enter Tryz.func80, Tryz.ntmps80
 go_wp2_with fail
 refine HN.out.mono ?_
 rintro r w_ ⟨rfl,hw_⟩
 subst hw_
 clear HN
 cases n
 ·go_wp2_with fail
  go_quiet (fail)
  go_wp2_with fail
  refine (HU.out _ _ (by exact ⟨rfl,rfl,rfl,rfl⟩)).mono ?_
  rintro r w1 ⟨rfl,⟨d1,g1⟩,q1⟩
  have H1:=Lh (HA.out _ q1);clear q1 HU HA
  go_wp2_with fail
  refine H1.out.mono ?_
  rintro r w2 ⟨rfl,⟨d2,g2⟩,⟨d0,g0⟩,q2⟩
  have H2:=Lh (HR.out _ q2);clear q2 H1 HR
  go_wp2_with fail
  refine H2.out.mono ?_
  rintro r w3 ⟨rfl,q3⟩
  have H3:=Lh (Q4i q3 HK.out hl htr);clear q3 H2
  go_wp2_with fail
  refine H3.out.mono ?_
  rintro r w4 ⟨⟨v,rfl,hv⟩,q4⟩
  have H4:=Lh q4;have HV:=Lh hv;clear q4 hv H3
  go_wp2_with fail
  go_ret2
  exact ⟨⟨_,rfl,HV.out⟩,H4.out⟩
 ·go_wp2_with fail
  go_quiet (fail)
  go_wp2_with fail
  refine (HU.out _ _ (by exact ⟨rfl,rfl,rfl,rfl⟩)).mono ?_
  rintro r w1 ⟨rfl,⟨d1,g1⟩,q1⟩
  have H1:=Lh (HA.out _ q1);clear q1 HU HA
  go_wp2_with fail
  refine H1.out.mono ?_
  rintro r w2 ⟨rfl,⟨d2,g2⟩,⟨d0,g0⟩,q2⟩
  have H2:=Lh (HR.out _ q2);clear q2 H1 HR
  go_wp2_with fail
  refine H2.out.mono ?_
  rintro r w3 ⟨rfl,q3⟩
  have H3:=Lh (Q4i q3 HK.out hl htr);clear q3 H2
  go_wp2_with fail
  refine H3.out.mono ?_
  rintro r w4 ⟨⟨v,rfl,hv⟩,q4⟩
  have H4:=Lh q4;have HV:=Lh hv;clear q4 hv H3
  go_wp2_with fail
  go_ret2
  exact ⟨⟨_,rfl,HV.out⟩,H4.out⟩
theorem Q5L {W:World}{σ:Sg}{w:World}(hW:GW W)(h:St W σ w){b bx bu bk p md:Nat}{mx mn:Int}{tr:Nat}(hk:Ctx σ bk p mx mn (tr:Int) md)(htr:tr<4096){f ed cd e:Int}{nd n:Bool}{c c':Nat}(hb:σ b=some (.dec f nd ed cd))(hx:σ bx=some (.dec 0 n e (c:Int)))(hu:σ bu=some (.dec 0 n e (c':Int)))(n1:b≠bx)(n2:b≠bu)(hc:c<BB^19)(hc':c'<BB^19)(he:e.natAbs≤200)(g2:c+c'=0→(e<mn→mn - ((p:Int) - 1)≤e)∧e≤mx) :
  Calls Tryz.prog 36 #[.pointer (some ⟨bk,0,none⟩),.pointer (some ⟨b,0,none⟩),.pointer (some ⟨bx,0,none⟩),.pointer (some ⟨bu,0,none⟩)] w fun r w'=>(∃ v,r=.returned (.tuple #[.int .u32 ((rndF p mx mn md 0 n e (c+c')).k:Int),v])∧ErrV (badK (rndF p mx mn md 0 n e (c+c')).k tr) v)∧St W (upd σ b (rndF p mx mn md 0 n e (c+c')).ob) w':=by
 have HA:=Lh (Q9p hW h hk htr hb hx hu n1 n2 hc hc' he g2)
 generalize rndF p mx mn md 0 n e (c+c')=X at HA ⊢
 clear h hb hx hu hk hc hc' g2
 go_enter Tryz.func36, Tryz.ntmps36
 go_wp2_with fail
 refine HA.out.mono ?_
 rintro r w4 ⟨⟨v,rfl,hv⟩,q4⟩
 have H4:=Lh q4;have HV:=Lh hv;clear q4 hv HA
 go_wp2_with fail
 go_ret2
 exact ⟨⟨_,rfl,HV.out⟩,H4.out⟩
theorem Q4Z {W:World}{σ:Sg}{w:World}(h:St W σ w){bk b b':Nat}{n n':Bool}{e c e' c':Int}(hb:σ b=some (.dec 0 n e c))(hx:σ b'=some (.dec 0 n' e' c')) :
  Calls Tryz.prog 65 #[.pointer (some ⟨bk,0,none⟩),.pointer (some ⟨b,0,none⟩),.pointer (some ⟨b',0,none⟩)] w fun r w'=>r=.returned (.bool false)∧w'=w:=Q3a h hb hx (by decide) (by decide)
theorem Q9q {W:World}{σ:Sg}{w:World}(h:St W σ w){b bx bu bk p md:Nat}{mx mn tr:Int}(hk:Ctx σ bk p mx mn tr md)(hp:p≠0){e e':Int}{n n':Bool}{c c':Nat}(hx:σ bx=some (.dec 0 n e (c:Int)))(hu:σ bu=some (.dec 0 n' e' (c':Int)))(c0:0<c') :
  Calls Tryz.prog 87 #[.pointer (some ⟨bk,0,none⟩),.pointer (some ⟨b,0,none⟩),.pointer (some ⟨bx,0,none⟩),.pointer (some ⟨bu,0,none⟩),.bool true] w fun r w'=>r=.returned (.tuple #[.bool false,.int .u32 0,.nilIface])∧St W σ w':=by
 have HN:=Lh (Q4Z (bk:=bk) h hx hu)
 obtain ⟨x0,x1,x2,_,_,_⟩:=h.dec hx
 obtain ⟨u0,u1,u2,_,_,_⟩:=h.dec hu
 have H:=Lh h
 have HZ:Hid (∀ w1,St W σ w1→w1.cell? ⟨bk,0,none⟩=some (.int .u32 (p:Int))∧Calls Tryz.prog 81 #[.pointer (some ⟨bu,0,none⟩)] w1 fun r w'=>r=.returned (.bool false)∧w'=w1):=fun w1 q1=>by
  have:=QC q1 hu
  rw [decide_eq_false (by omega)] at this
  exact ⟨(q1.ctx hk).1,this⟩
 have hp1:((p:Int) == 0)=false:=by simp;omega
 clear h hx hu hk
 go_enter Tryz.func87, Tryz.ntmps87
 go_wp2_with fail
 refine HN.out.mono ?_
 rintro r w_ ⟨rfl,hw_⟩
 subst hw_
 clear HN
 go_wp2_with fail
 go_quiet (fail)
 go_wp2_with fail
 go_quiet (fail)
 go_wp2_with fail
 have p0:=(HZ.out _ H.out).1
 refine (HZ.out _ (by exact H.out.sm ⟨rfl,rfl,rfl,rfl⟩)).2.mono ?_
 rintro r w2 ⟨rfl,hw2⟩
 subst hw2
 clear HZ
 go_wp2_with fail
 go_ret3
 exact ⟨rfl,H.out.sm ⟨rfl,rfl,rfl,rfl⟩⟩
def Q2 (σ:Sg)(a g:Nat)(A G:Nat):Sg:=upd (upd σ a (.big (A:Int))) g (.big (G:Int))
def Q3 (σ:Sg)(a g m:Nat)(A G M:Nat):Sg:=upd (Q2 σ a g A G) m (.big (M:Int))
def Q4 (σ:Sg)(a g m t:Nat)(A G M R:Nat):Sg:=upd (Q3 σ a g m A G M) t (.big (R:Int))
theorem Q2.ga (σ:Sg){a g:Nat}(h:a≠g)(A G:Nat):Q2 σ a g A G a=some (.big (A:Int)):=by unfold Q2;rw [Qa _ _ h,Q1]
theorem Q2.gg (σ:Sg)(a g A G:Nat):Q2 σ a g A G g=some (.big (G:Int)):=Q1 _ _ _
theorem Q2.sa (σ:Sg){a g:Nat}(h:a≠g)(A G A':Nat):setN (Q2 σ a g A G) a (A':Int)=Q2 σ a g A' G:=by unfold Q2;rw [QL _ _ _ h,Q0w]
theorem Q2.sg (σ:Sg)(a g A G G':Nat):setN (Q2 σ a g A G) g (G':Int)=Q2 σ a g A G':=by unfold Q2;rw [Q0w]
theorem Q3.ga (σ:Sg){a g m:Nat}(h:a≠g)(h2:a≠m)(A G M:Nat):Q3 σ a g m A G M a=some (.big (A:Int)):=by unfold Q3;rw [Qa _ _ h2,Q2.ga _ h]
theorem Q3.gg (σ:Sg){a g m:Nat}(h2:g≠m)(A G M:Nat):Q3 σ a g m A G M g=some (.big (G:Int)):=by unfold Q3;rw [Qa _ _ h2,Q2.gg]
theorem Q3.gm (σ:Sg)(a g m A G M:Nat):Q3 σ a g m A G M m=some (.big (M:Int)):=Q1 _ _ _
theorem Q3.sa (σ:Sg){a g m:Nat}(h:a≠g)(h2:a≠m)(A G M A':Nat):setN (Q3 σ a g m A G M) a (A':Int)=Q3 σ a g m A' G M:=by unfold Q3;rw [QL _ _ _ h2,Q2.sa _ h]
theorem Q3.sm (σ:Sg)(a g m A G M M':Nat):setN (Q3 σ a g m A G M) m (M':Int)=Q3 σ a g m A G M':=by unfold Q3;rw [Q0w]
theorem Q3.ext {σ:Sg}{a g m:Nat}(na:σ a=none)(ng:σ g=none)(nm:σ m=none)(A G M:Nat):Ext σ (Q3 σ a g m A G M):=((Ext.new na _).upd_skip ng _).upd_skip nm _
theorem Q8o {W:World}{τ:Sg}{w:World}(hW:GW W){a b A v:Nat}(hb:τ b=none)(h:St W (upd τ b (.big (v:Int))) w)(ha:τ a=some (.big (A:Int)))(lA:A<BB^39)(lv:v<BB^100) :
  Calls Tryz.prog 85 #[.pointer (some ⟨a,0,none⟩),.pointer (some ⟨a,0,none⟩),.pointer (some ⟨b,0,none⟩)] w fun r w'=>r=.returned (.pointer (some ⟨a,0,none⟩))∧St W (setN τ a ((A*v:Nat):Int)) w':=by
 have ne:a≠b:=by rintro rfl;rw [ha] at hb;cases hb
 refine Q5u ((Q2Z hW h.drew (Num.big (by rw [Qa _ _ ne];exact ha)) (Num.big (Q1 _ _ _)) ne lA lv).mono ?_)
 rintro r w' ⟨rfl,k⟩
 rw [QL _ _ _ ne] at k
 exact ⟨rfl,k.less (Ext.new (by rw [Qh _ _ ne.symm];exact hb) _)⟩
theorem Qa4 {W:World}{σ:Sg}{w:World}(hW:GW W)(h:St W σ w){b bx bu bk:Nat}(hk:Ctx σ bk 3 500 (-500) ((0:Nat):Int) 2){f ed:Int}{nd:Bool}{cd:Int}(hb:σ b=some (.dec f nd ed cd))(hx:σ bx=some (.dec 0 false 0 ((1:Nat):Int)))(hu:σ bu=some (.dec 0 false 0 ((3:Nat):Int)))(nx:b≠bx)(nu:b≠bu) :
  Calls Tryz.prog 39 #[.pointer (some ⟨bk,0,none⟩),.pointer (some ⟨b,0,none⟩),.pointer (some ⟨bx,0,none⟩),.pointer (some ⟨bu,0,none⟩)] w fun r w'=>r=.returned (.tuple #[.int .u32 80,.nilIface])∧St W (upd σ b (.dec 0 false (-3) ((333:Nat):Int))) w':=by
 have HQ:=Lh (Q9q (b:=b) h hk (by decide) hx hu (by decide))
 have HF:Hid (∀ w1,St W σ w1→(w1.cell? ⟨bx,1,none⟩=some (.bool false)∧w1.cell? ⟨bx,2,none⟩=some (.int .i32 0)∧w1.cell? ⟨bu,1,none⟩=some (.bool false)∧w1.cell? ⟨bu,2,none⟩=some (.int .i32 0))∧Calls Tryz.prog 81 #[.pointer (some ⟨bx,0,none⟩)] w1 fun r w'=>r=.returned (.bool false)∧w'=w1):=fun w1 q1 =>
  ⟨⟨(q1.dec hx).2.1,(q1.dec hx).2.2.1,(q1.dec hu).2.1,(q1.dec hu).2.2.1⟩,by
   have:=QC (c:=1) q1 hx
   rw [decide_eq_false (by omega)] at this
   exact this⟩
 have HK:=Lh hk;have HB:=Lh hb;have HX:=Lh hx;have HU:=Lh hu
 clear h hk hb hx hu
 go_enter Tryz.func39, Tryz.ntmps39
 go_wp2_with fail
 refine HQ.out.mono ?_
 rintro r w1 ⟨rfl,q1⟩
 obtain ⟨⟨x1,x2,u1,u2⟩,hz⟩:=HF.out _ q1
 have H1:=Lh q1;clear q1 HQ hz
 go_wp2_with fail
 go_quiet (fail)
 go_wp2_with fail
 go_quiet (fail)
 go_wp2_with fail
 refine (HF.out _ (by exact H1.out.sm ⟨rfl,rfl,rfl,rfl⟩)).2.mono ?_
 rintro r w2 ⟨rfl,hw2⟩
 have H2:=Lh (show St W σ w2 by rw [hw2];exact H1.out.sm ⟨rfl,rfl,rfl,rfl⟩)
 clear hw2 H1 x1 x2 u1 u2 HF
 obtain ⟨a,ha⟩:∃ a,a=w2.heap.size:=⟨_,rfl⟩
 obtain ⟨g,hg⟩:∃ g,g=a+1:=⟨_,rfl⟩
 have hA0:=H2.out.two_big 69
 rw [← ha,← hg] at hA0
 obtain ⟨na,ng,q2⟩:=hA0
 have ag:a≠g:=by omega
 have ab:a≠b:=by rintro rfl;rw [HB.out] at na;cases na
 have gb:g≠b:=by rintro rfl;rw [HB.out] at ng;cases ng
 have ax:a≠bx:=by rintro rfl;rw [HX.out] at na;cases na
 have gx:g≠bx:=by rintro rfl;rw [HX.out] at ng;cases ng
 have au:a≠bu:=by rintro rfl;rw [HU.out] at na;cases na
 have gu:g≠bu:=by rintro rfl;rw [HU.out] at ng;cases ng
 have q3:St W (Q2 σ a g 0 0) ((w2.alloc (.cells #[.bool false,.slice none 0 0] 69)).alloc (.cells #[.bool false,.slice none 0 0] 69)):=q2
 have HA1:=Lh (Q2W (R:=fun w'=>St W (Q2 σ a g 1 0) w') ((Q1E q3.drew (Num.big (Q2.ga σ ag 0 0)) (Num.dec (v:=((1:Nat):Int)) (by unfold Q2;rw [Qa _ _ gx.symm,Qa _ _ ax.symm];exact HX.out)) ax (by unfold BB;decide)).mono (fun r w' ⟨e,k⟩=>⟨e,by rw [Q2.sa σ ag] at k;exact k⟩)))
 have Hag:=Lh ag;have Hna:=Lh na;have Hng:=Lh ng;have Hgu:=Lh gu;have Hau:=Lh au;have Hab:=Lh ab;have Hgb:=Lh gb
 clear q2 q3 H2 ag na ng gu au gx ax ab gb
 go_wp2_with fail
 rw [← ha,← hg]
 clear ha hg
 refine HA1.out.mono ?_
 rintro r w3 ⟨rfl,q3⟩
 have HA2:=Lh (Q2W (R:=fun w'=>St W (Q2 σ a g 1 3) w') ((Q1E q3.drew (Num.big (Q2.gg σ a g 1 0)) (Num.dec (v:=((3:Nat):Int)) (by unfold Q2;rw [Qa _ _ Hgu.out.symm,Qa _ _ Hau.out.symm];exact HU.out)) Hgu.out (by unfold BB;decide)).mono (fun r w' ⟨e,k⟩=>⟨e,by rw [Q2.sg] at k;exact k⟩)))
 clear q3 HA1
 go_wp2_with fail
 refine HA2.out.mono ?_
 rintro r w4 ⟨rfl,q4⟩
 have HD1:=Lh (QV hW q4 (Num.big (Q2.ga σ Hag.out 1 3)) (by unfold BB;decide))
 rw [Qj (by decide)] at HD1
 clear q4 HA2
 go_wp2_with fail
 refine HD1.out.mono ?_
 rintro r w5 ⟨rfl,q5⟩
 have HD2:=Lh (QV hW q5 (Num.big (Q2.gg σ a g 1 3)) (by unfold BB;decide))
 rw [Qj (by decide)] at HD2
 clear q5 HD1
 go_wp2_with fail
 refine HD2.out.mono ?_
 rintro r w6 ⟨rfl,q6⟩
 obtain ⟨m,hm⟩:∃ m,m=w6.heap.size:=⟨_,rfl⟩
 have nm:=q6.none_new
 have q7:St W (Q3 σ a g m 1 3 0) (w6.alloc (.cells #[.bool false,.slice none 0 0] 69)):=by rw [hm];exact q6.alloc_big 69
 rw [← hm] at nm
 have am:a≠m:=by rintro rfl;rw [Q2.ga σ Hag.out] at nm;cases nm
 have gm:g≠m:=by rintro rfl;rw [Q2.gg] at nm;cases nm
 have bm:m≠b:=by rintro rfl;unfold Q2 at nm;rw [Qa _ _ Hgb.out.symm,Qa _ _ Hab.out.symm,HB.out] at nm;cases nm
 have HC1:=Lh (Q26 (R:=fun w'=>St W (Q3 σ a g m 1 3 0) w') ((Q25 q7.drew (x:=1) (u:=3) (Num.big (Q3.ga σ Hag.out am 1 3 0)) (Num.big (Q3.gg σ gm 1 3 0)) Hag.out).mono (fun r w' ⟨e,q,hw⟩=>⟨e,by rw [hw];exact q7.drew.drewN q⟩)))
 rw [show cmpI 1 3 = -1 by decide] at HC1
 have Hnm:Hid (σ m=none):=by
  unfold Q2 at nm
  rw [Qa _ _ gm.symm,Qa _ _ am.symm] at nm
  exact nm
 have Ham:=Lh am;have Hgm:=Lh gm;have Hbm:=Lh bm
 clear q6 q7 HD2 nm am gm bm
 go_wp2_with fail
 try rw [← hm]
 clear hm
 refine HC1.out.mono ?_
 rintro r w7 ⟨rfl,q7⟩
 have H7:=Lh q7;clear q7 HC1
 go_wp2_with fail
 refine (Q0Q H7.out).mono ?_
 rintro r w8 ⟨b1,rfl,hb1,q8⟩
 have HM1:=Lh (Q8o hW hb1 (v:=10) q8 (Q3.ga σ Hag.out Ham.out 1 3 0) (by unfold BB;decide) (by unfold BB;decide))
 rw [Q3.sa σ Hag.out Ham.out] at HM1
 clear q8 hb1 H7
 go_wp2_with fail
 refine HM1.out.mono ?_
 rintro r w9 ⟨rfl,q9⟩
 have H9:=Lh (show St W (Q3 σ a g m 10 3 0) w9 from q9)
 have p0:=(H9.out.ctx (HK.out.ext (Q3.ext Hna.out Hng.out Hnm.out 10 3 0))).1
 clear q9 HM1
 go_wp2_with fail
 refine (Q00 hW H9.out (Num.big (Q3.gm σ a g m 10 3 0)) 2 (by decide)).mono ?_
 rintro r w10 ⟨rfl,q10⟩
 rw [Q3.sm] at q10
 have HM2:=Lh (Q5u (R:=fun w'=>St W (Q3 σ a g m 1000 3 100) w') ((Q2Z hW (St.drew q10) (x:=10) (y:=100) (Num.big (Q3.ga σ Hag.out Ham.out 10 3 (10^2))) (Num.big (Q3.gm σ a g m 10 3 (10^2))) Ham.out (by unfold BB;decide) (by unfold BB;decide)).mono (fun r w' ⟨e,k⟩=>⟨e,by rw [Q3.sa σ Hag.out Ham.out] at k;exact k⟩)))
 clear q10 H9
 go_wp2_with fail
 refine HM2.out.mono ?_
 rintro r w11 ⟨rfl,q11⟩
 obtain ⟨t,ht⟩:∃ t,t=w11.heap.size:=⟨_,rfl⟩
 have nt:=q11.none_new
 have q12:St W (Q4 σ a g m t 1000 3 100 0) (w11.alloc (.cells #[.bool false,.slice none 0 0] 69)):=by rw [ht];exact q11.alloc_big 69
 rw [← ht] at nt
 have tt:t≠a∧t≠g∧t≠m∧t≠b∧σ t=none:=by
  have e1:t≠a:=by rintro rfl;rw [Q3.ga σ Hag.out Ham.out] at nt;cases nt
  have e2:t≠g:=by rintro rfl;rw [Q3.gg σ Hgm.out] at nt;cases nt
  have e3:t≠m:=by rintro rfl;rw [Q3.gm] at nt;cases nt
  unfold Q3 Q2 at nt
  rw [Qa _ _ e3,Qa _ _ e2,Qa _ _ e1] at nt
  exact ⟨e1,e2,e3,(by rintro rfl;rw [HB.out] at nt;cases nt),nt⟩
 have HT:=Lh tt
 have HQR:Hid (Calls Tryz.prog 94 #[.pointer (some ⟨b,3,none⟩),.pointer (some ⟨a,0,none⟩),.pointer (some ⟨g,0,none⟩),.pointer (some ⟨t,0,none⟩)] (w11.alloc (.cells #[.bool false,.slice none 0 0] 69)) fun r w'=>r=.returned (.tuple #[.pointer (some ⟨b,3,none⟩),.pointer (some ⟨t,0,none⟩)])∧(w'.cell? ⟨b,0,none⟩=some (.int .i8 f)∧w'.frozen? ⟨b,0,none⟩=false)∧(w'.cell? ⟨b,1,none⟩=some (.bool nd)∧w'.frozen? ⟨b,1,none⟩=false)∧St W (Q4 (upd σ b (.dec 0 false ed ((333:Nat):Int))) a g m t 1000 3 100 1) ((w'.setCell ⟨b,0,none⟩ (.int .i8 0)).setCell ⟨b,1,none⟩ (.bool false))):=by
  obtain ⟨t1,t2,t3,t4,t5⟩:=tt
  refine Q1r ((Q0K hW q12.drew (x:=1000) (y:=3) (bz:=b) (br:=t) (bx:=a) (bu:=g) (Num.dec (f:=f) (n:=nd) (e:=ed) (v:=cd) (by unfold Q4 Q3 Q2;rw [Qa _ _ t4.symm,Qa _ _ Hbm.out.symm,Qa _ _ Hgb.out.symm,Qa _ _ Hab.out.symm];exact HB.out)) (Num.big (v:=((0:Nat):Int)) (Q1 _ _ _)) (Num.big (by unfold Q4;rw [Qa _ _ t1.symm,Q3.ga σ Hag.out Ham.out])) t4.symm Hab.out.symm t1 (Num.big (v:=((3:Nat):Int)) (by unfold Q4;rw [Qa _ _ t2.symm,Q3.gg σ Hgm.out])) Hgb.out.symm t2 (by decide) (by unfold BB;decide) (by unfold BB;decide)).mono ?_)
  rintro r w' ⟨rfl,k⟩
  have k2:St W (Q4 (upd σ b (.dec f nd ed ((333:Nat):Int))) a g m t 1000 3 100 1) w':=k.ext fun i=>by
   have hab:=Hab.out;have hgb:=Hgb.out;have hbm:=Hbm.out
   by_cases e1:i=t
   ·subst e1
    unfold Q4;rw [Q1,QQ (u:=((0:Nat):Int)) (by rw [Qh _ _ t4];exact Q1 _ _ _)]
   ·rw [Qh _ _ e1]
    by_cases e2:i=b
    ·subst e2
     rw [Q07 (f:=f) (n:=nd) (e:=ed) (u:=cd) (by unfold Q4 Q3 Q2;rw [Qa _ _ t4.symm,Qa _ _ hbm.symm,Qa _ _ hgb.symm,Qa _ _ hab.symm];exact HB.out)]
     unfold Q4 Q3 Q2;rw [Qa _ _ t4.symm,Qa _ _ hbm.symm,Qa _ _ hgb.symm,Qa _ _ hab.symm,Q1]
    ·rw [Qh _ _ e2]
     unfold Q4 Q3 Q2
     rw [Qa _ _ e1,Qa _ _ e1]
     by_cases e3:i=m
     ·subst e3;rw [Q1,Q1]
     ·rw [Qa _ _ e3,Qa _ _ e3]
      by_cases e4:i=g
      ·subst e4;rw [Q1,Q1]
      ·rw [Qa _ _ e4,Qa _ _ e4]
       by_cases e5:i=a
       ·subst e5;rw [Q1,Q1]
       ·rw [Qa _ _ e5,Qa _ _ e5,Qa _ _ e2]
  have hbb:(Q4 (upd σ b (.dec f nd ed ((333:Nat):Int))) a g m t 1000 3 100 1) b=some (.dec f nd ed ((333:Nat):Int)):=by unfold Q4 Q3 Q2;rw [Qa _ _ t4.symm,Qa _ _ Hbm.out.symm,Qa _ _ Hgb.out.symm,Qa _ _ Hab.out.symm,Q1]
  obtain ⟨d0,d1,_,g0,g1,_⟩:=k2.dec hbb
  refine ⟨rfl,⟨d0,g0⟩,⟨d1,g1⟩,((k2.setForm hbb 0).setNeg (Q1 _ _ _) false).upd2.ext fun i=>?_⟩
  by_cases e2:i=b
  ·subst e2
   rw [Q1]
   unfold Q4 Q3 Q2;rw [Qa _ _ t4.symm,Qa _ _ Hbm.out.symm,Qa _ _ Hgb.out.symm,Qa _ _ Hab.out.symm,Q1]
  ·rw [Qa _ _ e2]
   unfold Q4 Q3 Q2
   simp only [upd,if_neg e2]
 clear q11 q12 HM2 nt tt
 go_wp2_with fail
 try rw [← ht]
 clear ht
 refine HQR.out.mono ?_
 rintro r w12 ⟨rfl,⟨d0,g0⟩,⟨d1,g1⟩,q13⟩
 have H13:=Lh q13;clear q13 HQR
 have HS5:Hid ((Q4 (upd σ b (.dec 0 false ed ((333:Nat):Int))) a g m t 1000 3 100 1) b=some (.dec 0 false ed ((333:Nat):Int))∧(Q4 (upd σ b (.dec 0 false ed ((333:Nat):Int))) a g m t 1000 3 100 1) t=some (.big ((1:Nat):Int))∧(Q4 (upd σ b (.dec 0 false ed ((333:Nat):Int))) a g m t 1000 3 100 1) g=some (.big ((3:Nat):Int))∧Ext (upd σ b (.dec 0 false ed ((333:Nat):Int))) (Q4 (upd σ b (.dec 0 false ed ((333:Nat):Int))) a g m t 1000 3 100 1)):=by
  obtain ⟨t1,t2,t3,t4,t5⟩:=HT.out
  refine ⟨?_,Q1 _ _ _,?_,?_⟩
  ·unfold Q4 Q3 Q2;rw [Qa _ _ t4.symm,Qa _ _ Hbm.out.symm,Qa _ _ Hgb.out.symm,Qa _ _ Hab.out.symm,Q1]
  ·unfold Q4;rw [Qa _ _ t2.symm,Q3.gg _ Hgm.out]
  ·exact (Q3.ext (by rw [Qa _ _ Hab.out];exact Hna.out) (by rw [Qa _ _ Hgb.out];exact Hng.out) (by rw [Qa _ _ Hbm.out];exact Hnm.out) _ _ _).upd_skip (by rw [Qa _ _ t4];exact t5) _
 generalize Q4 (upd σ b (.dec 0 false ed ((333:Nat):Int))) a g m t 1000 3 100 1=τ at H13 HS5
 have HD3:=Lh (QV hW H13.out (Num.dec HS5.out.1) (by unfold BB;decide))
 rw [show ndg 333=3 by rw [QT (by decide),QT (by decide),Qj (by decide)]] at HD3
 clear Hna Hng Hnm Hau Hgu Hag Ham Hgm Hab Hgb Hbm p0
 go_wp2_with fail
 refine HD3.out.mono ?_
 rintro r w13 ⟨rfl,q14⟩
 have HSg:=Lh (Q13 (Q0Z q14 (Num.big HS5.out.2.1)))
 rw [show signI ((1:Nat):Int)=1 by decide] at HSg
 have H14:=Lh q14
 clear q14 HD3 H13
 go_wp2_with fail
 refine HSg.out.mono ?_
 rintro r w_ ⟨rfl,hw_⟩
 subst hw_
 clear HSg
 have p2:w_.cell? ⟨bk,2,none⟩=some (.int .i32 (-500)):=(H14.out.ctx ((HK.out.upd HB.out _).ext HS5.out.2.2.2)).2.2.1
 go_wp2_with fail
 refine (Q7U H14.out).mono ?_
 rintro r w14 ⟨b1,rfl,hb1,q15⟩
 have HM3:=Lh (Q8o hW hb1 (v:=2) q15 HS5.out.2.1 (by unfold BB;decide) (by unfold BB;decide))
 clear q15 hb1 H14
 go_wp2_with fail
 refine HM3.out.mono ?_
 rintro r w15 ⟨rfl,q16⟩
 have HS6:Hid ((setN τ t ((1*2:Nat):Int)) b=some (.dec 0 false ed ((333:Nat):Int))∧(setN τ t ((1*2:Nat):Int)) t=some (.big ((2:Nat):Int))∧(setN τ t ((1*2:Nat):Int)) g=some (.big ((3:Nat):Int))∧Ext (upd σ b (.dec 0 false ed ((333:Nat):Int))) (setN τ t ((1*2:Nat):Int))):=by
  obtain ⟨t1,t2,t3,t4,t5⟩:=HT.out
  refine ⟨by rw [Qh _ _ t4.symm];exact HS5.out.1,QQ HS5.out.2.1 _,by rw [Qh _ _ t2.symm];exact HS5.out.2.2.1,HS5.out.2.2.2.setN_skip (by rw [Qa _ _ t4];exact t5) _⟩
 generalize setN τ t ((1*2:Nat):Int)=τ2 at q16 HS6
 have HC2:=Lh (Q26 (R:=fun w'=>St W τ2 w') ((Q25 q16.drew (x:=2) (u:=3) (Num.big HS6.out.2.1) (Num.big HS6.out.2.2.1) HT.out.2.1).mono (fun r w' ⟨e,q,hw⟩=>⟨e,by rw [hw];exact q16.drew.drewN q⟩)))
 rw [show cmpI 2 3 = -1 by decide] at HC2
 clear q16 HM3 HS5
 go_wp2_with fail
 refine HC2.out.mono ?_
 rintro r w16 ⟨rfl,q17⟩
 have H17:=Lh q17
 have HK6:=Lh ((HK.out.upd HB.out (.dec 0 false ed ((333:Nat):Int))).ext HS6.out.2.2.2)
 have g1:=(q17.ctx HK6.out).2.2.2.2
 have g2:=(q17.dec HS6.out.1).2.1
 clear q17 HC2 p2
 go_wp2_with fail
 go_region_held3 (fun x=>x.cell? ⟨bk,4,none⟩=some (.string (rndS 2))∧x.cell? ⟨b,1,none⟩=some (.bool false)) (first | exact ⟨g1,g2⟩ | exact ⟨g3,g4⟩) (first | (go_at_call 97;refine (Q0d hW (by exact H17.out.sm ⟨rfl,rfl,rfl,rfl⟩) (q:=333) (Num.dec HS6.out.1) (by unfold BB;decide) 2 (by decide) false (-1)).mono ?_;rintro r w17 ⟨rfl,q18⟩;have H18:=Lh q18;have g3:=(q18.ctx HK6.out).2.2.2.2;have g4:=(q18.dec HS6.out.1).2.1;clear q18;rw [show upR 2 false 333 (-1)=false by decide]))
 go_wp2_with fail
 have hbit:bits .or .u32 0 80=((80:Nat):Int):=(Qr 0 80 (by decide) (by decide)).trans (by decide)
 rw [hbit]
 have hnn:=H18.out.none_new
 have hnb:b≠w17.heap.size:=by intro e;rw [← e,HS6.out.1] at hnn;cases hnn
 have HXX:=Lh (Q4m hW (H18.out.alloc (.cells #[.int .i64 0,.int .i64 (-1),.int .i64 (-2)] 2)) (b:=b) (bk:=bk) (ba:=w17.heap.size) (s1:=0) (s2 := -1) (s3 := -2) (nd:=3) (res:=80) (f:=0) (n:=false) (e0:=ed) (c:=333) (by rw [Qa _ _ hnb];exact HS6.out.1) (HK6.out.ext (Ext.new hnn _)) (Q1 _ _ _) (by decide) (by decide) (by decide) (by decide) (by decide) (by unfold BB;decide) (by decide) (by decide))
 rw [show finK 80=80 by decide] at HXX
 have HFin:Hid (∀ w1,St W (upd (upd τ2 w17.heap.size (.raw (.cells #[.int .i64 0,.int .i64 (-1),.int .i64 (-2)] 2))) b (.dec 0 false (0 + -1 + -2) ((333:Nat):Int))) w1→St W (upd σ b (.dec 0 false (-3) ((333:Nat):Int))) w1):=fun w1 q=>by
  have:=q.less ((HS6.out.2.2.2.trans (Ext.new hnn _)).upd b _)
  rw [Q04] at this
  exact this
 clear hnn hnb H17 H18
 refine HXX.out.mono ?_
 rintro r w18 ⟨rfl,q19⟩
 have H19:=Lh (Q4i (HFin.out _ q19) (HK.out.upd HB.out _) (k:=80) (by decide) (by decide))
 rw [show badK 80 0=false by decide] at H19
 clear q19 HXX HFin
 have hbit2:bits .or .u32 80 80=((80:Nat):Int):=(Qr 80 80 (by decide) (by decide)).trans (by decide)
 go_wp2_with fail
 refine H19.out.mono ?_
 rintro r w19 ⟨⟨v,rfl,hv⟩,q20⟩
 have H20:=Lh q20
 rcases hv with ⟨hv,_⟩ | ⟨_,rfl⟩
 ·cases hv
 ·clear q20 H19
  go_wp2_with fail
  go_ret2
  exact ⟨rfl,H20.out⟩
theorem Q8u {W:World}{σ:Sg}{w:World}(h:St W σ w){b bx:Nat}{f f':Int}{n n':Bool}{e e' c c':Int}(hb:σ b=some (.dec f n e c))(hx:σ bx=some (.dec f' n' e' c'))(hc:c'.natAbs<BB^100) :
  Calls Tryz.prog 82 #[.pointer (some ⟨b,0,none⟩),.pointer (some ⟨bx,0,none⟩)] w fun r w'=>r=.returned (.pointer (some ⟨b,0,none⟩))∧(w'.cell? ⟨bx,0,none⟩=some (.int .i8 f')∧w'.cell? ⟨b,0,none⟩=some (.int .i8 f')∧w'.frozen? ⟨b,0,none⟩=false)∧St W (upd σ b (.dec f' n' e' c')) w':=by
 by_cases hne:b=bx
 ·subst hne
  rw [hb] at hx
  obtain ⟨rfl,rfl,rfl,rfl⟩:f=f'∧n=n'∧e=e'∧c=c':=by
   have:=Option.some.inj hx
   injection this with a1 a2 a3 a4
   exact ⟨a1,a2,a3,a4⟩
  refine (Q0G h hb).mono ?_
  rintro r w' ⟨rfl,rfl⟩
  obtain ⟨d0,_,_,g0,_,_⟩:=h.dec hb
  exact ⟨rfl,⟨d0,d0,g0⟩,h.ext fun k=>by
   by_cases e:k=b
   ·subst e;rw [Q1,hb]
   ·rw [Qa _ _ e]⟩
 ·refine (Q2X h hb hx hne hc).mono ?_
  rintro r w' ⟨rfl,q⟩
  obtain ⟨d0,_,_,g0,_,_⟩:=q.dec (Q1 _ _ _)
  obtain ⟨y0,_⟩:=q.dec (b:=bx) (by rw [Qa _ _ (Ne.symm hne)];exact hx)
  exact ⟨rfl,⟨y0,d0,g0⟩,q⟩
end Go.Proofs.YtpebcmfpehdafaaGreatDoor
