/- a part of the proof -/
import Derived.Test.YtpebcmfpehdafaaGreatDoorZ24
import Derived.Test.YtpebcmfpehdafaaGreatDoorZ27
set_option linter.all false
set_option maxRecDepth 100000
set_option maxHeartbeats 16000000
namespace Go.Proofs.YtpebcmfpehdafaaGreatDoor
open Go Go.RowKit
theorem Qao (a b:Nat){t:Nat}(ht:0<t):cmpN (a*t) (b*t)=cmpN a b:=by
 unfold cmpN
 have h1:a*t<b*t ↔ a<b:=⟨fun h=>Nat.lt_of_mul_lt_mul_right h,fun h=>Nat.mul_lt_mul_of_pos_right h ht⟩
 have h2:b*t<a*t ↔ b<a:=⟨fun h=>Nat.lt_of_mul_lt_mul_right h,fun h=>Nat.mul_lt_mul_of_pos_right h ht⟩
 simp only [h1,h2]
theorem QaK {k m cy r:Nat}(hk:0<k)(hr:0<r)(hrc:r<cy) :
  cmpN (2*(10*m+1)) (10^(k+1))=cmpN (2*(r+cy*m)) (cy*10^k):=by
 obtain ⟨h,hh⟩:∃ h,10^k=2*h:=⟨5*10^(k - 1),by
  obtain ⟨j,rfl⟩:∃ j,k=j+1:=⟨k - 1,by omega⟩
  rw [Nat.add_sub_cancel,Nat.pow_succ];omega⟩
 have h2:cy*(2*h)=2*(cy*h):=Nat.mul_left_comm _ _ _
 rw [Nat.pow_succ,hh,h2]
 unfold cmpN
 rcases Nat.lt_or_ge m h with a | a
 ·have h1:cy*(m+1)≤cy*h:=Nat.mul_le_mul_left _ a
  rw [Nat.mul_add,Nat.mul_one] at h1
  generalize cy*h=X at h1 ⊢
  generalize cy*m=Y at h1 ⊢
  rw [if_pos (by omega),if_pos (by omega)]
 ·have h1:cy*h≤cy*m:=Nat.mul_le_mul_left _ a
  generalize cy*h=X at h1 ⊢
  generalize cy*m=Y at h1 ⊢
  rw [if_neg (by omega),if_pos (by omega),if_neg (by omega),if_pos (by omega)]
theorem Qax {a b:Nat}(h:a≤b):ndg a≤ndg b:=Q09 (Qi b) (Nat.lt_of_le_of_lt h (Q0m b))
def rq (md:Nat)(n:Bool)(Q R V:Nat):Nat:=if R=0 then Q else if upR md n Q (cmpN (2*R) V) then Q+1 else Q
theorem QaL {md:Nat}{n:Bool}{N1 cy k:Nat}(hk:0<k)(hy:0<cy)(hr:N1 % cy≠0) :
  rdiv md n (N1 / cy*10+1) (k+1)=rq md n (N1 / cy / 10^k) (N1 % (cy*10^k)) (cy*10^k)∧(N1 / cy*10+1) % 10^(k+1)≠0∧N1 % (cy*10^k)≠0:=by
 have e3:N1 % (cy*10^k)=N1 % cy+cy*(N1 / cy % 10^k):=Nat.mod_mul
 have hs:=QaK (k:=k) (m:=N1 / cy % 10^k) (cy:=cy) (r:=N1 % cy) hk (Nat.pos_of_ne_zero hr) (Nat.mod_lt _ hy)
 generalize N1 / cy=q at e3 hs ⊢
 have e1:(q*10+1) / 10^(k+1)=q / 10^k:=by
  rw [Nat.pow_succ,Nat.mul_comm (10^k) 10,← Nat.div_div_eq_div_mul];congr 1;omega
 have e2:(q*10+1) % 10^(k+1)=10*(q % 10^k)+1:=by
  rw [Nat.pow_succ,Nat.mul_comm (10^k) 10,Nat.mod_mul]
  have h1:(q*10+1) % 10=1:=by omega
  have h2:(q*10+1) / 10=q:=by omega
  rw [h1,h2];omega
 have e4:N1 % (cy*10^k)≠0:=by rw [e3];omega
 refine ⟨?_,by rw [e2];omega,e4⟩
 unfold rdiv rq
 rw [if_neg e4,e1,e2,e3,hs,if_neg (by omega)]
theorem QaR {md:Nat}{n:Bool}{N1 cy k c0 j:Nat}(hy:0<cy)(hr:N1 % cy=0)(hq:N1 / cy=c0*10^j)(hj:j<k) :
  rdiv md n c0 (k - j)=rq md n (N1 / cy / 10^k) (N1 % (cy*10^k)) (cy*10^k)∧(c0 % 10^(k - j)=0 ↔ N1 % (cy*10^k)=0):=by
 have hp:=QE j
 have ek:10^k=10^(k - j)*10^j:=by rw [← Nat.pow_add];congr 1;omega
 have e1:N1 / cy / 10^k=c0 / 10^(k - j):=by rw [hq,ek,Nat.mul_div_mul_right _ _ hp]
 have e2:N1 / cy % 10^k=c0 % 10^(k - j)*10^j:=by rw [hq,ek,Nat.mul_mod_mul_right]
 have e3:N1 % (cy*10^k)=c0 % 10^(k - j)*(10^j*cy):=by
  rw [Nat.mod_mul,hr,e2,Nat.zero_add,Nat.mul_comm cy,Nat.mul_assoc]
 have e4:cy*10^k=10^(k - j)*(10^j*cy):=by rw [ek,Nat.mul_comm cy,Nat.mul_assoc]
 have ht:0<10^j*cy:=Nat.mul_pos hp hy
 have e5:cmpN (2*(N1 % (cy*10^k))) (cy*10^k)=cmpN (2*(c0 % 10^(k - j))) (10^(k - j)):=by
  rw [e3,e4]
  generalize 10^j*cy=t at ht ⊢
  generalize c0 % 10^(k - j)=A
  rw [show 2*(A*t)=2*A*t from (Nat.mul_assoc _ _ _).symm,Qao _ _ ht]
 have e6:c0 % 10^(k - j)=0 ↔ N1 % (cy*10^k)=0:=by
  rw [e3];constructor
  ·intro h;rw [h,Nat.zero_mul]
  ·intro h
   rcases Nat.mul_eq_zero.1 h with h | h
   ·exact h
   ·omega
 refine ⟨?_,e6⟩
 unfold rdiv rq
 rw [e1,e5]
 by_cases h:c0 % 10^(k - j)=0
 ·rw [if_pos h,if_pos (e6.1 h)]
 ·rw [if_neg h,if_neg (fun q=>h (e6.2 q))]
theorem Qb2 {N1 cy k c0 j:Nat}(hr:N1 % cy=0)(hq:N1 / cy=c0*10^j)(hj:k≤j):N1 % (cy*10^k)=0∧N1 / cy / 10^k=c0*10^(j - k):=by
 have ek:10^j=10^(j - k)*10^k:=by rw [← Nat.pow_add];congr 1;omega
 rw [Nat.mod_mul,hr,hq,ek,← Nat.mul_assoc,Nat.mul_mod_left,Nat.mul_zero,Nat.mul_div_cancel _ (QE k)]
 exact ⟨rfl,rfl⟩
theorem Qb9 {md:Nat}{n:Bool}{D V N1 cx cy s u v k:Nat}(hD:D=cx*10^u)(hV:V=cy*10^v)(hN:N1=cx*10^s)(he:s+v=u+k) :
  rq md n (D / V) (D % V) V=rq md n (N1 / cy / 10^k) (N1 % (cy*10^k)) (cy*10^k)∧(D % V=0 ↔ N1 % (cy*10^k)=0)∧D / V=N1 / cy / 10^k:=by
 have hk:=QE k
 have hv:=QE v
 have e1:D*10^k=N1*10^v:=by rw [hD,hN,Nat.mul_assoc,Nat.mul_assoc,← Nat.pow_add,← Nat.pow_add,he]
 have e2:V*10^k=cy*10^k*10^v:=by rw [hV,Nat.mul_right_comm]
 have e3:D / V=N1 / (cy*10^k):=by rw [← Nat.mul_div_mul_right D V hk,e1,e2,Nat.mul_div_mul_right _ _ hv]
 have e4:D % V*10^k=N1 % (cy*10^k)*10^v:=by rw [← Nat.mul_mod_mul_right,e1,e2,Nat.mul_mod_mul_right]
 have e5:D % V=0 ↔ N1 % (cy*10^k)=0:=by
  constructor
  ·intro h
   rw [h,Nat.zero_mul] at e4
   rcases Nat.mul_eq_zero.1 e4.symm with h | h
   ·exact h
   ·omega
  ·intro h
   rw [h,Nat.zero_mul] at e4
   rcases Nat.mul_eq_zero.1 e4 with h | h
   ·exact h
   ·omega
 have e6:cmpN (2*(D % V)) V=cmpN (2*(N1 % (cy*10^k))) (cy*10^k):=by
  rw [← Qao (2*(D % V)) V hk,Nat.mul_assoc,e4,e2,← Qao (2*(N1 % (cy*10^k))) (cy*10^k) hv,Nat.mul_assoc 2]
 have e7:N1 / cy / 10^k=N1 / (cy*10^k):=Nat.div_div_eq_div_mul _ _ _
 refine ⟨?_,e5,e3.trans e7.symm⟩
 unfold rq
 rw [e6,e3,e7]
 by_cases h:D % V=0
 ·rw [if_pos h,if_pos (e5.1 h)]
 ·rw [if_neg h,if_neg (fun q=>h (e5.2 q))]
theorem Qag {c:Nat}(h:0<c)(k:Nat):ndg (c*10^k)=ndg c+k:=by
 have h1:=Q0m c
 have h2:=Q0y h
 have h3:=Qi c
 have h4:c*10^k<10^(ndg c - 1+k+1):=by
  rw [show ndg c - 1+k+1=ndg c+k by omega,Nat.pow_add]
  exact Nat.mul_lt_mul_of_pos_right h1 (QE k)
 have h5:10^(ndg c - 1+k)≤c*10^k:=by
  rw [Nat.pow_add];exact Nat.mul_le_mul_right _ h2
 rw [Q5n h4 h5];omega
def qD0 (cx cy:Nat):Nat:=cx*10^(ndg cy - ndg cx)
def qV (cx cy:Nat):Nat:=cy*10^(ndg cx - ndg cy)
def qLs (cx cy:Nat):Nat:=if qD0 cx cy<qV cx cy then 1 else 0
def qD (p cx cy:Nat):Nat:=qD0 cx cy*10^qLs cx cy*10^(p - 1)
def quoC (p md:Nat)(n:Bool)(cx cy:Nat):Nat:=rq md n (qD p cx cy / qV cx cy) (qD p cx cy % qV cx cy) (qV cx cy)
def quoE (p:Nat)(ex ey:Int)(cx cy:Nat):Int:=ex - ey - ((ndg cy:Int) - ndg cx+(qLs cx cy:Nat)) - ((p:Int) - 1)
def quoK (p cx cy:Nat):Nat:=if qD p cx cy % qV cx cy=0 then 0 else 80
def quoF (p:Nat)(mx:Int)(md:Nat)(n:Bool)(ex ey:Int)(cx cy:Nat):DR :=
 if mx<quoE p ex ey cx cy+ndg (quoC p md n cx cy) - 1 then ⟨1,n,quoE p ex ey cx cy,quoC p md n cx cy,orN (quoK p cx cy) 20⟩
 else ⟨0,n,quoE p ex ey cx cy,quoC p md n cx cy,quoK p cx cy⟩
theorem QaA (cx cy:Nat):qLs cx cy≤1:=by unfold qLs;split <;> omega
theorem Qap {cx cy:Nat}(hy:0<cy):0<qV cx cy:=Nat.mul_pos hy (QE _)
theorem QaB {cx cy:Nat}(hx:0<cx)(hy:0<cy):qV cx cy≤qD0 cx cy*10^qLs cx cy∧qD0 cx cy*10^qLs cx cy<10*qV cx cy:=by
 have h1:=Qag hx (ndg cy - ndg cx)
 have h2:=Qag hy (ndg cx - ndg cy)
 have hD:0<qD0 cx cy:=Nat.mul_pos hx (QE _)
 have hV:=Qap (cx:=cx) hy
 have d1:=Q0m (qD0 cx cy);have d2:=Q0y hD
 have v1:=Q0m (qV cx cy);have v2:=Q0y hV
 have hN:ndg (qV cx cy)=ndg (qD0 cx cy):=by
  show ndg (cy*10^(ndg cx - ndg cy))=ndg (cx*10^(ndg cy - ndg cx));omega
 rw [hN] at v1 v2
 have hp:=Qi (qD0 cx cy)
 obtain ⟨N,hNN⟩:∃ N,ndg (qD0 cx cy)=N+1:=⟨ndg (qD0 cx cy) - 1,by omega⟩
 rw [hNN,Nat.add_sub_cancel] at d2 v2
 rw [hNN,Nat.pow_succ] at d1 v1
 unfold qLs
 by_cases h:qD0 cx cy<qV cx cy
 ·rw [if_pos h,Nat.pow_one];omega
 ·rw [if_neg h,Nat.pow_zero,Nat.mul_one];omega
theorem Qah {p cx cy:Nat}(hp:0<p)(hx:0<cx)(hy:0<cy):ndg (qD p cx cy / qV cx cy)=p:=by
 obtain ⟨h1,h2⟩:=QaB hx hy
 have hV:=Qap (cx:=cx) hy
 obtain ⟨j,rfl⟩:∃ j,p=j+1:=⟨p - 1,by omega⟩
 unfold qD
 rw [Nat.add_sub_cancel]
 generalize qD0 cx cy*10^qLs cx cy=E at h1 h2
 generalize qV cx cy=V at h1 h2 hV
 refine Q5n ((Nat.div_lt_iff_lt_mul hV).2 ?_) ((Nat.le_div_iff_mul_le hV).2 ?_)
 ·have h3:E*10^j<10*V*10^j:=Nat.mul_lt_mul_of_pos_right h2 (QE j)
  have h4:10^(j+1)*V=10*V*10^j:=by rw [Nat.pow_succ,Nat.mul_right_comm,Nat.mul_comm 10 V,Nat.mul_comm (10^j) V,Nat.mul_right_comm]
  omega
 ·rw [Nat.mul_comm];exact Nat.mul_le_mul_right _ h1
theorem Qba {p md : Nat} {n : Bool} {ex ey : Int} {cx cy : Nat} (hp : 0 < p) (hx : 0 < cx) (hy : 0 < cy) :
    (quoS p ex ey cx cy).2≠0∧(quoS p ex ey cx cy).1+ndg (quoS p ex ey cx cy).2=quoE p ex ey cx cy+p ∧
    ((p<ndg (quoS p ex ey cx cy).2∧quoC p md n cx cy=rdiv md n (quoS p ex ey cx cy).2 (ndg (quoS p ex ey cx cy).2 - p)∧(quoK p cx cy=0 ↔ (quoS p ex ey cx cy).2 % 10^(ndg (quoS p ex ey cx cy).2 - p)=0)) ∨
     (ndg (quoS p ex ey cx cy).2≤p∧quoK p cx cy=0∧quoC p md n cx cy=(quoS p ex ey cx cy).2*10^(p - ndg (quoS p ex ey cx cy).2))):=by
  obtain ⟨k,hk⟩:∃ k,k=qsS p cx cy+(ndg cx - ndg cy) - ((ndg cy - ndg cx)+qLs cx cy+(p - 1)):=⟨_,rfl⟩
  have hl:=QaA cx cy
  have hk1:qsS p cx cy+(ndg cx - ndg cy)=(ndg cy - ndg cx)+qLs cx cy+(p - 1)+k:=by unfold qsS at hk ⊢;omega
  have hk2:2≤k:=by unfold qsS at hk;omega
  have hDe:qD p cx cy=cx*10^((ndg cy - ndg cx)+qLs cx cy+(p - 1)):=by unfold qD qD0;rw [Nat.pow_add,Nat.pow_add,← Nat.mul_assoc,← Nat.mul_assoc]
  obtain ⟨r1,r2,r3⟩:=Qb9 (md:=md) (n:=n) hDe (show qV cx cy=cy*10^(ndg cx - ndg cy) from rfl) (N1:=cx*10^qsS p cx cy) rfl hk1
  have hd:=Qah hp hx hy
  have hE:quoE p ex ey cx cy=ex - ey - (qsS p cx cy:Nat)+k:=by unfold quoE;omega
  have hK:quoK p cx cy=0 ↔ cx*10^qsS p cx cy % (cy*10^k)=0:=by
    unfold quoK
    by_cases h:qD p cx cy % qV cx cy=0
    · rw [if_pos h];exact ⟨fun _=>r2.1 h,fun _=>rfl⟩
    · rw [if_neg h];exact ⟨fun q=>by omega,fun q=>absurd (r2.2 q) h⟩
  have hC:quoC p md n cx cy=_:=r1
  rw [hC]
  rw [r3] at hd
  rw [hE]
  unfold quoS
  generalize hN1:cx*10^qsS p cx cy=N1 at *
  have hq0:ndg (N1 / cy)=p+k:=by
    have:=Q45 (n:=N1 / cy) (k:=k)
    by_cases a:k<ndg (N1 / cy)
    · have:=Q45 a;omega
    · have h0:=(Q2j (n:=N1 / cy) (k:=k) (by omega)).1
      rw [h0,Qj (by decide)] at hd
      have hpos:0<N1 / cy:=by
        rcases Nat.eq_zero_or_pos (N1 / cy) with e | e
        · exfalso
          have h3:=Qah hp hx hy
          rw [r3,e] at h3
          have h1:=(QaB hx hy).1
          have hV:=Qap (cx:=cx) hy
          have h4:0<qD p cx cy / qV cx cy:=(Nat.le_div_iff_mul_le hV).2 (by
            rw [Nat.one_mul]
            refine Nat.le_trans h1 ?_
            exact Nat.le_mul_of_pos_right _ (QE _))
          rw [r3,e,Nat.zero_div] at h4
          omega
        · exact e
      exfalso
      have h1:=(QaB hx hy).1
      have hV:=Qap (cx:=cx) hy
      have h4:0<qD p cx cy / qV cx cy:=(Nat.le_div_iff_mul_le hV).2 (by
        rw [Nat.one_mul]
        refine Nat.le_trans h1 ?_
        exact Nat.le_mul_of_pos_right _ (QE _))
      rw [r3,h0] at h4
      omega
  have hqp:0<N1 / cy:=by
    rcases Nat.eq_zero_or_pos (N1 / cy) with e | e
    · rw [e,Qj (by decide)] at hq0;omega
    · exact e
  by_cases hr:N1 % cy≠0
  · rw [if_pos hr]
    obtain ⟨s1,s2,s3⟩:=QaL (md:=md) (n:=n) (N1:=N1) (cy:=cy) (k:=k) (by omega) hy hr
    have hn:ndg (N1 / cy*10+1)=p+k+1:=by
      rw [QT (by omega),show (N1 / cy*10+1) / 10=N1 / cy by omega,hq0]
    simp only []
    rw [hn]
    refine ⟨by omega,by omega,.inl ⟨by omega,?_,?_⟩⟩
    · rw [show p+k+1 - p=k+1 by omega];exact s1.symm
    · rw [show p+k+1 - p=k+1 by omega,hK]
      exact ⟨fun q=>absurd q s3,fun q=>absurd q s2⟩
  · rw [if_neg hr]
    have hr0:N1 % cy=0:=by omega
    obtain ⟨a1,a2⟩:=Qaw (qsS p cx cy) (N1 / cy)
    generalize (stripN (qsS p cx cy) (N1 / cy)).1=c0 at a1 ⊢
    generalize (stripN (qsS p cx cy) (N1 / cy)).2=j at a1 a2 ⊢
    have hc0:0<c0:=by
      rcases Nat.eq_zero_or_pos c0 with e | e
      · rw [e,Nat.zero_mul] at a1;omega
      · exact e
    have hn:=Qag hc0 j
    rw [← a1,hq0] at hn
    simp only []
    refine ⟨by omega,by omega,?_⟩
    rcases Nat.lt_or_ge j k with hj | hj
    · left
      obtain ⟨s1,s2⟩:=QaR (md:=md) (n:=n) hy hr0 a1 hj
      refine ⟨by omega,?_,?_⟩
      · rw [show ndg c0 - p=k - j by omega];exact s1.symm
      · rw [show ndg c0 - p=k - j by omega,hK];exact s2.symm
    · right
      obtain ⟨s1,s2⟩:=Qb2 hr0 a1 hj
      refine ⟨by omega,hK.2 s1,?_⟩
      unfold rq
      rw [if_pos s1,s2,show p - ndg c0=j - k by omega]
def sameV (e:Int)(c:Nat)(e':Int)(c':Nat):Prop:=c*10^(e - min e e').toNat=c'*10^(e' - min e e').toNat
theorem QaM {e:Int}{c t:Nat}{E:Int}(h:e=E+t):sameV e c E (c*10^t):=by
 unfold sameV
 rw [show (e - min e E).toNat=t by omega,show (E - min e E).toNat=0 by omega,Nat.pow_zero,Nat.mul_one]
theorem QaS (e:Int)(c:Nat):sameV e c e c:=rfl
theorem QaV {p:Nat}{mx mn:Int}{md:Nat}{n:Bool}{ex ey:Int}{cx cy:Nat}(hp:0<p)(hx:0<cx)(hy:0<cy)
  (h:(finS p mx mn md n (quoS p ex ey cx cy).1 (quoS p ex ey cx cy).2).known=true) (h32:(finS p mx mn md n (quoS p ex ey cx cy).1 (quoS p ex ey cx cy).2).d.k &&& 32=0) :
  mn≤quoE p ex ey cx cy+p - 1 ∧
  ((finS p mx mn md n (quoS p ex ey cx cy).1 (quoS p ex ey cx cy).2).over=false→∃ e c k,(finS p mx mn md n (quoS p ex ey cx cy).1 (quoS p ex ey cx cy).2).d=⟨0,n,e,c,k⟩∧(quoF p mx md n ex ey cx cy).f=0∧sameV e c (quoE p ex ey cx cy) (quoC p md n cx cy)∧orN k 64=orN (quoF p mx md n ex ey cx cy).k 64∧k<4096∧ndg c≤p∧quoE p ex ey cx cy≤e∧e≤quoE p ex ey cx cy+p) ∧
  ((finS p mx mn md n (quoS p ex ey cx cy).1 (quoS p ex ey cx cy).2).over=true→(finS p mx mn md n (quoS p ex ey cx cy).1 (quoS p ex ey cx cy).2).d=⟨1,n,0,0,4⟩∧(quoF p mx md n ex ey cx cy).f=1∧(quoF p mx md n ex ey cx cy).k &&& 4≠0):=by
 obtain ⟨c0,hA,hS⟩:=Qba (md:=md) (n:=n) (ex:=ex) (ey:=ey) hp hx hy
 have hkk:quoK p cx cy=0∨quoK p cx cy=80:=by unfold quoK;split <;> simp
 unfold quoF
 generalize (quoS p ex ey cx cy).1=e at *
 generalize (quoS p ex ey cx cy).2=C at *
 generalize quoE p ex ey cx cy=E at *
 generalize quoC p md n cx cy=Q at *
 generalize quoK p cx cy=K at *
 revert h h32
 unfold finS
 rw [if_neg c0]
 have hnp:=Qi C
 by_cases ha:e+ndg C - 1<mn
 ·rw [if_pos ha,if_neg (by omega)]
  split
  ·split
   ·intro h;cases h
   ·intro _ h32
    exfalso
    revert h32
    show subK _ _ &&& 32=0→False
    unfold subK
    (repeat' split) <;> decide
  ·intro _ h32
   exfalso
   exact absurd h32 (show ¬ ((32:Nat) &&& 32=0) by decide)
 ·rw [if_neg ha]
  rcases hS with ⟨g1,g2,g3⟩ | ⟨g1,g2,g3⟩
  ·rw [if_pos ⟨hp,g1⟩]
   obtain ⟨t,ht⟩:∃ t,t=ndg C - p:=⟨_,rfl⟩
   rw [← ht] at g2 g3 ⊢
   have hE:e+(t:Nat)=E:=by omega
   have hd:=Q45 (n:=C) (k:=t) (by omega)
   have hcar:∀ (b:p<ndg (rdiv md n C t)),rdiv md n C t=C / 10^t+1∧ndg (C / 10^t)<ndg (C / 10^t+1):=fun b=>by
    have h1:=Q2C md n C t
    rcases (show rdiv md n C t=C / 10^t∨rdiv md n C t=C / 10^t+1 by omega) with h | h
    ·rw [h] at b;omega
    ·exact ⟨h,by rw [← h];omega⟩
   have hno:¬ p<ndg (rdiv md n C t)→ndg (rdiv md n C t)=p:=fun b=>by
    have h1:=Q2C md n C t
    rcases (show rdiv md n C t=C / 10^t∨rdiv md n C t=C / 10^t+1 by omega) with h | h
    ·rw [h];omega
    ·rw [h] at b ⊢
     have:=Qax (show C / 10^t≤C / 10^t+1 by omega)
     omega
   have hcut:cutK C t=(if K=0 then 64 else 80):=by
    unfold cutK
    by_cases a:K=0
    ·rw [if_pos a,if_pos (g3.1 a)]
    ·rw [if_neg a,if_neg (fun q=>a (g3.2 q))]
   rw [← g2] at hcar hno ⊢
   rw [hcut]
   by_cases hb:p<ndg Q
   ·rw [if_pos hb]
    obtain ⟨k1,k2⟩:=hcar hb
    obtain ⟨c1,c2⟩:=Qb1 k2
    rw [← k1] at c1 c2
    unfold endS
    have hnQ:=Qi (Q / 10)
    have hq1:ndg Q=p+1:=by
     rw [k1]
     have h5:C / 10^t+1≤10^p:=by
      have:=Q0m (C / 10^t)
      rw [hd,show ndg C - t=p by omega] at this
      exact this
     have h6:ndg (C / 10^t+1)≤p+1:=Q09 (by omega) (Nat.lt_of_le_of_lt h5 (Qbl (by omega)))
     rw [k1] at hb
     omega
    by_cases hv:mx<e+(t:Nat)+1+ndg (Q / 10) - 1
    ·rw [if_pos hv,if_pos (show mx<E+(ndg Q:Int) - 1 by omega)]
     intro _ _
     refine ⟨by omega,fun q=>(by cases q),fun _=>⟨rfl,rfl,?_⟩⟩
     rcases hkk with h | h <;> rw [h]
     ·exact (show orN 0 20 &&& 4≠0 by decide)
     ·exact (show orN 80 20 &&& 4≠0 by decide)
    ·rw [if_neg hv,if_neg (show ¬ mx<E+(ndg Q:Int) - 1 by omega)]
     intro _ _
     refine ⟨by omega,fun _=>⟨_,_,_,rfl,rfl,?_,?_,?_,by omega,by omega,by omega⟩,fun q=>(by cases q)⟩
     ·have h7:=QaM (e:=e+(t:Nat)+1) (c:=Q / 10) (t:=1) (E:=E) (by omega)
      rw [Nat.pow_one,c1] at h7
      exact h7
     ·rcases hkk with h | h <;> rw [h]
      ·exact (show orN (if (0:Nat)=0 then 64 else 80) 64=orN 0 64 by decide)
      ·exact (show orN (if (80:Nat)=0 then 64 else 80) 64=orN 80 64 by decide)
     ·split <;> decide
   ·rw [if_neg hb]
    have hq1:=hno hb
    unfold endS
    by_cases hv:mx<e+(t:Nat)+ndg Q - 1
    ·rw [if_pos hv,if_pos (show mx<E+(ndg Q:Int) - 1 by omega)]
     intro _ _
     refine ⟨by omega,fun q=>(by cases q),fun _=>⟨rfl,rfl,?_⟩⟩
     rcases hkk with h | h <;> rw [h]
     ·exact (show orN 0 20 &&& 4≠0 by decide)
     ·exact (show orN 80 20 &&& 4≠0 by decide)
    ·rw [if_neg hv,if_neg (show ¬ mx<E+(ndg Q:Int) - 1 by omega)]
     intro _ _
     refine ⟨by omega,fun _=>⟨_,_,_,rfl,rfl,?_,?_,?_,by omega,by omega,by omega⟩,fun q=>(by cases q)⟩
     ·rw [hE];exact QaS _ _
     ·rcases hkk with h | h <;> rw [h]
      ·exact (show orN (if (0:Nat)=0 then 64 else 80) 64=orN 0 64 by decide)
      ·exact (show orN (if (80:Nat)=0 then 64 else 80) 64=orN 80 64 by decide)
     ·split <;> decide
  ·rw [if_neg (by omega)]
   subst g2
   have hnq:ndg Q=p:=by rw [g3,Qag (by omega)];omega
   unfold endS
   by_cases hv:mx<e+ndg C - 1
   ·rw [if_pos hv,if_pos (show mx<E+(ndg Q:Int) - 1 by omega)]
    intro _ _
    exact ⟨by omega,fun q=>(by cases q),fun _=>⟨rfl,rfl,(show orN 0 20 &&& 4≠0 by decide)⟩⟩
   ·rw [if_neg hv,if_neg (show ¬ mx<E+(ndg Q:Int) - 1 by omega)]
    intro _ _
    refine ⟨by omega,fun _=>⟨_,_,_,rfl,rfl,?_,rfl,by decide,by omega,by omega,by omega⟩,fun q=>(by cases q)⟩
    rw [g3]
    exact QaM (by omega)
end Go.Proofs.YtpebcmfpehdafaaGreatDoor
