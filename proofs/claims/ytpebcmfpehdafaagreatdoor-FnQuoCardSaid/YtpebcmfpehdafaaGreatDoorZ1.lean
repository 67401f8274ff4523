/- a part of the proof -/
import Derived.Laws.BitsAllLaws
import Derived.Lib.AppendZerosOnto
import Derived.Handy
import Derived.Lib.QuoteBits
import Derived.Deep.CutRange
import Derived.Deep.LoopGhost
import Derived.Test.YtpebcmfpehdafaaGreatDoorZ0
set_option linter.all false
set_option maxRecDepth 100000
set_option maxHeartbeats 16000000
namespace Go.Proofs.YtpebcmfpehdafaaGreatDoor
open Go Go.RowKit
theorem Q2S (lo y:Nat)(hy:0<y)(hyB:y<BB)(hlo:lo<BB)(w:World) :
  Calls Tryz.prog 290 #[.int .u64 (0:Nat),.int .u64 lo,.int .u64 y] w fun e w'=>e=.returned (.tuple #[.int .u64 ((lo / y:Nat):Int),.int .u64 ((lo % y:Nat):Int)])∧w'=w.drew:=by
 have hg1:((y:Int) == 0)=false:=by simp;omega
 have hg2:¬ ((y:Int)=0):=by omega
 have hg3:¬ ((y:Int)≤0):=by omega
 have hg4:¬ ((y:Int)≤((0:Nat):Int)):=by omega
 obtain ⟨q,hq⟩:∃ q,q=lo / y:=⟨_,rfl⟩
 obtain ⟨r,hr⟩:∃ r,r=lo % y:=⟨_,rfl⟩
 have d1:(lo:Int) / (y:Int)=(q:Int):=by rw [hq];simp
 have d2:(lo:Int) % (y:Int)=(r:Int):=by rw [hr];simp
 have d3:IntKind.u64.wrap (q:Int)=(q:Int):=Qg _ (by rw [hq];exact Nat.lt_of_le_of_lt (Nat.div_le_self _ _) hlo)
 have d4:IntKind.u64.wrap (r:Int)=(r:Int):=Qg _ (by rw [hr];exact Nat.lt_of_le_of_lt (Nat.mod_le _ _) hlo)
 rw [← hq,← hr]
 clear hq hr
 go_enter Tryz.func290, Tryz.ntmps290
 go_wp2
 go_region
 go_wp2
 go_ret2
 exact ⟨QZ rfl d2,rfl⟩
theorem Q2c (hi lo y:Nat)(hy:9223372036854775808≤y∨hi=0∧0<y)(hyB:y<BB)(hhi:hi<y)(hlo:lo<BB)(w:World) :
  Calls Tryz.prog 260 #[.int .u64 hi,.int .u64 lo,.int .u64 y] w fun e w'=>e=.returned (.tuple #[.int .u64 (((hi*BB+lo) / y:Nat):Int),.int .u64 (((hi*BB+lo) % y:Nat):Int)])∧∃ k,w'=w.drewN k:=by
 have H:Hid (Calls Tryz.prog 290 #[.int .u64 hi,.int .u64 lo,.int .u64 y] w fun e w'=>e=.returned (.tuple #[.int .u64 (((hi*BB+lo) / y:Nat):Int),.int .u64 (((hi*BB+lo) % y:Nat):Int)])∧∃ k,w'=w.drewN k):=by
  by_cases h0:hi=0
  ·subst h0
   rw [Nat.zero_mul,Nat.zero_add]
   exact (Q2S lo y (by omega) hyB hlo w).mono fun e w' ⟨h1,h2⟩=>⟨h1,1,h2⟩
  ·exact (Q2R hi lo y (by omega) hyB hhi (by omega) hlo w).mono fun e w' ⟨h1,h2⟩=>⟨h1,0,h2⟩
 obtain ⟨q,hq⟩:∃ q,q=(hi*BB+lo) / y:=⟨_,rfl⟩
 obtain ⟨r,hr⟩:∃ r,r=(hi*BB+lo) % y:=⟨_,rfl⟩
 rw [← hq,← hr] at H ⊢
 clear hq hr
 go_enter Tryz.func260, Tryz.ntmps260
 go_wp2_with (go_at_call 290;refine H.out.mono ?_;rintro e w' ⟨rfl,k,rfl⟩)
 go_ret2
 exact ⟨rfl,_,rfl⟩
def recW (d:Nat):Nat:=(BB*BB - 1) / d - BB
theorem Q62 {d:Nat}(h:9223372036854775808≤d)(hd:d<BB):((BB - 1 - d)*BB+(BB - 1)) / d=recW d:=by
 unfold recW
 have e:BB*BB - 1=d*BB+((BB - 1 - d)*BB+(BB - 1)):=by
  rw [← Nat.add_assoc,← Nat.add_mul,show d+(BB - 1 - d)=BB - 1 by omega,Nat.sub_mul,Nat.one_mul]
  have:BB*1≤BB*BB:=Nat.mul_le_mul_left _ (by unfold BB;omega)
  have:=Qx
  have h3:d*BB≤(BB - 1)*BB:=Nat.mul_le_mul_right _ (by omega)
  rw [Nat.sub_mul] at h3
  omega
 rw [e,Nat.mul_add_div (by omega),Nat.add_sub_cancel_left]
theorem Q8W {d:Nat}(h:9223372036854775808≤d)(hd:d<BB):recW d<BB:=by
 rw [← Q62 h hd]
 exact Q1c (by omega) (by unfold BB at *;omega)
theorem Q7C {d:Nat}(h:9223372036854775808≤d)(hd:d<BB):d*(recW d+BB)+d ≥ BB*BB∧d*(recW d+BB)<BB*BB:=by
 have h1:recW d+BB=(BB*BB - 1) / d:=by
  unfold recW
  have:BB≤(BB*BB - 1) / d:=by
   rw [Nat.le_div_iff_mul_le (by omega)]
   have:BB*(d+1)≤BB*BB:=Nat.mul_le_mul_left _ hd
   rw [Nat.mul_add] at this
   have:=Qx
   omega
  omega
 rw [h1]
 have e:=Nat.div_add_mod (BB*BB - 1) d
 have hm:=Nat.mod_lt (BB*BB - 1) (show 0<d by omega)
 have:BB*1≤BB*BB:=Nat.mul_le_mul_left _ (by unfold BB;omega)
 have:=Qx
 omega
structure Nm (y s:Nat):Prop where
 pos:0<y
 lt:s<64
 ge:9223372036854775808≤y*2^s
 le:y*2^s<BB
theorem Nm.of {y:Nat}(h:0<y)(hy:y<BB):Nm y (64 - Lib.bitLen y):=by
 have h1:=Q0v hy
 have h2:=Q0M hy (by omega)
 have h3:=Q1z hy (by omega)
 have h4:=Q0N hy
 refine ⟨h,by omega,?_,?_⟩
 ·have:2^(Lib.bitLen y - 1)*2^(64 - Lib.bitLen y)≤y*2^(64 - Lib.bitLen y):=Nat.mul_le_mul_right _ h2
  rw [← Nat.pow_add,show Lib.bitLen y - 1+(64 - Lib.bitLen y)=63 by omega] at this
  exact this
 ·have:y*2^(64 - Lib.bitLen y)<2^Lib.bitLen y*2^(64 - Lib.bitLen y):=Nat.mul_lt_mul_of_pos_right h1 (Nat.two_pow_pos _)
  rw [← Nat.pow_add,show Lib.bitLen y+(64 - Lib.bitLen y)=64 by omega] at this
  exact this
theorem Nm.uniq {y s:Nat}(h:Nm y s):64 - Lib.bitLen y=s:=by
 have hy:y<BB:=Nat.lt_of_le_of_lt (Nat.le_mul_of_pos_right _ (Nat.two_pow_pos _)) h.le
 have h64:BB=2^(64 - s)*2^s:=by rw [← Nat.pow_add,show 64 - s+s=64 by have:=h.lt;omega];rfl
 have h63:9223372036854775808=2^(64 - s - 1)*2^s:=by rw [← Nat.pow_add,show 64 - s - 1+s=63 by have:=h.lt;omega]
 have:=Q0H (x:=y) (n:=64 - s) hy (by have:=h.le;rw [h64] at this;exact Nat.lt_of_mul_lt_mul_right this) (fun _=>by have:=h.ge;rw [h63] at this;exact Nat.le_of_mul_le_mul_right this (Nat.two_pow_pos _))
 have:=h.lt
 omega
theorem Q5i (y s:Nat)(h:Nm y s)(w:World) :
  Calls Tryz.prog 228 #[.int .u64 y] w fun e w'=>e=.returned (.int .u64 (s:Int))∧w'=w:=by
 have hy:y<BB:=Nat.lt_of_le_of_lt (Nat.le_mul_of_pos_right _ (Nat.two_pow_pos _)) h.le
 have:=Q5Z y hy w
 rw [h.uniq] at this
 exact this
theorem Q8X (a:Nat)(ha:a<18446744073709551616):bits .xor .u64 IntKind.u64.max (a:Int)=18446744073709551615 - (a:Int):=by
 show IntKind.u64.wrap ((BitVec.ofInt 64 IntKind.u64.max ^^^ BitVec.ofInt 64 (a:Int)).toNat:Int)=_
 have h1:BitVec.ofInt 64 IntKind.u64.max=BitVec.allOnes 64:=by decide
 rw [h1,BitVec.allOnes_xor,BitVec.toNat_not,ofInt_u64 a (by omega)]
 simp [IntKind.wrap,IntKind.bits,IntKind.signed]
 omega
theorem Q0x (y s:Nat)(h:Nm y s)(w:World) :
  Calls Tryz.prog 261 #[.int .u64 y] w fun e w'=>e=.returned (.int .u64 (recW (y*2^s):Nat))∧∃ k,w'=w.drewN k:=by
 obtain ⟨d,hd⟩:∃ d,d=y*2^s:=⟨_,rfl⟩
 have H:Hid (9223372036854775808≤d∧d<BB):=⟨by rw [hd];exact h.ge,by rw [hd];exact h.le⟩
 have HN:=Lh (Q5i y s h w)
 have a1:min s 64=s:=by have:=h.lt;omega
 have a2:IntKind.u64.wrap ((y:Int)*2^s)=(d:Int):=by
  rw [Q0S,hd];unfold shlW;rw [Nat.mod_eq_of_lt h.le]
 have HD:=Lh (Q2c (BB - 1 - d) (BB - 1) d (.inl H.out.1) H.out.2 (by have:=H.out;unfold BB at *;omega) (by have:=Qx;omega) w)
 rw [Q62 H.out.1 H.out.2] at HD
 rw [← hd]
 clear h hd
 have hdB:=H.out.2
 unfold BB at hdB
 generalize ((BB - 1 - d)*BB+(BB - 1)) % d=r at HD
 generalize recW d=q at HD ⊢
 have hnot:bits .xor .u64 IntKind.u64.max (d:Int)=((BB - 1 - d:Nat):Int):=by rw [Q8X d hdB];unfold BB;omega
 rw [show ((BB - 1:Nat):Int)=18446744073709551615 from rfl] at HD
 generalize BB - 1 - d=c at HD hnot
 go_enter Tryz.func261, Tryz.ntmps261
 go_wp2_with (go_at_call 228;refine HN.out.mono ?_;rintro e w' ⟨rfl,hw⟩;subst w')
 go_at_call 260
 refine HD.out.mono ?_
 rintro e w' ⟨rfl,k,rfl⟩
 go_wp2
 go_ret
 exact ⟨rfl,k,rfl⟩
theorem Q6C {x1 x0 d:Nat}(hd:9223372036854775808≤d)(hdB:d<BB)(hx1:x1<d)(hx0:x0<BB) :
  d*((recW d*x1+x0) / BB+x1)≤x1*BB+x0∧x1*BB+x0<d*((recW d*x1+x0) / BB+x1)+(BB+d):=by
 obtain ⟨g1,g2⟩:=Q7C hd hdB
 obtain ⟨qq,hqq⟩:∃ qq,qq=(recW d*x1+x0) / BB+x1:=⟨_,rfl⟩
 obtain ⟨G,hG⟩:∃ G,G=recW d+BB:=⟨_,rfl⟩
 rw [← hG] at g1 g2
 have hT:qq*BB≤x1*G+x0∧x1*G+x0<qq*BB+BB:=by
  have e:=Nat.div_add_mod (recW d*x1+x0) BB
  have hm:=Nat.mod_lt (recW d*x1+x0) Qx
  rw [hqq,hG,Nat.add_mul,Nat.mul_add,Nat.mul_comm x1 (recW d)]
  rw [Nat.mul_comm BB] at e
  omega
 rw [← hqq]
 obtain ⟨t1,t2⟩:=hT
 have u1:d*(qq*BB)≤d*(x1*G+x0):=Nat.mul_le_mul_left _ t1
 have u2:d*(x1*G+x0+1)≤d*(qq*BB+BB):=Nat.mul_le_mul_left _ t2
 have e1:d*(x1*G)=x1*(d*G):=Nat.mul_left_comm _ _ _
 have k1:x1*(d*G)≤x1*(BB*BB):=Nat.mul_le_mul_left _ (Nat.le_of_lt g2)
 have k2:x1*(BB*BB)≤x1*(d*G+d):=Nat.mul_le_mul_left _ g1
 have k3:d*x0≤BB*x0:=Nat.mul_le_mul_right _ (Nat.le_of_lt hdB)
 have k4:x1*d≤d*d:=Nat.mul_le_mul_right _ (Nat.le_of_lt hx1)
 have k5:d*d≤d*BB:=Nat.mul_le_mul_left _ (Nat.le_of_lt hdB)
 have e2:d*(qq*BB)=(d*qq)*BB:=(Nat.mul_assoc _ _ _).symm
 constructor
 ·refine Nat.le_of_mul_le_mul_right ?_ Qx
  rw [← e2,Nat.add_mul,Nat.mul_assoc,Nat.mul_comm x0]
  rw [Nat.mul_add,e1] at u1
  omega
 ·refine Nat.lt_of_mul_lt_mul_right (a:=BB) ?_
  rw [Nat.add_mul,Nat.mul_assoc,Nat.add_mul,← e2,Nat.add_mul]
  rw [Nat.mul_add,Nat.mul_add,e1,Nat.mul_one,Nat.mul_add] at u2
  rw [Nat.mul_add] at k2
  have k6:(BB - d)*x0≤(BB - d)*(BB - 1):=Nat.mul_le_mul_left _ (by omega)
  rw [Nat.sub_mul,Nat.sub_mul,Nat.mul_sub,Nat.mul_sub,Nat.mul_one,Nat.mul_one] at k6
  rw [Nat.mul_comm x0 BB]
  have k7:d*BB≤BB*BB:=Nat.mul_le_mul_right _ (Nat.le_of_lt hdB)
  have k8:BB≤BB*BB:=Nat.le_mul_of_pos_left _ Qx
  have k9:d≤d*BB:=Nat.le_mul_of_pos_right _ Qx
  have k10:x1*d+d≤d*d:=by
   have:(x1+1)*d≤d*d:=Nat.mul_le_mul_right _ hx1
   rw [Nat.add_mul,Nat.one_mul] at this
   exact this
  omega
theorem Q6D {X d qq R:Nat}(hd:9223372036854775808≤d)(hdB:d<BB)(h1:d*qq+R=X)(h2:R<BB+d) :
  (R<d→qq=X / d∧R=X % d)∧(d≤R→R<BB→qq+1=X / d∧R - d=X % d)∧(BB≤R→R - d<d→qq+1=X / d∧R - d=X % d)∧(BB≤R→d≤R - d→qq+2=X / d∧R - d - d=X % d):=by
 have key:∀ q r,d*q+r=X→r<d→q=X / d∧r=X % d:=fun q r e h=>by
  rw [← e,Nat.mul_add_div (by omega),Nat.mul_add_mod,Nat.div_eq_of_lt h,Nat.mod_eq_of_lt h];exact ⟨rfl,rfl⟩
 refine ⟨key _ _ h1,fun h3 h4=>key _ _ (by rw [Nat.mul_add];omega) (by unfold BB at *;omega),fun h3 h4=>key _ _ (by rw [Nat.mul_add];omega) h4,fun h3 h4=>key _ _ (by rw [Nat.mul_add];omega) (by unfold BB at *;omega)⟩
theorem Q6E {X y s:Nat}(hy:0<y):X*2^s / (y*2^s)=X / y∧X*2^s % (y*2^s) / 2^s=X % y:=by
 have hp:=Nat.two_pow_pos s
 rw [Nat.mul_div_mul_right _ _ hp,Nat.mul_mod_mul_right,Nat.mul_div_cancel _ hp]
 exact ⟨rfl,rfl⟩
theorem Q6F {x1 x0 p1 p0 R:Nat}(h1:x1<BB)(h0:x0<BB)(hp1:p1<BB)(hp0:p0<BB)(h:p1*BB+p0+R=x1*BB+x0)(hR:R<2*BB) :
  subs x0 p0 0=R % BB∧subs x1 p1 (subb x0 p0 0)=R / BB:=by
 have e1:=Q3P (x:=x0) (y:=p0) (c:=0) h0 hp0 (by omega)
 have l1:=Q3Q x0 p0 0
 have e2:=Q3P (x:=x1) (y:=p1) (c:=subb x0 p0 0) h1 hp1 (Q1K _ _ _)
 have l2:=Q3Q x1 p1 (subb x0 p0 0)
 have b1:=Q1K x0 p0 0
 have b2:=Q1K x1 p1 (subb x0 p0 0)
 generalize subs x0 p0 0=a at *
 generalize subb x0 p0 0=b at *
 generalize subs x1 p1 b=c at *
 generalize subb x1 p1 b=d at *
 have hd:d=0:=by
  rcases Nat.eq_zero_or_pos d with h | h
  ·exact h
  ·exfalso
   have:d=1:=by omega
   subst this
   unfold BB at *
   omega
 subst hd
 unfold BB at *
 omega
theorem Q3B (x1 x0 y s:Nat)(h:Nm y s)(hx1:x1<y)(hx0:x0<BB)(w:World) :
  Calls Tryz.prog 262 #[.int .u64 x1,.int .u64 x0,.int .u64 y,.int .u64 (recW (y*2^s):Nat)] w fun e w'=>e=.returned (.tuple #[.int .u64 (((x1*BB+x0) / y:Nat):Int),.int .u64 (((x1*BB+x0) % y:Nat):Int)])∧w'=w:=by
 obtain ⟨d,hd⟩:∃ d,d=y*2^s:=⟨_,rfl⟩
 obtain ⟨m,hm⟩:∃ m,m=recW d:=⟨_,rfl⟩
 obtain ⟨Q,hQ⟩:∃ Q,Q=(x1*BB+x0) / y:=⟨_,rfl⟩
 obtain ⟨Z,hZ⟩:∃ Z,Z=(x1*BB+x0) % y:=⟨_,rfl⟩
 rw [← hd,← hm,← hQ,← hZ]
 have hd1:9223372036854775808≤d:=by rw [hd];exact h.ge
 have hdB:d<BB:=by rw [hd];exact h.le
 have hmB:m<BB:=by rw [hm];exact Q8W hd1 hdB
 obtain ⟨X1,hX1⟩:∃ X1,X1=shlW x1 s+shrW x0 (64 - s):=⟨_,rfl⟩
 obtain ⟨X0,hX0⟩:∃ X0,X0=shlW x0 s:=⟨_,rfl⟩
 have hyB:y<BB:=Nat.lt_of_le_of_lt (Nat.le_mul_of_pos_right _ (Nat.two_pow_pos _)) h.le
 have hX0B:X0<BB:=by rw [hX0];exact Q2y _ _
 have hst:s+(64 - s)=64:=by have:=h.lt;omega
 have hXX:X1*BB+X0=(x1*BB+x0)*2^s∧X1<d:=by
  have e0:=Q2x (x:=x0) hst
  have e1:shlW x1 s=x1*2^s:=by
   unfold shlW
   refine Nat.mod_eq_of_lt ?_
   refine Nat.lt_of_le_of_lt (Nat.mul_le_mul_right _ (Nat.le_of_lt hx1)) h.le
  have l0:=Q1k (x:=x0) hst hx0
  constructor
  ·rw [hX1,hX0,e1,Nat.add_mul,Nat.add_mul,e0,Nat.mul_right_comm]
   omega
  ·have:(x1+1)*2^s≤y*2^s:=Nat.mul_le_mul_right _ hx1
   rw [Nat.add_mul,Nat.one_mul] at this
   rw [hX1,hd,e1]
   omega
 obtain ⟨hXX,hX1d⟩:=hXX
 obtain ⟨qq,hqq⟩:∃ qq,qq=(m*X1+X0) / BB+X1:=⟨_,rfl⟩
 have hlaw:=Q6C hd1 hdB hX1d hX0B
 rw [← hm,← hqq] at hlaw
 obtain ⟨R,hR⟩:∃ R,R=X1*BB+X0 - d*qq:=⟨_,rfl⟩
 have hRe:d*qq+R=X1*BB+X0:=by omega
 have hRl:R<BB+d:=by omega
 have hdiv:=Q6E (X:=x1*BB+x0) (s:=s) h.pos
 rw [← hXX,← hd,← hQ,← hZ] at hdiv
 have hfix:=Q6D hd1 hdB hRe hRl
 have hQB:Q<BB:=by rw [hQ];exact Q1c hx0 hx1
 have hqB:qq<BB:=by
  rcases Nat.lt_or_ge qq BB with h | h
  ·exact h
  ·have h1:d*BB≤d*qq:=Nat.mul_le_mul_left _ h
   have h2:(X1+1)*BB≤d*BB:=Nat.mul_le_mul_right _ hX1d
   rw [Nat.add_mul,Nat.one_mul] at h2
   omega
 have hpB:=Q2s hdB hqB
 have hmul:=Q59 d qq
 have hml:=Q2r d qq
 have hmh:=Q3R hdB hqB
 have hsw:=Q6F (x1:=X1) (x0:=X0) (p1:=mulh d qq) (p0:=mull d qq) (R:=R) (by omega) hX0B (by omega) hml (by omega) (by omega)
 have hqa:adds (mulh m X1) X1 (addc (mull m X1) X0 0)=qq:=by
  have e1:=Q5S (x:=m) (y:=X1) (c:=X0)
  unfold mah at e1
  unfold adds
  rw [show mulh m X1+X1+addc (mull m X1) X0 0=qq by omega]
  exact Nat.mod_eq_of_lt hqB
 have hc1:=Q2q (x:=mull m X1) (y:=X0) (c:=0) (Q2r _ _) hX0B (by omega)
 have hc2:=Q1K X0 (mull d qq) 0
 have HF:=Lh (And.intro hfix (And.intro hdiv (And.intro hRe hRl)))
 obtain ⟨D1,hD1⟩:∃ D1,D1=mulh d qq:=⟨_,rfl⟩
 obtain ⟨D0,hD0⟩:∃ D0,D0=mull d qq:=⟨_,rfl⟩
 obtain ⟨T1,hT1⟩:∃ T1,T1=mulh m X1:=⟨_,rfl⟩
 obtain ⟨T0,hT0⟩:∃ T0,T0=mull m X1:=⟨_,rfl⟩
 obtain ⟨c1,hc1'⟩:∃ c1,c1=addc T0 X0 0:=⟨_,rfl⟩
 obtain ⟨c2,hc2'⟩:∃ c2,c2=subb X0 D0 0:=⟨_,rfl⟩
 rw [← hT1,← hT0,← hc1'] at hqa
 rw [← hT0,← hc1'] at hc1
 rw [← hD0,← hc2'] at hc2
 rw [← hD0,← hD1,← hc2'] at hsw
 obtain ⟨R0,hR0⟩:∃ R0,R0=R % BB:=⟨_,rfl⟩
 obtain ⟨R1,hR1⟩:∃ R1,R1=R / BB:=⟨_,rfl⟩
 rw [← hR0,← hR1] at hsw
 have HM1:Hid (Calls Tryz.prog 250 #[.int .u64 m,.int .u64 X1] w fun e w'=>e=.returned (.tuple #[.int .u64 (T1:Nat),.int .u64 (T0:Nat)])∧w'=w):=by
  have:=Q2z m X1 hmB (by omega) w
  rw [← hT1,← hT0] at this
  exact this
 have HA1:Hid (Calls Tryz.prog 236 #[.int .u64 T0,.int .u64 X0,.int .u64 0] w fun e w'=>e=.returned (.tuple #[.int .u64 (adds T0 X0 0:Nat),.int .u64 (c1:Nat)])∧w'=w):=by
  have:=Q0q T0 X0 0 (by omega) w
  rw [← hc1'] at this
  exact this
 have HA2:Hid (Calls Tryz.prog 236 #[.int .u64 T1,.int .u64 X1,.int .u64 c1] w fun e w'=>e=.returned (.tuple #[.int .u64 (qq:Nat),.int .u64 (addc T1 X1 c1:Nat)])∧w'=w):=by
  have:=Q0q T1 X1 c1 hc1 w
  rw [hqa] at this
  exact this
 have HM2:Hid (Calls Tryz.prog 250 #[.int .u64 d,.int .u64 qq] w fun e w'=>e=.returned (.tuple #[.int .u64 (D1:Nat),.int .u64 (D0:Nat)])∧w'=w):=by
  have:=Q2z d qq hdB hqB w
  rw [← hD1,← hD0] at this
  exact this
 have HS1:Hid (Calls Tryz.prog 238 #[.int .u64 X0,.int .u64 D0,.int .u64 0] w fun e w'=>e=.returned (.tuple #[.int .u64 (R0:Nat),.int .u64 (c2:Nat)])∧w'=w):=by
  have:=Q3U X0 D0 0 (by omega) w
  rw [hsw.1,← hc2'] at this
  exact this
 have HS2:Hid (Calls Tryz.prog 238 #[.int .u64 X1,.int .u64 D1,.int .u64 c2] w fun e w'=>e=.returned (.tuple #[.int .u64 (R1:Nat),.int .u64 (subb X1 D1 c2:Nat)])∧w'=w):=by
  have:=Q3U X1 D1 c2 hc2 w
  rw [hsw.2] at this
  exact this
 have HN:=Lh (Q5i y s h w)
 generalize subb X1 D1 c2=g1 at HS2
 generalize addc T1 X1 c1=g2 at HA2
 generalize adds T0 X0 0=g3 at HA1
 have HK:Hid ((R1=0∧R0<d∧qq=Q∧R0 / 2^s=Z)∨(R1=0∧d≤R0∧qq+1=Q∧(R0 - d) / 2^s=Z)∨(R1=1∧R0+BB - d<d∧qq+1=Q∧(R0+BB - d) / 2^s=Z)∨(R1=1∧d≤R0+BB - d∧qq+2=Q∧(R0+BB - d - d) / 2^s=Z)):=by
  obtain ⟨f1,f2,f3,f4⟩:=hfix
  obtain ⟨v1,v2⟩:=hdiv
  rcases Nat.lt_or_ge R BB with hl | hl
  ·have e1:R1=0:=by rw [hR1];exact Nat.div_eq_of_lt hl
   have e0:R0=R:=by rw [hR0];exact Nat.mod_eq_of_lt hl
   rcases Nat.lt_or_ge R d with hl2 | hl2
   ·obtain ⟨g1,g2⟩:=f1 hl2
    exact .inl ⟨e1,by omega,g1.trans v1,by rw [e0,g2];exact v2⟩
   ·obtain ⟨g1,g2⟩:=f2 hl2 hl
    exact .inr (.inl ⟨e1,by omega,g1.trans v1,by rw [e0,g2];exact v2⟩)
  ·have e1:R1=1:=by rw [hR1];unfold BB at *;omega
   have e0:R0+BB=R:=by rw [hR0];unfold BB at *;omega
   rcases Nat.lt_or_ge (R - d) d with hl2 | hl2
   ·obtain ⟨g1,g2⟩:=f3 hl hl2
    exact .inr (.inr (.inl ⟨e1,by omega,g1.trans v1,by rw [e0,g2];exact v2⟩))
   ·obtain ⟨g1,g2⟩:=f4 hl hl2
    exact .inr (.inr (.inr ⟨e1,by omega,g1.trans v1,by rw [e0,g2];exact v2⟩))
 have hRd:R1=1→R0<d:=by intro h1;rw [hR0];rw [hR1] at h1;unfold BB at *;omega
 have hR0B:R0<BB:=by rw [hR0];exact Nat.mod_lt _ Qx
 have hs64:min s 64=s:=by have:=h.lt;omega
 have hs64':min (64 - s) 64=64 - s:=by omega
 have hu1:IntKind.u64.wrap (64 - (s:Int))=((64 - s:Nat):Int):=by have:=h.lt;rw [Qf (by omega) (by unfold BB;omega)];omega
 have hz0:s=0→X1=x1∧X0=x0∧d=y:=by
  intro h0
  subst h0
  refine ⟨?_,?_,by rw [hd];omega⟩
  ·rw [hX1];unfold shlW shrW
   rw [show x0 / 2^(64 - 0)=0 from Nat.div_eq_of_lt hx0,Nat.pow_zero,Nat.mul_one,Nat.mod_eq_of_lt (by omega)];rfl
  ·rw [hX0];unfold shlW;rw [Nat.pow_zero,Nat.mul_one,Nat.mod_eq_of_lt hx0]
 have hq1:IntKind.u64.wrap ((qq:Int)+1)=((qq+1:Nat):Int)∨qq+1=BB:=by
  rcases Nat.lt_or_ge (qq+1) BB with h | h
  ·exact .inl (by rw [Qf (by omega) (by omega)];omega)
  ·exact .inr (by omega)
 have hor:bits .or .u64 ((shlW x1 s:Nat):Int) ((shrW x0 (64 - s):Nat):Int)=(X1:Int):=by rw [Q7q hst hx0,← hX1]
 have hsl1:IntKind.u64.wrap ((x1:Int)*2^s)=((shlW x1 s:Nat):Int):=Q0S x1 s
 have hsl0:IntKind.u64.wrap ((x0:Int)*2^s)=(X0:Int):=by rw [Q0S,← hX0]
 have hsly:IntKind.u64.wrap ((y:Int)*2^s)=(d:Int):=by rw [Q0S,hd];unfold shlW;rw [Nat.mod_eq_of_lt h.le]
 have hsr0:=Q0R x0 (64 - s)
 have H0:=Lh hz0
 generalize shlW x1 s=a1 at *
 generalize shrW x0 (64 - s)=a2 at *
 have hQ':=hQB
 clear hlaw hXX hX1d hqq hR hRe hRl hdiv hfix hpB hmul hml hmh hsw hqa hD1 hD0 hT1 hT0 hc1' hc2' hR0 hR1 hQ hZ hX1 hX0 hd hm hz0 HF hd1
 have HRd:=Lh hRd;clear hRd
 have hcase:s=0∨0<s:=Nat.eq_zero_or_pos s
 rcases HK.out with ⟨r1,k1,k2,k3⟩ | ⟨r1,k1,k2,k3⟩ | ⟨r1,k1,k2,k3⟩ | ⟨r1,k1,k2,k3⟩
 ·have hR0d:=HRd.out
  rw [r1] at hR0d
  subst r1
  have v1:¬ ((d:Int)≤(R0:Int)):=by omega
  have v2:(R0:Int) / 2^s=(Z:Int):=by rw [Q0R];unfold shrW;rw [k3]
  subst k2
  clear k3
  rcases hcase with hs | hs
  ·obtain ⟨z1,z2,z3⟩:=H0.out hs
   subst hs z1 z2 z3
   clear HK H0
   go_enter Tryz.func262, Tryz.ntmps262
   go_wp2_with fail
   go_at_call 228
   refine HN.out.mono ?_;rintro e w' ⟨rfl,hw⟩;subst w'
   go_wp2_with fail
   go_at_call 250
   refine HM1.out.mono ?_;rintro e w' ⟨rfl,hw⟩;subst w'
   go_wp2_with fail
   go_at_call 236
   refine HA1.out.mono ?_;rintro e w' ⟨rfl,hw⟩;subst w'
   go_wp2_with fail
   go_at_call 236
   refine HA2.out.mono ?_;rintro e w' ⟨rfl,hw⟩;subst w'
   go_wp2_with fail
   go_at_call 250
   refine HM2.out.mono ?_;rintro e w' ⟨rfl,hw⟩;subst w'
   go_wp2_with fail
   go_at_call 238
   refine HS1.out.mono ?_;rintro e w' ⟨rfl,hw⟩;subst w'
   go_wp2_with fail
   go_at_call 238
   refine HS2.out.mono ?_;rintro e w' ⟨rfl,hw⟩;subst w'
   go_wp2
   go_ret2
   exact ⟨QZ rfl (by simpa using v2),rfl⟩
  ·have hsn:((s:Int) == 0)=false:=by simp;omega
   clear HK H0
   go_enter Tryz.func262, Tryz.ntmps262
   go_wp2_with fail
   go_at_call 228
   refine HN.out.mono ?_;rintro e w' ⟨rfl,hw⟩;subst w'
   go_wp2_with fail
   go_at_call 250
   refine HM1.out.mono ?_;rintro e w' ⟨rfl,hw⟩;subst w'
   go_wp2_with fail
   go_at_call 236
   refine HA1.out.mono ?_;rintro e w' ⟨rfl,hw⟩;subst w'
   go_wp2_with fail
   go_at_call 236
   refine HA2.out.mono ?_;rintro e w' ⟨rfl,hw⟩;subst w'
   go_wp2_with fail
   go_at_call 250
   refine HM2.out.mono ?_;rintro e w' ⟨rfl,hw⟩;subst w'
   go_wp2_with fail
   go_at_call 238
   refine HS1.out.mono ?_;rintro e w' ⟨rfl,hw⟩;subst w'
   go_wp2_with fail
   go_at_call 238
   refine HS2.out.mono ?_;rintro e w' ⟨rfl,hw⟩;subst w'
   go_wp2
   go_ret2
   exact ⟨rfl,rfl⟩
 ·have hR0d:=HRd.out
  rw [r1] at hR0d
  subst r1
  have v1:(d:Int)≤(R0:Int):=by omega
  have v3:IntKind.u64.wrap ((qq:Int)+1)=(Q:Int):=by rw [Qf (by omega) (by omega)];omega
  have v4:IntKind.u64.wrap ((R0:Int) - (d:Int))=((R0 - d:Nat):Int):=by rw [Qf (by omega) (by omega)];omega
  have v2:((R0 - d:Nat):Int) / 2^s=(Z:Int):=by rw [Q0R];unfold shrW;rw [k3]
  clear k3
  generalize R0 - d=R2 at *
  rcases hcase with hs | hs
  ·obtain ⟨z1,z2,z3⟩:=H0.out hs
   subst hs z1 z2 z3
   clear HK H0
   go_enter Tryz.func262, Tryz.ntmps262
   go_wp2_with fail
   go_at_call 228
   refine HN.out.mono ?_;rintro e w' ⟨rfl,hw⟩;subst w'
   go_wp2_with fail
   go_at_call 250
   refine HM1.out.mono ?_;rintro e w' ⟨rfl,hw⟩;subst w'
   go_wp2_with fail
   go_at_call 236
   refine HA1.out.mono ?_;rintro e w' ⟨rfl,hw⟩;subst w'
   go_wp2_with fail
   go_at_call 236
   refine HA2.out.mono ?_;rintro e w' ⟨rfl,hw⟩;subst w'
   go_wp2_with fail
   go_at_call 250
   refine HM2.out.mono ?_;rintro e w' ⟨rfl,hw⟩;subst w'
   go_wp2_with fail
   go_at_call 238
   refine HS1.out.mono ?_;rintro e w' ⟨rfl,hw⟩;subst w'
   go_wp2_with fail
   go_at_call 238
   refine HS2.out.mono ?_;rintro e w' ⟨rfl,hw⟩;subst w'
   go_wp2
   go_ret2
   exact ⟨QZ rfl (by simpa using v2),rfl⟩
  ·have hsn:((s:Int) == 0)=false:=by simp;omega
   clear HK H0
   go_enter Tryz.func262, Tryz.ntmps262
   go_wp2_with fail
   go_at_call 228
   refine HN.out.mono ?_;rintro e w' ⟨rfl,hw⟩;subst w'
   go_wp2_with fail
   go_at_call 250
   refine HM1.out.mono ?_;rintro e w' ⟨rfl,hw⟩;subst w'
   go_wp2_with fail
   go_at_call 236
   refine HA1.out.mono ?_;rintro e w' ⟨rfl,hw⟩;subst w'
   go_wp2_with fail
   go_at_call 236
   refine HA2.out.mono ?_;rintro e w' ⟨rfl,hw⟩;subst w'
   go_wp2_with fail
   go_at_call 250
   refine HM2.out.mono ?_;rintro e w' ⟨rfl,hw⟩;subst w'
   go_wp2_with fail
   go_at_call 238
   refine HS1.out.mono ?_;rintro e w' ⟨rfl,hw⟩;subst w'
   go_wp2_with fail
   go_at_call 238
   refine HS2.out.mono ?_;rintro e w' ⟨rfl,hw⟩;subst w'
   go_wp2
   go_ret2
   exact ⟨rfl,rfl⟩
 ·have hR0d:=HRd.out
  rw [r1] at hR0d
  subst r1
  have v3:IntKind.u64.wrap ((qq:Int)+1)=(Q:Int):=by rw [Qf (by omega) (by omega)];omega
  have v4:IntKind.u64.wrap ((R0:Int) - (d:Int))=((R0+BB - d:Nat):Int):=by rw [Q1d];unfold BB at *;omega
  have v2:((R0+BB - d:Nat):Int) / 2^s=(Z:Int):=by rw [Q0R];unfold shrW;rw [k3]
  have v1:¬ ((d:Int)≤((R0+BB - d:Nat):Int)):=by omega
  clear k3
  generalize R0+BB - d=R2 at *
  rcases hcase with hs | hs
  ·obtain ⟨z1,z2,z3⟩:=H0.out hs
   subst hs z1 z2 z3
   clear HK H0
   go_enter Tryz.func262, Tryz.ntmps262
   go_wp2_with fail
   go_at_call 228
   refine HN.out.mono ?_;rintro e w' ⟨rfl,hw⟩;subst w'
   go_wp2_with fail
   go_at_call 250
   refine HM1.out.mono ?_;rintro e w' ⟨rfl,hw⟩;subst w'
   go_wp2_with fail
   go_at_call 236
   refine HA1.out.mono ?_;rintro e w' ⟨rfl,hw⟩;subst w'
   go_wp2_with fail
   go_at_call 236
   refine HA2.out.mono ?_;rintro e w' ⟨rfl,hw⟩;subst w'
   go_wp2_with fail
   go_at_call 250
   refine HM2.out.mono ?_;rintro e w' ⟨rfl,hw⟩;subst w'
   go_wp2_with fail
   go_at_call 238
   refine HS1.out.mono ?_;rintro e w' ⟨rfl,hw⟩;subst w'
   go_wp2_with fail
   go_at_call 238
   refine HS2.out.mono ?_;rintro e w' ⟨rfl,hw⟩;subst w'
   go_wp2
   go_ret2
   exact ⟨QZ rfl (by simpa using v2),rfl⟩
  ·have hsn:((s:Int) == 0)=false:=by simp;omega
   clear HK H0
   go_enter Tryz.func262, Tryz.ntmps262
   go_wp2_with fail
   go_at_call 228
   refine HN.out.mono ?_;rintro e w' ⟨rfl,hw⟩;subst w'
   go_wp2_with fail
   go_at_call 250
   refine HM1.out.mono ?_;rintro e w' ⟨rfl,hw⟩;subst w'
   go_wp2_with fail
   go_at_call 236
   refine HA1.out.mono ?_;rintro e w' ⟨rfl,hw⟩;subst w'
   go_wp2_with fail
   go_at_call 236
   refine HA2.out.mono ?_;rintro e w' ⟨rfl,hw⟩;subst w'
   go_wp2_with fail
   go_at_call 250
   refine HM2.out.mono ?_;rintro e w' ⟨rfl,hw⟩;subst w'
   go_wp2_with fail
   go_at_call 238
   refine HS1.out.mono ?_;rintro e w' ⟨rfl,hw⟩;subst w'
   go_wp2_with fail
   go_at_call 238
   refine HS2.out.mono ?_;rintro e w' ⟨rfl,hw⟩;subst w'
   go_wp2
   go_ret2
   exact ⟨rfl,rfl⟩
 ·have hR0d:=HRd.out
  rw [r1] at hR0d
  subst r1
  have v3:IntKind.u64.wrap ((qq:Int)+1)=((qq+1:Nat):Int):=by rw [Qf (by omega) (by omega)];omega
  have v5:IntKind.u64.wrap (((qq+1:Nat):Int)+1)=(Q:Int):=by rw [Qf (by omega) (by omega)];omega
  have v4:IntKind.u64.wrap ((R0:Int) - (d:Int))=((R0+BB - d:Nat):Int):=by rw [Q1d];unfold BB at *;omega
  have v6:IntKind.u64.wrap (((R0+BB - d:Nat):Int) - (d:Int))=((R0+BB - d - d:Nat):Int):=by rw [Qf (by omega) (by omega)];omega
  have v2:((R0+BB - d - d:Nat):Int) / 2^s=(Z:Int):=by rw [Q0R];unfold shrW;rw [k3]
  have v1:(d:Int)≤((R0+BB - d:Nat):Int):=by omega
  clear k3
  generalize R0+BB - d - d=R3 at *
  generalize R0+BB - d=R2 at *
  generalize qq+1=q1 at *
  rcases hcase with hs | hs
  ·obtain ⟨z1,z2,z3⟩:=H0.out hs
   subst hs z1 z2 z3
   clear HK H0
   go_enter Tryz.func262, Tryz.ntmps262
   go_wp2_with fail
   go_at_call 228
   refine HN.out.mono ?_;rintro e w' ⟨rfl,hw⟩;subst w'
   go_wp2_with fail
   go_at_call 250
   refine HM1.out.mono ?_;rintro e w' ⟨rfl,hw⟩;subst w'
   go_wp2_with fail
   go_at_call 236
   refine HA1.out.mono ?_;rintro e w' ⟨rfl,hw⟩;subst w'
   go_wp2_with fail
   go_at_call 236
   refine HA2.out.mono ?_;rintro e w' ⟨rfl,hw⟩;subst w'
   go_wp2_with fail
   go_at_call 250
   refine HM2.out.mono ?_;rintro e w' ⟨rfl,hw⟩;subst w'
   go_wp2_with fail
   go_at_call 238
   refine HS1.out.mono ?_;rintro e w' ⟨rfl,hw⟩;subst w'
   go_wp2_with fail
   go_at_call 238
   refine HS2.out.mono ?_;rintro e w' ⟨rfl,hw⟩;subst w'
   go_wp2
   go_ret2
   exact ⟨QZ rfl (by simpa using v2),rfl⟩
  ·have hsn:((s:Int) == 0)=false:=by simp;omega
   clear HK H0
   go_enter Tryz.func262, Tryz.ntmps262
   go_wp2_with fail
   go_at_call 228
   refine HN.out.mono ?_;rintro e w' ⟨rfl,hw⟩;subst w'
   go_wp2_with fail
   go_at_call 250
   refine HM1.out.mono ?_;rintro e w' ⟨rfl,hw⟩;subst w'
   go_wp2_with fail
   go_at_call 236
   refine HA1.out.mono ?_;rintro e w' ⟨rfl,hw⟩;subst w'
   go_wp2_with fail
   go_at_call 236
   refine HA2.out.mono ?_;rintro e w' ⟨rfl,hw⟩;subst w'
   go_wp2_with fail
   go_at_call 250
   refine HM2.out.mono ?_;rintro e w' ⟨rfl,hw⟩;subst w'
   go_wp2_with fail
   go_at_call 238
   refine HS1.out.mono ?_;rintro e w' ⟨rfl,hw⟩;subst w'
   go_wp2_with fail
   go_at_call 238
   refine HS2.out.mono ?_;rintro e w' ⟨rfl,hw⟩;subst w'
   go_wp2
   go_ret2
   exact ⟨rfl,rfl⟩
theorem Q16 (a b c d:Nat)(w:World) :
  Calls Tryz.prog 265 #[.int .u64 a,.int .u64 b,.int .u64 c,.int .u64 d] w fun e w'=>e=.returned (.bool (decide (c<a∨a=c∧d<b)))∧w'=w:=by
 by_cases h1:c<a
 ·have h1':(c:Int)<(a:Int):=by omega
  go_enter Tryz.func265, Tryz.ntmps265
  go_wp2
  go_ret
  exact ⟨by first | rfl | (rw [decide_eq_true (.inl h1)];rfl),rfl⟩
 ·have h1':¬ (c:Int)<(a:Int):=by omega
  by_cases h2:a=c
  ·have h2':((a:Int) == (c:Int))=true:=by simp;omega
   by_cases h3:d<b
   ·have h3':(d:Int)<(b:Int):=by omega
    go_enter Tryz.func265, Tryz.ntmps265
    go_wp2
    go_ret
    exact ⟨by first | rfl | (rw [decide_eq_true (.inr ⟨h2,h3⟩)];rfl),rfl⟩
   ·have h3':¬ (d:Int)<(b:Int):=by omega
    go_enter Tryz.func265, Tryz.ntmps265
    go_wp2
    go_ret
    exact ⟨by first | rfl | (rw [decide_eq_false (by omega)];rfl),rfl⟩
  ·have h2':((a:Int) == (c:Int))=false:=by simp;omega
   go_enter Tryz.func265, Tryz.ntmps265
   go_wp2
   go_ret
   exact ⟨by first | rfl | (rw [decide_eq_false (by omega)];rfl),rfl⟩
theorem Q7D {y x MX Z r:Nat}(hy:0<y)(hr:MX=Z*y+r):x+BB*MX=((r*BB+x) / y+BB*Z)*y+(r*BB+x) % y:=by
 have e:=Nat.div_add_mod (r*BB+x) y
 have a1:=Nat.mul_comm ((r*BB+x) / y) y
 have a2:=Nat.mul_comm BB r
 have a3:=Nat.mul_assoc BB Z y
 rw [hr,Nat.mul_add,Nat.add_mul]
 omega
theorem Q7E {X Z y r:Nat}(hy:0<y)(h:X=Z*y+r)(hr:r<y):Z=X / y∧r=X % y:=by
 rw [h,Nat.mul_comm,Nat.mul_add_div hy,Nat.mul_add_mod,Nat.div_eq_of_lt hr,Nat.mod_eq_of_lt hr]
 exact ⟨rfl,rfl⟩
theorem Q5j (bz oz cz bx ox cx y s:Nat)(hy:Nm y s)(hyB:y<BB)(w:World)(hX:IsW w bx ox 1)(hZ:Wr w bz oz 1) :
  Calls Tryz.prog 226 #[.slice (some ⟨bz,oz,none⟩) 1 cz,.int .u64 0,.slice (some ⟨bx,ox,none⟩) 1 cx,.int .u64 y] w fun e w' =>
   ∃ r:Nat,e=.returned (.int .u64 (r:Int))∧r=MV w bx ox 1 % y∧IsW w' bz oz 1∧MV w' bz oz 1=MV w bx ox 1 / y∧Chg bz oz (oz+1) w w':=by
 have hx:=hX.get 0 (by omega)
 have hxl:=hX.lt 0 (by omega)
 simp only [Nat.add_zero] at hx hxl
 have HB:Hid (Calls Tryz.prog 260 #[.int .u64 0,.int .u64 (rd w bx ox:Nat),.int .u64 y] w fun e w'=>e=.returned (.tuple #[.int .u64 ((rd w bx ox / y:Nat):Int),.int .u64 ((rd w bx ox % y:Nat):Int)])∧∃ k,w'=w.drewN k):=by
  have:=Q2c 0 (rd w bx ox) y (.inr ⟨rfl,hy.pos⟩) hyB hy.pos hxl w
  rw [Nat.zero_mul,Nat.zero_add] at this
  exact this
 have hz:=hZ.cell 0 (by omega)
 have hzf:=hZ.free 0 (by omega)
 simp only [Nat.add_zero] at hz hzf
 rw [QX]
 have hqB:rd w bx ox / y<BB:=Nat.lt_of_le_of_lt (Nat.div_le_self _ _) hxl
 have hstep:=fun k=>QJ (w:=w.drewN k) (wr:=w.drewN k) (b:=bz) (o:=oz) (k:=0) (z:=rd w bx ox / y) (IsW.zero _ _ _) hz hqB (Chg.refl _ _ _ _)
 have HS:=Lh hstep;clear hstep
 generalize rd w bx ox / y=q at *
 generalize rd w bx ox % y=r at *
 obtain ⟨v,hz⟩:=hz
 clear hX hZ hxl hy hqB
 go_enter Tryz.func226, Tryz.ntmps226
 go_wp2_with fail
 go_at_call 260
 refine HB.out.mono ?_;rintro e w' ⟨rfl,k,rfl⟩
 have hz':(w.drewN k).cell? ⟨bz,oz,none⟩=some v:=hz
 have hzf':(w.drewN k).frozen? ⟨bz,oz,none⟩=false:=hzf
 go_wp2
 go_ret
 have h1:=HS.out k
 refine ⟨r,rfl,rfl,h1.1,?_,?_⟩
 ·have:=h1.2.1
  simpa [MV] using this
 ·exact ((Chg.refl bz oz (oz+1) w).drewN k).trans h1.2.2
theorem Q5k (bz oz cz bx ox cx n y s:Nat)(hn0:1<n)(hn2:n≤maxLen)(hy:Nm y s)(w:World)(hX:IsW w bx ox n)(hZ:Wr w bz oz n)(hal:bx≠bz∨ox=oz) :
  Calls Tryz.prog 226 #[.slice (some ⟨bz,oz,none⟩) n cz,.int .u64 0,.slice (some ⟨bx,ox,none⟩) n cx,.int .u64 y] w fun e w' =>
   ∃ r:Nat,e=.returned (.int .u64 (r:Int))∧r=MV w bx ox n % y∧IsW w' bz oz n∧MV w' bz oz n=MV w bx ox n / y∧Chg bz oz (oz+n) w w':=by
 unfold maxLen at hn2
 have HX:=Lh hX;clear hX
 have HZ:=Lh hZ;clear hZ
 have HA:=Lh hal;clear hal
 have HY:=Lh hy;clear hy
 have hn1:((n:Int) == 1)=false:=by simp;omega
 have hn1':¬ ((n:Int)=1):=by omega
 have HR:=Lh (Q0x y s HY.out w)
 have HW:=Lh (fun x1 x0=>Q3B x1 x0 y s HY.out)
 generalize recW (y*2^s)=m at HR HW
 go_enter Tryz.func226, Tryz.ntmps226
 go_wp2_with fail
 go_at_call 261
 refine HR.out.mono ?_;rintro e w' ⟨rfl,k0,hk0⟩
 have HK0:Hid (w'=w.drewN k0):=hk0
 clear hk0
 go_wp2
 go_loopw [12,8] (fun i r wr=>∃ k rr:Nat,k≤n∧i=.int .i64 ((k:Int) - 1)∧r=.int .u64 (rr:Int)∧rr<y∧IsW wr bz (oz+k) (n - k)∧Chg bz (oz+k) (oz+k+(n - k)) w wr ∧
   MV w bx (ox+k) (n - k)=MV wr bz (oz+k) (n - k)*y+rr) (fun i _ _=>(intOf i+1).toNat)
 case atStart =>
  refine ⟨n,0,Nat.le_refl _,by congr 1,rfl,HY.out.pos,?_,?_,?_⟩
  ·rw [Nat.sub_self];exact IsW.zero _ _ _
  ·rw [HK0.out];exact (Chg.refl _ _ _ _).drewN _
  ·rw [Nat.sub_self];simp [MV]
 case round =>
  obtain ⟨k,rr,hk,rfl,rfl,hrr,hW,hC,hV⟩:=hrel
  by_cases h0:0<k
  ·obtain ⟨j,rfl⟩:∃ j,k=j+1:=⟨k - 1,by omega⟩
   have hx:wr.cell? ⟨bx,ox+j,none⟩=some (.int .u64 ((rd w bx (ox+j):Nat):Int)):=by
    have:=HA.out;rw [hC.cell_other (by omega)];exact HX.out.get j (by omega)
   have hxl:=HX.out.lt j (by omega)
   have hz:=(hC.wr HZ.out).cell j (by omega)
   have hzf:=(hC.wr HZ.out).free j (by omega)
   have HD:=Lh (HW.out rr (rd w bx (ox+j)) hrr hxl wr)
   have hq:(rr*BB+rd w bx (ox+j)) / y<BB:=Q1c hxl hrr
   have hr2:(rr*BB+rd w bx (ox+j)) % y<y:=Nat.mod_lt _ HY.out.pos
   have HS:=Lh (Q21 (w:=w) (wr:=wr) (b:=bz) (o:=oz) (k:=j) (n:=n - (j+1)) hW hz hq (by simpa [Nat.add_assoc] using hC))
   have HV:Hid (rd w bx (ox+j)+BB*MV w bx (ox+(j+1)) (n - (j+1))=((rr*BB+rd w bx (ox+j)) / y+BB*MV wr bz (oz+j+1) (n - (j+1)))*y+(rr*BB+rd w bx (ox+j)) % y):=Q7D HY.out.pos hV
   clear hV hW hC
   generalize (rr*BB+rd w bx (ox+j)) / y=q at *
   generalize (rr*BB+rd w bx (ox+j)) % y=r2 at *
   have e1:((j+1:Nat):Int) - 1=(j:Int):=by omega
   have e2:(0:Int)≤(j:Int):=by omega
   have hjn:j<n:=by omega
   rw [e1]
   obtain ⟨v,hz⟩:=hz
   go_wp2_with fail
   go_at_call 262
   refine HD.out.mono ?_;rintro e w' ⟨rfl,hw⟩;subst w'
   go_wp2
   go_roundw
   case rel =>
    have h1:=HS.out
    refine ⟨j,r2,by omega,rfl,rfl,hr2,?_,?_,?_⟩
    ·have:=h1.1
     rw [show n - (j+1)+1=n - j by omega] at this
     exact this
    ·have:=h1.2.2
     rw [show n - (j+1)+1=n - j by omega] at this
     exact this
    ·have h2:=h1.2.1
     rw [show n - (j+1)+1=n - j by omega] at h2
     rw [h2,← HV.out,show n - j=n - (j+1)+1 by omega,Q0p,Nat.add_assoc ox j 1]
   case measure=>simp [intOf]
  ·obtain rfl:k=0:=by omega
   have HV:=Lh hV;clear hV
   have HWC:=Lh (And.intro hW hC);clear hW hC
   go_wp2
   go_ret
   have h1:=HV.out
   have h2:=HWC.out
   rw [Nat.sub_zero] at h1 h2
   simp only [Nat.add_zero] at h1 h2
   obtain ⟨d1,d2⟩:=Q7E HY.out.pos h1 hrr
   exact ⟨_,rfl,d2,h2.1,d1,h2.2⟩
theorem Q5l (bz oz cz bx ox cx n y s:Nat)(hn0:0<n)(hn2:n≤maxLen)(hy:Nm y s)(w:World)(hX:IsW w bx ox n)(hZ:Wr w bz oz n)(hal:bx≠bz∨ox=oz) :
  Calls Tryz.prog 226 #[.slice (some ⟨bz,oz,none⟩) n cz,.int .u64 0,.slice (some ⟨bx,ox,none⟩) n cx,.int .u64 y] w fun e w' =>
   ∃ r:Nat,e=.returned (.int .u64 (r:Int))∧r=MV w bx ox n % y∧IsW w' bz oz n∧MV w' bz oz n=MV w bx ox n / y∧Chg bz oz (oz+n) w w':=by
 have hyB:y<BB:=Nat.lt_of_le_of_lt (Nat.le_mul_of_pos_right _ (Nat.two_pow_pos _)) hy.le
 by_cases h:1<n
 ·exact Q5k bz oz cz bx ox cx n y s h hn2 hy w hX hZ hal
 ·obtain rfl:n=1:=by omega
  exact Q5j bz oz cz bx ox cx y s hy hyB w hX hZ
def NatAt (w:World)(zp:Option Addr)(x:Nat)(p:Option Addr)(len cap:Nat)(w':World):Prop :=
 Nt w' p len cap x∧(p=zp∨(∃ b,p=some ⟨b,0,none⟩∧w.heap.size≤b)∨p=none)∧Fr (fun k=>∃ a,zp=some a∧a.block=k) w w'
theorem NatRes.at_ {w:World}{zp:Option Addr}{x:Nat}{e:Ending}{w':World}(h:NatRes w zp x e w'):∃ p len cap,e=.returned (.slice p len cap)∧NatAt w zp x p len cap w':=h
theorem NatAt.res {w:World}{zp:Option Addr}{x:Nat}{p:Option Addr}{len cap:Nat}{w':World}(h:NatAt w zp x p len cap w'):NatRes w zp x (.returned (.slice p len cap)) w':=⟨p,len,cap,rfl,h⟩
theorem Q4E (zp:Option Addr)(zl zc:Nat)(xp:Option Addr)(m cx x y s:Nat)(w:World)(hz:Buf w zp zl zc)(hx:Nt w xp m cx x)(hm:m+5≤CAP)(hy:Nm y s) :
  Calls Tryz.prog 190 #[.slice zp zl zc,.slice xp m cx,.int .u64 y] w fun e w'=>∃ p len cap,e=.returned (.tuple #[.slice p len cap,.int .u64 ((x % y:Nat):Int)])∧NatAt w zp (x / y) p len cap w':=by
 have hy0:((y:Int) == 0)=false:=by have:=hy.pos;simp;omega
 by_cases h1:y=1
 ·subst h1
  rw [Nat.div_one,Nat.mod_one]
  have HS:=Lh (Q0T zp zl zc xp m cx x w hz hx (by omega))
  have hxl:=hx.len_le
  clear hz hx hm hy
  go_enter Tryz.func190, Tryz.ntmps190
  go_wp2_with (go_at_call 183;refine HS.out.mono ?_;rintro e w' ⟨p,len,cap,rfl,hR⟩;have HR:=Lh hR;clear hR)
  go_ret2
  exact ⟨p,len,cap,rfl,HR.out⟩
 ·have hy1:((y:Int) == 1)=false:=by simp;omega
  by_cases h0:m=0
  ·subst h0
   have e:x=0:=hx.zero_iff.1 rfl
   subst e
   rw [Nat.zero_div,Nat.zero_mod]
   have hzc:=Q0U hz
   have HR:Hid (NatAt w zp 0 zp 0 zc w):=⟨Nt.zero_of hz,.inl rfl,Fr.refl _ _⟩
   clear hz hx hm hy
   unfold CAP at hzc
   go_enter Tryz.func190, Tryz.ntmps190
   go_wp2
   go_ret2
   exact ⟨zp,0,zc,rfl,HR.out⟩
  ·obtain ⟨bx,rfl,g1,g2,g3,g4,g5,rfl,g7⟩:=hx.pos_form (by omega)
   have hg1:((m:Int) == 0)=false:=by simp;omega
   have HX:=Lh (And.intro g4 g5);clear g4 g5 g7 hx
   have H1:=Lh hz;clear hz
   have HY:=Lh hy;clear hy
   have hmm:=Lh hm
   unfold CAP at hm
   go_enter Tryz.func190, Tryz.ntmps190
   go_wp2_with fail
   go_at_call 197
   refine (QP zp zl zc m (by omega) (by have:=hmm.out;omega) _ H1.out).mono ?_
   rintro e w1 ⟨p',cap',rfl,hM⟩
   have HM:=Lh hM
   obtain ⟨b,rfl,m1,m2,m3,m4,m5,m6⟩:=hM
   have hlt:=HX.out.1.lt
   have H2:=Lh (And.intro m4 (And.intro (m5.isW hlt (fun h=>h) HX.out.2) (m5.mv (o:=0) (n:=m) hlt (fun h=>h))))
   clear m4 m5 m6 hlt
   unfold CAP at m2
   go_wp2_with fail
   go_at_call 226
   refine (Q5l b 0 cap' bx 0 cx m y s (by omega) (by unfold maxLen;omega) HY.out w1 H2.out.2.1 ⟨cap',_,H2.out.1,by omega⟩ (.inr rfl)).mono ?_
   rintro e w2 ⟨r,rfl,hr,hR⟩
   have HR:=Lh hR;clear hR
   have Hr:=Lh hr;clear hr
   go_wp2_with fail
   go_at_call 200
   refine (QO b 0 cap' m (by unfold maxLen;omega) (by omega) w2 HR.out.1).mono ?_
   rintro e w6 ⟨i,rfl,hw,hi⟩
   subst hw
   have HI:=Lh hi;clear hi
   go_wp2
   go_ret2
   have h1:=HR.out
   have h2:=HI.out
   obtain ⟨p2,l2,c2,he,hN⟩:=QY (n:=m) (x:=MV w bx 0 m / y) (len:=i) HM.out rfl (h1.2.2.mono (by omega) (by omega)) (Nt.mk m1 (by unfold CAP;omega) (by omega) (h1.2.2.row H2.out.1) (h1.1.mono h2.1) (by rw [h2.2.1,h1.2.1,H2.out.2.2]) (fun h=>by have:=h2.2.2 h;rwa [Nat.zero_add] at this))
   cases he
   refine ⟨_,_,_,?_,hN⟩
   rw [show MV w bx 0 m % y=r by rw [Hr.out,H2.out.2.2]]
   rfl
def Grew (w:World)(p:Option Addr)(len cap n:Nat)(e:Ending)(w':World):Prop :=
 ∃ p' c',e=.returned (.slice p' len c')∧len+n≤c'∧c'≤maxLen∧((p'=p∧c'=cap∧w'=w)∨(p'=some ⟨w.heap.size,0,none⟩∧Row w' w.heap.size c' 203∧Fr (fun _=>False) w w'))
theorem Q6G (w:World)(A:Array Value)(n:Nat)(h:A.size=n):Row (w.alloc (.cells A 203)) w.heap.size n 203:=by
 have h2:(w.alloc (.cells A 203)).heap[w.heap.size]?=some (.cells A 203 (0,0)):=by show (w.heap.push _)[w.heap.size]?=_;simp
 have:=Row.of_block h2
 rwa [h] at this
theorem Q7F (w:World)(S:Nat→Prop)(o:Obj):Fr S w (w.drew.alloc o) :=
 ⟨rfl,rfl,rfl,by simp,fun k hk _=>Below.heap_alloc w.drew _ _ hk,fun k hk=>by unfold hd;rw [Below.heap_alloc w.drew _ _ hk];rfl⟩
theorem Q1e (z:Array Value)(n:Nat):(Builtin.zeroCells z n).size=n*z.size:=by simp [Builtin.zeroCells]
theorem Q6H:∃ i,Tryz.prog.info? 203=some i∧i.zero=some (.int .u64 0)∧i.size=1∧i.bytes=8:=info_parts Q1a
theorem Q4F (w:World)(tn tyn ty:TypeId)(ht:Tryz.prog.underlying tn=some (.slice 203))(htn:Tryz.prog.underlying tyn=some (.int .i64))(p:Option Addr)(c k:Nat)(h0:0<k)(hck:c+k≤1000000)
  (hp:(p=none∧c=0)∨∃ b,p=some ⟨b,0,none⟩∧Row w b c 203) :
  ∃ c' W,(Builtin.append_ #[tn,tyn] ty #[.slice p c c,.int .i64 k]).run Tryz.prog w=.ok (.slice (some ⟨w.heap.size,0,none⟩) (c+k) c') W∧c+k≤c'∧c'≤maxLen∧Row W w.heap.size c' 203∧Fr (fun _=>False) w W:=by
 obtain ⟨i0,hi,hz0,hz1,hz2⟩:=Q6H
 have hold:∃ olds:List Value,(Builtin.firstCells i0.size c (.slice p c c)).run Tryz.prog w.drew=.ok olds.toArray w.drew∧olds.length=c:=by
  rcases hp with ⟨rfl,rfl⟩ | ⟨b,rfl,hR⟩
  ·exact ⟨[],run_firstCells_none _ _ _ _ _,rfl⟩
  ·obtain ⟨C,hC,hs⟩:=hR.block
   refine ⟨C.toList,run_firstCells_some _ _ _ _ _ _ _ (by rw [hz1];simpa using hs) ?_,by simpa using hs⟩
   intro j v hv
   have e:(⟨b,0,none⟩:Addr).add j=⟨b,j,none⟩:=by simp [Addr.add];omega
   rw [e]
   show w.cell? ⟨b,j,none⟩=some v
   unfold World.cell?
   rw [hC]
   simpa using hv
 obtain ⟨olds,ho,hol⟩:=hold
 have hnc:=nextslicecap_le (show c<c+k by omega)
 have hr:=Lib.run_append_grow_zeros (P:=Tryz.prog) w tn tyn ty 203 i0 (.int .u64 0) .i64 .i64 ht htn hi hz0 p c c olds ho k h0 (by rw [hz1];omega) (by omega) (by omega) (by rw [hz2];omega) (by rw [hz2];omega)
 have hge:=grownCap_ge w (c+k) c 203
 have hle:=grownCap_le_maxLen w (c+k) c 203 (by unfold maxLen;omega)
 refine ⟨_,_,hr,hge,hle,?_,Q7F _ _ _⟩
 refine Q6G w.drew _ _ ?_
 rw [Array.size_append,Array.size_append,Q1e,Q1e]
 simp only [List.size_toArray,hol,Value.cells]
 simp
 omega
theorem Q7G (p:Option Addr)(len cap n:Nat)(w:World)(hn:0<n)(hl:len≤cap)(hln:len+n≤1000000)(hc:cap≤maxLen)(hp:(p=none∧cap=0)∨∃ b,p=some ⟨b,0,none⟩∧Row w b cap 203) :
  Calls Tryz.prog 281 #[.slice p len cap,.int .i64 n] w (Grew w p len cap n):=by
 unfold maxLen at hc
 by_cases hr:len+n≤cap
 ·have a1:¬ ((0:Int)<(n:Int) - ((cap:Int) - (len:Int))):=by omega
  have a2:((n:Int) - ((cap:Int) - (len:Int)))≤0:=by omega
  clear hp
  go_enter Tryz.func281, Tryz.ntmps281
  go_wp2
  go_ret
  exact ⟨p,cap,rfl,hr,hc,.inl ⟨rfl,rfl,rfl⟩⟩
 ·obtain ⟨k,hk⟩:∃ k,k+cap=len+n:=⟨len+n - cap,by omega⟩
  have a1:(n:Int) - ((cap:Int) - (len:Int))=(k:Int):=by omega
  have a2:(0:Int)<(k:Int):=by omega
  obtain ⟨c',W,h1,h2,h3,h4,h5⟩:=Q4F w 64 3 64 Tryz.underlying64 Tryz.underlying3 p cap k (by omega) (by omega) hp
  have HH:=Lh (And.intro h4 h5)
  clear hp h4 h5
  have h3':=h3
  unfold maxLen at h3'
  go_enter Tryz.func281, Tryz.ntmps281
  go_wp2_with (at_builtin;refine Lib.wpList_append_run _ rfl _ _ _ _ rfl _ _ rfl rfl _ _ h1 ?_)
  go_ret
  exact ⟨_,c',rfl,by omega,h3,.inr ⟨rfl,HH.out.1,HH.out.2⟩⟩
theorem Q7H (n:Nat)(w:World)(hn:0<n)(hl:n≤1000000) :
  Calls Tryz.prog 254 #[.slice none 0 0,.int .i64 n] w (Grew w none 0 0 n):=by
 have a2:(0:Int)<(n:Int):=by omega
 obtain ⟨c',W,h1,h2,h3,h4,h5⟩:=Q4F w 65 3 65 Tryz.underlying65 Tryz.underlying3 none 0 n hn (by omega) (.inl ⟨rfl,rfl⟩)
 rw [Nat.zero_add] at h1 h2
 have HH:=Lh (And.intro h4 h5)
 clear h4 h5
 have h3':=h3
 unfold maxLen at h3'
 go_enter Tryz.func254, Tryz.ntmps254
 go_wp2_with (at_builtin;refine Lib.wpList_append_run _ rfl _ _ _ _ rfl _ _ rfl rfl _ _ h1 ?_)
 go_ret
 exact ⟨_,c',rfl,by omega,h3,.inr ⟨rfl,HH.out.1,HH.out.2⟩⟩
def Stk (w:World)(sb:Nat)(st:Option (Nat × Nat))(off:Nat):Prop :=
 Row w sb 1 241 ∧
 match st with
 | none=>w.cell? ⟨sb,0,none⟩=some (.pointer none)∧off=0
 | some (ib,rb)=>w.cell? ⟨sb,0,none⟩=some (.pointer (some ⟨ib,0,none⟩))∧Row w ib 1 263 ∧
   ∃ cap,w.cell? ⟨ib,0,none⟩=some (.slice (some ⟨rb,0,none⟩) off cap)∧Row w rb cap 203∧off≤cap∧cap≤maxLen
def sOwn (sb:Nat)(st:Option (Nat × Nat))(k:Nat):Prop:=k=sb∨match st with | none=>False | some (ib,rb)=>k=ib∨k=rb
theorem Q4G (sb:Nat)(st:Option (Nat × Nat))(off:Nat)(w:World)(h:Stk w sb st off) :
  Calls Tryz.prog 221 #[.pointer (some ⟨sb,0,none⟩)] w fun e w'=>e=.returned (.int .i64 (off:Int))∧w'=w:=by
 cases st with
 | none =>
  obtain ⟨hR,hc,rfl⟩:=h
  go_enter Tryz.func221, Tryz.ntmps221
  go_wp2
  go_ret
  exact ⟨rfl,rfl⟩
 | some s =>
  obtain ⟨ib,rb⟩:=s
  obtain ⟨hR,hc,hI,cap,hs,hr,h1,h2⟩:=h
  unfold maxLen at h2
  have HS:Hid (Calls Tryz.prog 253 #[.pointer (some ⟨ib,0,none⟩)] w fun e w'=>e=.returned (.int .i64 (off:Int))∧w'=w):=by
   show Calls _ _ _ _ _
   go_enter Tryz.func253, Tryz.ntmps253
   go_wp2
   go_ret
   exact ⟨rfl,rfl⟩
  go_enter Tryz.func221, Tryz.ntmps221
  go_wp2_with (go_at_call 253;refine HS.out.mono ?_;rintro e w' ⟨rfl,hw⟩;subst w')
  go_ret
  exact ⟨rfl,rfl⟩
theorem Q23 (W:World)(o:Obj):(W.alloc o).heap[W.heap.size]?=some o:=by show (W.heap.push o)[W.heap.size]?=_;simp
theorem Q0t {w:World}{b:Nat}{v v0:Value}(hc:w.cell? ⟨b,0,none⟩=some v0):(w.setCell ⟨b,0,none⟩ v).cell? ⟨b,0,none⟩=some v:=World.cell?_setCell_same w ⟨b,0,none⟩ v hc
theorem Q08 {w:World}{a b N M:Nat}{T U:TypeId}(h:Row w a N T)(k:Row w b M U)(hne:T≠U):a≠b:=by
 rintro rfl
 unfold Row at h k
 rw [h] at k
 cases k
 exact hne rfl
theorem Stk.cut {w:World}{sb ib rb off:Nat}(h:Stk w sb (some (ib,rb)) off)(n cap:Nat)(hs:w.cell? ⟨ib,0,none⟩=some (.slice (some ⟨rb,0,none⟩) off cap))(hn:n≤cap) :
  Stk (w.setCell ⟨ib,0,none⟩ (.slice (some ⟨rb,0,none⟩) n cap)) sb (some (ib,rb)) n:=by
 obtain ⟨hR,hc,hI,cap',hs',hr,h1,h2⟩:=h
 rw [hs] at hs'
 cases hs'
 have hC:=Chg.set w ib 0 (.slice (some ⟨rb,0,none⟩) n cap)
 have hne:sb≠ib:=Q08 hR hI (by decide)
 refine ⟨hC.row hR,?_,hC.row hI,cap,Q0t hs,hC.row hr,hn,h2⟩
 rw [hC.cell_other (.inl hne)];exact hc
def sHead (st:Option (Nat × Nat))(k:Nat):Prop:=∃ ib rb,st=some (ib,rb)∧k=ib
theorem Q3Y (ib rb off cap n:Nat)(w:World)(hI:Row w ib 1 263)(hs:w.cell? ⟨ib,0,none⟩=some (.slice (some ⟨rb,0,none⟩) off cap))(hn:n≤off)(ho:off≤cap)(hm:cap≤maxLen) :
  Calls Tryz.prog 252 #[.pointer (some ⟨ib,0,none⟩),.int .i64 n] w fun e w'=>e=.returned (.tuple #[])∧w'=w.setCell ⟨ib,0,none⟩ (.slice (some ⟨rb,0,none⟩) n cap):=by
 unfold maxLen at hm
 have hf:=hI.free 0
 have hn':n≤cap:=by omega
 go_enter Tryz.func252, Tryz.ntmps252
 go_wp2
 go_returns
 exact ⟨rfl,rfl⟩
theorem Q0P (sb : Nat) (st : Option (Nat × Nat)) (off n : Nat) (u : FrameMode) (w : World) (h : Stk w sb st off) (hn : n ≤ off) :
    CallsD Tryz.prog 220 #[.pointer (some ⟨sb,0,none⟩),.int .i64 n] u w fun e u' w'=>u'=u∧(e=.returned (.tuple #[])∧Stk w' sb st n∧Fr (sHead st) w w'):=by
  have H:=Lh h
  cases st with
  | none =>
    obtain ⟨hR,hc,rfl⟩:=h
    go_enter_d Tryz.func220,Tryz.ntmps220
    go_wp2
    go_returns
    exact ⟨rfl, by obtain rfl : n = 0 := by omega
                   exact H.out,Fr.refl _ _⟩
  | some s =>
    obtain ⟨ib,rb⟩:=s
    obtain ⟨hR,hc,hI,cap,hs,hr,h1,h2⟩:=h
    have HS:=Lh (Q3Y ib rb off cap n w hI hs hn h1 h2)
    have HE:Hid (Stk (w.setCell ⟨ib,0,none⟩ (.slice (some ⟨rb,0,none⟩) n cap)) sb (some (ib,rb)) n∧Fr (sHead (some (ib,rb))) w (w.setCell ⟨ib,0,none⟩ (.slice (some ⟨rb,0,none⟩) n cap))) :=
      ⟨H.out.cut n cap hs (by omega),(Chg.set w ib 0 _).fr (fun _=>⟨ib,rb,rfl,rfl⟩)⟩
    clear hI hs hr h1 h2 hR hn H
    go_enter_d Tryz.func220,Tryz.ntmps220
    go_wp2_with (go_at_call 252;refine HS.out.mono ?_;rintro e w' ⟨rfl,hw⟩;subst w')
    go_returns
    exact ⟨rfl,HE.out.1,HE.out.2⟩
theorem Q6I (ib rb off cap:Nat)(w:World)(hI:Row w ib 1 263)(hs:w.cell? ⟨ib,0,none⟩=some (.slice (some ⟨rb,0,none⟩) off cap))(ho:off≤cap)(hm:cap≤maxLen) :
  Calls Tryz.prog 227 #[.pointer (some ⟨ib,0,none⟩)] w fun e w'=>e=.returned (.tuple #[])∧w'=w.setCell ⟨ib,0,none⟩ (.slice (some ⟨rb,0,none⟩) 0 cap):=by
 unfold maxLen at hm
 have hf:=hI.free 0
 go_enter Tryz.func227, Tryz.ntmps227
 go_wp2
 go_returns
 exact ⟨rfl,rfl⟩
theorem Q0E (sb:Nat)(st:Option (Nat × Nat))(off:Nat)(u:FrameMode)(w:World)(h:Stk w sb st off) :
  CallsD Tryz.prog 193 #[.pointer (some ⟨sb,0,none⟩)] u w fun e u' w'=>u'=u∧(e=.returned (.tuple #[])∧Stk w' sb st 0∧Fr (sHead st) w w'):=by
 have H:=Lh h
 cases st with
 | none =>
  obtain ⟨hR,hc,rfl⟩:=h
  go_enter_d Tryz.func193,Tryz.ntmps193
  go_wp2
  go_returns
  exact ⟨rfl,H.out,Fr.refl _ _⟩
 | some s =>
  obtain ⟨ib,rb⟩:=s
  obtain ⟨hR,hc,hI,cap,hs,hr,h1,h2⟩:=h
  have HS:=Lh (Q6I ib rb off cap w hI hs h1 h2)
  have HE:Hid (Stk (w.setCell ⟨ib,0,none⟩ (.slice (some ⟨rb,0,none⟩) 0 cap)) sb (some (ib,rb)) 0∧Fr (sHead (some (ib,rb))) w (w.setCell ⟨ib,0,none⟩ (.slice (some ⟨rb,0,none⟩) 0 cap))) :=
   ⟨H.out.cut 0 cap hs (by omega),(Chg.set w ib 0 _).fr (fun _=>⟨ib,rb,rfl,rfl⟩)⟩
  clear hI hs hr h1 h2 hR H
  go_enter_d Tryz.func193,Tryz.ntmps193
  go_wp2_with (go_at_call 227;refine HS.out.mono ?_;rintro e w' ⟨rfl,hw⟩;subst w')
  go_returns
  exact ⟨rfl,HE.out.1,HE.out.2⟩
theorem Q3Z (i:Nat)(h:i<9223372036854775807):bits .andNot .i64 (i:Int) 3=((i / 4*4:Nat):Int):=by
 show IntKind.i64.wrap ((BitVec.ofInt 64 (i:Int) &&& ~~~BitVec.ofInt 64 ((3:Nat):Int)).toNat:Int)=_
 rw [BitVec.toNat_and,BitVec.toNat_not,ofInt_u64 i (by omega),ofInt_u64 3 (by omega)]
 have e:2^64 - 1 - 3=18446744073709551612:=by decide
 rw [e,nat_hi64_2,Nat.mod_eq_of_lt (by omega)]
 exact Lib.wrap_i64_small _ (by omega)
structure NatOf (w:World) (ib:Nat) (p:Option Addr) (off n:Nat) (b:Nat) (off':Nat) (w':World):Prop where
 row:Row w' ib 1 263
 more:off+n≤off'
 head:∃ cap',w'.cell? ⟨ib,0,none⟩=some (.slice (some ⟨b,0,none⟩) off' cap')∧Row w' b cap' 203∧off'≤cap'∧cap'≤maxLen
 at_:p=some ⟨b,0,none⟩∨w.heap.size≤b
 fr:Fr (fun k=>k=ib∨p=some ⟨k,0,none⟩) w w'
 low:∀ rb,p=some ⟨rb,0,none⟩→rb≠ib→∀ i,i<off→w'.cell? ⟨rb,i,none⟩=w.cell? ⟨rb,i,none⟩
 ub:off'≤off+n+3
theorem Q4H (ib:Nat)(p:Option Addr)(off cap n:Nat)(w:World)(hI:Row w ib 1 263)(hs:w.cell? ⟨ib,0,none⟩=some (.slice p off cap))(ho:off≤cap)(hm:cap≤maxLen)
  (hp:(p=none∧cap=0)∨∃ b,p=some ⟨b,0,none⟩∧Row w b cap 203) (hn:0<n) (hln:off+n+3≤1000000) :
  Calls Tryz.prog 255 #[.pointer (some ⟨ib,0,none⟩),.int .i64 n] w fun e w'=>∃ b off',e=.returned (.slice (some ⟨b,off,none⟩) n n)∧NatOf w ib p off n b off' w':=by
 have hf:=hI.free 0
 obtain ⟨nr,hnr⟩:∃ nr,nr=(n+3) / 4*4:=⟨_,rfl⟩
 have ha:bits .andNot .i64 ((n:Int)+3) 3=(nr:Int):=by
  have:=Q3Z (n+3) (by omega)
  rw [← hnr,show ((n+3:Nat):Int)=(n:Int)+3 by omega] at this
  exact this
 have hn1:n≤nr:=by omega
 have hn2:nr≤n+3:=by omega
 clear hnr
 have hn0:(0:Int)<(n:Int):=by omega
 have HG:=Lh (Q7G p off cap nr w (by omega) ho (by omega) hm hp)
 have HP:=Lh hp;clear hp
 have HI:=Lh (And.intro hI hs)
 unfold maxLen at hm
 go_enter Tryz.func255, Tryz.ntmps255
 go_wp2_with fail
 go_at_call 281
 refine HG.out.mono ?_
 rintro e w1 ⟨p',c',rfl,h1,h2,h3⟩
 obtain ⟨b',rfl,hRb,hat,hFr⟩:∃ b',p'=some ⟨b',0,none⟩∧Row w1 b' c' 203∧(p=some ⟨b',0,none⟩∨w.heap.size≤b')∧Fr (fun _=>False) w w1:=by
  rcases h3 with ⟨rfl,rfl,rfl⟩ | ⟨rfl,hR,hF⟩
  ·rcases HP.out with ⟨rfl,hc0⟩ | ⟨b,rfl,hR⟩
   ·omega
   ·exact ⟨b,rfl,hR,.inl rfl,Fr.refl _ _⟩
  ·exact ⟨_,rfl,hR,.inr (Nat.le_refl _),hF⟩
 clear h3
 have hlt:=HI.out.1.lt
 have hI1:=hFr.row HI.out.1
 have hf1:=hI1.free 0
 have hc1:w1.cell? ⟨ib,0,none⟩=some (.slice p off cap):=(hFr.cell hlt (fun h=>h)).trans HI.out.2
 have hne:b'≠ib:=Q08 hRb hI1 (by decide)
 have h2':=h2
 unfold maxLen at h2'
 have HF:=Lh hFr;clear hFr
 have hc2:=Q0t (v:=.slice (some ⟨b',0,none⟩) off c') hc1
 have hf2:=((Chg.set w1 ib 0 (.slice (some ⟨b',0,none⟩) off c')).row hI1).free 0
 have hC:Chg ib 0 1 w1 ((w1.setCell ⟨ib,0,none⟩ (.slice (some ⟨b',0,none⟩) off c')).setCell ⟨ib,0,none⟩ (.slice (some ⟨b',0,none⟩) (off+nr) c')):=(Chg.set w1 ib 0 _).trans (Chg.set _ ib 0 _)
 obtain ⟨v3,hv3⟩:=hRb.cell off (by omega)
 have hv4:=(hC.cell_other (b':=b') (o:=off) (.inl hne)).trans hv3
 have hf4:=(hC.row hRb).free off
 have hc5:=Q0t (v:=.slice (some ⟨b',0,none⟩) (off+nr) c') hc2
 have hne3:¬ (off+nr - off=0):=by omega
 have HC:=Lh (And.intro hC (And.intro hc5 (And.intro hI1 (And.intro hRb hne))))
 clear hC hI1 hRb
 go_wp2
 go_returns
 obtain ⟨k1,k2,k3,k4,k5⟩:=HC.out
 have k6:=Chg.set ((w1.setCell ⟨ib,0,none⟩ (.slice (some ⟨b',0,none⟩) off c')).setCell ⟨ib,0,none⟩ (.slice (some ⟨b',0,none⟩) (off+nr) c')) b' off (.int .u64 1043915)
 generalize (w1.setCell ⟨ib,0,none⟩ (.slice (some ⟨b',0,none⟩) off c')).setCell ⟨ib,0,none⟩ (.slice (some ⟨b',0,none⟩) (off+nr) c')=w4 at *
 generalize w4.setCell ⟨b',off,none⟩ (.int .u64 1043915)=w5 at *
 refine ⟨b',off+nr,(by show Ending.returned (.slice (some ⟨b',off,none⟩) (off+n - off) (off+n - off))=_;rw [Nat.add_sub_cancel_left]),⟨k6.row (k1.row k3),by omega,⟨c',?_,k6.row (k1.row k4),h1,h2⟩,hat,?_,?_,by omega⟩⟩
 ·rw [k6.cell_other (.inl (Ne.symm k5))];exact k2
 ·refine (HF.out.mono (fun _ _ h=>h.elim)).trans' ((k1.fr (S:=fun k=>k=ib∨k=b') (fun _=>.inl rfl)).trans (k6.fr (fun _=>.inr rfl))) ?_
  rintro i hi (h | h)
  ·exact .inl h
  ·rcases hat with h2 | h2
   ·subst h;exact .inr h2
   ·omega
 ·intro rb hrb hri i hi
  rw [k6.cell_other (by omega),k1.cell_other (.inl hri),HF.out.cell ?_ (fun h=>h)]
  rcases HP.out with ⟨h,_⟩ | ⟨b,h,hR⟩
  ·rw [h] at hrb;cases hrb
  ·rw [h] at hrb;cases hrb;exact hR.lt
structure Nat1 (w:World) (sb:Nat) (st:Option (Nat × Nat)) (off n:Nat) (b o:Nat) (st':Option (Nat × Nat)) (off':Nat) (w':World):Prop where
 stk:Stk w' sb st' off'
 wr:Wr w' b o n
 own:∀ k,sOwn sb st' k→sOwn sb st k∨w.heap.size≤k
 le:off≤off'
 at_:w.heap.size≤b∨(∃ ib,st=some (ib,b)∧o=off)
 apart:∀ ib,st'=some (ib,b)→o+n≤off'
 hs:b≠sb∧∀ ib rb,st'=some (ib,rb)→b≠ib
 fr:Fr (sOwn sb st) w w'
 low:∀ ib rb,st=some (ib,rb)→∀ i,i<off→w'.cell? ⟨rb,i,none⟩=w.cell? ⟨rb,i,none⟩
 ub:off'≤off+n+3
theorem Q8Y (sb ib rb off n:Nat)(w:World)(h:Stk w sb (some (ib,rb)) off)(hn:0<n)(hln:off+n+3≤1000000) :
  Calls Tryz.prog 222 #[.pointer (some ⟨sb,0,none⟩),.int .i64 n] w fun e w'=>∃ b o c st' off',e=.returned (.slice (some ⟨b,o,none⟩) n c)∧n≤c∧c≤maxLen∧Nat1 w sb (some (ib,rb)) off n b o st' off' w':=by
 obtain ⟨hR,hc,hI,cap,hs,hr,h1,h2⟩:=h
 have HN:=Lh (Q4H ib (some ⟨rb,0,none⟩) off cap n w hI hs h1 h2 (.inr ⟨rb,rfl,hr⟩) hn hln)
 have HH:=Lh (And.intro hR (And.intro hc (And.intro hI (And.intro hs hr))))
 clear hs hr h1 h2 hI
 go_enter Tryz.func222, Tryz.ntmps222
 go_wp2_with fail
 go_at_call 255
 refine HN.out.mono ?_
 rintro e w' ⟨b,off',rfl,hN⟩
 have HN2:=Lh hN;clear hN
 go_wp2
 go_returns
 obtain ⟨n1,n2,⟨cap',n3,n4,n5,n6⟩,n7,n8,n9,n10⟩:=HN2.out
 obtain ⟨hR,hc,hI,hs,hr⟩:=HH.out
 have e1:sb≠ib:=Q08 hR hI (by decide)
 have e2:sb≠rb:=Q08 hR hr (by decide)
 have e3:ib≠rb:=Q08 hI hr (by decide)
 have q1:¬ (sb=ib∨some (⟨rb,0,none⟩:Addr)=some ⟨sb,0,none⟩):=by
  rintro (h | h)
  ·exact e1 h
  ·cases h;exact e2 rfl
 refine ⟨b,off,n,some (ib,b),off',rfl,Nat.le_refl _,?_,⟨?_,?_,?_,?_,?_,?_,?_,?_,?_,by omega⟩⟩
 ·unfold maxLen;omega
 ·exact ⟨n8.row hR,(n8.cell hR.lt q1).trans hc,n1,cap',n3,n4,n5,n6⟩
 ·exact ⟨cap',_,n4,by omega⟩
 ·rintro k (h | h | h)
  ·exact .inl (.inl h)
  ·exact .inl (.inr (.inl h))
  ·subst h
   rcases n7 with h | h
   ·cases h;exact .inl (.inr (.inr rfl))
   ·exact .inr h
 ·omega
 ·rcases n7 with h | h
  ·cases h;exact .inr ⟨ib,rfl,rfl⟩
  ·exact .inl h
 ·intro _ _;exact n2
 ·refine ⟨(Q08 (n8.row hR) n4 (by decide)).symm,?_⟩
  rintro ib' rb' h
  cases h
  exact (Q08 n1 n4 (by decide)).symm
 ·refine n8.mono ?_
  rintro k _ (h | h)
  ·exact .inr (.inl h)
  ·cases h;exact .inr (.inr rfl)
 ·rintro ib' rb' h i hi
  cases h
  exact n9 rb rfl e3.symm i hi
theorem Q8Z (sb n:Nat)(w:World)(h:Stk w sb none 0)(hn:0<n)(hn4:n≤4) :
  Calls Tryz.prog 222 #[.pointer (some ⟨sb,0,none⟩),.int .i64 n] w fun e w'=>∃ b o c st' off',e=.returned (.slice (some ⟨b,o,none⟩) n c)∧n≤c∧c≤maxLen∧Nat1 w sb none 0 n b o st' off' w':=by
 obtain ⟨hR,hc,_⟩:=h
 have HG:=Lh (Q7H n w hn (by omega))
 have HH:=Lh (And.intro hR hc)
 have hn0:(0:Int)<(n:Int):=by omega
 go_enter Tryz.func222, Tryz.ntmps222
 go_wp2_with fail
 go_at_call 254
 refine HG.out.mono ?_
 rintro e w1 ⟨p',c',rfl,h1,h2,h3⟩
 obtain ⟨rfl,hRb,hFr⟩:p'=some ⟨w.heap.size,0,none⟩∧Row w1 w.heap.size c' 203∧Fr (fun _=>False) w w1:=by
  rcases h3 with ⟨rfl,rfl,rfl⟩ | h3
  ·omega
  ·exact h3
 clear h3
 rw [Nat.zero_add] at h1
 have h2':=h2
 unfold maxLen at h2'
 obtain ⟨v3,hv3⟩:=hRb.cell 0 (by omega)
 have hf3:=hRb.free 0
 have HF:=Lh (And.intro hRb hFr);clear hRb hFr
 go_wp2
 go_returns
 obtain ⟨hRb,hFr⟩:=HF.out
 obtain ⟨hR,hc⟩:=HH.out
 have k6:=Chg.set w1 w.heap.size 0 (.int .u64 11259375)
 generalize w1.setCell ⟨w.heap.size,0,none⟩ (.int .u64 11259375)=w5 at *
 have hne:sb≠w.heap.size:=by have:=hR.lt;omega
 have hF2:Fr (fun _=>False) w w5:=hFr.trans' (k6.fr (S:=fun k=>k=w.heap.size) (fun _=>rfl)) (fun i hi h=>by omega)
 refine ⟨_,0,c',none,0,rfl,h1,h2,⟨⟨hF2.row hR,(hF2.cell hR.lt (fun h=>h)).trans hc,rfl⟩,⟨c',_,k6.row hRb,by omega⟩,fun k hk=>.inl hk,Nat.le_refl _,.inl (Nat.le_refl _),(fun ib h=>by cases h),⟨Ne.symm hne,(fun ib rb h=>by cases h)⟩,hF2.mono (fun _ _ h=>h.elim),(fun ib rb h=>by cases h),by omega⟩⟩
theorem Q6J (sb n:Nat)(w:World)(h:Stk w sb none 0)(hn4:4<n)(hln:n+3≤1000000) :
  Calls Tryz.prog 222 #[.pointer (some ⟨sb,0,none⟩),.int .i64 n] w fun e w'=>∃ b o c st' off',e=.returned (.slice (some ⟨b,o,none⟩) n c)∧n≤c∧c≤maxLen∧Nat1 w sb none 0 n b o st' off' w':=by
 obtain ⟨hR,hc,_⟩:=h
 have HH:=Lh (And.intro hR hc)
 have hn0:¬ ((n:Int)≤4):=by omega
 obtain ⟨W1,hW1⟩:∃ W1,W1=(w.setCell ⟨sb,0,none⟩ (.pointer (some ⟨w.heap.size,0,none⟩))).alloc (.cells #[.slice none 0 0] 263):=⟨_,rfl⟩
 have hlt:=hR.lt
 have hne:sb≠w.heap.size:=by omega
 have hfa:=hR.free 0
 have hC:=Chg.set w sb 0 (.pointer (some ⟨w.heap.size,0,none⟩))
 have hc2:=Q0t (v:=.pointer (some ⟨w.heap.size,0,none⟩)) hc
 have hs2:(w.setCell ⟨sb,0,none⟩ (.pointer (some ⟨w.heap.size,0,none⟩))).heap.size=w.heap.size:=hC.size
 have hblk:W1.heap[w.heap.size]?=some (.cells #[.slice none 0 0] 263 (0,0)):=by
  have:=Q23 (w.setCell ⟨sb,0,none⟩ (.pointer (some ⟨w.heap.size,0,none⟩))) (.cells #[.slice none 0 0] 263)
  rw [hs2] at this
  rw [hW1];exact this
 have hA:Fr (fun _=>False) (w.setCell ⟨sb,0,none⟩ (.pointer (some ⟨w.heap.size,0,none⟩))) W1:=by rw [hW1];exact Fr.alloc _ _ _
 have hRi:Row W1 w.heap.size 1 263:=Row.of_block hblk
 have hci:W1.cell? ⟨w.heap.size,0,none⟩=some (.slice none 0 0):=by
  unfold World.cell?
  rw [hblk]
  rfl
 have hcs:W1.cell? ⟨sb,0,none⟩=some (.pointer (some ⟨w.heap.size,0,none⟩)):=(hA.cell (by rw [hs2];exact hlt) (fun h=>h)).trans hc2
 have hRs:Row W1 sb 1 241:=hA.row (hC.row hR)
 have hF1:Fr (fun k=>k=sb) w W1:=(hC.fr (S:=fun k=>k=sb) (fun _=>rfl)).trans (hA.mono (fun _ _ h=>h.elim))
 have hsz:W1.heap.size=w.heap.size+1:=by rw [hW1];simp
 have HN:=Lh (Q4H w.heap.size none 0 0 n W1 hRi hci (Nat.le_refl _) (by unfold maxLen;omega) (.inl ⟨rfl,rfl⟩) (by omega) (by omega))
 have HX:=Lh (And.intro hRi (And.intro hci (And.intro hcs (And.intro hRs (And.intro hF1 hsz)))))
 have HW:=Lh hW1
 clear hRi hci hcs hRs hF1 hsz hblk hC hA hW1 hs2 hc2
 go_enter Tryz.func222, Tryz.ntmps222
 go_wp2_with fail
 rw [← HW.out]
 go_at_call 255
 refine HN.out.mono ?_
 rintro e w' ⟨b,off',rfl,hN⟩
 have HN2:=Lh hN;clear hN
 go_wp2
 go_returns
 obtain ⟨n1,n2,⟨cap',n3,n4,n5,n6⟩,n7,n8,n9,n10⟩:=HN2.out
 obtain ⟨hRi,hci,hcs,hRs,hF1,hsz⟩:=HX.out
 have hb:w.heap.size+1≤b:=by
  rcases n7 with h | h
  ·cases h
  ·omega
 have q1:¬ (sb=w.heap.size∨(none:Option Addr)=some ⟨sb,0,none⟩):=by
  rintro (h | h)
  ·exact hne h
  ·cases h
 have hFF:Fr (fun k=>k=sb) w w':=hF1.trans' n8 (by
  rintro i hi (h | h)
  ·omega
  ·cases h)
 refine ⟨b,0,n,some (w.heap.size,b),off',rfl,Nat.le_refl _,?_,⟨?_,?_,?_,?_,?_,?_,?_,?_,?_,by omega⟩⟩
 ·unfold maxLen;omega
 ·exact ⟨n8.row hRs,(n8.cell hRs.lt q1).trans hcs,n1,cap',n3,n4,n5,n6⟩
 ·exact ⟨cap',_,n4,by omega⟩
 ·rintro k (h | h | h)
  ·exact .inl (.inl h)
  ·exact .inr (by omega)
  ·exact .inr (by omega)
 ·omega
 ·exact .inl (by omega)
 ·intro _ _;omega
 ·refine ⟨by omega,?_⟩
  rintro ib' rb' h
  cases h
  omega
 ·exact hFF.mono (fun k _ h=>.inl h)
 ·rintro ib' rb' h
  cases h
theorem Q63 (sb:Nat)(st:Option (Nat × Nat))(off n:Nat)(w:World)(h:Stk w sb st off)(hn:0<n)(hln:off+n+3≤1000000) :
  Calls Tryz.prog 222 #[.pointer (some ⟨sb,0,none⟩),.int .i64 n] w fun e w'=>∃ b o c st' off',e=.returned (.slice (some ⟨b,o,none⟩) n c)∧n≤c∧c≤maxLen∧Nat1 w sb st off n b o st' off' w':=by
 cases st with
 | none =>
  have h0:off=0:=h.2.2
  subst h0
  by_cases h4:n≤4
  ·exact Q8Z sb n w h hn h4
  ·exact Q6J sb n w h (by omega) (by omega)
 | some s=>exact Q8Y sb s.1 s.2 off n w h hn hln
theorem Q2d (n:Nat){d:Nat}(hd:0<d):n<(n / d+1)*d:=by
 have e:=Nat.div_add_mod n d
 have m:=Nat.mod_lt n hd
 rw [Nat.add_mul,Nat.one_mul,Nat.mul_comm]
 omega
structure DG (A V P v1 v0 a2 a1 a0:Nat):Prop where
 hp:0<P
 hv1:9223372036854775808≤v1
 hv1':v1<BB
 hv0:v0<BB
 ha1:a1<BB
 ha0:a0<BB
 va:(v1*BB+v0)*P≤V
 vb:V<(v1*BB+v0+1)*P
 aa:((a2*BB+a1)*BB+a0)*P≤A
 ab:A<((a2*BB+a1)*BB+a0+1)*P
 lt:A<V*BB
theorem DG.vpos {A V P v1 v0 a2 a1 a0:Nat}(h:DG A V P v1 v0 a2 a1 a0):0<V:=by
 refine Nat.lt_of_lt_of_le (Nat.mul_pos ?_ h.hp) h.va
 have:=h.hv1
 have:0<v1*BB:=Nat.mul_pos (by omega) Qx
 omega
theorem DG.v2pos {A V P v1 v0 a2 a1 a0:Nat}(h:DG A V P v1 v0 a2 a1 a0):0<v1*BB+v0:=by
 have:=h.hv1
 have:0<v1*BB:=Nat.mul_pos (by omega) Qx
 omega
theorem DG.q_lt {A V P v1 v0 a2 a1 a0:Nat}(h:DG A V P v1 v0 a2 a1 a0):A / V<BB:=by
 rw [Nat.div_lt_iff_lt_mul h.vpos,Nat.mul_comm];exact h.lt
theorem DG.le3 {A V P v1 v0 a2 a1 a0:Nat}(h:DG A V P v1 v0 a2 a1 a0):A / V≤((a2*BB+a1)*BB+a0) / (v1*BB+v0):=by
 obtain ⟨t,ht⟩:∃ t,t=((a2*BB+a1)*BB+a0) / (v1*BB+v0):=⟨_,rfl⟩
 rw [← ht]
 refine Nat.lt_succ_iff.1 ((Nat.div_lt_iff_lt_mul h.vpos).2 ?_)
 have h1:(a2*BB+a1)*BB+a0<(t+1)*(v1*BB+v0):=by
  rw [ht]
  exact Q2d _ h.v2pos
 have h2:((a2*BB+a1)*BB+a0+1)*P≤(t+1)*(v1*BB+v0)*P:=Nat.mul_le_mul_right _ h1
 have h3:(t+1)*((v1*BB+v0)*P)≤(t+1)*V:=Nat.mul_le_mul_left _ h.va
 rw [Nat.mul_assoc] at h2
 have:=h.ab
 show A<(t+1)*V
 omega
theorem DG.ge3 {A V P v1 v0 a2 a1 a0 q:Nat}(h:DG A V P v1 v0 a2 a1 a0)(hq:q<BB)(h1:q*(v1*BB+v0)≤(a2*BB+a1)*BB+a0):q≤A / V+1:=by
 rcases Nat.eq_zero_or_pos q with h0 | h0
 ·rw [h0];exact Nat.zero_le _
 ·obtain ⟨r,rfl⟩:∃ r,q=r+1:=⟨q - 1,by omega⟩
  refine Nat.add_le_add_right ((Nat.le_div_iff_mul_le h.vpos).2 ?_) 1
  have h2:(r+1)*(v1*BB+v0)*P≤((a2*BB+a1)*BB+a0)*P:=Nat.mul_le_mul_right _ h1
  have h3:(r+1)*V≤(r+1)*((v1*BB+v0+1)*P):=Nat.mul_le_mul_left _ (Nat.le_of_lt h.vb)
  have e1:(r+1)*((v1*BB+v0+1)*P)=(r+1)*(v1*BB+v0)*P+(r+1)*P:=by
   rw [Nat.add_mul (v1*BB+v0),Nat.one_mul,Nat.mul_add,Nat.mul_assoc]
  have h4:(r+1)*P≤V:=by
   refine Nat.le_trans (Nat.mul_le_mul_right _ ?_) h.va
   have:=h.hv1
   have:1*BB≤v1*BB:=Nat.mul_le_mul_right _ (by omega)
   omega
  have h5:=h.aa
  have e2:(r+1)*V=r*V+V:=by rw [Nat.add_mul,Nat.one_mul]
  omega
theorem DG.top {A V P v1 v0 a2 a1 a0:Nat}(h:DG A V P v1 v0 a2 a1 a0)(he:a2=v1):BB - 1≤A / V+1:=by
 have:BB - 2≤A / V:=by
  rw [Nat.le_div_iff_mul_le h.vpos]
  have h1:(BB - 2)*V≤(BB - 2)*((v1*BB+v0+1)*P):=Nat.mul_le_mul_left _ (Nat.le_of_lt h.vb)
  have h2:(BB - 2)*(v1*BB+v0+1)≤(a2*BB+a1)*BB+a0:=by
   rw [he]
   have h3:(BB - 2)*(v1*BB+v0+1)≤(BB - 2)*(v1*BB+BB):=Nat.mul_le_mul_left _ (by have:=h.hv0;omega)
   have h4:(BB - 2)*(v1*BB+BB)=(BB - 2)*(v1+1)*BB:=by rw [Nat.mul_assoc,Nat.add_mul,Nat.one_mul]
   have h5:(BB - 2)*(v1+1)≤v1*BB:=by
    rw [Nat.sub_mul,Nat.mul_add,Nat.mul_one,Nat.mul_comm BB v1]
    have:=h.hv1
    unfold BB at *
    omega
   have h6:(BB - 2)*(v1+1)*BB≤v1*BB*BB:=Nat.mul_le_mul_right _ h5
   rw [Nat.add_mul]
   omega
  have h7:(BB - 2)*(v1*BB+v0+1)*P≤((a2*BB+a1)*BB+a0)*P:=Nat.mul_le_mul_right _ h2
  rw [Nat.mul_assoc] at h7
  have:=h.aa
  omega
 omega
structure GI (A V v1 v0 a2 a1 a0 q r:Nat):Prop where
 eq:q*v1+r=a2*BB+a1
 qlt:q<BB
 ge:A / V≤q
 le:q≤(a2*BB+a1) / v1
theorem GI.prod {A V v1 v0 a2 a1 a0 q r:Nat}(h:GI A V v1 v0 a2 a1 a0 q r):q*(v1*BB+v0)+r*BB=(a2*BB+a1)*BB+q*v0:=by
 rw [← h.eq,Nat.mul_add,← Nat.mul_assoc,Nat.add_mul]
 omega
theorem GI.start {A V P v1 v0 a2 a1 a0:Nat}(h:DG A V P v1 v0 a2 a1 a0)(hlt:a2<v1):GI A V v1 v0 a2 a1 a0 ((a2*BB+a1) / v1) ((a2*BB+a1) % v1):=by
 have hv:=h.hv1
 refine ⟨by rw [Nat.mul_comm];exact Nat.div_add_mod _ _,Q1c h.ha1 hlt,?_,Nat.le_refl _⟩
 refine Nat.le_trans h.le3 ?_
 refine Nat.lt_succ_iff.1 ((Nat.div_lt_iff_lt_mul h.v2pos).2 ?_)
 have e:=Q2d (a2*BB+a1) (show 0<v1 by omega)
 obtain ⟨t,ht⟩:∃ t,t=(a2*BB+a1) / v1:=⟨_,rfl⟩
 rw [← ht] at e
 show (a2*BB+a1)*BB+a0<((a2*BB+a1) / v1+1)*(v1*BB+v0)
 rw [← ht]
 have h1:a2*BB+a1+1≤(t+1)*v1:=e
 have h2:(a2*BB+a1+1)*BB≤(t+1)*v1*BB:=Nat.mul_le_mul_right _ h1
 rw [Nat.mul_add,← Nat.mul_assoc]
 rw [Nat.add_mul (a2*BB+a1),Nat.one_mul] at h2
 have:=h.ha0
 omega
theorem GI.less {A V P v1 v0 a2 a1 a0 q r:Nat}(h:GI A V v1 v0 a2 a1 a0 q r)(hd:DG A V P v1 v0 a2 a1 a0)(h1:r*BB+a0<q*v0) :
  0<q∧GI A V v1 v0 a2 a1 a0 (q - 1) (r+v1):=by
 have hp:=h.prod
 have hq:A / V<q:=by
  refine Nat.lt_of_le_of_lt hd.le3 ?_
  rw [Nat.div_lt_iff_lt_mul hd.v2pos]
  omega
 have hq0:0<q:=Nat.lt_of_le_of_lt (Nat.zero_le _) hq
 refine ⟨hq0,⟨?_,by have:=h.qlt;omega,Nat.le_sub_one_of_lt hq,Nat.le_trans (Nat.sub_le _ _) h.le⟩⟩
 obtain ⟨m,rfl⟩:∃ m,q=m+1:=⟨q - 1,by omega⟩
 have:=h.eq
 rw [Nat.add_mul,Nat.one_mul] at this
 rw [Nat.add_sub_cancel]
 omega
theorem GI.done {A V P v1 v0 a2 a1 a0 q r:Nat}(h:GI A V v1 v0 a2 a1 a0 q r)(hd:DG A V P v1 v0 a2 a1 a0)(h1:q*v0≤r*BB+a0):A / V≤q∧q≤A / V+1 :=
 ⟨h.ge,hd.ge3 h.qlt (by have:=h.prod;omega)⟩
theorem GI.broke {A V P v1 v0 a2 a1 a0 q r:Nat}(h:GI A V v1 v0 a2 a1 a0 q r)(hd:DG A V P v1 v0 a2 a1 a0)(h1:BB≤r):A / V≤q∧q≤A / V+1:=by
 refine h.done hd ?_
 have h2:q*v0≤BB*BB:=Nat.mul_le_mul (Nat.le_of_lt h.qlt) (Nat.le_of_lt hd.hv0)
 have h3:BB*BB≤r*BB:=Nat.mul_le_mul_right _ h1
 omega
theorem Q6K {A V q A' B:Nat}(hV:0<V)(h1:A / V≤q)(h:A'+q*V=A)(hA:A'<B):q=A / V∧A'=A % V:=by
 have h2:q≤A / V:=by rw [Nat.le_div_iff_mul_le hV];omega
 have h3:q=A / V:=Nat.le_antisymm h2 h1
 have e:=Nat.div_add_mod A V
 rw [← h3,Nat.mul_comm] at e
 exact ⟨h3,by omega⟩
theorem Q6L {A V q A' L h c2 L' B Bn:Nat}(hV:0<V)(h1:q≤A / V+1)(hs:A'+q*V=A+B*Bn)(hA:A'<B*Bn)(hb:Bn*BB=B*Bn)(hL:A'=L+Bn*h)(hl:h<BB)(hL':L'+c2*Bn=L+V)(hll:L'<Bn)(hVB:V<B*Bn) :
  q=A / V+1∧L'+Bn*((h+c2) % BB)=A % V:=by
 have h2:A / V<q:=by
  rw [Nat.div_lt_iff_lt_mul hV];omega
 have h3:q=A / V+1:=by omega
 refine ⟨h3,?_⟩
 have e:=Nat.div_add_mod A V
 have hm:=Nat.mod_lt A hV
 rw [h3,Nat.add_mul,Nat.one_mul,Nat.mul_comm] at hs
 have h4:L'+Bn*(h+c2)=A % V+Bn*BB:=by
  rw [Nat.mul_add,Nat.mul_comm Bn c2,hb]
  omega
 have h5:=Nat.div_add_mod (h+c2) BB
 have hBn:0<Bn:=by omega
 have h6:(h+c2) / BB=1:=by
  have h7:Bn*BB<Bn*(h+c2+1):=by rw [Nat.mul_add,Nat.mul_one];omega
  have h8:BB<h+c2+1:=Nat.lt_of_mul_lt_mul_left h7
  have h9:Bn*(h+c2)<Bn*(2*BB):=by
   have:Bn*(2*BB)=Bn*BB+Bn*BB:=by rw [Nat.mul_left_comm,Nat.two_mul]
   omega
  have h10:h+c2<2*BB:=Nat.lt_of_mul_lt_mul_left h9
  rw [Nat.div_eq_iff Qx]
  omega
 rw [h6,Nat.mul_one] at h5
 rw [← h5,Nat.mul_add] at h4
 omega
theorem Q6M {U0 lo A A2 V Q q Pj:Nat}(h:U0=lo+Pj*A+V*(Pj*BB)*Q)(hA:A=V*q+A2):U0=lo+Pj*A2+V*Pj*(q+BB*Q):=by
 rw [h,hA,Nat.mul_add,Nat.mul_add]
 have e1:V*(Pj*BB)*Q=V*Pj*(BB*Q):=by rw [← Nat.mul_assoc,Nat.mul_assoc (V*Pj)]
 have e2:Pj*(V*q)=V*Pj*q:=by rw [← Nat.mul_assoc,Nat.mul_comm Pj V]
 omega
theorem Q40 (bz oz cz bx ox cx n:Nat)(y r:Nat)(hn2:n≤maxLen)(hy:y<BB)(hr:r<BB)(w:World)(hX:IsW w bx ox n)(hZ:Wr w bz oz n)(hal:bx≠bz∨ox+n≤oz) :
  Calls Tryz.prog 277 #[.slice (some ⟨bz,oz,none⟩) n cz,.slice (some ⟨bx,ox,none⟩) n cx,.int .u64 y,.int .u64 r] w fun e w' =>
   ∃ c:Nat,e=.returned (.int .u64 c)∧c<BB∧IsW w' bz oz n∧MV w' bz oz n+c*BB^n=MV w bx ox n*y+r∧Chg bz oz (oz+n) w w':=by
 unfold maxLen at hn2
 have HX:=Lh hX;clear hX
 have HZ:=Lh hZ;clear hZ
 have HA:=Lh hal;clear hal
 go_enter Tryz.func277, Tryz.ntmps277
 go_wp2
 go_loopw [8,19] (fun c i wr=>∃ (k cc:Nat),k≤n∧i=.int .i64 k∧c=.int .u64 cc∧cc<BB∧IsW wr bz oz k∧MV wr bz oz k+cc*BB^k=MV w bx ox k*y+r∧Chg bz oz (oz+k) w wr) (fun _ i _=>n - (intOf i).toNat)
 case atStart=>exact ⟨0,r,Nat.zero_le _,rfl,rfl,hr,IsW.zero _ _ _,by simp [MV],Chg.refl _ _ _ _⟩
 case round =>
  obtain ⟨k,cc,hk,rfl,rfl,hcc,hW,hV,hC⟩:=hrel
  by_cases hlt:k<n
  ·have hx:wr.cell? ⟨bx,ox+k,none⟩=some (.int .u64 ((rd w bx (ox+k):Nat):Int)):=by
    have:=HA.out;rw [hC.cell_other (by omega)];exact HX.out.get k hlt
   have hxk:=HX.out.lt k hlt
   have hz:=(hC.wr HZ.out).cell k hlt
   have hzf:=(hC.wr HZ.out).free k hlt
   have HS:=fun z hz'=>QJ (z:=z) hW hz hz' hC
   have HR:=Q7p (rd w bx (ox+k)) y cc
   have HM:=Q5b hxk hy hcc
   have HS1:=Lh (HS _ HR);clear HS HR
   have HV:=Lh hV;clear hV hW hC
   obtain ⟨v0,hz⟩:=hz
   go_wp2_with (go_at_call 295;refine (Q22 (rd w bx (ox+k)) y cc hxk hy hcc _).mono ?_;rintro e w' ⟨rfl,rfl⟩)
   go_roundw
   case rel=>exact ⟨k+1,_,by omega,by go_num,rfl,HM,HS1.out.1,Q1L HV.out (Q5a _ _ _) HS1.out.2.1 rfl,HS1.out.2.2⟩
   case measure=>simp [intOf];omega
  ·obtain rfl:k=n:=by omega
   have HV:=Lh hV;clear hV
   go_wp2
   go_ret
   exact ⟨cc,rfl,hcc,hW,HV.out,hC⟩
theorem Q2T (bz oz cz bx ox cx n:Nat)(y r:Nat)(hn2:n≤maxLen)(hy:y<BB)(hr:r<BB)(w:World)(hX:IsW w bx ox n)(hZ:Wr w bz oz n)(hal:bx≠bz∨ox+n≤oz) :
  Calls Tryz.prog 249 #[.slice (some ⟨bz,oz,none⟩) n cz,.slice (some ⟨bx,ox,none⟩) n cx,.int .u64 y,.int .u64 r] w fun e w' =>
   ∃ c:Nat,e=.returned (.int .u64 c)∧c<BB∧IsW w' bz oz n∧MV w' bz oz n+c*BB^n=MV w bx ox n*y+r∧Chg bz oz (oz+n) w w':=by
 have H:=Lh (Q40 bz oz cz bx ox cx n y r hn2 hy hr w hX hZ hal)
 clear hX hZ hal
 go_enter Tryz.func249, Tryz.ntmps249
 go_wp2_with (go_at_call 277;refine H.out.mono ?_;rintro e w' ⟨c,rfl,hR⟩;have HR:=Lh hR;clear hR)
 go_ret
 exact ⟨c,rfl,HR.out⟩
structure Ch3 (bq bu bh lo hi:Nat) (w w':World):Prop where
 os:w'.os=w.os
 tape:w'.tape=w.tape
 output:w'.output=w.output
 size:w'.heap.size=w.heap.size
 block:∀ k,k≠bq→k≠bu→k≠bh→w'.heap[k]?=w.heap[k]?
 cell:∀ o,bh≠bq→bh≠bu→(o<lo∨hi≤o)→w'.cell? ⟨bh,o,none⟩=w.cell? ⟨bh,o,none⟩
 hdrs:∀ k,hd w' k=hd w k
theorem Ch3.refl (bq bu bh lo hi:Nat)(w:World):Ch3 bq bu bh lo hi w w:=⟨rfl,rfl,rfl,rfl,fun _ _ _ _=>rfl,fun _ _ _ _=>rfl,fun _=>rfl⟩
theorem Ch3.trans {bq bu bh lo hi:Nat}{a b c:World}(h:Ch3 bq bu bh lo hi a b)(k:Ch3 bq bu bh lo hi b c):Ch3 bq bu bh lo hi a c :=
 ⟨k.os.trans h.os,k.tape.trans h.tape,k.output.trans h.output,k.size.trans h.size,fun i h1 h2 h3=>(k.block i h1 h2 h3).trans (h.block i h1 h2 h3),fun o h1 h2 h3=>(k.cell o h1 h2 h3).trans (h.cell o h1 h2 h3),fun i=>(k.hdrs i).trans (h.hdrs i)⟩
theorem Ch3.drew {bq bu bh lo hi:Nat}{a b:World}(h:Ch3 bq bu bh lo hi a b):Ch3 bq bu bh lo hi a b.drew:=⟨h.os,h.tape,h.output,h.size,h.block,h.cell,h.hdrs⟩
theorem Chg.ch3q {bq bu bh lo hi l r:Nat}{a b:World}(h:Chg bq l r a b):Ch3 bq bu bh lo hi a b :=
 ⟨h.os,h.tape,h.output,h.size,fun i h1 _ _=>h.block i h1,fun o h1 _ _=>h.cell_other (.inl h1),h.hdrs⟩
theorem Chg.ch3u {bq bu bh lo hi l r:Nat}{a b:World}(h:Chg bu l r a b):Ch3 bq bu bh lo hi a b :=
 ⟨h.os,h.tape,h.output,h.size,fun i _ h1 _=>h.block i h1,fun o _ h1 _=>h.cell_other (.inl h1),h.hdrs⟩
theorem Chg.ch3h {bq bu bh lo hi l r:Nat}{a b:World}(h:Chg bh l r a b)(h1:lo≤l)(h2:r≤hi):Ch3 bq bu bh lo hi a b :=
 ⟨h.os,h.tape,h.output,h.size,fun i _ _ h3=>h.block i h3,fun o _ _ h3=>h.cell_other (.inr (by omega)),h.hdrs⟩
theorem Ch3.row {bq bu bh lo hi:Nat}{w w':World}(h:Ch3 bq bu bh lo hi w w'){r N:Nat}{T:TypeId}(hr:Row w r N T):Row w' r N T:=(h.hdrs r).trans hr
theorem Ch3.wr {bq bu bh lo hi:Nat}{w w':World}(h:Ch3 bq bu bh lo hi w w'){b o n:Nat}(hw:Wr w b o n):Wr w' b o n:=by
 obtain ⟨N,T,h1,h2⟩:=hw
 exact ⟨N,T,h.row h1,h2⟩
def Far (bq bu bh lo hi b o n:Nat):Prop:=b≠bq∧b≠bu∧(b≠bh∨o+n≤lo∨hi≤o)
theorem Ch3.cellFar {bq bu bh lo hi:Nat}{w w':World}(h:Ch3 bq bu bh lo hi w w'){b o n:Nat}(hf:Far bq bu bh lo hi b o n)(i:Nat)(hi':i<n):w'.cell? ⟨b,o+i,none⟩=w.cell? ⟨b,o+i,none⟩:=by
 obtain ⟨h1,h2,h3⟩:=hf
 by_cases e:b=bh
 ·subst e
  exact h.cell (o+i) h1 h2 (by omega)
 ·exact World.cell?_of_block (w:=w) (h.block b h1 h2 e)
theorem Ch3.isW {bq bu bh lo hi:Nat}{w w':World}(h:Ch3 bq bu bh lo hi w w'){b o n:Nat}(hf:Far bq bu bh lo hi b o n)(hw:IsW w b o n):IsW w' b o n:=hw.congr fun i hi'=>h.cellFar hf i hi'
theorem Ch3.mv {bq bu bh lo hi:Nat}{w w':World}(h:Ch3 bq bu bh lo hi w w'){b o n:Nat}(hf:Far bq bu bh lo hi b o n):MV w' b o n=MV w b o n:=Q05 n fun i hi'=>h.cellFar hf i hi'
theorem Q64 (w:World)(b o n:Nat)(h:2≤n):MV w b o n=MV w b o (n - 2)+BB^(n - 2)*(rd w b (o+n - 2)+BB*rd w b (o+n - 1)):=by
 obtain ⟨k,rfl⟩:∃ k,n=k+2:=⟨n - 2,by omega⟩
 rw [Nat.add_sub_cancel,QF w b o k 2,Q0p,QX,show o+(k+2) - 2=o+k by omega,show o+(k+2) - 1=o+k+1 by omega]
theorem Q90 (w:World)(b o n:Nat)(h:2≤n):MV w b o (n+1)=MV w b o (n - 2)+BB^(n - 2)*(rd w b (o+n - 2)+BB*(rd w b (o+n - 1)+BB*rd w b (o+n))):=by
 obtain ⟨k,rfl⟩:∃ k,n=k+2:=⟨n - 2,by omega⟩
 rw [Nat.add_sub_cancel,QF w b o k 3,Q0p,Q0p,QX,show o+(k+2) - 2=o+k by omega,show o+(k+2) - 1=o+k+1 by omega,show o+(k+2)=o+k+1+1 by omega]
theorem DG.of {A V P v1 v0 a2 a1 a0 lo vl:Nat}(hp:0<P)(hv1:9223372036854775808≤v1)(hv1':v1<BB)(hv0:v0<BB)(ha1:a1<BB)(ha0:a0<BB)(hlo:lo<P)(hvl:vl<P)
  (hV:V=vl+P*(v0+BB*v1)) (hA:A=lo+P*(a0+BB*(a1+BB*a2))) (hlt:A<V*BB):DG A V P v1 v0 a2 a1 a0:=by
 have e1:(v1*BB+v0)*P=P*(v0+BB*v1):=by rw [Nat.mul_comm v1,Nat.add_comm,Nat.mul_comm]
 have e2:((a2*BB+a1)*BB+a0)*P=P*(a0+BB*(a1+BB*a2)):=by
  rw [Nat.mul_comm a2,Nat.add_comm (BB*a2),Nat.mul_comm (a1+BB*a2),Nat.add_comm _ a0,Nat.mul_comm _ P]
 refine ⟨hp,hv1,hv1',hv0,ha1,ha0,?_,?_,?_,?_,hlt⟩
 ·rw [e1];omega
 ·rw [Nat.add_mul,e1,Nat.one_mul];omega
 ·rw [e2];omega
 ·rw [Nat.add_mul,e2,Nat.one_mul];omega
structure DB (w:World) (sb:Nat) (st:Option (Nat × Nat)) (off bq cq bu cu bv ov cv n m:Nat):Prop where
 n2:2≤n
 lim:m+n+10≤CAP
 stk:Stk w sb st off
 olim:off+n+10≤900000
 q:Wr w bq 0 (m+1)
 qc:m+1≤cq
 qcm:cq≤CAP
 u:Wr w bu 0 (m+n+1)
 uw:IsW w bu 0 (m+n+1)
 uc:m+n+1≤cu
 ucm:cu≤CAP
 vw:IsW w bv ov n
 vc:n≤cv
 vcm:cv≤maxLen
 ne1:bq≠bu
 ne2:bv≠bq
 ne3:bv≠bu
 oq:¬ sOwn sb st bq
 ou:¬ sOwn sb st bu
 vown:¬ sOwn sb st bv∨∃ ib,st=some (ib,bv)∧ov+n≤off
 lu:bq<w.heap.size∧bu<w.heap.size∧bv<w.heap.size
 top:9223372036854775808≤rd w bv (ov+n - 1)
 utop:rd w bu (m+n)<9223372036854775808
 small:MV w bu (m+1) n<MV w bv ov n
structure DA (w:World) (bq bu bh oh bv ov n m:Nat) (w2:World):Prop where
 nq:bh≠bq
 nu:bh≠bu
 far:Far bq bu bh oh (oh+(n+1)) bv ov n
 vw:IsW w2 bv ov n
 vm:MV w2 bv ov n=MV w bv ov n
 vt:rd w2 bv (ov+n - 1)=rd w bv (ov+n - 1)
 uw:IsW w2 bu 0 (m+n+1)
 um:∀ o k,MV w2 bu o k=MV w bu o k
 ur:∀ o,rd w2 bu o=rd w bu o
 q:Wr w2 bq 0 (m+1)
 u:Wr w2 bu 0 (m+n+1)
 h:Wr w2 bh oh (n+1)
theorem Fr.wr {S:Nat→Prop}{w w':World}(h:Fr S w w'){b o n:Nat}(hw:Wr w b o n):Wr w' b o n:=by
 obtain ⟨N,T,h1,h2⟩:=hw
 exact ⟨N,T,h.row h1,h2⟩
theorem DB.after {w:World}{sb:Nat}{st:Option (Nat × Nat)}{off bq cq bu cu bv ov cv n m:Nat}(h:DB w sb st off bq cq bu cu bv ov cv n m){bh oh:Nat}{st':Option (Nat × Nat)}{off':Nat}{w2:World}(hN:Nat1 w sb st off (n+1) bh oh st' off' w2) :
  DA w bq bu bh oh bv ov n m w2:=by
 have hlu:=h.lu
 have own:∀ b,b<w.heap.size→¬ sOwn sb st b→bh≠b:=by
  intro b hb hs
  rcases hN.at_ with h1 | ⟨ib,h1,_⟩
  ·omega
  ·rintro rfl
   exact hs (by rw [h1];exact .inr (.inr rfl))
 have hcell:∀ i,i<n→w2.cell? ⟨bv,ov+i,none⟩=w.cell? ⟨bv,ov+i,none⟩:=by
  intro i hi
  rcases h.vown with h1 | ⟨ib,h1,h2⟩
  ·exact hN.fr.cell hlu.2.2 h1
  ·exact hN.low ib bv h1 _ (by omega)
 refine ⟨own bq hlu.1 h.oq,own bu hlu.2.1 h.ou,⟨h.ne2,h.ne3,?_⟩,h.vw.congr hcell,Q05 n hcell,?_,hN.fr.isW hlu.2.1 h.ou h.uw,fun o k=>hN.fr.mv hlu.2.1 h.ou,fun o=>hN.fr.rd hlu.2.1 h.ou,hN.fr.wr h.q,hN.fr.wr h.u,hN.wr⟩
 ·rcases h.vown with h1 | ⟨ib,h1,h2⟩
  ·exact .inl (own bv hlu.2.2 h1).symm
  ·rcases hN.at_ with h3 | ⟨ib',h3,h4⟩
   ·exact .inl (by omega)
   ·exact .inr (.inl (by omega))
 ·have hn2:=h.n2
  have:=hcell (n - 1) (by omega)
  rw [show ov+(n - 1)=ov+n - 1 by omega] at this
  exact QN this
structure DI (w2:World) (bq bu bh lo hi n m U0 V k ujn:Nat) (wr:World):Prop where
 ch:Ch3 bq bu bh lo hi w2 wr
 uw:IsW wr bu 0 (m+n+1)
 at_:(k=m+2∧ujn=0∧MV wr bu 0 (m+n+1)=U0∧MV wr bu (m+1) n<V∧rd wr bu (m+n)<9223372036854775808) ∨
  (k≤m+1∧ujn=rd wr bu (k+n - 1)∧IsW wr bq k (m+1 - k)∧MV wr bu k n<V∧MV wr bu (k+n) (m+1 - k)=0∧U0=MV wr bu 0 (k+n)+V*BB^k*MV wr bq k (m+1 - k))
theorem Stk.ch3 {w w':World}{sb:Nat}{st:Option (Nat × Nat)}{off bq bu bh lo hi:Nat}(h:Stk w sb st off)(c:Ch3 bq bu bh lo hi w w')(hq:¬ sOwn sb st bq)(hu:¬ sOwn sb st bu)(h1:bh≠sb)(h2:∀ ib rb,st=some (ib,rb)→bh≠ib):Stk w' sb st off:=by
 have hc:∀ b,b≠bq→b≠bu→b≠bh→w'.cell? ⟨b,0,none⟩=w.cell? ⟨b,0,none⟩:=fun b x y z=>World.cell?_of_block (w:=w) (c.block b x y z)
 have e1:sb≠bq:=fun e=>hq (.inl e.symm)
 have e2:sb≠bu:=fun e=>hu (.inl e.symm)
 cases st with
 | none=>exact ⟨c.row h.1,(hc sb e1 e2 (Ne.symm h1)).trans h.2.1,h.2.2⟩
 | some s =>
  obtain ⟨ib,rb⟩:=s
  obtain ⟨k1,k2,k3,cap,k4,k5,k6⟩:=h
  have e3:ib≠bq:=fun e=>hq (.inr (.inl e.symm))
  have e4:ib≠bu:=fun e=>hu (.inr (.inl e.symm))
  exact ⟨c.row k1,(hc sb e1 e2 (Ne.symm h1)).trans k2,c.row k3,cap,(hc ib e3 e4 (Ne.symm (h2 ib rb rfl))).trans k4,c.row k5,k6⟩
theorem Stk.lt {w:World}{sb:Nat}{st:Option (Nat × Nat)}{off:Nat}(h:Stk w sb st off)(k:Nat)(hk:sOwn sb st k):k<w.heap.size:=by
 cases st with
 | none =>
  rcases hk with rfl | hk
  ·exact h.1.lt
  ·exact hk.elim
 | some s =>
  obtain ⟨ib,rb⟩:=s
  obtain ⟨k1,k2,k3,cap,k4,k5,k6⟩:=h
  rcases hk with rfl | rfl | rfl
  ·exact k1.lt
  ·exact k3.lt
  ·exact k5.lt
theorem DB.not_own {w:World}{sb:Nat}{st:Option (Nat × Nat)}{off bq cq bu cu bv ov cv n m:Nat}(h:DB w sb st off bq cq bu cu bv ov cv n m){bh oh:Nat}{st':Option (Nat × Nat)}{off':Nat}{w2:World}(hN:Nat1 w sb st off (n+1) bh oh st' off' w2) :
  ¬ sOwn sb st' bq∧¬ sOwn sb st' bu:=by
 have hlu:=h.lu
 constructor
 ·intro hk
  rcases hN.own _ hk with h1 | h1
  ·exact h.oq h1
  ·omega
 ·intro hk
  rcases hN.own _ hk with h1 | h1
  ·exact h.ou h1
  ·omega
theorem DB.fin {w:World}{sb:Nat}{st:Option (Nat × Nat)}{off bq cq bu cu bv ov cv n m:Nat}(h:DB w sb st off bq cq bu cu bv ov cv n m){bh oh:Nat}{st':Option (Nat × Nat)}{off':Nat}{w2 wr w':World}(hN:Nat1 w sb st off (n+1) bh oh st' off' w2)
  (hA:DA w bq bu bh oh bv ov n m w2) {u:Nat} (hD:DI w2 bq bu bh oh (oh+(n+1)) n m (MV w bu 0 (m+n+1)) (MV w bv ov n) 0 u wr) (hS:Stk w' sb st' off) (hf:Fr (sHead st') wr w') :
  ∃ st',Stk w' sb st' off∧(∀ k,sOwn sb st' k→sOwn sb st k∨w.heap.size≤k)∧IsW w' bq 0 (m+1)∧MV w' bq 0 (m+1)=MV w bu 0 (m+n+1) / MV w bv ov n ∧
    IsW w' bu 0 (m+n+1)∧MV w' bu 0 (m+n+1)=MV w bu 0 (m+n+1) % MV w bv ov n∧Fr (fun k=>k=bq∨k=bu∨sOwn sb st k) w w'∧(∀ ib rb,st=some (ib,rb)→∀ i,i<off→w'.cell? ⟨rb,i,none⟩=w.cell? ⟨rb,i,none⟩):=by
 have hlu:=h.lu
 obtain ⟨nq,nu⟩:=h.not_own hN
 have hsz:wr.heap.size=w2.heap.size:=hD.ch.size
 have hs2:=hN.fr.size
 have hhead:∀ k,sHead st' k→sOwn sb st' k:=by
  rintro k ⟨ib,rb,rfl,rfl⟩
  exact .inr (.inl rfl)
 rcases hD.at_ with ⟨h0,_⟩ | ⟨_,_,d3,d4,d5,d6⟩
 ·omega
 ·rw [Nat.sub_zero] at d3 d5 d6
  rw [Nat.zero_add] at d5 d6
  rw [Nat.pow_zero,Nat.mul_one,Nat.mul_comm (MV w bv ov n),Nat.add_comm (MV wr bu 0 n)] at d6
  obtain ⟨f1,f2⟩:=Q7E (by omega) d6 d4
  have hmu:MV wr bu 0 (m+n+1)=MV wr bu 0 n:=by
   rw [show m+n+1=n+(m+1) by omega,QF,Nat.zero_add,d5,Nat.mul_zero,Nat.add_zero]
  have qlt:bq<wr.heap.size:=by omega
  have ult:bu<wr.heap.size:=by omega
  have qh:¬ sHead st' bq:=fun e=>nq (hhead _ e)
  have uh:¬ sHead st' bu:=fun e=>nu (hhead _ e)
  refine ⟨st',hS,hN.own,hf.isW qlt qh d3,by rw [hf.mv qlt qh];exact f1,hf.isW ult uh hD.uw,by rw [hf.mv ult uh,hmu];exact f2,?_,?_⟩
  ·have hFw:Fr (fun k=>k=bq∨k=bu∨sOwn sb st k) w wr:=by
    refine (hN.fr.mono (fun _ _ e=>.inr (.inr e))).trans' (T:=fun k=>k=bq∨k=bu∨k=bh) ⟨hD.ch.os,hD.ch.tape,hD.ch.output,by omega,fun k _ e=>hD.ch.block k (fun x=>e (.inl x)) (fun x=>e (.inr (.inl x))) (fun x=>e (.inr (.inr x))),fun k _=>hD.ch.hdrs k⟩ ?_
    rintro i hi (e | e | e)
    ·exact .inl e
    ·exact .inr (.inl e)
    ·subst e
     rcases hN.at_ with h1 | ⟨ib,h1,_⟩
     ·omega
     ·exact .inr (.inr (by rw [h1];exact .inr (.inr rfl)))
   refine hFw.trans' hf ?_
   intro i hi e
   rcases hN.own _ (hhead _ e) with h1 | h1
   ·exact .inr (.inr h1)
   ·omega
  ·intro ib rb hst i hi
   have hrb:sOwn sb st rb:=by rw [hst];exact .inr (.inr rfl)
   have hrl:=h.stk.lt rb hrb
   have c1:=hN.low ib rb hst i hi
   have n1:rb≠bq:=fun e=>h.oq (e ▸ hrb)
   have n2:rb≠bu:=fun e=>h.ou (e ▸ hrb)
   have c2:wr.cell? ⟨rb,i,none⟩=w2.cell? ⟨rb,i,none⟩:=by
    by_cases e:rb=bh
    ·subst e
     refine hD.ch.cell i n1 n2 (.inl ?_)
     rcases hN.at_ with h1 | ⟨ib',h1,h2⟩
     ·omega
     ·omega
    ·exact World.cell?_of_block (w:=w2) (hD.ch.block rb n1 n2 e)
   have hrow:Row w rb 0 0→True:=fun _=>trivial
   have c3:w'.cell? ⟨rb,i,none⟩=wr.cell? ⟨rb,i,none⟩:=by
    refine hf.cell (by omega) ?_
    rintro ⟨ib',rb',e1,e2⟩
    have hS2:=hS
    subst e1
    obtain ⟨_,_,k3,_⟩:=hS2
    have hw0:=h.stk
    subst hst
    obtain ⟨_,_,_,cap,_,k5,_⟩:=hw0
    have r1:Row w' rb cap 203:=hf.row (hD.ch.row (hN.fr.row k5))
    subst e2
    exact Q08 r1 k3 (by decide) rfl
   exact c3.trans (c2.trans c1)
theorem DI.dg {w w2 wr:World}{sb:Nat}{st:Option (Nat × Nat)}{off bq cq bu cu bv ov cv n m bh oh lo hi U0 j u:Nat}(h:DB w sb st off bq cq bu cu bv ov cv n m)(hA:DA w bq bu bh oh bv ov n m w2)(hD:DI w2 bq bu bh lo hi n m U0 (MV w bv ov n) (j+1) u wr) :
  ∃ A,DG A (MV w bv ov n) (BB^(n - 2)) (rd w2 bv (ov+n - 1)) (rd w2 bv (ov+n - 2)) u (rd wr bu (j+n - 1)) (rd wr bu (j+n - 2))∧(j=m+1→A=MV wr bu (m+1) n∧u=0∧rd wr bu (j+n - 1)<rd w2 bv (ov+n - 1))∧(j≠m+1→j≤m∧A=MV wr bu j (n+1)∧u=rd wr bu (j+n)):=by
 have hn:=h.n2
 have hV:MV w bv ov n=MV w2 bv ov (n - 2)+BB^(n - 2)*(rd w2 bv (ov+n - 2)+BB*rd w2 bv (ov+n - 1)):=by
  rw [← hA.vm,Q64 _ _ _ _ hn]
 have hp:0<BB^(n - 2):=Nat.pow_pos Qx
 have ht:9223372036854775808≤rd w2 bv (ov+n - 1):=by rw [hA.vt];exact h.top
 have hvl:=Q15 (hA.vw.mono (show n - 2≤n by omega))
 have hb1:rd w2 bv (ov+n - 1)<BB:=by have:=hA.vw.lt (n - 1) (by omega);rwa [show ov+(n - 1)=ov+n - 1 by omega] at this
 have hb0:rd w2 bv (ov+n - 2)<BB:=by have:=hA.vw.lt (n - 2) (by omega);rwa [show ov+(n - 2)=ov+n - 2 by omega] at this
 have hju:j≤m+1:=by rcases hD.at_ with ⟨h1,_⟩ | ⟨h1,_⟩ <;> omega
 have hc1:rd wr bu (j+n - 1)<BB:=by have:=hD.uw.lt (j+n - 1) (by omega);rwa [Nat.zero_add] at this
 have hc0:rd wr bu (j+n - 2)<BB:=by have:=hD.uw.lt (j+n - 2) (by omega);rwa [Nat.zero_add] at this
 have hlo:MV wr bu j (n - 2)<BB^(n - 2):=by
  have:=Q15 (hD.uw.sub j (n - 2) (by omega))
  rwa [Nat.zero_add] at this
 rcases hD.at_ with ⟨h1,h2,h3,h4,h5⟩ | ⟨h1,h2,h3,h4,h5,h6⟩
 ·have hj:j=m+1:=by omega
  subst hj
  have hV0:MV w bv ov n≤MV w bv ov n*BB:=Nat.le_mul_of_pos_right _ Qx
  refine ⟨MV wr bu (m+1) n,DG.of hp ht hb1 hb0 hc1 hc0 hlo hvl hV ?_ (by omega),fun _=>⟨rfl,h2,?_⟩,fun hh=>absurd rfl hh⟩
  ·rw [h2,Nat.mul_zero,Nat.add_zero]
   exact Q64 _ _ _ _ hn
  ·rw [show m+1+n - 1=m+n by omega];omega
 ·refine ⟨MV wr bu j (n+1),DG.of hp ht hb1 hb0 hc1 hc0 hlo hvl hV ?_ ?_,fun hh=>by omega,fun _=>⟨by omega,rfl,?_⟩⟩
  ·rw [h2,show j+1+n - 1=j+n by omega]
   exact Q90 _ _ _ _ hn
  ·have hc:rd wr bu j<BB:=by have:=hD.uw.lt j (by omega);rwa [Nat.zero_add] at this
   rw [Q0p]
   have:(MV wr bu (j+1) n+1)*BB≤MV w bv ov n*BB:=Nat.mul_le_mul_right _ h4
   rw [Nat.add_mul,Nat.one_mul,Nat.mul_comm] at this
   omega
  ·rw [h2,show j+1+n - 1=j+n by omega]
theorem DG.a2_le {A V P v1 v0 a2 a1 a0:Nat}(h:DG A V P v1 v0 a2 a1 a0):a2≤v1:=by
 have h1:V<(v1+1)*BB*P:=by
  refine Nat.lt_of_lt_of_le h.vb (Nat.mul_le_mul_right _ ?_)
  rw [Nat.add_mul,Nat.one_mul]
  have:=h.hv0
  omega
 have h2:V*BB≤(v1+1)*BB*P*BB:=Nat.mul_le_mul_right _ (Nat.le_of_lt h1)
 have h3:a2*BB*BB*P≤A:=by
  refine Nat.le_trans (Nat.mul_le_mul_right _ ?_) h.aa
  rw [Nat.add_mul]
  omega
 have h4:a2*(BB*BB*P)<(v1+1)*(BB*BB*P):=by
  have e1:a2*BB*BB*P=a2*(BB*BB*P):=by simp only [Nat.mul_assoc]
  have e2:(v1+1)*BB*P*BB=(v1+1)*(BB*BB*P):=by simp only [Nat.mul_assoc];rw [Nat.mul_comm P BB]
  have:=h.lt
  omega
 have:=Nat.lt_of_mul_lt_mul_right h4
 omega
theorem Q9F {k v0 a b:Nat}(h:a*BB+b=(k+1)*v0)(hv:v0≤b):a*BB+(b - v0)=k*v0:=by
 rw [Nat.add_mul,Nat.one_mul] at h;omega
theorem Q9G {k v0 a b:Nat}(h0':v0<BB)(h:a*BB+b=(k+1)*v0)(hv:b<v0):0<a∧(a - 1)*BB+(b+BB - v0)=k*v0:=by
 rw [Nat.add_mul,Nat.one_mul] at h
 have h0:0<a:=by
  rcases Nat.eq_zero_or_pos a with h0 | h0
  ·subst h0;omega
  ·exact h0
 refine ⟨h0,?_⟩
 obtain ⟨c,rfl⟩:∃ c,a=c+1:=⟨a - 1,by omega⟩
 rw [Nat.add_sub_cancel]
 rw [Nat.add_mul,Nat.one_mul] at h
 omega
theorem Q7I {k v0 a b r c:Nat}(hb:b<BB)(hc:c<BB)(h:a*BB+b=k*v0):(r<a∨a=r∧c<b) ↔ r*BB+c<k*v0:=by
 rw [← h]
 constructor
 ·rintro (h1 | ⟨rfl,h1⟩)
  ·have:(r+1)*BB≤a*BB:=Nat.mul_le_mul_right _ h1
   rw [Nat.add_mul,Nat.one_mul] at this
   omega
  ·omega
 ·intro h1
  rcases Nat.lt_trichotomy r a with h2 | h2 | h2
  ·exact .inl h2
  ·subst h2;exact .inr ⟨rfl,by omega⟩
  ·have:(a+1)*BB≤r*BB:=Nat.mul_le_mul_right _ h2
   rw [Nat.add_mul,Nat.one_mul] at this
   omega
theorem DB.valias {w:World}{sb:Nat}{st:Option (Nat × Nat)}{off bq cq bu cu bv ov cv n m:Nat}(h:DB w sb st off bq cq bu cu bv ov cv n m){bh oh:Nat}{st':Option (Nat × Nat)}{off':Nat}{w2:World}(hN:Nat1 w sb st off (n+1) bh oh st' off' w2):bv≠bh∨ov+n≤oh:=by
 have hlu:=h.lu
 rcases hN.at_ with h1 | ⟨ib,h1,h2⟩
 ·left;omega
 ·rcases h.vown with h3 | ⟨ib',h3,h4⟩
  ·left;rintro rfl
   exact h3 (by rw [h1];exact .inr (.inr rfl))
  ·right;omega
theorem DI.next {w2 wr wa wb:World}{bq bu bh oh n m U0 V j u:Nat}(ne1:bq≠bu)(ne2:bh≠bq)(ne3:bh≠bu)(hD:DI w2 bq bu bh oh (oh+(n+1)) n m U0 V (j+1) u wr)(hjm:j≤m)(hV:0<V)(hVB:V<BB^n)(hq:Wr w2 bq 0 (m+1))
  (c1:Chg bh oh (oh+(n+1)) wr wa) (c2:Chg bu j (j+(n+1)) wa wb) (hW:IsW wb bu j (n+1)) (hM:MV wb bu j (n+1)=MV wr bu j (n+1) % V) (q:Nat) (hqe:q=MV wr bu j (n+1) / V) (hqB:q<BB) :
  DI w2 bq bu bh oh (oh+(n+1)) n m U0 V j (rd wb bu (j+n - 1)) (wb.setCell ⟨bq,j,none⟩ (.int .u64 (q:Int))):=by
 have c3:=Chg.set wb bq j (.int .u64 (q:Int))
 have hc:Ch3 bq bu bh oh (oh+(n+1)) wr (wb.setCell ⟨bq,j,none⟩ (.int .u64 (q:Int))):=(c1.ch3h (Nat.le_refl _) (Nat.le_refl _)).trans (c2.ch3u.trans c3.ch3q)
 have hCh:=hD.ch.trans hc
 obtain ⟨v0,hv0⟩:=(hD.ch.wr hq).cell j (by omega)
 rw [Nat.zero_add] at hv0
 have hcell:wb.cell? ⟨bq,j,none⟩=some v0:=by rw [c2.cell_other (.inl ne1),c1.cell_other (.inl (Ne.symm ne2))];exact hv0
 have hs:=World.cell?_setCell_same wb ⟨bq,j,none⟩ (.int .u64 (q:Int)) hcell
 have hr:rd (wb.setCell ⟨bq,j,none⟩ (.int .u64 (q:Int))) bq j=q:=Q0h hs
 have hut:∀ o,(o<j∨j+(n+1)≤o)→(wb.setCell ⟨bq,j,none⟩ (.int .u64 (q:Int))).cell? ⟨bu,o,none⟩=wr.cell? ⟨bu,o,none⟩:=by
  intro o ho
  rw [c3.cell_other (.inl (Ne.symm ne1)),c2.cell_other (.inr ho),c1.cell_other (.inl (Ne.symm ne3))]
 have hum:∀ o,(wb.setCell ⟨bq,j,none⟩ (.int .u64 (q:Int))).cell? ⟨bu,o,none⟩=wb.cell? ⟨bu,o,none⟩:=fun o=>c3.cell_other (.inl (Ne.symm ne1))
 have hqt:∀ o,o≠j→(wb.setCell ⟨bq,j,none⟩ (.int .u64 (q:Int))).cell? ⟨bq,o,none⟩=wr.cell? ⟨bq,o,none⟩:=by
  intro o ho
  rw [c3.cell_other (.inr (by omega)),c2.cell_other (.inl ne1),c1.cell_other (.inl (Ne.symm ne2))]
 rcases hD.at_ with ⟨h0,_⟩ | ⟨h1,h2,h3,h4,h5,h6⟩
 ·omega
 generalize wb.setCell ⟨bq,j,none⟩ (.int .u64 (q:Int))=w' at *
 have eM:MV w' bu j (n+1)=MV wr bu j (n+1) % V:=by rw [Q05 (n+1) (fun i _=>hum (j+i))];exact hM
 have hlt:MV w' bu j (n+1)<V:=by rw [eM];exact Nat.mod_lt _ hV
 have hsp:MV w' bu j (n+1)=MV w' bu j n+rd w' bu (j+n)*BB^n:=rfl
 have hz:rd w' bu (j+n)=0:=by
  rcases Nat.eq_zero_or_pos (rd w' bu (j+n)) with h0 | h0
  ·exact h0
  ·have:1*BB^n≤rd w' bu (j+n)*BB^n:=Nat.mul_le_mul_right _ h0
   omega
 refine ⟨hCh,?_,.inr ⟨by omega,?_,?_,?_,?_,?_⟩⟩
 ·intro i hi
  rw [Nat.zero_add]
  by_cases hi2:i<j∨j+(n+1)≤i
  ·have:=hD.uw i hi
   rw [Nat.zero_add] at this
   rw [QN (hut i hi2),hut i hi2];exact this
  ·have:=hW (i - j) (by omega)
   rw [show j+(i - j)=i by omega] at this
   rw [QN (hum i),hum i];exact this
 ·exact (QN (hum _)).symm
 ·intro i hi
  by_cases e:i=0
  ·subst e;rw [Nat.add_zero,hr];exact ⟨hs,hqB⟩
  ·have:=h3 (i - 1) (by omega)
   rw [show j+1+(i - 1)=j+i by omega] at this
   rw [QN (hqt (j+i) (by omega)),hqt (j+i) (by omega)];exact this
 ·have:0≤rd w' bu (j+n)*BB^n:=Nat.zero_le _
  omega
 ·rw [show m+1 - j=1+(m+1 - (j+1)) by omega,QF,QX,hz,Nat.zero_add,Nat.pow_one]
  rw [Q05 (w:=wr) (w':=w') (b:=bu) (o:=j+n+1) (m+1 - (j+1)) (fun i _=>hut _ (.inr (by omega)))]
  rw [show j+n+1=j+1+n by omega,h5,Nat.mul_zero]
 ·have e1:MV w' bu 0 (j+n)=MV wr bu 0 j+BB^j*(MV wr bu j (n+1) % V):=by
   rw [QF,Q05 (w:=wr) (w':=w') (b:=bu) (o:=0) j (fun i hi=>hut _ (.inl (by omega))),Nat.zero_add]
   have:MV w' bu j n=MV wr bu j (n+1) % V:=by rw [← eM,hsp,hz];omega
   rw [this]
  have e2:MV w' bq j (m+1 - j)=q+BB*MV wr bq (j+1) (m+1 - (j+1)):=by
   rw [show m+1 - j=(m+1 - (j+1))+1 by omega,Q0p,hr]
   rw [Q05 (w:=wr) (w':=w') (b:=bq) (o:=j+1) (m+1 - (j+1)) (fun i _=>hqt _ (by omega))]
  have e3:MV wr bu 0 (j+1+n)=MV wr bu 0 j+BB^j*MV wr bu j (n+1):=by
   rw [show j+1+n=j+(n+1) by omega,QF,Nat.zero_add]
  rw [e1,e2]
  rw [e3,Nat.pow_succ] at h6
  refine Q6M h6 ?_
  rw [hqe]
  exact (Nat.div_add_mod _ _).symm
theorem DI.first {w2 wr wa wb:World}{bq bu bh oh n m U0 V u:Nat}(ne3:bh≠bu)(hD:DI w2 bq bu bh oh (oh+(n+1)) n m U0 V (m+1+1) u wr)
  (c1:Chg bh oh (oh+(n+1)) wr wa) (c2:Chg bu (m+1) (m+1+n) wa wb) (hW:IsW wb bu (m+1) n) (hM:MV wb bu (m+1) n=MV wr bu (m+1) n) :
  DI w2 bq bu bh oh (oh+(n+1)) n m U0 V (m+1) (rd wb bu (m+1+n - 1)) wb:=by
 have hc:Ch3 bq bu bh oh (oh+(n+1)) wr wb:=(c1.ch3h (Nat.le_refl _) (Nat.le_refl _)).trans c2.ch3u
 have hut:∀ o,(o<m+1∨m+1+n≤o)→wb.cell? ⟨bu,o,none⟩=wr.cell? ⟨bu,o,none⟩:=by
  intro o ho
  rw [c2.cell_other (.inr ho),c1.cell_other (.inl (Ne.symm ne3))]
 rcases hD.at_ with ⟨h0,h1,h2,h3,h4⟩ | ⟨h1,_⟩
 ·refine ⟨hD.ch.trans hc,?_,.inr ⟨by omega,rfl,?_,?_,?_,?_⟩⟩
  ·intro i hi
   rw [Nat.zero_add]
   by_cases hi2:i<m+1∨m+1+n≤i
   ·have:=hD.uw i hi
    rw [Nat.zero_add] at this
    rw [QN (hut i hi2),hut i hi2];exact this
   ·have:=hW (i - (m+1)) (by omega)
    rw [show m+1+(i - (m+1))=i by omega] at this
    exact this
  ·intro i hi;omega
  ·rw [hM];exact h3
  ·rw [Nat.sub_self];rfl
  ·clear h4 h3 h0
   have e0:m+n+1=m+1+n:=by omega
   have e1:MV wb bu 0 (m+1)=MV wr bu 0 (m+1):=Q05 (m+1) (fun i hi=>hut _ (.inl (by omega)))
   have e2:MV wr bu 0 (m+1+n)=MV wb bu 0 (m+1+n):=by
    rw [QF,QF wb,Nat.zero_add,hM,e1]
   rw [Nat.sub_self,← h2,e0,e2]
   exact (Nat.add_zero _).symm
 ·omega
end Go.Proofs.YtpebcmfpehdafaaGreatDoor
