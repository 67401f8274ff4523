/- a part of the proof -/
import Derived.Test.YtpebcmfpehdafaaGreatDoorZ2
import Derived.Test.YtpebcmfpehdafaaGreatDoorZ3
set_option linter.all false
set_option maxRecDepth 100000
set_option maxHeartbeats 16000000
namespace Go.Proofs.YtpebcmfpehdafaaGreatDoor
open Go Go.RowKit
theorem Q3C (bz oz cz bx ox cx n s:Nat)(hn0:0<n)(hn2:n≤maxLen)(hs0:0<s)(hs:s<64)(w:World)(hX:IsW w bx ox n)(hZ:Wr w bz oz n)(hal:bx≠bz∨ox≤oz) :
  Calls Tryz.prog 229 #[.slice (some ⟨bz,oz,none⟩) n cz,.slice (some ⟨bx,ox,none⟩) n cx,.int .u64 s] w fun e w' =>
   ∃ c:Nat,e=.returned (.int .u64 c)∧c<2^s∧IsW w' bz oz n∧MV w' bz oz n+c*BB^n=MV w bx ox n*2^s∧Chg bz oz (oz+n) w w':=by
 have H:=Lh (Q6N bz oz cz bx ox cx n s hn0 hn2 hs0 hs w hX hZ hal)
 clear hX hZ hal
 go_enter Tryz.func229, Tryz.ntmps229
 go_wp2_with (go_at_call 264;refine H.out.mono ?_;rintro e w' ⟨c,rfl,hR⟩;have HR:=Lh hR;clear hR)
 go_ret
 exact ⟨c,rfl,HR.out⟩
theorem Q6Q (bz oz cz bx ox cx n s:Nat)(hn0:0<n)(hn2:n≤maxLen)(hs0:0<s)(hs:s<64)(w:World)(hX:IsW w bx ox n)(hZ:Wr w bz oz n)(hal:bx≠bz∨oz≤ox) :
  Calls Tryz.prog 232 #[.slice (some ⟨bz,oz,none⟩) n cz,.slice (some ⟨bx,ox,none⟩) n cx,.int .u64 s] w fun e w' =>
   ∃ c:Nat,e=.returned (.int .u64 c)∧IsW w' bz oz n∧MV w' bz oz n=MV w bx ox n / 2^s∧Chg bz oz (oz+n) w w':=by
 have H:=Lh (Q6P bz oz cz bx ox cx n s hn0 hn2 hs0 hs w hX hZ hal)
 clear hX hZ hal
 go_enter Tryz.func232, Tryz.ntmps232
 go_wp2_with (go_at_call 267;refine H.out.mono ?_;rintro e w' ⟨c,rfl,hR⟩;have HR:=Lh hR;clear hR)
 go_ret
 exact ⟨c,rfl,HR.out⟩
theorem Q6R {n:Nat}{V v1 s:Nat}(hs:Nm v1 s)(hV:v1*BB^(n - 1)≤V){t:Nat}(ht:V*2^s<(t+1)*BB^(n - 1)):9223372036854775808≤t:=by
 have h1:v1*2^s*BB^(n - 1)≤V*2^s:=by
  rw [Nat.mul_right_comm];exact Nat.mul_le_mul_right _ hV
 have h2:v1*2^s*BB^(n - 1)<(t+1)*BB^(n - 1):=Nat.lt_of_le_of_lt h1 ht
 have h3:=Nat.lt_of_mul_lt_mul_right h2
 have:=hs.ge
 omega
theorem Q4I {n m U V s hi lo:Nat}(_hn:0<n)(hs:s<64)(hU:U<BB^(m+n))(hV:9223372036854775808*BB^(n - 1)≤V)(he:lo+BB^(m+1)*hi=U*2^s):hi<V:=by
 have h1:BB^(m+1)*hi<BB^(m+n)*2^s:=by
  have:U*2^s<BB^(m+n)*2^s:=Nat.mul_lt_mul_of_pos_right hU (Nat.two_pow_pos s)
  omega
 have h2:BB^(m+n)=BB^(m+1)*BB^(n - 1):=by rw [← Nat.pow_add];congr 1;omega
 rw [h2,Nat.mul_assoc] at h1
 have h3:=Nat.lt_of_mul_lt_mul_left h1
 have h4:BB^(n - 1)*2^s≤BB^(n - 1)*2^63:=Nat.mul_le_mul_left _ (Nat.pow_le_pow_right (by omega) (by omega))
 have h5:BB^(n - 1)*2^63=9223372036854775808*BB^(n - 1):=Nat.mul_comm _ _
 omega
theorem Q5m {U V s:Nat}:U*2^s / (V*2^s)=U / V∧U*2^s % (V*2^s) / 2^s=U % V:=by
 have h:=Nat.two_pow_pos s
 exact ⟨Nat.mul_div_mul_right _ _ h,by rw [Nat.mul_mod_mul_right,Nat.mul_div_cancel _ h]⟩
theorem Q6S {n V v1 s:Nat}(hn:0<n)(hs:Nm v1 s)(hV:V<(v1+1)*BB^(n - 1)):V*2^s<BB^n:=by
 have hp:=Nat.two_pow_pos s
 have h1:V*2^s<(v1+1)*BB^(n - 1)*2^s:=Nat.mul_lt_mul_of_pos_right hV hp
 have hb:BB=2^(64 - s)*2^s:=by rw [← Nat.pow_add,show 64 - s+s=64 by have:=hs.lt;omega];rfl
 have h2:v1<2^(64 - s):=by
  have:=hs.le
  rw [hb] at this
  exact Nat.lt_of_mul_lt_mul_right this
 have h3:(v1+1)*2^s≤BB:=by rw [hb];exact Nat.mul_le_mul_right _ h2
 have h4:(v1+1)*BB^(n - 1)*2^s=(v1+1)*2^s*BB^(n - 1):=Nat.mul_right_comm _ _ _
 have h5:(v1+1)*2^s*BB^(n - 1)≤BB*BB^(n - 1):=Nat.mul_le_mul_right _ h3
 have h6:BB*BB^(n - 1)=BB^n:=by
  obtain ⟨k,rfl⟩:∃ k,n=k+1:=⟨n - 1,by omega⟩
  rw [Nat.add_sub_cancel,Nat.pow_succ,Nat.mul_comm]
 omega
theorem Stk.frame {S:Nat→Prop}{w w':World}{sb:Nat}{st:Option (Nat × Nat)}{off:Nat}(h:Stk w sb st off)(f:Fr S w w')(hS:∀ k,sOwn sb st k→¬ S k):Stk w' sb st off:=by
 cases st with
 | none=>exact ⟨f.row h.1,(f.cell h.1.lt (hS sb (.inl rfl))).trans h.2.1,h.2.2⟩
 | some s =>
  obtain ⟨ib,rb⟩:=s
  obtain ⟨k1,k2,k3,cap,k4,k5,k6⟩:=h
  exact ⟨f.row k1,(f.cell k1.lt (hS sb (.inl rfl))).trans k2,f.row k3,cap,(f.cell k3.lt (hS ib (.inr (.inl rfl)))).trans k4,f.row k5,k6⟩
theorem Stk.chg {b lo hi:Nat}{w w':World}{sb:Nat}{st:Option (Nat × Nat)}{off:Nat}(h:Stk w sb st off)(c:Chg b lo hi w w')(hb:b≠sb)(hi':∀ ib rb,st=some (ib,rb)→b≠ib):Stk w' sb st off:=by
 cases st with
 | none=>exact ⟨c.row h.1,(c.cell_other (.inl (Ne.symm hb))).trans h.2.1,h.2.2⟩
 | some s =>
  obtain ⟨ib,rb⟩:=s
  obtain ⟨k1,k2,k3,cap,k4,k5,k6⟩:=h
  exact ⟨c.row k1,(c.cell_other (.inl (Ne.symm hb))).trans k2,c.row k3,cap,(c.cell_other (.inl (Ne.symm (hi' ib rb rfl)))).trans k4,c.row k5,k6⟩
structure DivAt (w:World) (zp rp:Option Addr) (q r:Nat) (p:Option Addr) (l c:Nat) (p2:Option Addr) (l2 c2:Nat) (w':World):Prop where
 nq:Nt w' p l c q
 nr:Nt w' p2 l2 c2 r
 lq:p=zp∨(∃ b,p=some ⟨b,0,none⟩∧w.heap.size≤b)∨p=none
 lr:p2=rp∨(∃ b,p2=some ⟨b,0,none⟩∧w.heap.size≤b)∨p2=none
 ne:same p p2=false
 fr:Fr (fun k=>(∃ a,zp=some a∧a.block=k)∨(∃ a,rp=some a∧a.block=k)) w w'
structure SC (w0:World) (rp:Option Addr) (sb:Nat) (st:Option (Nat × Nat)) (off bh oh bu cu n m U V:Nat) (w:World):Prop where
 stk:Stk w sb st off
 vw:IsW w bh oh n
 vm:MV w bh oh n=V
 uw:IsW w bu 0 (m+n+1)
 um:MV w bu 0 (m+n+1)=U
 ut:rd w bu (m+n)<9223372036854775808
 ur:Row w bu cu 203
 fr:Fr (fun k=>(∃ a,rp=some a∧a.block=k)∨k=sb) w0 w
 hw:Wr w bh oh n
theorem SC.hlt {w0:World}{rp:Option Addr}{sb:Nat}{st:Option (Nat × Nat)}{off bh oh bu cu n m U V:Nat}{w:World}(h:SC w0 rp sb st off bh oh bu cu n m U V w):bh<w.heap.size:=by
 obtain ⟨N,T,hR,_⟩:=h.hw
 exact hR.lt
structure SB (w0:World) (rp:Option Addr) (sb:Nat) (st:Option (Nat × Nat)) (off bh oh bu cu bx by_ n m U V:Nat) (w:World):Prop where
 stk:Stk w sb st off
 xw:IsW w bx 0 (m+n)
 xm:MV w bx 0 (m+n)=U
 yw:IsW w by_ 0 n
 ym:MV w by_ 0 n=V
 ur:Row w bu cu 203
 fr:Fr (fun k=>(∃ a,rp=some a∧a.block=k)∨k=sb) w0 w
 hw:Wr w bh oh n
 hyb:by_≠bh
 hxb:bx≠bh
 huh:bu≠bh
 hus:bu≠sb
 hui:∀ ib rb,st=some (ib,rb)→bu≠ib
 huo:(∃ a,rp=some a∧a.block=bu)∨w0.heap.size≤bu
 hho:w0.heap.size≤bh
 hhs:bh≠sb∧∀ ib rb,st=some (ib,rb)→bh≠ib
 huw:¬ sOwn sb st bu
theorem SB.done {w0:World}{rp:Option Addr}{sb:Nat}{st:Option (Nat × Nat)}{off bh oh bu cu bx by_ n m U V:Nat}{w wa wb:World}(h:SB w0 rp sb st off bh oh bu cu bx by_ n m U V w){U' V':Nat}(hcu:m+n+1≤cu)
  (c1:Chg bh oh (oh+n) w wa) (hv:IsW wa bh oh n) (hvm:MV wa bh oh n=V') (c2:Chg bu 0 (0+(m+n)) wa wb) (hu:IsW wb bu 0 (m+n)) {t:Nat} (hum:MV wb bu 0 (m+n)+t*BB^(m+n)=U') (ht:t<9223372036854775808) :
  SC w0 rp sb st off bh oh bu cu n m U' V' (wb.setCell ⟨bu,m+n,none⟩ (.int .u64 (t:Int))):=by
 have hrow:=c2.row (c1.row h.ur)
 obtain ⟨v,hv0⟩:=hrow.cell (m+n) (by omega)
 have hs:=QJ (w:=wa) (o:=0) (k:=m+n) hu (by rw [Nat.zero_add];exact ⟨v,hv0⟩) (show t<BB by unfold BB;omega) c2
 rw [Nat.zero_add] at hs
 obtain ⟨s1,s2,s3⟩:=hs
 refine ⟨((h.stk.chg c1 h.hhs.1 h.hhs.2).chg s3 h.hus h.hui),s3.isW hv (.inl (Ne.symm h.huh)),(s3.mv (.inl (Ne.symm h.huh))).trans hvm,s1,s2.trans hum,?_,s3.row (c1.row h.ur),?_,s3.wr (c1.wr h.hw)⟩
 ·rw [Q0h (World.cell?_setCell_same wb _ _ hv0)];exact ht
 ·have hb:=h.fr.size
  refine h.fr.trans' (T:=fun k=>k=bh∨k=bu) ((c1.fr (fun _=>.inl rfl)).trans (s3.fr (fun _=>.inr rfl))) ?_
  rintro i hi (e | e)
  ·have:=h.hho;omega
  ·subst e
   rcases h.huo with h1 | h1
   ·exact .inl h1
   ·omega
theorem Nat1.vown {w:World}{sb n bh oh:Nat}{st':Option (Nat × Nat)}{off':Nat}{w2:World}(h:Nat1 w sb none 0 n bh oh st' off' w2):¬ sOwn sb st' bh∨∃ ib,st'=some (ib,bh)∧oh+n≤off':=by
 cases st' with
 | none=>left;rintro (e | e);exact h.hs.1 e;exact e
 | some x =>
  obtain ⟨ib,rb⟩:=x
  by_cases e:rb=bh
  ·subst e;right;exact ⟨ib,rfl,h.apart ib rfl⟩
  ·left
   rintro (e1 | e1 | e1)
   ·exact h.hs.1 e1
   ·exact h.hs.2 ib rb rfl e1
   ·exact e e1.symm
structure DL (w:World) (sb:Nat) (zp:Option Addr) (zl zc:Nat) (rp:Option Addr) (rl rc:Nat) (bx cx by_ cy n m U V:Nat):Prop where
 n2:2≤n
 n40:n<40
 lim:m+n+20≤CAP
 stk:Stk w sb none 0
 z:Buf w zp zl zc
 r:Buf w rp rl rc
 x:Nt w (some ⟨bx,0,none⟩) (m+n) cx U
 y:Nt w (some ⟨by_,0,none⟩) n cy V
 gk:GK w
 bz:∀ a,zp=some a→12≤a.block
 br:∀ a,rp=some a→12≤a.block
 bs:12≤sb
theorem Buf.ne_sb {w:World}{p:Option Addr}{l c sb:Nat}{st:Option (Nat × Nat)}{off:Nat}(h:Buf w p l c)(hs:Stk w sb st off):∀ a,p=Option.some a→a.block≠sb:=by
 rintro a rfl e
 exact h.ne_stack hs.1 ⟨a,rfl,e⟩
structure QB (w0:World) (zp zp':Option Addr) (sb:Nat) (st:Option (Nat × Nat)) (bh bu bq cq m:Nat) (wa wb:World):Prop where
 row:Row wb bq cq 203
 ne1:bq≠bu
 ne2:bh≠bq
 own:¬ sOwn sb st bq
 fr:Fr (fun _=>False) wa wb
 at_:(zp=Option.some ⟨bq,0,none⟩)∨w0.heap.size≤bq
theorem QB.of {w0:World}{rp zp zp':Option Addr}{sb:Nat}{zl zc zl' zc' rl rc bx cx by_ cy:Nat}{st:Option (Nat × Nat)}{off oh bh bu cu bq cq n m U V U' V':Nat}{w2 w3 wa wb:World}(hL:DL w0 sb zp zl zc rp rl rc bx cx by_ cy n m U V)(hN:Nat1 w0 sb none 0 n bh oh st off w2)(hB:SB w0 rp sb st off bh oh bu cu bx by_ n m U V w3)(hS:SC w0 rp sb st off bh oh bu cu n m U' V' wa)
  (hz:zp'=zp∨zp'=none) (hb:Buf wa zp' zl' zc') (hs:same zp' (Option.some ⟨bu,0,none⟩)=false) (hM:Made wa zp' zc' (m+1) wb (Option.some ⟨bq,0,none⟩) cq):QB w0 zp zp' sb st bh bu bq cq m wa wb:=by
 obtain ⟨b,e,m1,m2,m3,m4,m5,m6⟩:=hM
 cases e
 have hsz:=hS.fr.size
 have hul:=hS.ur.lt
 have hhl:bh<wa.heap.size:=by obtain ⟨N,T,hR,_⟩:=hS.hw;exact hR.lt
 rcases m6 with ⟨e,_⟩ | ⟨e,_⟩
 ·have hzp:zp=Option.some ⟨bq,0,none⟩:=by
   rcases hz with h | h
   ·rw [← h,← e]
   ·rw [h] at e;cases e
  have hzb:=hL.z
  rw [hzp] at hzb
  have hlt:bq<w0.heap.size:=hzb.2.2.2.2.2.lt
  refine ⟨m4,?_,?_,?_,m5,.inl hzp⟩
  ·rw [← e] at hs
   intro e2;subst e2;simp [same] at hs
  ·have:=hB.hho;omega
  ·intro hk
   rcases hN.own _ hk with (h1 | h1) | h1
   ·exact hL.z.ne_sb hL.stk _ hzp h1
   ·exact h1
   ·omega
 ·refine ⟨m4,by omega,by omega,?_,m5,.inr (by omega)⟩
  intro hk
  have:=hS.stk.lt _ hk
  omega
theorem QB.db {w0:World}{rp zp zp':Option Addr}{sb:Nat}{zl zc rl rc bx cx by_ cy:Nat}{st:Option (Nat × Nat)}{off oh ch bh bu cu bq cq n m U V s v1:Nat}{w2 w3 wa wb:World}(hL:DL w0 sb zp zl zc rp rl rc bx cx by_ cy n m U V)(hN:Nat1 w0 sb none 0 n bh oh st off w2)(hB:SB w0 rp sb st off bh oh bu cu bx by_ n m U V w3)(hS:SC w0 rp sb st off bh oh bu cu n m (U*2^s) (V*2^s) wa)
  (hQ:QB w0 zp zp' sb st bh bu bq cq m wa wb) (hq:m+1≤cq) (hq2:cq≤CAP) (hu:m+n+1≤cu) (hu2:cu≤CAP) (hc:n≤ch) (hc2:ch≤maxLen) (hv1:v1=rd w0 by_ (n - 1)) (hNm:Nm v1 s):DB wb sb st off bq cq bu cu bh oh ch n m:=by
 have hlim:=hL.lim
 have hn2:=hL.n2
 have hn40:=hL.n40
 have hub:=hN.ub
 have hul:=hS.ur.lt
 have hhl:bh<wa.heap.size:=by obtain ⟨N,T,hR,_⟩:=hS.hw;exact hR.lt
 have hsz:=hQ.fr.size
 have hvw:=hQ.fr.isW hhl (fun h=>h) hS.vw
 have hvm:=(hQ.fr.mv (o:=oh) (n:=n) hhl (fun h=>h)).trans hS.vm
 have huw:=hQ.fr.isW hul (fun h=>h) hS.uw
 have hum:=(hQ.fr.mv (o:=0) (n:=m+n+1) hul (fun h=>h)).trans hS.um
 have hur:=hQ.fr.row hS.ur
 have hVv:v1*BB^(n - 1)≤V:=by
  have h1:MV w0 by_ 0 n=V:=hL.y.2.2.1
  obtain ⟨k,rfl⟩:∃ k,n=k+1:=⟨n - 1,by omega⟩
  rw [Nat.add_sub_cancel] at hv1 ⊢
  have h3:MV w0 by_ 0 (k+1)=MV w0 by_ 0 k+rd w0 by_ (0+k)*BB^k:=rfl
  rw [Nat.zero_add,← hv1] at h3
  rw [← h1,h3]
  exact Nat.le_add_left _ _
 have htop:V*2^s=MV wb bh oh (n - 1)+rd wb bh (oh+n - 1)*BB^(n - 1):=by
  obtain ⟨k,rfl⟩:∃ k,n=k+1:=⟨n - 1,by omega⟩
  rw [← hvm,Nat.add_sub_cancel,show oh+(k+1) - 1=oh+k by omega]
  rfl
 have ht:=Q6R hNm hVv (t:=rd wb bh (oh+n - 1)) (by
  have:=Q15 (hvw.mono (show n - 1≤n by omega))
  rw [htop,Nat.add_mul,Nat.one_mul];omega)
 have hge:9223372036854775808*BB^(n - 1)≤V*2^s:=by
  rw [htop]
  have:9223372036854775808*BB^(n - 1)≤rd wb bh (oh+n - 1)*BB^(n - 1):=Nat.mul_le_mul_right _ ht
  omega
 have hUl:U<BB^(m+n):=hL.x.lt
 refine ⟨hn2,by omega,hS.stk.frame hQ.fr (fun _ _ h=>h),by omega,⟨cq,_,hQ.row,by omega⟩,hq,hq2,⟨cu,_,hur,by omega⟩,huw,hu,hu2,hvw,hc,hc2,hQ.ne1,hQ.ne2,Ne.symm hB.huh,hQ.own,hB.huw,hN.vown,⟨hQ.row.lt,by omega,by omega⟩,ht,?_,?_⟩
 ·rw [hQ.fr.rd hul (fun h=>h)];exact hS.ut
 ·rw [hvm]
  refine Q4I (m:=m) (by omega) hNm.lt hUl hge (lo:=MV wb bu 0 (m+1)) ?_
  have h1:=hum
  rw [show m+n+1=m+1+n by omega,QF,Nat.zero_add] at h1
  exact h1
theorem QB.fin {w0:World}{rp zp zp':Option Addr}{sb:Nat}{zl zc rl rc bx cx by_ cy:Nat}{st st2:Option (Nat × Nat)}{off bh oh bu cu bq cq n m U V s:Nat}{w3 wa wb wd we wf:World}(hL:DL w0 sb zp zl zc rp rl rc bx cx by_ cy n m U V)(hB:SB w0 rp sb st off bh oh bu cu bx by_ n m U V w3)(hS:SC w0 rp sb st off bh oh bu cu n m (U*2^s) (V*2^s) wa)
  (hQ:QB w0 zp zp' sb st bh bu bq cq m wa wb) (hst:∀ k,sOwn sb st k→sOwn sb Option.none k∨w0.heap.size≤k) (hq:m+1≤cq) (hq2:cq≤CAP) (hu:m+n+1≤cu) (hu2:cu≤CAP)
  (own2:∀ k,sOwn sb st2 k→sOwn sb st k∨wb.heap.size≤k) (hqw:IsW wd bq 0 (m+1)) (hqm:MV wd bq 0 (m+1)=U / V) (hf:Fr (fun k=>k=bq∨k=bu∨sOwn sb st k) wb wd)
  (huw:IsW we bu 0 (m+n+1)) (hum:MV we bu 0 (m+n+1)=U % V) (hc:Chg bu 0 (m+n+1) wd we) (hS2:Stk we sb st2 off) (hr:Fr (sHead st2) we wf) (hS3:Stk wf sb st2 0) {i1 i2:Nat} (h1:i1≤m+1∧MV wd bq 0 i1=MV wd bq 0 (m+1)∧(0<i1→rd wd bq (0+i1 - 1)≠0)) (h2:i2≤m+n+1∧MV we bu 0 i2=MV we bu 0 (m+n+1)∧(0<i2→rd we bu (0+i2 - 1)≠0)) :
  Nt wf (Option.some ⟨bq,0,Option.none⟩) i1 cq (U / V)∧Nt wf (Option.some ⟨bu,0,Option.none⟩) i2 cu (U % V)∧((Option.some ⟨bq,0,Option.none⟩:Option Addr)=zp∨(∃ b,(Option.some ⟨bq,0,Option.none⟩:Option Addr)=Option.some ⟨b,0,Option.none⟩∧w0.heap.size≤b)∨(Option.some ⟨bq,0,Option.none⟩:Option Addr)=Option.none) ∧
    ((Option.some ⟨bu,0,Option.none⟩:Option Addr)=rp∨(∃ b,(Option.some ⟨bu,0,Option.none⟩:Option Addr)=Option.some ⟨b,0,Option.none⟩∧w0.heap.size≤b)∨(Option.some ⟨bu,0,Option.none⟩:Option Addr)=Option.none)∧same (Option.some ⟨bq,0,Option.none⟩) (Option.some ⟨bu,0,Option.none⟩)=false∧Fr (fun k=>(∃ a,zp=Option.some a∧a.block=k)∨(∃ a,rp=Option.some a∧a.block=k)∨k=sb) w0 wf∧∃ st off,Stk wf sb st off∧∀ k,sOwn sb st k→k=sb∨w0.heap.size≤k:=by
 have hrow:=hc.row (hf.row hQ.row)
 have hur:=hc.row (hf.row (hQ.fr.row hS.ur))
 have hsz:=hQ.fr.size
 have hsz0:=hS.fr.size
 have hsz2:=hf.size
 have hul:=hS.ur.lt
 have hql:=hQ.row.lt
 have hhead:∀ k,sHead st2 k→sOwn sb st2 k:=by
  rintro k ⟨ib,rb,rfl,rfl⟩;exact .inr (.inl rfl)
 have nq:¬ sHead st2 bq:=fun e=>by
  rcases own2 _ (hhead _ e) with h | h
  ·exact hQ.own h
  ·omega
 have nu:¬ sHead st2 bu:=fun e=>by
  rcases own2 _ (hhead _ e) with h | h
  ·exact hB.huw h
  ·omega
 have hew:we.heap.size=wd.heap.size:=hc.size
 have qe:IsW we bq 0 (m+1):=hc.isW hqw (.inl hQ.ne1)
 have qm:MV we bq 0 i1=MV wd bq 0 i1:=hc.mv (.inl hQ.ne1)
 have qr:∀ o,rd we bq o=rd wd bq o:=fun o=>hc.rd_other (.inl hQ.ne1)
 refine ⟨Nt.mk (by omega) hq2 (by omega) (hr.row hrow) (hr.isW (by omega) nq (qe.mono h1.1)) ?_ ?_,Nt.mk (by omega) hu2 (by omega) (hr.row hur) (hr.isW (by omega) nu (huw.mono h2.1)) ?_ ?_,?_,?_,?_,?_,st2,0,hS3,?_⟩
 ·rw [hr.mv (by omega) nq,qm,h1.2.1,hqm]
 ·intro h0;rw [hr.rd (by omega) nq,qr];have:=h1.2.2 h0;rwa [Nat.zero_add] at this
 ·rw [hr.mv (by omega) nu,h2.2.1,hum]
 ·intro h0;rw [hr.rd (by omega) nu];have:=h2.2.2 h0;rwa [Nat.zero_add] at this
 ·rcases hQ.at_ with h | h
  ·exact .inl h.symm
  ·exact .inr (.inl ⟨bq,rfl,h⟩)
 ·rcases hB.huo with ⟨a,h,e⟩ | h
  ·left
   have hb:=hL.r
   rw [h] at hb
   obtain ⟨b,ha,_⟩:=hb.some
   rw [h,ha];rw [ha] at e;simp only at e;rw [e]
  ·exact .inr (.inl ⟨bu,rfl,h⟩)
 ·simp [same,hQ.ne1]
 ·have f1:Fr (fun k=>(∃ a,zp=Option.some a∧a.block=k)∨(∃ a,rp=Option.some a∧a.block=k)∨k=sb) w0 wa:=hS.fr.mono (fun k _ e=>.inr e)
  have f2:=f1.trans (hQ.fr.mono (fun _ _ e=>e.elim))
  have inS:∀ i,i<w0.heap.size→(i=bq∨i=bu∨sOwn sb st i)→(∃ a,zp=Option.some a∧a.block=i)∨(∃ a,rp=Option.some a∧a.block=i)∨i=sb:=by
   rintro i hi (e | e | e)
   ·subst e
    rcases hQ.at_ with h | h
    ·exact .inl ⟨_,h,rfl⟩
    ·omega
   ·subst e
    rcases hB.huo with h | h
    ·exact .inr (.inl h)
    ·omega
   ·rcases hst _ e with (h | h) | h
    ·exact .inr (.inr h)
    ·exact h.elim
    ·omega
  have f3:=f2.trans' hf inS
  have f4:=f3.trans' (hc.fr (S:=fun k=>k=bu) (fun _=>rfl)) (fun i hi e=>inS i hi (.inr (.inl e)))
  refine f4.trans' hr (fun i hi e=>?_)
  rcases own2 _ (hhead _ e) with h | h
  ·exact inS i hi (.inr (.inr h))
  ·omega
 ·intro k hk
  rcases own2 k hk with h | h
  ·rcases hst k h with (h | h) | h
   ·exact .inl h
   ·exact h.elim
   ·exact .inr h
  ·exact .inr (by omega)
theorem Q42 (sb:Nat)(zp:Option Addr)(zl zc:Nat)(rp:Option Addr)(rl rc:Nat)(bx cx by_ cy n m U V:Nat)(w:World)(h:DL w sb zp zl zc rp rl rc bx cx by_ cy n m U V) :
  Calls Tryz.prog 194 #[.slice zp zl zc,.pointer (some ⟨sb,0,none⟩),.slice rp rl rc,.slice (some ⟨bx,0,none⟩) (m+n) cx,.slice (some ⟨by_,0,none⟩) n cy] w fun e w' =>
   ∃ p l c p2 l2 c2,e=.returned (.tuple #[.slice p l c,.slice p2 l2 c2])∧Nt w' p l c (U / V)∧Nt w' p2 l2 c2 (U % V)∧(p=zp∨(∃ b,p=some ⟨b,0,none⟩∧w.heap.size≤b)∨p=none) ∧
    (p2=rp∨(∃ b,p2=some ⟨b,0,none⟩∧w.heap.size≤b)∨p2=none)∧same p p2=false∧Fr (fun k=>(∃ a,zp=some a∧a.block=k)∨(∃ a,rp=some a∧a.block=k)∨k=sb) w w'∧∃ st off,Stk w' sb st off∧∀ k,sOwn sb st k→k=sb∨w.heap.size≤k:=by
 have H:=Lh h;clear h
 have hlim:=H.out.lim
 have hn2:=H.out.n2
 have hn40:=H.out.n40
 have hxn:=Nt.len_le H.out.x
 have hcx:=Q0U H.out.x.1
 have hcy:=Q0U H.out.y.1
 have hcx2:m+n≤cx:=H.out.x.1.2.2.2.2.1
 have hcy2:n≤cy:=H.out.y.1.2.2.2.2.1
 unfold CAP at hlim hxn hcx hcy
 obtain ⟨v1,hv1⟩:∃ v1,v1=rd w by_ (n - 1):=⟨_,rfl⟩
 have hv1c:w.cell? ⟨by_,n - 1,none⟩=some (.int .u64 (v1:Int)):=by
  have:=H.out.y.2.1.get (n - 1) (by omega)
  rw [Nat.zero_add] at this
  rw [hv1];exact this
 have hv1B:v1<BB:=by
  have:=H.out.y.2.1.lt (n - 1) (by omega)
  rw [Nat.zero_add] at this
  rw [hv1];exact this
 have hv10:0<v1:=by rw [hv1];exact Nat.pos_of_ne_zero (H.out.y.2.2.2 (by omega))
 obtain ⟨s,hs⟩:∃ s,s=64 - Lib.bitLen v1:=⟨_,rfl⟩
 have HNm:Hid (Nm v1 s):=by rw [hs];exact Nm.of hv10 hv1B
 have hs64:s<64:=HNm.out.lt
 have HV1:=Lh hv1
 have HNl:=Lh (Q5i v1 s HNm.out w)
 have HSv:=Lh (Q4G sb none 0 w H.out.stk)
 clear hv1 hs hv1B hv10
 have a1:(m:Int)+(n:Int) - (n:Int)=(m:Int):=by omega
 go_enter_defers Tryz.func194,Tryz.ntmps194
 go_wp2_with fail
 go_at_call 221
 refine HSv.out.mono ?_;rintro e w' ⟨rfl,hw⟩;subst w'
 clear HSv
 go_wp2_with fail
 go_at_call 228
 refine HNl.out.mono ?_;rintro e w' ⟨rfl,hw⟩;subst w'
 clear HNl
 go_wp2_with fail
 go_at_call 222
 refine (Q63 sb none 0 n w H.out.stk (by omega) (by omega)).mono ?_
 rintro e w2 ⟨bh,oh,ch,st',off',rfl,hch,hchm,hN⟩
 have HN:=Lh hN;clear hN
 go_wp2_with fail
 go_at_call 197
 have e1:(m:Int)+(n:Int)+1=((m+n+1:Nat):Int):=by omega
 rw [e1]
 refine (QP rp rl rc (m+n+1) (by omega) (by unfold CAP;omega) w2 (HN.out.fr.buf H.out.r)).mono ?_
 rintro e w3 ⟨p',cu,rfl,bu,rfl,m1,m2,m3,m4,m5,m6⟩
 rw [← e1];clear e1
 have huo:(∃ a,rp=some a∧a.block=bu)∨w.heap.size≤bu:=by
  rcases m6 with ⟨e,_⟩ | ⟨e,_⟩
  ·exact .inl ⟨_,e.symm,rfl⟩
  ·have:=HN.out.fr.size;exact .inr (by omega)
 have hho:w.heap.size≤bh:=by
  rcases HN.out.at_ with h1 | ⟨ib,h1,_⟩
  ·exact h1
  ·cases h1
 have hbhlt:bh<w2.heap.size:=by
  obtain ⟨N,T,hR,_⟩:=HN.out.wr
  exact hR.lt
 have huh:bu≠bh:=by
  rcases m6 with ⟨e,_⟩ | ⟨e,_⟩
  ·have hl:=(H.out.r)
   rw [← e] at hl
   have:=hl.2.2.2.2.2.lt
   simp only at this;omega
  ·omega
 have hus:bu≠sb:=by
  rcases m6 with ⟨e,_⟩ | ⟨e,_⟩
  ·exact H.out.r.ne_sb H.out.stk _ e.symm
  ·have:=HN.out.stk.1.lt;omega
 have hui:∀ ib rb,st'=some (ib,rb)→bu≠ib:=by
  rintro ib rb rfl
  obtain ⟨_,_,k3,_⟩:=HN.out.stk
  exact Q08 m4 (m5.row k3) (by decide)
 have hnx:¬ sOwn sb none bx:=by
  rintro (e | e)
  ·exact H.out.x.1.ne_sb H.out.stk _ rfl e
  ·exact e
 have hny:¬ sOwn sb none by_:=by
  rintro (e | e)
  ·exact H.out.y.1.ne_sb H.out.stk _ rfl e
  ·exact e
 have huw:¬ sOwn sb st' bu:=by
  intro hk
  rcases m6 with ⟨e,_⟩ | ⟨e,_⟩
  ·have hl:=H.out.r
   rw [← e] at hl
   have hlt:bu<w.heap.size:=hl.2.2.2.2.2.lt
   rcases HN.out.own _ hk with (h1 | h1) | h1
   ·exact hus h1
   ·exact h1
   ·omega
  ·have:=HN.out.stk.lt _ hk;omega
 have HB:Hid (SB w rp sb st' off' bh oh bu cu bx by_ n m U V w3):=by
  have hxl:=H.out.x.1.2.2.2.2.2.lt
  have hyl:=H.out.y.1.2.2.2.2.2.lt
  have hsz:=HN.out.fr.size
  simp only at hxl hyl
  refine ⟨HN.out.stk.frame m5 (fun _ _ e=>e),m5.isW (by omega) (fun e=>e) (HN.out.fr.isW hxl hnx H.out.x.2.1),(m5.mv (by omega) (fun e=>e)).trans ((HN.out.fr.mv hxl hnx).trans H.out.x.2.2.1),m5.isW (by omega) (fun e=>e) (HN.out.fr.isW hyl hny H.out.y.2.1),(m5.mv (by omega) (fun e=>e)).trans ((HN.out.fr.mv hyl hny).trans H.out.y.2.2.1),m4,?_,m5.wr HN.out.wr,by omega,by omega,huh,hus,hui,huo,hho,HN.out.hs,huw⟩
  refine (HN.out.fr.mono ?_).trans (m5.mono (fun _ _ e=>e.elim))
  rintro i hi (e | e)
  ·exact .inr e
  ·exact e.elim
 have hcu2:cu≤4096:=m2
 have hcu3:m+n+1≤cu:=m3
 clear m1 m2 m4 m5 m6 huo hho huh hus hui hnx hny hbhlt huw
 have hVlt:Hid (V<(v1+1)*BB^(n - 1)):=by
  have h1:=H.out.y.2.2.1
  obtain ⟨k,rfl⟩:∃ k,n=k+1:=⟨n - 1,by omega⟩
  have h2:MV w by_ 0 k<BB^k:=Q15 (H.out.y.2.1.mono (show k≤k+1 by omega))
  rw [Nat.add_sub_cancel] at *
  have h3:MV w by_ 0 (k+1)=MV w by_ 0 k+rd w by_ (0+k)*BB^k:=rfl
  show V<_
  rw [Nat.zero_add] at h3
  rw [HV1.out,Nat.add_mul,Nat.one_mul]
  have h1':MV w by_ 0 (k+1)=V:=h1
  omega
 have hchm':ch≤9223372036854775807:=hchm
 obtain ⟨z0,hzz⟩:∃ z0,((s:Int) == 0)=z0:=⟨_,rfl⟩
 go_upto_if 40 with fail
 go_cut [41] from 42 to 68 (fun _ wx=>SC w rp sb st' off' bh oh bu cu n m (U*2^s) (V*2^s) wx)
 case first =>
  by_cases hs0:s=0
  ·obtain rfl:z0=true:=by rw [← hzz,hs0];rfl
   clear hzz
   subst hs0
   have hcp1:=fun ty=>Q2v (P:=Tryz.prog) w3 65 65 ty 203 (some ⟨bh,oh,none⟩) (some ⟨by_,0,none⟩) bh oh n ch by_ 0 n cy n Tryz.underlying65 Q1b (by simp) (fun _=>⟨rfl,rfl⟩) HB.out.yw HB.out.hw
   have hC1:=Lh (Q2t w3 bh oh by_ 0 n)
   have hV1:=Lh (And.intro (Q2u HB.out.yw HB.out.hw) ((Q3T HB.out.hw (bx:=by_) (ox:=0)).trans HB.out.ym))
   generalize cpW w3 bh oh by_ 0 n=w4 at hcp1 hC1 hV1
   have hxw:=hC1.out.isW HB.out.xw (.inl HB.out.hxb)
   have hZ2:Wr w4 bu 0 (m+n):=⟨cu,_,hC1.out.row HB.out.ur,by omega⟩
   have hcp2:=fun ty=>Q2v (P:=Tryz.prog) w4 65 65 ty 203 (some ⟨bu,0,none⟩) (some ⟨bx,0,none⟩) bu 0 (m+n) cu bx 0 (m+n) cx (m+n) Tryz.underlying65 Q1b (by simp) (fun _=>⟨rfl,rfl⟩) hxw hZ2
   have hC2:=Lh (Q2t w4 bu 0 bx 0 (m+n))
   have hU2:=Lh (And.intro (Q2u hxw hZ2) ((Q3T hZ2 (bx:=bx) (ox:=0)).trans ((hC1.out.mv (.inl HB.out.hxb)).trans HB.out.xm)))
   clear hxw hZ2
   generalize cpW w4 bu 0 bx 0 (m+n)=w5 at hcp2 hC2 hU2
   have hrow:=hC2.out.row (hC1.out.row HB.out.ur)
   obtain ⟨v6,hv6⟩:=hrow.cell (m+n) (by omega)
   have hf6:=hrow.free (m+n)
   clear hrow
   have b2:m+n≤cu:=by omega
   have b3:m+n<m+n+1:=by omega
   go_wp2_with fail
   go_meet
   have hD:=HB.out.done (U':=U*2^0) (V':=V*2^0) (t:=0) (by omega) hC1.out hV1.out.1 (by rw [Nat.pow_zero,Nat.mul_one];exact hV1.out.2) hC2.out hU2.out.1 (by rw [Nat.pow_zero,Nat.mul_one,Nat.zero_mul,Nat.add_zero];exact hU2.out.2) (by omega)
   exact hD
  ·obtain rfl:z0=false:=by rw [← hzz];simp;omega
   clear hzz
   have b2:m+n≤cu:=by omega
   have hf0:s<64:=hs64
   have HL1:=Lh (Q3C bh oh ch by_ 0 cy n s (by omega) (by unfold maxLen;omega) (by omega) hs64 w3 HB.out.yw HB.out.hw (.inl HB.out.hyb))
   go_wp2_with fail
   go_at_call 229
   refine HL1.out.mono ?_
   rintro e w4 ⟨c1,rfl,hR⟩
   have HR:=Lh hR;clear hR HL1
   have HL2:=Lh (Q3C bu 0 cu bx 0 cx (m+n) s (by omega) (by unfold maxLen;omega) (by omega) hs64 w4 (HR.out.2.2.2.isW HB.out.xw (.inl HB.out.hxb)) ⟨cu,_,HR.out.2.2.2.row HB.out.ur,by omega⟩ (.inr (Nat.le_refl _)))
   go_wp2_with fail
   go_at_call 229
   have e1:(m:Int)+(n:Int)=((m+n:Nat):Int):=by omega
   refine HL2.out.mono ?_
   rintro e w5 ⟨c2,rfl,hR⟩
   have HR2:=Lh hR;clear hR HL2 e1
   have hrow:=HR2.out.2.2.2.row (HR.out.2.2.2.row HB.out.ur)
   obtain ⟨v6,hv6⟩:=hrow.cell (m+n) (by omega)
   have hf6:=hrow.free (m+n)
   clear hrow
   have b3:m+n<m+n+1:=by omega
   have HD:=Lh (HB.out.done (U':=U*2^s) (V':=V*2^s) (t:=c2) (by omega) HR.out.2.2.2 HR.out.2.1 (by
     have h1:=HR.out.2.2.1
     have h2:=Q6S (by omega) HNm.out hVlt.out
     rw [HB.out.ym] at h1
     rcases Nat.eq_zero_or_pos c1 with h3 | h3
     ·rw [h3,Nat.zero_mul,Nat.add_zero] at h1;exact h1
     ·have:1*BB^n≤c1*BB^n:=Nat.mul_le_mul_right _ h3
      omega) HR2.out.2.2.2 HR2.out.2.1 (by rw [HR2.out.2.2.1,HR.out.2.2.2.mv (.inl HB.out.hxb),HB.out.xm]) (by
     have h1:=HR2.out.1
     have h2:2^s≤2^63:=Nat.pow_le_pow_right (by omega) (by omega)
     omega))
   go_wp2_with fail
   go_meet
   exact HD.out
 case rest =>
  clear hzz
  have HC:=Lh hcut;clear hcut
  have hgk:Hid (GK wc):=HC.out.fr.gk H.out.gk (fun k e=>by
   rcases e with ⟨a,ha,rfl⟩ | rfl
   ·exact H.out.br a ha
   ·exact H.out.bs)
  have hthr:=hgk.out.div
  have hzb:Hid (Buf wc zp zl zc):=HC.out.fr.buf H.out.z
  have HAl:=Lh (QU zp zl zc (some ⟨bu,0,none⟩) (m+n+1) cu wc hzb.out ⟨rfl,rfl,by omega,by unfold CAP;omega,by omega,HC.out.ur⟩)
  clear hthr
  have hbw:∀ q,Buf (wc.drewN q) zp zl zc:=fun q=>hzb.out.drewN q
  have HBW:=Lh hbw;clear hbw
  go_upto_if 71 with (go_at_call 214;refine HAl.out.mono ?_;rintro e w6 ⟨rfl,q1,hw6⟩)
  obtain ⟨sm,hsm⟩:∃ sm,same zp (some ⟨bu,0,none⟩)=sm:=⟨_,rfl⟩
  rw [hsm]
  have HC6:Hid (SC w rp sb st' off' bh oh bu cu n m (U*2^s) (V*2^s) w6):=by
   subst hw6
   exact ⟨HC.out.stk,HC.out.vw,(Qy _ _ _ _ _).trans HC.out.vm,HC.out.uw,(Qy _ _ _ _ _).trans HC.out.um,HC.out.ut,HC.out.ur,HC.out.fr.drewN _,HC.out.hw⟩
  have HB6:Hid (Buf w6 zp zl zc∧GK w6):=by subst hw6;exact ⟨HBW.out _,hgk.out.drewN _⟩
  clear HBW HAl HC hzb hgk
  have HSM:=Lh hsm;clear hsm
  have HW6:=Lh hw6;clear hw6
  go_cut [0] from 72 to 73 (fun z wx=>∃ zp' zl' zc',z=.slice zp' zl' zc'∧(zp'=zp∨zp'=none)∧Buf w6 zp' zl' zc'∧same zp' (some ⟨bu,0,none⟩)=false∧wx=w6)
  case first =>
   cases sm
   ·go_wp2_with fail
    go_meet
    exact ⟨zp,zl,zc,rfl,.inl rfl,HB6.out.1,HSM.out,HW6.out.symm⟩
   ·go_wp2_with fail
    go_meet
    exact ⟨none,0,0,rfl,.inr rfl,⟨rfl,rfl⟩,rfl,HW6.out.symm⟩
  case rest =>
   obtain ⟨zp',zl',zc',rfl,hz1,hz2,hz3,hwx⟩:=hcut
   subst hwx
   clear HW6
   have HZ:=Lh (And.intro hz1 (And.intro hz2 hz3));clear hz1 hz2 hz3
   have hm1:0<m+1:=by omega
   go_wp2_with fail
   go_at_call 197
   have e1:(m:Int)+1=((m+1:Nat):Int):=by omega
   rw [e1]
   refine (QP zp' zl' zc' (m+1) hm1 (by unfold CAP;omega) _ HZ.out.2.1).mono ?_
   rintro e w7 ⟨p',cq,rfl,hM⟩
   rw [← e1];clear e1
   obtain ⟨bq,rfl,hmq⟩:=hM
   have HM:Hid (Made _ zp' zc' (m+1) w7 (some ⟨bq,0,none⟩) cq):=⟨bq,rfl,hmq⟩
   have hq1:m+1≤cq:=hmq.2.2.1
   have hq2:cq≤4096:=hmq.2.1
   clear hmq
   have HQ:=Lh (QB.of H.out HN.out HB.out HC6.out HZ.out.1 HZ.out.2.1 HZ.out.2.2 HM.out)
   have hDB:=Lh (QB.db H.out HN.out HB.out HC6.out HQ.out hq1 hq2 hcu3 hcu2 (by omega) hchm HV1.out HNm.out)
   have hthr:=(HQ.out.fr.gk HB6.out.2 (fun _ h=>h.elim)).div
   have hDv:=Lh (Q41 sb st' off' bq cq bu cu bh oh ch n m 0 w7 hDB.out)
   have hb40:(n:Int)<40:=by omega
   go_wp2_with fail
   go_at_call 230
   refine hDv.out.mono ?_
   rintro e w8 ⟨rfl,st2,k1,k2,k3,k4,k5,k6,k7,k8⟩
   have HD8:=Lh (And.intro k1 (And.intro k2 (And.intro k3 (And.intro k4 (And.intro k5 (And.intro k6 k7))))))
   clear k1 k2 k3 k4 k5 k6 k7 k8 hDv hthr
   have HVM:Hid (MV w7 bu 0 (m+n+1)=U*2^s∧MV w7 bh oh n=V*2^s):=by
    have hul:=HC6.out.ur.lt
    have hhl:=HC6.out.hlt
    exact ⟨(HQ.out.fr.mv hul (fun h=>h)).trans HC6.out.um,(HQ.out.fr.mv hhl (fun h=>h)).trans HC6.out.vm⟩
   have HN1:=Lh (QO bq 0 cq (m+1) (by unfold maxLen;omega) hq1 w8 HD8.out.2.2.1)
   go_wp2_with fail
   go_at_call 200
   refine HN1.out.mono ?_
   rintro e w9 ⟨i1,rfl,hw9,hi1⟩
   subst hw9
   have HI1:=Lh hi1;clear hi1 HN1
   obtain ⟨z1,hz1⟩:∃ z1,((s:Int) != 0)=z1:=⟨_,rfl⟩
   go_upto_if 92 with fail
   go_cut [41] from 93 to 96 (fun _ wx=>IsW wx bu 0 (m+n+1)∧MV wx bu 0 (m+n+1)=U % V∧Chg bu 0 (m+n+1) w9 wx)
   case first =>
    have hsc:=@Q5m U V s
    by_cases hs0:s=0
    ·obtain rfl:z1=false:=by rw [← hz1,hs0];rfl
     clear hz1
     have hM9:Hid (MV w9 bu 0 (m+n+1)=U % V):=by
      have h1:=HD8.out.2.2.2.2.2.1
      rw [HVM.out.1,HVM.out.2] at h1
      rw [hs0,Nat.pow_zero,Nat.mul_one,Nat.mul_one] at h1
      exact h1
     clear hsc hs0
     go_wp2_with fail
     go_meet
     exact ⟨HD8.out.2.2.2.2.1,hM9.out,Chg.refl _ _ _ _⟩
    ·obtain rfl:z1=true:=by rw [← hz1];simp;omega
     clear hz1
     have HR:=Lh (Q6Q bu 0 cu bu 0 cu (m+n+1) s (by omega) (by unfold maxLen;omega) (by omega) hs64 w9 HD8.out.2.2.2.2.1 ⟨cu,_,HD8.out.2.2.2.2.2.2.row (HQ.out.fr.row HC6.out.ur),by omega⟩ (.inr (Nat.le_refl _)))
     have HSc:=Lh hsc;clear hsc
     have hcu9:Hid ((m:Int)+(n:Int)+1=((m+n+1:Nat):Int)):=by show _=_;omega
     go_wp2_with fail
     go_at_call 232
     refine HR.out.mono ?_
     rintro e w10 ⟨c9,rfl,hR⟩
     have HR9:=Lh hR;clear hR
     go_wp2_with fail
     go_meet
     refine ⟨HR9.out.1,?_,by have:=HR9.out.2.2;rwa [Nat.zero_add] at this⟩
     rw [HR9.out.2.1,HD8.out.2.2.2.2.2.1,HVM.out.1,HVM.out.2]
     exact HSc.out.2
   case rest =>
    clear hz1
    have HE:=Lh hcut;clear hcut
    have HN2:=Lh (QO bu 0 cu (m+n+1) (by unfold maxLen;omega) hcu3 wc HE.out.1)
    go_wp2_with fail
    go_at_call 200
    refine HN2.out.mono ?_
    rintro e w11 ⟨i2,rfl,hw11,hi2⟩
    subst hw11
    have HI2:=Lh hi2;clear hi2 HN2
    have HS2:Hid (Stk w11 sb st2 off'):=HD8.out.1.chg HE.out.2.2 HB.out.hus (fun ib rb h=>fun e=>by
     have hk:sOwn sb st2 bu:=by rw [h,e];exact .inr (.inl rfl)
     rcases HD8.out.2.1 _ hk with h1 | h1
     ·exact HB.out.huw h1
     ·have:=HQ.out.fr.size;have:=HC6.out.ur.lt;omega)
    go_wp2_with fail
    refine leaves_cons (f:=220) (args:=#[.pointer (some ⟨sb,0,none⟩),.int .i64 0]) (by simp) (by simp [go_sem]) ?_
    refine (Q0P sb st2 off' 0 .returning w11 HS2.out (Nat.zero_le _)).mono ?_
    rintro e u' w'' ⟨rfl,rfl,hw,hf⟩
    have hF:=QB.fin H.out HB.out HC6.out HQ.out HN.out.own hq1 hq2 hcu3 hcu2 HD8.out.2.1 HD8.out.2.2.1 (by rw [HD8.out.2.2.2.1,HVM.out.1,HVM.out.2];exact Q5m.1) HD8.out.2.2.2.2.2.2 HE.out.1 HE.out.2.1 HE.out.2.2 HS2.out hf hw HI1.out HI2.out
    exact ⟨_,results_tmp2 rfl _ _ _,⟨_,i1,cq,_,i2,cu,rfl,hF⟩⟩
def DivRes (w:World)(zp rp:Option Addr)(q r:Nat)(e:Ending)(w':World):Prop :=
 ∃ p l c p2 l2 c2,e=.returned (.tuple #[.slice p l c,.slice p2 l2 c2])∧DivAt w zp rp q r p l c p2 l2 c2 w'
theorem Fr.drewN_l {S:Nat→Prop}{a b:World}{q:Nat}(h:Fr S (a.drewN q) b):Fr S a b:=⟨h.os,h.tape,h.output,h.size,h.block,h.hdrs⟩
theorem Q91 (zp:Option Addr)(zl zc:Nat)(rp:Option Addr)(rl rc:Nat)(xp:Option Addr)(m cx x:Nat)(by_ cy y:Nat)(w:World)(hz:Buf w zp zl zc)(hr:Buf w rp rl rc)(hzr:same zp rp=false)(hx:Nt w xp m cx x)(hm:m+5≤CAP)(hy:Nt w (some ⟨by_,0,none⟩) 1 cy y) :
  Calls Tryz.prog 171 #[.slice zp zl zc,.pointer none,.slice rp rl rc,.slice xp m cx,.slice (some ⟨by_,0,none⟩) 1 cy] w (DivRes w zp rp (x / y) (x % y)):=by
 have hyc:=Q0O hy
 have hyB:y<BB:=by have:=hy.lt;rwa [Nat.pow_one] at this
 have hy0:0<y:=by have:=hy.ge (by omega);simp at this;omega
 have HW:=Lh (Q4E zp zl zc xp m cx x y _ w hz hx hm (Nm.of hy0 hyB))
 have HZ:=Lh (And.intro hz (And.intro hr hzr))
 have hrB:x % y<BB:=by have:=Nat.mod_lt x hy0;omega
 have HRB:=Lh hrB
 clear hz hr hzr hx hy hyB hy0 hrB
 go_enter_defers Tryz.func171,Tryz.ntmps171
 go_wp2_with fail
 go_at_call 190
 refine HW.out.mono ?_
 rintro e w1 ⟨p,l,c,rfl,hn,hp,hf⟩
 have HN:=Lh (And.intro hn (And.intro hp hf));clear hn hp hf
 have hzr':Hid (∀ k,(∃ a,zp=some a∧a.block=k)→∀ a,rp=some a→a.block≠k):=by
  rintro k ⟨a,ha,rfl⟩ a' ha' e
  have:=HZ.out.2.2
  rw [ha,ha'] at this
  simp [same,e] at this
 obtain ⟨r0,hr0⟩:∃ r0,x % y=r0:=⟨_,rfl⟩
 rw [hr0] at HRB ⊢
 have HR0:=Lh hr0;clear hr0
 have HS:=Lh (Q0D rp rl rc r0 HRB.out w1 (HN.out.2.2.buf HZ.out.2.1))
 go_wp2_with fail
 go_at_call 191
 refine HS.out.mono ?_
 rintro e w2 ⟨p2,l2,c2,rfl,hn2,hp2,hf2⟩
 have HN2:=Lh (And.intro hn2 (And.intro hp2 hf2));clear hn2 hp2 hf2
 go_wp2_with fail
 refine ⟨_,results_tmp2 rfl _ _ _,_,_,_,_,_,_,rfl,?_⟩
 obtain ⟨n1,n2,n3⟩:=HN.out
 obtain ⟨m1,m2,m3⟩:=HN2.out
 have hsz:=n3.size
 have hpr:∀ a,p=some a→∀ a',rp=some a'→a.block≠a'.block:=by
  intro a ha a' ha'
  rcases n2 with e | ⟨b,e,hb⟩ | e
  ·exact fun e2=>hzr'.out a.block ⟨a,e ▸ ha,rfl⟩ a' ha' e2.symm
  ·rw [ha] at e;cases e
   have hb2:=HZ.out.2.1;rw [ha'] at hb2
   have:=hb2.2.2.2.2.2.lt
   simp only;omega
  ·rw [e] at ha;cases ha
 refine ⟨m3.nt n1 (fun a ha=>by rintro ⟨a',ha',e⟩;exact hpr a ha a' ha' e.symm),HR0.out ▸ m1,n2,?_,?_,?_⟩
 ·rcases m2 with e | ⟨b,e,hb⟩ | e
  ·exact .inl e
  ·exact .inr (.inl ⟨b,e,by omega⟩)
  ·exact .inr (.inr e)
 ·cases hp:p with
  | none=>rfl
  | some a =>
   cases hp2:p2 with
   | none=>rfl
   | some a' =>
    have:a.block≠a'.block:=by
     rcases m2 with e | ⟨b,e,hb⟩ | e
     ·exact hpr a hp a' (by rw [← e,hp2])
     ·rw [hp2] at e;cases e
      have hb2:=n1.1;rw [hp] at hb2
      have:=hb2.2.2.2.2.2.lt
      simp only;omega
     ·rw [hp2] at e;cases e
    simp [same,this]
 ·exact (n3.mono (fun k _ e=>.inl e)).trans' m3 (fun i _ e=>.inr e)
theorem Q7J (zp:Option Addr)(zl zc:Nat)(rp:Option Addr)(rl rc:Nat)(xp:Option Addr)(m cx x:Nat)(yp:Option Addr)(n cy y:Nat)(w:World)(hz:Buf w zp zl zc)(hr:Buf w rp rl rc)(hzr:same zp rp=false)(hx:Nt w xp m cx x)(hm:m+5≤CAP)(hy:Nt w yp n cy y)(hn:2≤n)(hlt:x<y) :
  Calls Tryz.prog 171 #[.slice zp zl zc,.pointer none,.slice rp rl rc,.slice xp m cx,.slice yp n cy] w (DivRes w zp rp (x / y) (x % y)):=by
 have hc1:cmpI x y = -1:=by unfold cmpI;rw [if_pos hlt]
 have HC:=Lh (Q3W xp yp m cx n cy x y w hx hy)
 rw [hc1] at HC
 have hzc:=Q0U hz
 have hg1:((n:Int) == 0)=false:=by simp;omega
 have hg2:((n:Int) == 1)=false:=by simp;omega
 have hS:∀ q,Hid (Calls Tryz.prog 183 #[.slice rp rl rc,.slice xp m cx] (w.drewN q) (NatRes (w.drewN q) rp x)):=fun q=>Q0T rp rl rc xp m cx x (w.drewN q) (hr.drewN q) (hx.drewN q) (by omega)
 have HS:=Lh hS;clear hS
 have HZ:=Lh (And.intro (Nt.zero_of hz) (And.intro hr hzr))
 have hl:=Nt.len_le hx
 have hl2:=Nt.len_le hy
 unfold CAP at hzc hl hl2
 rw [Nat.div_eq_of_lt hlt,Nat.mod_eq_of_lt hlt]
 clear hz hr hzr hx hy hc1 hlt
 go_enter_defers Tryz.func171,Tryz.ntmps171
 go_wp2_with fail
 go_at_call 170
 refine HC.out.mono ?_
 rintro e w1 ⟨rfl,q,hw1⟩
 have HW1:=Lh hw1;clear hw1
 have HSq:=HS.out q
 rw [← HW1.out] at HSq
 go_wp2_with fail
 go_at_call 183
 refine HSq.out.mono ?_
 rintro e w2 ⟨p2,l2,c2,rfl,hn2,hp2,hf2⟩
 have HN2:=Lh (And.intro hn2 (And.intro hp2 hf2));clear hn2 hp2 hf2
 go_wp2_with fail
 refine ⟨_,results_tmp2 rfl _ _ _,_,_,_,_,_,_,rfl,?_⟩
 obtain ⟨m1,m2,m3⟩:=HN2.out
 rw [HW1.out] at m2 m3
 obtain ⟨z1,z2,z3⟩:=HZ.out
 have hne:∀ a,zp=some a→¬ (∃ a',rp=some a'∧a'.block=a.block):=by
  rintro a ha ⟨a',ha',e⟩
  rw [ha,ha'] at z3
  simp [same,e] at z3
 have m3':=Fr.drewN_l m3
 refine ⟨m3'.nt z1 hne,m1,.inl rfl,m2,?_,m3'.mono (fun k _ e=>.inr e)⟩
 cases hp:zp with
 | none=>rfl
 | some a =>
  cases hp2:p2 with
  | none=>rfl
  | some a' =>
   have:a.block≠a'.block:=by
    rcases m2 with e | ⟨b,e,hb⟩ | e
    ·intro e2;exact hne a hp ⟨a',by rw [← e,hp2],e2.symm⟩
    ·rw [hp2] at e;cases e
     have hb2:=z1.1;rw [hp] at hb2
     have h3:a.block<w.heap.size:=hb2.2.2.2.2.2.lt
     have hb':w.heap.size≤b:=hb
     simp only;omega
    ·rw [hp2] at e;cases e
   simp [same,this]
theorem Q7K (zp:Option Addr)(zl zc:Nat)(rp:Option Addr)(rl rc:Nat)(xp:Option Addr)(L cx x:Nat)(yp:Option Addr)(n cy y:Nat)(w:World)(hz:Buf w zp zl zc)(hr:Buf w rp rl rc)(hx:Nt w xp L cx x)(hm:L+25≤CAP)(hy:Nt w yp n cy y)(hn:2≤n)(hn40:n<40)(hle:y≤x)
  (hg:GK w) (h12:12≤w.heap.size) (bz:∀ a,zp=some a→12≤a.block) (br:∀ a,rp=some a→12≤a.block) :
  Calls Tryz.prog 171 #[.slice zp zl zc,.pointer none,.slice rp rl rc,.slice xp L cx,.slice yp n cy] w (DivRes w zp rp (x / y) (x % y)):=by
 have hnL:n≤L:=by
  rcases Nat.lt_or_ge L n with h | h
  ·have:=hx.lt_of_len hy h;omega
  ·exact h
 obtain ⟨bx,rfl,x1,x2,x3,x4,x5,x6,x7⟩:=hx.pos_form (by omega)
 obtain ⟨by_,rfl,y1,y2,y3,y4,y5,y6,y7⟩:=hy.pos_form (by omega)
 clear x1 x2 x3 x4 x5 x6 x7 y1 y2 y3 y4 y5 y6 y7
 obtain ⟨m,rfl⟩:∃ m,L=m+n:=⟨L - n,by omega⟩
 have hc1:0≤cmpI x y:=by unfold cmpI;rw [if_neg (by omega)];split <;> omega
 have HC:=Lh (Q3W (some ⟨bx,0,none⟩) (some ⟨by_,0,none⟩) (m+n) cx n cy x y w hx hy)
 obtain ⟨cc,hcc⟩:∃ cc,cc=cmpI x y:=⟨_,rfl⟩
 rw [← hcc] at HC hc1
 clear hcc
 have hg1:((n:Int) == 0)=false:=by simp;omega
 have hg2:((n:Int) == 1)=false:=by simp;omega
 have hg3:¬ cc<0:=by omega
 have hl:=Nt.len_le hx
 have hl2:=Nt.len_le hy
 have HA:=Lh (And.intro hx (And.intro hy (And.intro hz (And.intro hr (And.intro hg (And.intro h12 (And.intro bz br)))))))
 have HM:=Lh hm
 unfold CAP at hm hl hl2
 clear hz hr hx hy hc1 hg h12 bz br hle
 go_enter_defers Tryz.func171,Tryz.ntmps171
 go_wp2_with fail
 go_at_call 170
 refine HC.out.mono ?_
 rintro e w1 ⟨rfl,q,hw1⟩
 have HB:Hid (Nt w1 (some ⟨bx,0,none⟩) (m+n) cx x∧Nt w1 (some ⟨by_,0,none⟩) n cy y∧Buf w1 zp zl zc∧Buf w1 rp rl rc∧GK w1∧12≤w1.heap.size∧Fr (fun _=>False) w w1∧w1.heap.size=w.heap.size):=by
  obtain ⟨h1,h2,h3,h4,h5,h6,_⟩:=HA.out
  subst hw1
  exact ⟨h1.drewN _,h2.drewN _,h3.drewN _,h4.drewN _,h5.drewN _,h6,(Fr.refl _ _).drewN _,rfl⟩
 clear hw1
 go_wp2_with fail
 go_at_call 192
 refine (Q0V w1).mono ?_
 rintro e w2 ⟨rfl,hw2⟩
 have HD:Hid (DL w2 w1.heap.size zp zl zc rp rl rc bx cx by_ cy n m x y∧Fr (fun _=>False) w1 w2∧w2.heap.size=w1.heap.size+1):=by
  obtain ⟨h1,h2,h3,h4,h5,h6,h7,h8⟩:=HB.out
  obtain ⟨_,_,_,_,_,_,k1,k2⟩:=HA.out
  have hf:Fr (fun _=>False) w1 w2:=by rw [hw2];exact Fr.alloc _ _ _
  refine ⟨⟨hn,hn40,by have:=HM.out;omega,?_,hf.buf h3,hf.buf h4,hf.nt h1 (fun _ _ h=>h),hf.nt h2 (fun _ _ h=>h),hf.gk h5 (fun _ h=>h.elim),k1,k2,h6⟩,hf,by rw [hw2];simp⟩
  rw [hw2]
  refine ⟨Row.of_block (Q23 _ _),?_,rfl⟩
  simp
 clear hw2
 have HDv:=Lh (Q42 w1.heap.size zp zl zc rp rl rc bx cx by_ cy n m x y w2 HD.out.1)
 go_wp2_with fail
 go_at_call 194
 have e1:(m:Int)+(n:Int)=((m+n:Nat):Int):=by omega
 refine HDv.out.mono ?_
 rintro e w3 ⟨p,l,c,p2,l2,c2,rfl,n1,n2,n3,n4,n5,n6,st,off,n7,n8⟩
 have HE:=Lh (And.intro n1 (And.intro n2 (And.intro n3 (And.intro n4 (And.intro n5 (And.intro n6 (And.intro n7 n8)))))))
 clear n1 n2 n3 n4 n5 n6 n7 n8 e1
 go_wp2_with fail
 refine leaves_cons (f:=193) (args:=#[.pointer (some ⟨w1.heap.size,0,none⟩)]) (by simp) (by simp [go_sem]) ?_
 refine (Q0E w1.heap.size st off .returning w3 HE.out.2.2.2.2.2.2.1).mono ?_
 rintro e u' w4 ⟨rfl,rfl,hw,hf⟩
 refine ⟨_,results_tmp2 rfl _ _ _,_,_,_,_,_,_,rfl,?_⟩
 obtain ⟨n1,n2,n3,n4,n5,n6,n7,n8⟩:=HE.out
 obtain ⟨h1,h2,h3,h4,h5,h6,h7,h8⟩:=HB.out
 obtain ⟨_,d2,d3⟩:=HD.out
 have hne:∀ {q l c v},Nt w3 q l c v→∀ a,q=some a→¬ sHead st a.block:=by
  rintro q l c v hN a rfl ⟨ib,rb,rfl,e⟩
  obtain ⟨_,_,k3,_⟩:=n7
  have:=hN.1.2.2.2.2.2
  rw [e] at this
  exact Q08 this k3 (by decide) rfl
 have hnew:∀ k,sHead st k→w.heap.size≤k:=by
  rintro k ⟨ib,rb,rfl,rfl⟩
  rcases n8 k (.inr (.inl rfl)) with e | e <;> omega
 have hloc:∀ {q zp:Option Addr},(q=zp∨(∃ b,q=some ⟨b,0,none⟩∧w2.heap.size≤b)∨q=none)→(q=zp∨(∃ b,q=some ⟨b,0,none⟩∧w.heap.size≤b)∨q=none):=by
  rintro q zp (e | ⟨b,e,hb⟩ | e)
  ·exact .inl e
  ·exact .inr (.inl ⟨b,e,by omega⟩)
  ·exact .inr (.inr e)
 refine ⟨hf.nt n1 (hne n1),hf.nt n2 (hne n2),hloc n3,hloc n4,n5,?_⟩
 have f1:Fr (fun k=>(∃ a,zp=some a∧a.block=k)∨(∃ a,rp=some a∧a.block=k)) w w2:=(h7.mono (fun _ _ e=>e.elim)).trans (d2.mono (fun _ _ e=>e.elim))
 refine (f1.trans' n6 ?_).trans' hf (fun i hi e=>?_)
 ·rintro i hi (e | e | e)
  ·exact .inl e
  ·exact .inr e
  ·omega
 ·have:=hnew i e;omega
theorem Q92 (zp:Option Addr)(zl zc:Nat)(rp:Option Addr)(rl rc:Nat)(xp:Option Addr)(m cx x:Nat)(yp:Option Addr)(n cy y:Nat)(w:World)(hz:Buf w zp zl zc)(hr:Buf w rp rl rc)(hzr:same zp rp=false)(hx:Nt w xp m cx x)(hm:m+25≤CAP)(hy:Nt w yp n cy y)(hy0:y≠0)(hn40:n<40)
  (hg:GK w) (h12:12≤w.heap.size) (bz:∀ a,zp=some a→12≤a.block) (br:∀ a,rp=some a→12≤a.block) :
  Calls Tryz.prog 171 #[.slice zp zl zc,.pointer none,.slice rp rl rc,.slice xp m cx,.slice yp n cy] w (DivRes w zp rp (x / y) (x % y)):=by
 have hn0:n≠0:=fun e=>hy0 (hy.zero_iff.1 e)
 by_cases h1:n=1
 ·subst h1
  obtain ⟨b,rfl,_⟩:=hy.pos_form (by omega)
  exact Q91 zp zl zc rp rl rc xp m cx x b cy y w hz hr hzr hx (by omega) hy
 ·by_cases h2:x<y
  ·exact Q7J zp zl zc rp rl rc xp m cx x yp n cy y w hz hr hzr hx (by omega) hy (by omega) h2
  ·exact Q7K zp zl zc rp rl rc xp m cx x yp n cy y w hz hr hx hm hy (by omega) hn40 (by omega) hg h12 bz br
theorem Q2B (zp:Option Addr)(zl zc:Nat)(rp:Option Addr)(rl rc:Nat)(xp:Option Addr)(m cx x:Nat)(yp:Option Addr)(n cy y:Nat)(w:World)(hz:Buf w zp zl zc)(hr:Buf w rp rl rc)(hzr:same zp rp=false)(_:same rp xp=false)(hx:Nt w xp m cx x)(hm:m+25≤CAP)(hy:Nt w yp n cy y)(hy0:y≠0)(hn40:n<40)
  (hg:GK w) (h12:12≤w.heap.size) (bz:∀ a,zp=some a→12≤a.block) (br:∀ a,rp=some a→12≤a.block) :
  Calls Tryz.prog 171 #[.slice zp zl zc,.pointer none,.slice rp rl rc,.slice xp m cx,.slice yp n cy] w (DivRes w zp rp (x / y) (x % y)) :=
 Q92 zp zl zc rp rl rc xp m cx x yp n cy y w hz hr hzr hx hm hy hy0 hn40 hg h12 bz br
end Go.Proofs.YtpebcmfpehdafaaGreatDoor
