/- a part of the proof -/
import Derived.Deep.CutBlock
import Derived.Test.YtpebcmfpehdafaaGreatDoorZ23
import Derived.Test.YtpebcmfpehdafaaGreatDoorZ30
set_option linter.all false
set_option maxRecDepth 100000
set_option maxHeartbeats 16000000
namespace Go.Proofs.YtpebcmfpehdafaaGreatDoor
open Go Go.RowKit
theorem Q0l {x:Int}(h : -2147483648≤x)(h2:x≤2147483647):IntKind.i32.wrap x=x:=IntWalk.i32_in x ⟨h,h2⟩
def Rdn (c k q:Nat):Prop:=q≠0∧q<18446744073709551616∧k≤20∧strp c=((strp q).1,(strp q).2+k)
theorem Q3f {W:World}{σ:Sg}{w:World}(h:St W σ w){b bx:Nat}{f:Int}{nd n:Bool}{ed e cd:Int}{c:Nat}(hb:σ b=some (.dec f nd ed cd))(hx:σ bx=some (.dec 0 n e (c:Int)))(h0:c≠0)(hc:c<BB)(he:e.natAbs≤100000) :
  Calls Tryz.prog 67 #[.pointer (some ⟨b,0,none⟩),.pointer (some ⟨bx,0,none⟩)] w fun r w'=>r=.returned (.tuple #[.pointer (some ⟨b,0,none⟩),.int .i64 ((strp c).2:Int)])∧St W (upd σ b (.dec 0 n (e+(strp c).2) ((strp c).1:Int))) w':=by
 have HSg:=Lh (QK h hx)
 have hsg:decSgn 0 n c=if n then -1 else 1:=by unfold decSgn;rw [if_neg (by omega)]
 rw [hsg] at HSg
 obtain ⟨x0,_,_,_,_,_⟩:=h.dec hx
 have HSet:=Lh (Q8u h hb hx (by rw [Int.natAbs_natCast];exact Nat.lt_of_lt_of_le hc (by have:=Nat.pow_le_pow_right (show 0<BB by unfold BB;decide) (show 1≤100 by decide);simpa using this)))
 have HU:Hid (∀ w1,St W (upd σ b (.dec 0 n e (c:Int))) w1→Calls Tryz.prog 115 #[.pointer (some ⟨b,3,none⟩)] w1 fun r w'=>r=.returned (.bool true)∧w'=w1):=Lh (fun w1 q=>by
  have:=Q2i (Q2h q (Num.dec (Q1 _ _ _)))
  rw [decide_eq_true hc] at this
  exact this)
 have HV:Hid (∀ w1,St W (upd σ b (.dec 0 n e (c:Int))) w1→Calls Tryz.prog 116 #[.pointer (some ⟨b,3,none⟩)] w1 fun r w'=>r=.returned (.int .u64 (c:Int))∧w'=w1):=Lh (fun w1 q=>Q7i (Q7h q (Num.dec (Q1 _ _ _)) hc))
 have hs:=Q4q h0
 have hle:=Q2I h0
 have hnd:ndg c≤20:=Q09 (by decide) (Nat.lt_trans hc (by unfold BB;decide))
 have HF:=Lh (And.intro hs (And.intro hle hnd));have HCB:=Lh hc;have HE0:=Lh he
 clear hsg hx hb hs hle hnd hc he
 cases n
 ·go_enter Tryz.func67, Tryz.ntmps67
  go_wp2_with fail
  refine HSg.out.mono ?_
  rintro r w_ ⟨rfl,hw_⟩
  subst hw_
  clear HSg
  go_wp2_with fail
  refine HSet.out.mono ?_
  rintro r w1 ⟨rfl,_,q1⟩
  have H1:=Lh q1;clear q1 HSet x0 h
  go_wp2_with fail
  refine (HU.out _ H1.out).mono ?_
  rintro r w2 ⟨rfl,hw2⟩
  subst hw2
  clear HU
  go_wp2_with fail
  refine (HV.out _ H1.out).mono ?_
  rintro r w3 ⟨rfl,hw3⟩
  subst hw3
  clear HV
  have HR0:Hid (Rdn c 0 c):=Lh ⟨h0,by have:=HCB.out;unfold BB at this;exact this,Nat.zero_le _,rfl⟩
  clear h0
  go_upto_block 1 with (fail)
  go_cut [6,8] from 44 to 54 (fun kk i wx=>∃ k q:Nat,kk=.int .i64 (k:Int)∧i=.int .u64 (q:Int)∧Rdn c k q∧wx=w3)
  case first =>
   go_wp2_with fail
   go_loopw [6,8] (fun kk i wx=>∃ k q:Nat,kk=.int .i64 (k:Int)∧i=.int .u64 (q:Int)∧Rdn c k q∧wx=w3) (fun _ i _=>(intOf i).toNat)
   case atStart=>exact ⟨0,c,rfl,rfl,HR0.out,rfl⟩
   case round =>
    obtain ⟨k,q,rfl,rfl,hR,rfl⟩:=hrel
    have HR:=Lh hR
    have hq0:q<18446744073709551616:=hR.2.1
    clear hR HR0
    by_cases a:10000≤q
    ·have a1:(10000:Int)≤(q:Int):=by omega
     by_cases bq:q % 10000=0
     ·have HN:Hid (Rdn c (k+4) (q / 10000)):=Lh (by
       obtain ⟨r1,r2,r3,r4⟩:=HR.out
       obtain ⟨_,⟨_,g2⟩,g3⟩:=HF.out
       have e4:=Q3O r1 bq
       rw [e4] at r4
       have r5:(strp c).2=(strp (q / 10000)).2+4+k:=by rw [r4]
       exact ⟨by omega,by omega,by omega,by rw [r4,show (strp (q / 10000)).2+4+k=(strp (q / 10000)).2+(k+4) by omega]⟩)
      have hq1:q≠0:=HR.out.1
      have c3:q / 10000<q:=by omega
      have hm:((q:Int) % 10000 == 0)=true:=by rw [show (q:Int) % 10000=0 by omega];rfl
      have h8:k≤20:=HR.out.2.2.1
      clear bq
      go_wp2_with fail
      have c1:((k:Int)+4)=((k+4:Nat):Int):=by omega
      have c2:((q:Int) / 10000)=((q / 10000:Nat):Int):=by omega
      refine ⟨⟨k+4,q / 10000,by rw [c1],by rw [c2],HN.out,trivial⟩,?_⟩
      rw [c2]
      simp only [intOf]
      omega
     ·have hm:((q:Int) % 10000 == 0)=false:=by rw [beq_eq_false_iff_ne];omega
      clear bq
      go_wp2_with fail
      go_meet
      exact ⟨k,q,rfl,rfl,HR.out,rfl⟩
    ·have a1:¬ (10000:Int)≤(q:Int):=by omega
     go_wp2_with fail
     go_meet
     exact ⟨k,q,rfl,rfl,HR.out,rfl⟩
  case rest =>
   obtain ⟨k0,q0,rfl,rfl,hR,rfl⟩:=hcut
   have HR1:=Lh hR
   clear hR HR0
   go_upto_block 3 with (fail)
   go_cut [6,8] from 55 to 61 (fun kk i wx=>∃ k q:Nat,kk=.int .i64 (k:Int)∧i=.int .u64 (q:Int)∧(Rdn c k q∧q % 10≠0)∧wx=wc)
   case first =>
    go_wp2_with fail
    go_loopw [6,8] (fun kk i wx=>∃ k q:Nat,kk=.int .i64 (k:Int)∧i=.int .u64 (q:Int)∧Rdn c k q∧wx=wc) (fun _ i _=>(intOf i).toNat)
    case atStart=>exact ⟨k0,q0,rfl,rfl,HR1.out,rfl⟩
    case round =>
     obtain ⟨k,q,rfl,rfl,hR,rfl⟩:=hrel
     have HR:=Lh hR
     have hq0:q<18446744073709551616:=hR.2.1
     clear hR HR1
     by_cases bq:q % 10=0
     ·have HN:Hid (Rdn c (k+1) (q / 10)):=Lh (by
       obtain ⟨r1,r2,r3,r4⟩:=HR.out
       obtain ⟨_,⟨_,g2⟩,g3⟩:=HF.out
       have e4:=Q1t r1 bq
       rw [e4] at r4
       have r5:(strp c).2=(strp (q / 10)).2+1+k:=by rw [r4]
       exact ⟨by omega,by omega,by omega,by rw [r4,show (strp (q / 10)).2+1+k=(strp (q / 10)).2+(k+1) by omega]⟩)
      have hq1:q≠0:=HR.out.1
      have c3:q / 10<q:=by omega
      have hm:((q:Int) % 10 == 0)=true:=by rw [show (q:Int) % 10=0 by omega];rfl
      have h8:k≤20:=HR.out.2.2.1
      clear bq
      go_wp2_with fail
      have c1:((k:Int)+1)=((k+1:Nat):Int):=by omega
      have c2:((q:Int) / 10)=((q / 10:Nat):Int):=by omega
      refine ⟨⟨k+1,q / 10,by rw [c1],by rw [c2],HN.out,trivial⟩,?_⟩
      rw [c2]
      simp only [intOf]
      omega
     ·have HQ:=Lh bq
      have hm:((q:Int) % 10 == 0)=false:=by rw [beq_eq_false_iff_ne];omega
      clear bq
      go_wp2_with fail
      go_meet
      exact ⟨k,q,rfl,rfl,⟨HR.out,HQ.out⟩,rfl⟩
   case rest =>
    obtain ⟨k,q,rfl,rfl,⟨hR,hq⟩,rfl⟩:=hcut
    have hst:strp q=(q,0):=QW (by omega)
    have hs2:strp c=(q,k):=by
     have h4:=hR.2.2.2
     rw [hst] at h4
     rw [h4,Nat.zero_add]
    have hcq:k=0→c=q:=by
     intro hk
     have:=HF.out.1.2.2
     rw [hs2,hk] at this
     simpa using this
    have HS2:=Lh hs2
    have hqb:q<BB:=by unfold BB;exact hR.2.1
    have HQB:=Lh hqb
    have hk20:k≤20:=hR.2.2.1
    clear hR hst hs2 hqb HR1 hq
    by_cases hk:k=0
    ·obtain rfl:=hcq hk
     subst hk
     go_wp2_with fail
     go_ret2
     refine ⟨by rw [HS2.out];rfl,?_⟩
     rw [HS2.out]
     have:=H1.out
     simpa using this
    ·have hk1:((k:Int) != 0)=true:=by simp;omega
     have hk2:((k:Int) == 0)=false:=by simp;omega
     have he2:=HE0.out
     have hw1:IntKind.i32.wrap (k:Int)=(k:Int):=Q0l (by omega) (by omega)
     have hw2:IntKind.i32.wrap (e+(k:Int))=e+(k:Int):=Q0l (by omega) (by omega)
     obtain ⟨_,_,d2,_,_,g2⟩:=H1.out.dec (Q1 _ _ _)
     have H2:=Lh (H1.out.setExp (Q1 _ _ _) (e+(k:Int))).upd2
     clear hcq he2 H1
     go_wp2_with fail
     refine (Q20 (Q1Z H2.out (Num.dec (Q1 _ _ _)) HQB.out)).mono ?_
     rintro r w5 ⟨rfl,q5⟩
     have q6:=q5.decN
     obtain ⟨_,d1,_,_,g1,_⟩:=q6.dec (Q1 _ _ _)
     have H3:=Lh (q6.setNeg (Q1 _ _ _) false).upd2
     clear q5 q6 H2
     go_wp2_with fail
     go_ret2
     refine ⟨by rw [HS2.out];rfl,?_⟩
     rw [HS2.out]
     exact H3.out
 ·go_enter Tryz.func67, Tryz.ntmps67
  go_wp2_with fail
  refine HSg.out.mono ?_
  rintro r w_ ⟨rfl,hw_⟩
  subst hw_
  clear HSg
  go_wp2_with fail
  refine HSet.out.mono ?_
  rintro r w1 ⟨rfl,_,q1⟩
  have H1:=Lh q1;clear q1 HSet x0 h
  go_wp2_with fail
  refine (HU.out _ H1.out).mono ?_
  rintro r w2 ⟨rfl,hw2⟩
  subst hw2
  clear HU
  go_wp2_with fail
  refine (HV.out _ H1.out).mono ?_
  rintro r w3 ⟨rfl,hw3⟩
  subst hw3
  clear HV
  have HR0:Hid (Rdn c 0 c):=Lh ⟨h0,by have:=HCB.out;unfold BB at this;exact this,Nat.zero_le _,rfl⟩
  clear h0
  go_upto_block 1 with (fail)
  go_cut [6,8] from 44 to 54 (fun kk i wx=>∃ k q:Nat,kk=.int .i64 (k:Int)∧i=.int .u64 (q:Int)∧Rdn c k q∧wx=w3)
  case first =>
   go_wp2_with fail
   go_loopw [6,8] (fun kk i wx=>∃ k q:Nat,kk=.int .i64 (k:Int)∧i=.int .u64 (q:Int)∧Rdn c k q∧wx=w3) (fun _ i _=>(intOf i).toNat)
   case atStart=>exact ⟨0,c,rfl,rfl,HR0.out,rfl⟩
   case round =>
    obtain ⟨k,q,rfl,rfl,hR,rfl⟩:=hrel
    have HR:=Lh hR
    have hq0:q<18446744073709551616:=hR.2.1
    clear hR HR0
    by_cases a:10000≤q
    ·have a1:(10000:Int)≤(q:Int):=by omega
     by_cases bq:q % 10000=0
     ·have HN:Hid (Rdn c (k+4) (q / 10000)):=Lh (by
       obtain ⟨r1,r2,r3,r4⟩:=HR.out
       obtain ⟨_,⟨_,g2⟩,g3⟩:=HF.out
       have e4:=Q3O r1 bq
       rw [e4] at r4
       have r5:(strp c).2=(strp (q / 10000)).2+4+k:=by rw [r4]
       exact ⟨by omega,by omega,by omega,by rw [r4,show (strp (q / 10000)).2+4+k=(strp (q / 10000)).2+(k+4) by omega]⟩)
      have hq1:q≠0:=HR.out.1
      have c3:q / 10000<q:=by omega
      have hm:((q:Int) % 10000 == 0)=true:=by rw [show (q:Int) % 10000=0 by omega];rfl
      have h8:k≤20:=HR.out.2.2.1
      clear bq
      go_wp2_with fail
      have c1:((k:Int)+4)=((k+4:Nat):Int):=by omega
      have c2:((q:Int) / 10000)=((q / 10000:Nat):Int):=by omega
      refine ⟨⟨k+4,q / 10000,by rw [c1],by rw [c2],HN.out,trivial⟩,?_⟩
      rw [c2]
      simp only [intOf]
      omega
     ·have hm:((q:Int) % 10000 == 0)=false:=by rw [beq_eq_false_iff_ne];omega
      clear bq
      go_wp2_with fail
      go_meet
      exact ⟨k,q,rfl,rfl,HR.out,rfl⟩
    ·have a1:¬ (10000:Int)≤(q:Int):=by omega
     go_wp2_with fail
     go_meet
     exact ⟨k,q,rfl,rfl,HR.out,rfl⟩
  case rest =>
   obtain ⟨k0,q0,rfl,rfl,hR,rfl⟩:=hcut
   have HR1:=Lh hR
   clear hR HR0
   go_upto_block 3 with (fail)
   go_cut [6,8] from 55 to 61 (fun kk i wx=>∃ k q:Nat,kk=.int .i64 (k:Int)∧i=.int .u64 (q:Int)∧(Rdn c k q∧q % 10≠0)∧wx=wc)
   case first =>
    go_wp2_with fail
    go_loopw [6,8] (fun kk i wx=>∃ k q:Nat,kk=.int .i64 (k:Int)∧i=.int .u64 (q:Int)∧Rdn c k q∧wx=wc) (fun _ i _=>(intOf i).toNat)
    case atStart=>exact ⟨k0,q0,rfl,rfl,HR1.out,rfl⟩
    case round =>
     obtain ⟨k,q,rfl,rfl,hR,rfl⟩:=hrel
     have HR:=Lh hR
     have hq0:q<18446744073709551616:=hR.2.1
     clear hR HR1
     by_cases bq:q % 10=0
     ·have HN:Hid (Rdn c (k+1) (q / 10)):=Lh (by
       obtain ⟨r1,r2,r3,r4⟩:=HR.out
       obtain ⟨_,⟨_,g2⟩,g3⟩:=HF.out
       have e4:=Q1t r1 bq
       rw [e4] at r4
       have r5:(strp c).2=(strp (q / 10)).2+1+k:=by rw [r4]
       exact ⟨by omega,by omega,by omega,by rw [r4,show (strp (q / 10)).2+1+k=(strp (q / 10)).2+(k+1) by omega]⟩)
      have hq1:q≠0:=HR.out.1
      have c3:q / 10<q:=by omega
      have hm:((q:Int) % 10 == 0)=true:=by rw [show (q:Int) % 10=0 by omega];rfl
      have h8:k≤20:=HR.out.2.2.1
      clear bq
      go_wp2_with fail
      have c1:((k:Int)+1)=((k+1:Nat):Int):=by omega
      have c2:((q:Int) / 10)=((q / 10:Nat):Int):=by omega
      refine ⟨⟨k+1,q / 10,by rw [c1],by rw [c2],HN.out,trivial⟩,?_⟩
      rw [c2]
      simp only [intOf]
      omega
     ·have HQ:=Lh bq
      have hm:((q:Int) % 10 == 0)=false:=by rw [beq_eq_false_iff_ne];omega
      clear bq
      go_wp2_with fail
      go_meet
      exact ⟨k,q,rfl,rfl,⟨HR.out,HQ.out⟩,rfl⟩
   case rest =>
    obtain ⟨k,q,rfl,rfl,⟨hR,hq⟩,rfl⟩:=hcut
    have hst:strp q=(q,0):=QW (by omega)
    have hs2:strp c=(q,k):=by
     have h4:=hR.2.2.2
     rw [hst] at h4
     rw [h4,Nat.zero_add]
    have hcq:k=0→c=q:=by
     intro hk
     have:=HF.out.1.2.2
     rw [hs2,hk] at this
     simpa using this
    have HS2:=Lh hs2
    have hqb:q<BB:=by unfold BB;exact hR.2.1
    have HQB:=Lh hqb
    have hk20:k≤20:=hR.2.2.1
    clear hR hst hs2 hqb HR1 hq
    by_cases hk:k=0
    ·obtain rfl:=hcq hk
     subst hk
     go_wp2_with fail
     go_ret2
     refine ⟨by rw [HS2.out];rfl,?_⟩
     rw [HS2.out]
     have:=H1.out
     simpa using this
    ·have hk1:((k:Int) != 0)=true:=by simp;omega
     have hk2:((k:Int) == 0)=false:=by simp;omega
     have he2:=HE0.out
     have hw1:IntKind.i32.wrap (k:Int)=(k:Int):=Q0l (by omega) (by omega)
     have hw2:IntKind.i32.wrap (e+(k:Int))=e+(k:Int):=Q0l (by omega) (by omega)
     obtain ⟨_,_,d2,_,_,g2⟩:=H1.out.dec (Q1 _ _ _)
     have H2:=Lh (H1.out.setExp (Q1 _ _ _) (e+(k:Int))).upd2
     clear hcq he2 H1
     go_wp2_with fail
     refine (Q20 (Q1Z H2.out (Num.dec (Q1 _ _ _)) HQB.out)).mono ?_
     rintro r w5 ⟨rfl,q5⟩
     have q6:=q5.decN
     obtain ⟨_,d1,_,_,g1,_⟩:=q6.dec (Q1 _ _ _)
     have H3:=Lh (q6.setNeg (Q1 _ _ _) true).upd2
     clear q5 q6 H2
     go_wp2_with fail
     go_ret2
     refine ⟨by rw [HS2.out];rfl,?_⟩
     rw [HS2.out]
     exact H3.out
theorem Q7k {W:World}{σ:Sg}{w:World}(h:St W σ w){bz bx:Nat}{vz:Int}{f:Int}{n:Bool}{e:Int}{c:Nat}(hz:σ bz=some (.big vz))(hx:σ bx=some (.dec f n e (c:Int)))(hc:c<BB^21) :
  Calls Tryz.prog 118 #[.pointer (some ⟨bx,0,none⟩),.pointer (some ⟨bz,0,none⟩)] w fun r w'=>r=.returned (.pointer (some ⟨bz,0,none⟩))∧St W (upd σ bz (.big (if n then -(c:Int) else (c:Int)))) w':=by
 have ne:bz≠bx:=by rintro rfl;rw [hz] at hx;cases hx
 have toU:∀ (τ:Sg) (u v:Int) w1,τ bz=some (.big u)→St W (setN τ bz v) w1→St W (upd τ bz (.big v)) w1:=fun τ u v w1 ht q=>q.ext fun k=>by
  by_cases e:k=bz
  ·subst e;rw [Q1,QQ ht]
  ·rw [Qa _ _ e,Qh _ _ e]
 have HS:Hid (∀ w1,SM w w1→Calls Tryz.prog 119 #[.pointer (some ⟨bz,0,none⟩),.pointer (some ⟨bx,3,none⟩)] w1 fun r w'=>r=.returned (.pointer (some ⟨bz,0,none⟩))∧w'.cell? ⟨bx,1,none⟩=some (.bool n)∧St W (upd σ bz (.big (c:Int))) w'):=Lh (fun w1 hw=>by
  refine Q1i ((QS (h.sm hw).drew (Num.big hz) (Num.dec hx) ne (by rw [Int.natAbs_natCast];exact Q0B hc (by decide))).mono ?_)
  rintro r w' ⟨rfl,q⟩
  have q2:=toU _ _ _ _ hz q
  exact ⟨rfl,(q2.dec (by rw [Qa _ _ ne.symm];exact hx)).2.1,q2⟩)
 have HN:Hid (∀ w1,St W (upd σ bz (.big (c:Int))) w1→Calls Tryz.prog 128 #[.pointer (some ⟨bz,0,none⟩),.pointer (some ⟨bz,0,none⟩)] w1 fun r w'=>r=.returned (.pointer (some ⟨bz,0,none⟩))∧St W (upd σ bz (.big (-(c:Int)))) w'):=Lh (fun w1 q=>by
  refine Q9M ((Q56 q.drew (Num.big (Q1 _ _ _))).mono ?_)
  rintro r w' ⟨rfl,q2⟩
  exact ⟨rfl,(toU _ _ _ _ (Q1 _ _ _) q2).upd2⟩)
 have HM:=Lh (SM.refl w)
 clear h hz hx hc ne toU
 cases n
 ·go_enter Tryz.func118, Tryz.ntmps118
  go_wp2_with fail
  refine (HS.out _ (by exact ⟨rfl,rfl,rfl,rfl⟩)).mono ?_
  rintro r w1 ⟨rfl,x1,q1⟩
  have H1:=Lh q1;clear q1 HS
  go_wp2_with fail
  go_ret
  exact ⟨rfl,H1.out⟩
 ·go_enter Tryz.func118, Tryz.ntmps118
  go_wp2_with fail
  refine (HS.out _ (by exact ⟨rfl,rfl,rfl,rfl⟩)).mono ?_
  rintro r w1 ⟨rfl,x1,q1⟩
  have H1:=Lh (HN.out _ q1);clear q1 HS
  go_wp2_with fail
  refine H1.out.mono ?_
  rintro r w2 ⟨rfl,q2⟩
  have H2:=Lh q2;clear q2 H1
  go_wp2_with fail
  go_ret
  exact ⟨rfl,H2.out⟩
def RL (σ τ:Sg)(b bz br:Nat)(n:Bool)(e:Int)(q:Nat)(vz vr:Int):Prop :=
 τ b=some (.dec 0 n e (q:Int))∧τ bz=some (.big vz)∧τ br=some (.big vr)∧(∀ k o,k≠b→σ k=some o→τ k=some o)∧(σ bz=none∧σ br=none)∧bz≠br∧b≠bz∧b≠br
theorem Q8x {W:World}{σ τ:Sg}{w:World}{b bz br bt q:Nat}{n:Bool}{e vz vr:Int}(hW:GW W)(hR:RL σ τ b bz br n e q vz vr)(ht:τ bt=none)(h:St W (upd τ bt (.big 10)) w)(hq:q<BB^21) :
  Calls Tryz.prog 94 #[.pointer (some ⟨bz,0,none⟩),.pointer (some ⟨b,3,none⟩),.pointer (some ⟨bt,0,none⟩),.pointer (some ⟨br,0,none⟩)] w fun r w'=>r=.returned (.tuple #[.pointer (some ⟨bz,0,none⟩),.pointer (some ⟨br,0,none⟩)])∧∃ τ',St W τ' w'∧RL σ τ' b bz br n e q ((q / 10:Nat):Int) ((q % 10:Nat):Int):=by
 obtain ⟨c1,c2,c3,c4,⟨n1,n2⟩,e1,e2,e3⟩:=hR
 have t1:b≠bt:=by rintro rfl;rw [c1] at ht;cases ht
 have t2:bz≠bt:=by rintro rfl;rw [c2] at ht;cases ht
 have t3:br≠bt:=by rintro rfl;rw [c3] at ht;cases ht
 refine Q1r ((Q0K hW h.drew (y:=10) (Num.big (by rw [Qa _ _ t2];exact c2)) (Num.big (by rw [Qa _ _ t3];exact c3)) (Num.dec (by rw [Qa _ _ t1];exact c1)) e1 e2.symm e3.symm (Num.big (Q1 _ _ _)) t2 t3 (by decide) (Q0B hq (by decide)) (by unfold BB;decide)).mono ?_)
 rintro r w' ⟨rfl,k⟩
 refine ⟨rfl,_,k,?_,?_,?_,?_,⟨n1,n2⟩,e1,e2,e3⟩
 ·rw [Qh _ _ e3,Qh _ _ e2,Qa _ _ t1];exact c1
 ·rw [Qh _ _ e1];exact QQ (by rw [Qa _ _ t2];exact c2) _
 ·exact QQ (by rw [Qh _ _ e1.symm,Qa _ _ t3];exact c3) _
 ·intro x o hx ho
  have x1:x≠bz:=by rintro rfl;rw [n1] at ho;cases ho
  have x2:x≠br:=by rintro rfl;rw [n2] at ho;cases ho
  have x3:x≠bt:=by rintro rfl;rw [c4 _ _ hx ho] at ht;cases ht
  rw [Qh _ _ x2,Qh _ _ x1,Qa _ _ x3];exact c4 _ _ hx ho
theorem Q6o {W:World}{σ τ:Sg}{w:World}{b bz br q R:Nat}{n:Bool}{e vz:Int}(hR:RL σ τ b bz br n e q vz (R:Int))(h:St W τ w) :
  Calls Tryz.prog 95 #[.pointer (some ⟨br,0,none⟩)] w fun r w'=>r=.returned (.int .i64 (if R=0 then 0 else 1))∧St W τ w' :=
 (Q13 (Q0Z h (Num.big hR.2.2.1))).mono fun r w' ⟨a,k⟩=>⟨by rw [a];unfold signI;by_cases e:R=0 <;> simp [e],k ▸ h⟩
theorem Q8y {W:World}{σ τ:Sg}{w:World}{b bz br q Q:Nat}{n:Bool}{e vr:Int}(hR:RL σ τ b bz br n e q (Q:Int) vr)(h:St W τ w)(hQ:Q<BB^21) :
  Calls Tryz.prog 119 #[.pointer (some ⟨b,3,none⟩),.pointer (some ⟨bz,0,none⟩)] w fun r w'=>r=.returned (.pointer (some ⟨b,3,none⟩))∧∃ τ',St W τ' w'∧RL σ τ' b bz br n e Q (Q:Int) vr:=by
 obtain ⟨c1,c2,c3,c4,n0,e1,e2,e3⟩:=hR
 refine Q1i ((QS h.drew (Num.dec c1) (Num.big c2) e2 (by rw [Int.natAbs_natCast];exact Q0B hQ (by decide))).mono ?_)
 rintro r w' ⟨rfl,k⟩
 refine ⟨rfl,_,k,Q07 c1 _,by rw [Qh _ _ e2.symm];exact c2,by rw [Qh _ _ e3.symm];exact c3,fun x o hx ho=>?_,n0,e1,e2,e3⟩
 rw [Qh _ _ hx];exact c4 _ _ hx ho
theorem RL.done {W:World}{σ τ:Sg}{w:World}{b bz br q:Nat}{n:Bool}{e vz vr:Int}(hR:RL σ τ b bz br n e q vz vr)(h:St W τ w):St W (upd σ b (.dec 0 n e (q:Int))) w :=
 h.less fun x o hx=>by
  by_cases e:x=b
  ·subst e;rw [Q1] at hx;rw [← hx];exact hR.1
  ·rw [Qa _ _ e] at hx;exact hR.2.2.2.1 _ _ e hx
theorem Q8z {W:World}{σ:Sg}{w:World}{b:Nat}{n:Bool}{e:Int}{c:Nat}(h:St W (upd σ b (.dec 0 n e (c:Int))) w)(hc:c<BB^21) :
  ∃ bz br,bz=w.heap.size∧br=bz+1∧Calls Tryz.prog 118 #[.pointer (some ⟨b,0,none⟩),.pointer (some ⟨bz,0,none⟩)] ((w.alloc (.cells #[.bool false,.slice none 0 0] 69)).alloc (.cells #[.bool false,.slice none 0 0] 69)) fun r w'=>r=.returned (.pointer (some ⟨bz,0,none⟩))∧∃ τ vz,St W τ w'∧RL σ τ b bz br n e c vz 0:=by
 have n1:=h.none_new
 have h2:=h.alloc_big 69
 have n2:=h2.none_new
 have h3:=h2.alloc_big 69
 rw [Q01] at n2 h3
 obtain ⟨bz,hz⟩:∃ bz,bz=w.heap.size:=⟨_,rfl⟩
 rw [← hz] at n1 n2 h3
 obtain ⟨br,hr⟩:∃ br,br=bz+1:=⟨_,rfl⟩
 rw [← hr] at n2 h3
 have e1:bz≠br:=by omega
 rw [Qa _ _ e1.symm] at n2
 have e2:b≠bz:=by rintro rfl;rw [Q1] at n1;cases n1
 have e3:b≠br:=by rintro rfl;rw [Q1] at n2;cases n2
 rw [Qa _ _ e2.symm] at n1
 rw [Qa _ _ e3.symm] at n2
 refine ⟨bz,br,hz,hr,(Q7k h3 (bz:=bz) (bx:=b) (vz:=0) (by rw [Qa _ _ e1,Q1]) (by rw [Qa _ _ e3,Qa _ _ e2,Q1]) hc).mono ?_⟩
 rintro r w' ⟨rfl,q⟩
 refine ⟨rfl,_,_,q,by rw [Qa _ _ e2,Qa _ _ e3,Qa _ _ e2,Q1],Q1 _ _ _,by rw [Qa _ _ e1.symm,Q1],fun x o hx ho=>?_,⟨n1,n2⟩,e1,e2,e3⟩
 have x1:x≠bz:=by rintro rfl;rw [n1] at ho;cases ho
 have x2:x≠br:=by rintro rfl;rw [n2] at ho;cases ho
 rw [Qa _ _ x1,Qa _ _ x2,Qa _ _ x1,Qa _ _ hx];exact ho
def RdB (c k q:Nat):Prop:=q≠0∧q≤c∧k≤405∧strp c=((strp q).1,(strp q).2+k)
theorem Q3t {W:World}{σ:Sg}{w:World}(hW:GW W)(h:St W σ w){b bx:Nat}{f:Int}{nd n:Bool}{ed e cd:Int}{c:Nat}(hb:σ b=some (.dec f nd ed cd))(hx:σ bx=some (.dec 0 n e (c:Int)))(h0:c≠0)(hc:¬ c<BB)(hc2:c<BB^21)(he:e.natAbs≤100000) :
  Calls Tryz.prog 67 #[.pointer (some ⟨b,0,none⟩),.pointer (some ⟨bx,0,none⟩)] w fun r w'=>r=.returned (.tuple #[.pointer (some ⟨b,0,none⟩),.int .i64 ((strp c).2:Int)])∧St W (upd σ b (.dec 0 n (e+(strp c).2) ((strp c).1:Int))) w':=by
 have HSg:=Lh (QK h hx)
 have hsg:decSgn 0 n c=if n then -1 else 1:=by unfold decSgn;rw [if_neg (by omega)]
 rw [hsg] at HSg
 obtain ⟨x0,_,_,_,_,_⟩:=h.dec hx
 have HSet:=Lh (Q8u h hb hx (by rw [Int.natAbs_natCast];exact Q0B hc2 (by decide)))
 have HU:Hid (∀ w1,St W (upd σ b (.dec 0 n e (c:Int))) w1→Calls Tryz.prog 115 #[.pointer (some ⟨b,3,none⟩)] w1 fun r w'=>r=.returned (.bool false)∧w'=w1):=Lh (fun w1 q=>by
  have:=Q2i (Q2h q (Num.dec (Q1 _ _ _)))
  rw [decide_eq_false hc] at this
  exact this)
 have hs:=Q4q h0
 have hle:=Q2I h0
 have hnd:ndg c≤405:=QG hc2
 have HF:=Lh (And.intro hs (And.intro hle hnd));have HCB:=Lh hc2;have HE0:=Lh he
 have HR0:Hid (RdB c 0 c):=Lh ⟨h0,Nat.le_refl _,Nat.zero_le _,rfl⟩
 clear hsg hx hb hs hle hnd hc hc2 he h0 h
 cases n
 ·go_enter Tryz.func67, Tryz.ntmps67
  go_wp2_with fail
  refine HSg.out.mono ?_
  rintro r w_ ⟨rfl,hw_⟩
  subst hw_
  clear HSg
  go_wp2_with fail
  refine HSet.out.mono ?_
  rintro r w1 ⟨rfl,_,q1⟩
  have H1:=Lh q1;clear q1 HSet x0
  go_wp2_with fail
  refine (HU.out _ H1.out).mono ?_
  rintro r w2 ⟨rfl,hw2⟩
  subst hw2
  clear HU
  obtain ⟨bz,br,hz,hr,q2⟩:=Q8z H1.out HCB.out
  have H2:=Lh q2;clear q2 H1
  go_wp2_with fail
  rw [← hz,← hr]
  clear hz hr
  refine H2.out.mono ?_
  rintro r w3 ⟨rfl,τ0,v0,q3,hR⟩
  have H3:=Lh q3;have HL0:=Lh hR;clear q3 hR H2
  go_wp2_with fail
  go_loopw [6] (fun kk wx=>∃ (k q:Nat) (vz vr:Int) (τ:Sg),kk=.int .i64 (k:Int)∧RdB c k q∧RL σ τ b bz br false e q vz vr∧St W τ wx) (fun kk _=>1000 - (intOf kk).toNat)
  case atStart=>exact ⟨0,c,v0,0,τ0,rfl,HR0.out,HL0.out,H3.out⟩
  case round =>
   obtain ⟨k,q,vz,vr,τ,rfl,hB,hR,hS⟩:=hrel
   have HB:=Lh hB;have HL:=Lh hR;have HS:=Lh hS
   have h8:k≤405:=hB.2.2.1
   clear hB hR hS HR0 HL0 H3
   go_wp2_with fail
   refine AH.start (fun _=>True) (by kernel_rfl) ?_
   have HS1:=Lh HS.out.drew
   clear HS
   generalize wr.drew=w4 at HS1 ⊢
   refine AH.z 0 trivial ?_
   refine AH.z 1 trivial ?_
   refine AH.z 2 trivial ?_
   refine AH.o 3 (fun K hK=>?_)
   go_simp
   refine (Q0Q HS1.out).mono ?_
   rintro r w5 ⟨bt,rfl,ht,q5⟩
   have HQ:=Lh (Q8x hW HL.out ht q5 (Nat.lt_of_le_of_lt HB.out.2.1 HCB.out))
   refine hK _ _ trivial ?_
   clear hK K ht q5 HS1
   try simp only [Act.put,Zp_]
   refine AH.o 4 (fun K hK=>?_)
   go_simp
   refine HQ.out.mono ?_
   rintro r w6 ⟨rfl,τ1,q6,hR⟩
   have HS2:=Lh q6;have HL1:=Lh hR
   refine hK _ _ trivial ?_
   clear hK K q6 hR HQ HL
   try simp only [Act.put,Zp_]
   refine AH.done (by kernel_rfl) ?_
   go_wp2_with fail
   refine (Q6o HL1.out HS2.out).mono ?_
   rintro r w7 ⟨rfl,q7⟩
   have HS3:=Lh q7;clear q7 HS2
   by_cases bq:q % 10=0
   ·rw [if_pos bq]
    have HN:Hid (RdB c (k+1) (q / 10)):=Lh (by
     obtain ⟨r1,r2,r3,r4⟩:=HB.out
     obtain ⟨_,⟨_,g2⟩,g3⟩:=HF.out
     have e4:=Q1t r1 bq
     rw [e4] at r4
     have r5:(strp c).2=(strp (q / 10)).2+1+k:=by rw [r4]
     exact ⟨by omega,by omega,by omega,by rw [r4,show (strp (q / 10)).2+1+k=(strp (q / 10)).2+(k+1) by omega]⟩)
    have HQ2:=Lh (Q8y HL1.out HS3.out (Nat.lt_of_le_of_lt (Nat.le_trans (Nat.div_le_self q 10) HB.out.2.1) HCB.out))
    clear bq HS3 HL1
    go_wp2_with fail
    refine HQ2.out.mono ?_
    rintro r w8 ⟨rfl,τ2,q8,hR⟩
    have HS4:=Lh q8;have HL2:=Lh hR;clear q8 hR HQ2
    go_wp2_with fail
    have c1:((k:Int)+1)=((k+1:Nat):Int):=by omega
    refine ⟨⟨k+1,q / 10,_,_,τ2,by rw [c1],HN.out,HL2.out,HS4.out⟩,?_⟩
    simp only [intOf]
    omega
   ·rw [if_neg bq]
    have HS2:Hid (strp c=(q,k)):=Lh (by
     have h4:=HB.out.2.2.2
     rw [QW (c:=q) (by omega)] at h4
     rw [h4,Nat.zero_add])
    have H5:=Lh (HL1.out.done HS3.out)
    have he2:=HE0.out
    have hw1:IntKind.i32.wrap (k:Int)=(k:Int):=Q0l (by omega) (by omega)
    have hw2:IntKind.i32.wrap (e+(k:Int))=e+(k:Int):=Q0l (by omega) (by omega)
    obtain ⟨_,_,d2,_,_,g2⟩:=H5.out.dec (Q1 _ _ _)
    have H6:=Lh (H5.out.setExp (Q1 _ _ _) (e+(k:Int))).upd2
    clear bq he2 HS3 HL1 H5
    go_wp2_with fail
    go_ret2
    refine ⟨by rw [HS2.out];rfl,?_⟩
    rw [HS2.out]
    exact H6.out
 ·go_enter Tryz.func67, Tryz.ntmps67
  go_wp2_with fail
  refine HSg.out.mono ?_
  rintro r w_ ⟨rfl,hw_⟩
  subst hw_
  clear HSg
  go_wp2_with fail
  refine HSet.out.mono ?_
  rintro r w1 ⟨rfl,_,q1⟩
  have H1:=Lh q1;clear q1 HSet x0
  go_wp2_with fail
  refine (HU.out _ H1.out).mono ?_
  rintro r w2 ⟨rfl,hw2⟩
  subst hw2
  clear HU
  obtain ⟨bz,br,hz,hr,q2⟩:=Q8z H1.out HCB.out
  have H2:=Lh q2;clear q2 H1
  go_wp2_with fail
  rw [← hz,← hr]
  clear hz hr
  refine H2.out.mono ?_
  rintro r w3 ⟨rfl,τ0,v0,q3,hR⟩
  have H3:=Lh q3;have HL0:=Lh hR;clear q3 hR H2
  go_wp2_with fail
  go_loopw [6] (fun kk wx=>∃ (k q:Nat) (vz vr:Int) (τ:Sg),kk=.int .i64 (k:Int)∧RdB c k q∧RL σ τ b bz br true e q vz vr∧St W τ wx) (fun kk _=>1000 - (intOf kk).toNat)
  case atStart=>exact ⟨0,c,v0,0,τ0,rfl,HR0.out,HL0.out,H3.out⟩
  case round =>
   obtain ⟨k,q,vz,vr,τ,rfl,hB,hR,hS⟩:=hrel
   have HB:=Lh hB;have HL:=Lh hR;have HS:=Lh hS
   have h8:k≤405:=hB.2.2.1
   clear hB hR hS HR0 HL0 H3
   go_wp2_with fail
   refine AH.start (fun _=>True) (by kernel_rfl) ?_
   have HS1:=Lh HS.out.drew
   clear HS
   generalize wr.drew=w4 at HS1 ⊢
   refine AH.z 0 trivial ?_
   refine AH.z 1 trivial ?_
   refine AH.z 2 trivial ?_
   refine AH.o 3 (fun K hK=>?_)
   go_simp
   refine (Q0Q HS1.out).mono ?_
   rintro r w5 ⟨bt,rfl,ht,q5⟩
   have HQ:=Lh (Q8x hW HL.out ht q5 (Nat.lt_of_le_of_lt HB.out.2.1 HCB.out))
   refine hK _ _ trivial ?_
   clear hK K ht q5 HS1
   try simp only [Act.put,Zp_]
   refine AH.o 4 (fun K hK=>?_)
   go_simp
   refine HQ.out.mono ?_
   rintro r w6 ⟨rfl,τ1,q6,hR⟩
   have HS2:=Lh q6;have HL1:=Lh hR
   refine hK _ _ trivial ?_
   clear hK K q6 hR HQ HL
   try simp only [Act.put,Zp_]
   refine AH.done (by kernel_rfl) ?_
   go_wp2_with fail
   refine (Q6o HL1.out HS2.out).mono ?_
   rintro r w7 ⟨rfl,q7⟩
   have HS3:=Lh q7;clear q7 HS2
   by_cases bq:q % 10=0
   ·rw [if_pos bq]
    have HN:Hid (RdB c (k+1) (q / 10)):=Lh (by
     obtain ⟨r1,r2,r3,r4⟩:=HB.out
     obtain ⟨_,⟨_,g2⟩,g3⟩:=HF.out
     have e4:=Q1t r1 bq
     rw [e4] at r4
     have r5:(strp c).2=(strp (q / 10)).2+1+k:=by rw [r4]
     exact ⟨by omega,by omega,by omega,by rw [r4,show (strp (q / 10)).2+1+k=(strp (q / 10)).2+(k+1) by omega]⟩)
    have HQ2:=Lh (Q8y HL1.out HS3.out (Nat.lt_of_le_of_lt (Nat.le_trans (Nat.div_le_self q 10) HB.out.2.1) HCB.out))
    clear bq HS3 HL1
    go_wp2_with fail
    refine HQ2.out.mono ?_
    rintro r w8 ⟨rfl,τ2,q8,hR⟩
    have HS4:=Lh q8;have HL2:=Lh hR;clear q8 hR HQ2
    go_wp2_with fail
    have c1:((k:Int)+1)=((k+1:Nat):Int):=by omega
    refine ⟨⟨k+1,q / 10,_,_,τ2,by rw [c1],HN.out,HL2.out,HS4.out⟩,?_⟩
    simp only [intOf]
    omega
   ·rw [if_neg bq]
    have HS2:Hid (strp c=(q,k)):=Lh (by
     have h4:=HB.out.2.2.2
     rw [QW (c:=q) (by omega)] at h4
     rw [h4,Nat.zero_add])
    have H5:=Lh (HL1.out.done HS3.out)
    have he2:=HE0.out
    have hw1:IntKind.i32.wrap (k:Int)=(k:Int):=Q0l (by omega) (by omega)
    have hw2:IntKind.i32.wrap (e+(k:Int))=e+(k:Int):=Q0l (by omega) (by omega)
    obtain ⟨_,_,d2,_,_,g2⟩:=H5.out.dec (Q1 _ _ _)
    have H6:=Lh (H5.out.setExp (Q1 _ _ _) (e+(k:Int))).upd2
    clear bq he2 HS3 HL1 H5
    go_wp2_with fail
    go_ret2
    refine ⟨by rw [HS2.out];rfl,?_⟩
    rw [HS2.out]
    exact H6.out
end Go.Proofs.YtpebcmfpehdafaaGreatDoor
