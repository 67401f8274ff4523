/- a part of the proof -/
import Derived.Test.YtpebcmfpehdafaaGreatDoorZ1
set_option linter.all false
set_option maxRecDepth 100000
set_option maxHeartbeats 16000000
namespace Go.Proofs.YtpebcmfpehdafaaGreatDoor
open Go Go.RowKit
theorem Q41 (sb:Nat)(st:Option (Nat × Nat))(off bq cq bu cu bv ov cv n m s:Nat)(w:World)(h:DB w sb st off bq cq bu cu bv ov cv n m) :
  Calls Tryz.prog 230 #[.slice (some ⟨bq,0,none⟩) (m+1) cq,.pointer (some ⟨sb,0,none⟩),.slice (some ⟨bu,0,none⟩) (m+n+1) cu,.slice (some ⟨bv,ov,none⟩) n cv] w fun e w' =>
   e=.returned (.tuple #[])∧∃ st',Stk w' sb st' off∧(∀ k,sOwn sb st' k→sOwn sb st k∨w.heap.size≤k)∧IsW w' bq 0 (m+1)∧MV w' bq 0 (m+1)=MV w bu 0 (m+n+1) / MV w bv ov n ∧
    IsW w' bu 0 (m+n+1)∧MV w' bu 0 (m+n+1)=MV w bu 0 (m+n+1) % MV w bv ov n∧Fr (fun k=>k=bq∨k=bu∨sOwn sb st k) w w'∧(∀ ib rb,st=some (ib,rb)→∀ i,i<off→w'.cell? ⟨rb,i,none⟩=w.cell? ⟨rb,i,none⟩):=by
 have H:=Lh h;clear h
 have hlim:=H.out.lim
 have hn2:=H.out.n2
 have holim:=H.out.olim
 have hqc:=H.out.qc
 have hqcm:=H.out.qcm
 have huc:=H.out.uc
 have hucm:=H.out.ucm
 have hvc:=H.out.vc
 have hvcm:=H.out.vcm
 unfold CAP at hlim hqcm hucm
 unfold maxLen at hvcm
 have hv1:=H.out.vw.get (n - 1) (by omega)
 have hsub1:(m:Int)+(n:Int)+1 - (n:Int)=(m:Int)+1:=by omega
 have HSv:=Lh (Q4G sb st off w H.out.stk)
 go_enter_defers Tryz.func230,Tryz.ntmps230
 go_wp2_with fail
 go_at_call 221
 refine HSv.out.mono ?_;rintro e w' ⟨rfl,hw⟩;subst w'
 clear HSv
 go_wp2_with fail
 go_at_call 222
 have e1:(n:Int)+1=((n+1:Nat):Int):=by omega
 rw [e1];clear e1
 refine (Q63 sb st off (n+1) w H.out.stk (by omega) (by omega)).mono ?_
 rintro e w2 ⟨bh,oh,ch,st',off',rfl,hch,hchm,hN⟩
 have HN:=Lh hN;clear hN
 have HA:=Lh (H.out.after HN.out)
 obtain ⟨v1,hv1e⟩:∃ v1,v1=rd w2 bv (ov+n - 1):=⟨_,rfl⟩
 have hv1c:w2.cell? ⟨bv,ov+(n - 1),none⟩=some (.int .u64 (v1:Int)):=by
  have:=HA.out.vw.get (n - 1) (by omega)
  rw [this,hv1e,show ov+(n - 1)=ov+n - 1 by omega]
 have HV1:=Lh hv1e;clear hv1e hv1
 have hv1b:9223372036854775808≤v1∧v1<BB:=⟨by rw [HV1.out,HA.out.vt];exact H.out.top,by rw [HV1.out];have:=HA.out.vw.lt (n - 1) (by omega);rw [show ov+(n - 1)=ov+n - 1 by omega] at this;exact this⟩
 have HNm:Hid (Nm v1 0):=⟨by omega,by omega,by rw [Nat.pow_zero,Nat.mul_one];exact hv1b.1,by rw [Nat.pow_zero,Nat.mul_one];exact hv1b.2⟩
 have HVB:=Lh hv1b;clear hv1b
 have HRc:=Lh (Q0x v1 0 HNm.out w2)
 rw [Nat.pow_zero,Nat.mul_one] at HRc
 have HDw:=Lh (fun x1 x0=>Q3B x1 x0 v1 0 HNm.out)
 rw [Nat.pow_zero,Nat.mul_one] at HDw
 generalize recW v1=rc at HRc HDw
 go_wp2_with fail
 go_at_call 261
 refine HRc.out.mono ?_;rintro e w' ⟨rfl,k0,hk0⟩
 have HK0:=Lh hk0;clear hk0
 go_wp2_with fail
 go_loopg [14,13] (m+2) (fun k j uj wr=>∃ u:Nat,j=.int .i64 ((k:Int) - 1)∧uj=.int .u64 (u:Int)∧DI w2 bq bu bh oh (oh+(n+1)) n m (MV w bu 0 (m+n+1)) (MV w bv ov n) k u wr)
 case atStart =>
  refine ⟨0,by congr 1;omega,rfl,⟨?_,?_,?_⟩⟩
  ·rw [HK0.out];exact ⟨rfl,rfl,rfl,rfl,fun _ _ _ _=>rfl,fun _ _ _ _=>rfl,fun _=>rfl⟩
  ·rw [HK0.out];exact HA.out.uw
  ·rw [HK0.out]
   refine .inl ⟨rfl,rfl,(Qy _ _ _ _ _).trans (HA.out.um _ _),?_,?_⟩
   ·rw [Qy,HA.out.um];exact H.out.small
   ·have:=H.out.utop
    rw [← HA.out.ur] at this
    exact this
 case round =>
  obtain ⟨u,rfl,rfl,hD⟩:=hrel
  obtain ⟨wo,rfl⟩:∃ wo:World,wo=wr:=⟨_,rfl⟩
  have HD:=Lh hD;clear hD
  by_cases hk0:gk=0
  ·subst hk0
   have a1:¬ ((0:Int)≤((0:Nat):Int) - 1):=by omega
   go_wp2_with fail
   refine leaves_cons (f:=220) (args:=#[.pointer (some ⟨sb,0,none⟩),.int .i64 off]) (by simp) (by simp [go_sem]) ?_
   have hS:Stk wo sb st' off':=HN.out.stk.ch3 HD.out.ch (H.out.not_own HN.out).1 (H.out.not_own HN.out).2 HN.out.hs.1 HN.out.hs.2
   refine (Q0P sb st' off' off .returning wo hS HN.out.le).mono ?_
   rintro e u' w'' ⟨rfl,rfl,hw,hf⟩
   exact ⟨_,results_none rfl _ _ _,rfl,H.out.fin HN.out HA.out HD.out hw hf⟩
  ·obtain ⟨j,rfl⟩:∃ j,gk=j+1:=⟨gk - 1,by omega⟩
   have hjm:j≤m+1:=by rcases HD.out.at_ with ⟨h1,_⟩ | ⟨h1,_⟩ <;> omega
   rw [show ((j+1:Nat):Int) - 1=(j:Int) by omega]
   have b1:(0:Int)≤(j:Int):=by omega
   have hx1:=HD.out.uw.get (j+n - 1) (by omega)
   have hx0:=HD.out.uw.get (j+n - 2) (by omega)
   have hv0:=(HD.out.ch.isW HA.out.far HA.out.vw).get (n - 2) (by omega)
   have hv0r:rd wo bv (ov+(n - 2))=rd w2 bv (ov+n - 2):=by
    rw [show ov+(n - 2)=ov+n - 2 by omega]
    have:=HD.out.ch.cellFar HA.out.far (n - 2) (by omega)
    rw [show ov+(n - 2)=ov+n - 2 by omega] at this
    exact QN this
   rw [hv0r] at hv0
   simp only [Nat.zero_add] at hx1 hx0
   obtain ⟨A,hdg,hA1,hA2⟩:=HD.out.dg H.out HA.out
   rw [← HV1.out] at hdg hA1
   clear hv0r
   generalize rd w2 bv (ov+n - 2)=v0 at hdg hv0
   generalize rd wo bu (j+n - 1)=x1 at hdg hA1 hx1
   generalize rd wo bu (j+n - 2)=x0 at hdg hx0
   have HG:=Lh (And.intro hdg (And.intro hA1 hA2));clear hdg hA1 hA2
   go_upto_if 51 with fail
   go_cut [15,16,17,18,19,20] from 45 to 200 (fun q _ _ _ _ _ wx=>∃ qh:Nat,q=.int .u64 (qh:Int)∧(A / MV w bv ov n≤qh∧qh≤A / MV w bv ov n+1∧qh<BB∧(j=m+1→qh=0))∧wx=wo)
   case first =>
    by_cases hu:u=v1
    ·have c1:((u:Int) != (v1:Int))=false:=by simp;omega
     have c2:((u:Int) == (v1:Int))=true:=by simp;omega
     have HU:=Lh hu;clear hu
     go_wp2_with fail
     go_meet
     refine ⟨BB - 1,rfl,⟨?_,HG.out.1.top HU.out,by have:=Qx;omega,?_⟩,rfl⟩
     ·have:=HG.out.1.q_lt;omega
     ·intro hj
      have h1:=HG.out.2.1 hj
      have h2:=HVB.out
      have h3:=HU.out
      omega
    ·have c1:((u:Int) != (v1:Int))=true:=by simp;omega
     have c2:((u:Int) == (v1:Int))=false:=by simp;omega
     have hult:u<v1:=by have:=HG.out.1.a2_le;omega
     have HGI:=Lh (GI.start HG.out.1 hult)
     have HWW:=Lh (HDw.out u x1 hult HG.out.1.ha1 wo)
     have hr0:(u*BB+x1) % v1<v1:=Nat.mod_lt _ (by omega)
     have HR0:=Lh hr0;clear hr0
     generalize (u*BB+x1) % v1=r0 at HGI HWW HR0
     have HQ0:Hid ((u*BB+x1) / v1<BB):=HGI.out.qlt
     obtain ⟨q0,hq0⟩:∃ q0,q0=(u*BB+x1) / v1:=⟨_,rfl⟩
     rw [← hq0] at HGI HWW HQ0
     clear hq0
     have HMW:=Lh (Q9D q0 v0 HQ0.out HG.out.1.hv0 wo)
     go_wp2_with fail
     go_at_call 262
     refine HWW.out.mono ?_;rintro e w' ⟨rfl,hw⟩;subst w'
     go_wp2_with fail
     go_at_call 213
     refine HMW.out.mono ?_;rintro e w' ⟨rfl,hw⟩;subst w'
     go_wp2_with fail
     go_loopg [15,16,18,19] q0 (fun k q r a b wx=>∃ r' a' b':Nat,q=.int .u64 (k:Int)∧r=.int .u64 (r':Int)∧a=.int .u64 (a':Int)∧b=.int .u64 (b':Int)∧GI A (MV w bv ov n) v1 v0 u x1 x0 k r'∧r'<BB∧a'*BB+b'=k*v0∧a'<BB∧b'<BB∧wx=wo)
     case atStart =>
      exact ⟨r0,mulh q0 v0,mull q0 v0,rfl,rfl,rfl,rfl,HGI.out,by have:=HR0.out;have:=HVB.out;omega,Q59 _ _,by have:=Q3R HQ0.out HG.out.1.hv0;omega,Q2r _ _,rfl⟩
     case round =>
      obtain ⟨r',a',b',rfl,rfl,rfl,rfl,hI,hr',hab,ha,hb,hwx⟩:=hrel
      subst hwx
      have HI:=Lh hI;clear hI
      have hv1b:=HVB.out.1
      have hv1B:=HVB.out.2
      have hv0B:=HG.out.1.hv0
      have hx0B:=HG.out.1.ha0
      have HAB:=Lh (And.intro hab (And.intro ha hb));clear hab
      by_cases ht:r'*BB+x0<gk*v0
      ·have HT:=Lh ht;clear ht
       have HGT:Hid (Calls Tryz.prog 265 #[.int .u64 (a':Int),.int .u64 (b':Int),.int .u64 (r':Int),.int .u64 (x0:Int)] wr fun e w'=>e=.returned (.bool true)∧w'=wr):=by
        have h1:=Q16 a' b' r' x0 wr
        rw [decide_eq_true ((Q7I HAB.out.2.2 hx0B HAB.out.1).2 HT.out)] at h1
        exact h1
       obtain ⟨k',rfl⟩:∃ k',gk=k'+1:=⟨gk - 1,by have:=(HI.out.less HG.out.1 HT.out).1;omega⟩
       have HL:=Lh (HI.out.less HG.out.1 HT.out).2
       have c3:IntKind.u64.wrap (k':Int)=(k':Int):=Qg k' (by have:=HI.out.qlt;omega)
       by_cases hbr:BB≤r'+v1
       ·have c4:IntKind.u64.wrap ((r':Int)+(v1:Int))=((r'+v1 - BB:Nat):Int):=by
         rw [Q1d];unfold BB at hbr hr' hv1B ⊢;omega
        have c5:((r'+v1 - BB:Nat):Int)<(v1:Int):=by unfold BB at hbr hr' ⊢;omega
        have HBr:=Lh hbr;clear hbr
        generalize r'+v1 - BB=r2 at c4 c5
        clear hv1b hv1B hv0B hx0B hr' ha hb
        go_wp2_with fail
        go_at_call 265
        refine HGT.out.mono ?_;rintro e w' ⟨rfl,hw⟩;subst hw
        go_wp2_with fail
        go_meet
        have h1:=HL.out.broke HG.out.1 HBr.out
        exact ⟨k',rfl,⟨h1.1,h1.2,HL.out.qlt,fun hj=>by
         have h2:=HL.out.le
         have h3:=HG.out.2.1 hj
         rw [h3.2.1] at h2
         rw [Nat.zero_mul,Nat.zero_add,Nat.div_eq_of_lt h3.2.2] at h2
         omega⟩,rfl⟩
       ·have c4:IntKind.u64.wrap ((r':Int)+(v1:Int))=((r'+v1:Nat):Int):=by
         rw [Qf (by omega) (by omega)];omega
        have c5:¬ ((r'+v1:Nat):Int)<(v1:Int):=by omega
        have hr2:r'+v1<BB:=by omega
        have HR2:=Lh hr2
        generalize r'+v1=r2 at c4 c5 HL HR2
        by_cases hv:v0≤b'
        ·have c6:¬ ((b':Int)<(v0:Int)):=by omega
         have c7:IntKind.u64.wrap ((b':Int) - (v0:Int))=((b' - v0:Nat):Int):=by
          rw [Qf (by omega) (by omega)];omega
         have HP:=Lh (And.intro (Q9F HAB.out.1 hv) (show b' - v0<BB by omega));clear hv
         generalize b' - v0=b2 at c7 HP
         clear hv1b hv1B hv0B hx0B hr' ha hb hr2
         go_wp2_with fail
         go_at_call 265
         refine HGT.out.mono ?_;rintro e w' ⟨rfl,hw⟩;subst hw
         go_wp2_with fail
         go_roundg k'
         case measure=>omega
         case rel=>exact ⟨r2,a',b2,rfl,rfl,rfl,rfl,HL.out,HR2.out,HP.out.1,HAB.out.2.1,HP.out.2,rfl⟩
        ·have c6:((b':Int)<(v0:Int)):=by omega
         have hhi:=Q9G hv0B HAB.out.1 (by omega)
         have c7:IntKind.u64.wrap ((b':Int) - (v0:Int))=((b'+BB - v0:Nat):Int):=by
          rw [Q1d];unfold BB at hb hv0B ⊢;omega
         have c8:IntKind.u64.wrap ((a':Int) - 1)=((a' - 1:Nat):Int):=by
          have:=hhi.1
          rw [Qf (by omega) (by omega)];omega
         have HP:=Lh (And.intro hhi.2 (And.intro (show b'+BB - v0<BB by omega) (show a' - 1<BB by omega)));clear hv hhi
         generalize b'+BB - v0=b2 at c7 HP
         generalize a' - 1=a2 at c8 HP
         clear hv1b hv1B hv0B hx0B hr' ha hb hr2
         go_wp2_with fail
         go_at_call 265
         refine HGT.out.mono ?_;rintro e w' ⟨rfl,hw⟩;subst hw
         go_wp2_with fail
         go_roundg k'
         case measure=>omega
         case rel=>exact ⟨r2,a2,b2,rfl,rfl,rfl,rfl,HL.out,HR2.out,HP.out.1,HP.out.2.2,HP.out.2.1,rfl⟩
      ·have HT:=Lh ht;clear ht
       have HGT:Hid (Calls Tryz.prog 265 #[.int .u64 (a':Int),.int .u64 (b':Int),.int .u64 (r':Int),.int .u64 (x0:Int)] wr fun e w'=>e=.returned (.bool false)∧w'=wr):=by
        have h1:=Q16 a' b' r' x0 wr
        rw [decide_eq_false (fun h=>HT.out ((Q7I HAB.out.2.2 hx0B HAB.out.1).1 h))] at h1
        exact h1
       clear hv1b hv1B hv0B hx0B hr' ha hb
       go_wp2_with fail
       go_at_call 265
       refine HGT.out.mono ?_;rintro e w' ⟨rfl,hw⟩;subst hw
       go_wp2_with fail
       go_meet
       have h1:=HI.out.done HG.out.1 (Nat.le_of_not_lt HT.out)
       exact ⟨gk,rfl,⟨h1.1,h1.2,HI.out.qlt,fun hj=>by
         have h2:=HI.out.le
         have h3:=HG.out.2.1 hj
         rw [h3.2.1] at h2
         rw [Nat.zero_mul,Nat.zero_add,Nat.div_eq_of_lt h3.2.2] at h2
         omega⟩,rfl⟩
   case rest =>
    obtain ⟨qh,rfl,hq,hwc⟩:=hcut
    subst hwc
    have HQ:=Lh hq;clear hq
    have hV0:0<MV w bv ov n:=HG.out.1.vpos
    have HV0:=Lh hV0;clear hV0
    have hVw:Hid (IsW wc bv ov n∧MV wc bv ov n=MV w bv ov n):=⟨HD.out.ch.isW HA.out.far HA.out.vw,(HD.out.ch.mv HA.out.far).trans HA.out.vm⟩
    have hhw:Hid (Wr wc bh oh (n+1)):=HD.out.ch.wr HA.out.h
    have hhn:Hid (Wr wc bh oh n):=by have:=hhw.out.sub 0 n (by omega);exact this
    have hqB:qh<BB:=HQ.out.2.2.1
    have HMu:=Lh (Q2T bh oh ch bv ov cv n qh 0 (by unfold maxLen;omega) hqB Qx wc hVw.out.1 hhn.out (H.out.valias HN.out))
    clear hqB hx1 hx0 hv0
    have hchn:n+1≤ch:=hch
    have hchn2:n≤ch:=by omega
    have hchm2:ch≤9223372036854775807:=hchm
    go_wp2_with fail
    go_at_call 249
    refine HMu.out.mono ?_;rintro e w1 ⟨c0,rfl,hR⟩
    have HR:=Lh hR;clear hR HMu
    obtain ⟨v5,hv5⟩:=(HR.out.2.2.2.wr hhw.out).cell n (by omega)
    have hf5:=(HR.out.2.2.2.wr hhw.out).free n (by omega)
    have HS:=Lh (QJ (o:=oh) (b:=bh) HR.out.2.1 ⟨v5,hv5⟩ HR.out.1 HR.out.2.2.2)
    by_cases hjm1:j=m+1
    ·have hq0:qh=0:=HQ.out.2.2.2 hjm1
     have hc0:c0=0:=by
      have h1:=HR.out.2.2.1
      rw [hq0,Nat.mul_zero,Nat.zero_add] at h1
      rcases Nat.eq_zero_or_pos c0 with h2 | h2
      ·exact h2
      ·have:1*BB^n≤c0*BB^n:=Nat.mul_le_mul_right _ h2
       have:0<BB^n:=Nat.pow_pos Qx
       omega
     have hm0:Hid (MV w1 bh oh n=0):=by
      have h1:=HR.out.2.2.1
      rw [hq0,Nat.mul_zero,Nat.zero_add] at h1
      show _=_;omega
     subst hc0
     subst hq0
     subst hjm1
     have hz0:((0:Nat):Int)=(0:Int):=rfl
     rw [hz0] at HS
     have hcu1:¬ cu=m+1:=by omega
     have a1:((m:Int)+(n:Int)+1<((m:Int)+1)+((n:Int)+1)):=by omega
     have a2:decide ((m:Int)+(n:Int)+1<((m:Int)+1)+((n:Int)+1))=true:=by simp;omega
     have b2:(w1.setCell ⟨bh,oh+n,none⟩ (.int .u64 0)).cell? ⟨bh,oh+n,none⟩=some (.int .u64 0):=World.cell?_setCell_same _ _ _ hv5
     have hMV0:Hid (MV (w1.setCell ⟨bh,oh+n,none⟩ (.int .u64 0)) bh oh n=0):=by
      show _=_
      have h1:=HS.out.2.1
      rw [hm0.out,Nat.zero_mul] at h1
      have h2:MV (w1.setCell ⟨bh,oh+n,none⟩ (.int .u64 0)) bh oh (n+1)=MV (w1.setCell ⟨bh,oh+n,none⟩ (.int .u64 0)) bh oh n+rd (w1.setCell ⟨bh,oh+n,none⟩ (.int .u64 0)) bh (oh+n)*BB^n:=rfl
      omega
     have HCa:=Lh HS.out.2.2
     have HWa:=Lh HS.out.1
     clear hz0
     go_upto_region 25 with fail
     generalize w1.setCell ⟨bh,oh+n,none⟩ (.int .u64 0)=wa at hMV0 HCa HWa b2 ⊢
     clear HS hv5 hf5 HR
     have c1:(n:Int)<(n:Int)+1:=by omega
     go_upto_region 28 with fail
     have e1:IntKind.i64.wrap ((m:Int)+1+(n:Int))=(m:Int)+1+(n:Int):=IntWalk.i64_in _ (by omega)
     have e2:(0:Int)≤(m:Int)+1+(n:Int):=by omega
     have e3:(m:Int)+1+(n:Int)≤(cu:Int):=by omega
     have e4:((m:Int)+1+(n:Int)).toNat=m+1+n:=by omega
     have e5:m+1≤m+1+n:=by omega
     have e6:((m:Int)+1).toNat=m+1:=by omega
     have e7:(0:Int)≤(m:Int)+1:=by omega
     have e8:(n:Int)≤(ch:Int):=by omega
     have e9:m+1+n - (m+1)=n:=by omega
     have e10:(m:Int)+1≤(m:Int)+1+(n:Int):=by omega
     go_still_tail 15,(by kernel_rfl)
     clear e1 e2 e3 e4 e5 e6 e7 e8 e9 e10
     change wpList _ _ _ _ _ wa.drew
     obtain ⟨wb,hwb⟩:∃ wb,wb=wa.drew:=⟨_,rfl⟩
     have HB1:Hid (IsW wb bu 0 (m+n+1)∧MV wb bu (m+1) n=MV wc bu (m+1) n∧IsW wb bh oh n∧MV wb bh oh n=0∧Chg bh oh (oh+(n+1)) wc wb∧Wr wb bu 0 (m+n+1)):=by
      subst hwb
      have hd:=HCa.out.drew
      exact ⟨hd.isW HD.out.uw (.inl (Ne.symm HA.out.nu)),hd.mv (.inl (Ne.symm HA.out.nu)),HWa.out.mono (by omega),(Q02 _ _ _ _).trans hMV0.out,hd,hd.wr (HD.out.ch.wr HA.out.u)⟩
     rw [← hwb]
     clear hwb HCa HWa hMV0 hVw b2
     go_wp2_with fail
     have hwu:Wr wb bu (m+1) n:=by have:=HB1.out.2.2.2.2.2.sub (m+1) n (by omega);rwa [Nat.zero_add] at this
     have hxu:IsW wb bu (m+1) n:=by have:=HB1.out.1.sub (m+1) n (by omega);rwa [Nat.zero_add] at this
     refine (Q3z bu (m+1) (cu - (m+1)) bu (m+1) (cu - (m+1)) bh oh ch n (by unfold maxLen;omega) wb hxu HB1.out.2.2.1 hwu (.inr (Nat.le_refl _)) (.inl HA.out.nu)).mono ?_
     clear hwu hxu
     rintro e w3 ⟨cc,rfl,hR⟩
     have HR3:=Lh hR;clear hR
     have hcc:cc=0:=by
      have h1:=HR3.out.2.2.1
      have h2:=Q15 HR3.out.2.1
      have h3:MV wb bu (m+1) n<BB^n:=Q15 (by have:=HB1.out.1.sub (m+1) n (by omega);rwa [Nat.zero_add] at this)
      rw [HB1.out.2.2.2.1] at h1
      rcases Nat.eq_zero_or_pos cc with h4 | h4
      ·exact h4
      ·have:1*BB^n≤cc*BB^n:=Nat.mul_le_mul_right _ h4
       omega
     subst hcc
     have hM3:Hid (MV w3 bu (m+1) n=MV wc bu (m+1) n):=by
      have h1:=HR3.out.2.2.1
      rw [HB1.out.2.2.2.1,HB1.out.2.1,Nat.zero_mul,Nat.add_zero,Nat.add_zero] at h1
      exact h1
     have hx3:=HR3.out.2.1.get (n - 1) (by omega)
     rw [show m+1+(n - 1)=m+n by omega] at hx3
     have a4:((m:Int)+1 == (m:Int)+1)=true:=by simp
     go_wp2_with fail
     go_roundg (m+1)
     case measure=>omega
     case rel =>
      have hF:=DI.first HA.out.nu HD.out HB1.out.2.2.2.2.1 HR3.out.2.2.2 HR3.out.2.1 hM3.out
      rw [show m+1+n - 1=m+n by omega] at hF
      exact ⟨_,by congr 1;omega,rfl,hF⟩
    ·have hjm2:j≤m:=by omega
     have a1:¬ ((m:Int)+(n:Int)+1<(j:Int)+((n:Int)+1)):=by omega
     have a2:decide ((m:Int)+(n:Int)+1<(j:Int)+((n:Int)+1))=false:=by simp;omega
     have a3:((j:Int) == (m:Int)+1)=false:=by simp;omega
     have hcu1:¬ cu=j:=by omega
     have hcu2:j+(n+1)≤cu:=by omega
     have hcu3:j+n≤cu:=by omega
     have HJ:=HG.out.2.2 hjm1
     have HA0:=Lh HJ.2.1
     have hMV:Hid (MV (w1.setCell ⟨bh,oh+n,none⟩ (.int .u64 (c0:Int))) bh oh (n+1)=qh*MV w bv ov n):=by
      show _=_
      rw [HS.out.2.1,HR.out.2.2.1,hVw.out.2,Nat.add_zero,Nat.mul_comm]
     have HCa:=Lh HS.out.2.2
     have HWa:=Lh HS.out.1
     clear HJ
     go_upto_region 25 with fail
     generalize w1.setCell ⟨bh,oh+n,none⟩ (.int .u64 (c0:Int))=wa at hMV HCa HWa ⊢
     clear HS hv5 hf5 HR
     go_upto_region 28 with fail
     have e1:IntKind.i64.wrap ((j:Int)+((n:Int)+1))=(j:Int)+((n:Int)+1):=IntWalk.i64_in _ (by omega)
     have e2:(0:Int)≤(j:Int)+((n:Int)+1):=by omega
     have e3:(j:Int)+((n:Int)+1)≤(cu:Int):=by omega
     have e4:((j:Int)+((n:Int)+1)).toNat=j+(n+1):=by omega
     have e5:j≤j+(n+1):=by omega
     have e6:((n:Int)+1).toNat=n+1:=by omega
     have e7:(0:Int)≤(n:Int)+1:=by omega
     have e8:(n:Int)+1≤(ch:Int):=by omega
     go_still_tail 15,(by kernel_rfl)
     clear e1 e2 e3 e4 e5 e6 e7 e8
     change wpList _ _ _ _ _ wa.drew
     obtain ⟨wb,hwb⟩:∃ wb,wb=wa.drew:=⟨_,rfl⟩
     have HB1:Hid (IsW wb bu 0 (m+n+1)∧MV wb bu j (n+1)=A∧IsW wb bh oh (n+1)∧MV wb bh oh (n+1)=qh*MV w bv ov n∧Chg bh oh (oh+(n+1)) wc wb∧Wr wb bu 0 (m+n+1)∧IsW wb bv ov n∧MV wb bv ov n=MV w bv ov n∧Wr wb bq 0 (m+1)):=by
      subst hwb
      have hd:=HCa.out.drew
      refine ⟨hd.isW HD.out.uw (.inl (Ne.symm HA.out.nu)),?_,HWa.out,(Q02 _ _ _ _).trans hMV.out,hd,hd.wr (HD.out.ch.wr HA.out.u),?_,?_,hd.wr (HD.out.ch.wr HA.out.q)⟩
      ·rw [hd.mv (.inl (Ne.symm HA.out.nu))];exact HA0.out.symm
      ·exact hd.isW hVw.out.1 (by have:=H.out.valias HN.out;omega)
      ·rw [hd.mv (by have:=H.out.valias HN.out;omega)];exact hVw.out.2
     rw [← hwb]
     clear hwb HCa HWa hMV hVw
     go_wp2_with fail
     have hwu:Wr wb bu j (n+1):=by have:=HB1.out.2.2.2.2.2.1.sub j (n+1) (by omega);rwa [Nat.zero_add] at this
     have hxu:IsW wb bu j (n+1):=by have:=HB1.out.1.sub j (n+1) (by omega);rwa [Nat.zero_add] at this
     refine (Q3z bu j (cu - j) bu j (cu - j) bh oh ch (n+1) (by unfold maxLen;omega) wb hxu HB1.out.2.2.1 hwu (.inr (Nat.le_refl _)) (.inl HA.out.nu)).mono ?_
     clear hwu hxu
     rintro e w3 ⟨cc,rfl,hR⟩
     have HR3:=Lh hR;clear hR
     have hVB:Hid (MV w bv ov n<BB^n):=by
      have h1:=Q15 HB1.out.2.2.2.2.2.2.1
      rw [HB1.out.2.2.2.2.2.2.2.1] at h1
      exact h1
     have hsub:Hid (MV w3 bu j (n+1)+qh*MV w bv ov n=A+cc*BB^(n+1)):=by
      have h1:=HR3.out.2.2.1
      rw [HB1.out.2.1,HB1.out.2.2.2.1] at h1
      exact h1
     have hlt3:Hid (MV w3 bu j (n+1)<BB^(n+1)):=Q15 HR3.out.2.1
     have hnx:(j:Int)+(n:Int) - 1=((j+n - 1:Nat):Int):=by omega
     have hjn:j+n - 1+1=j+n:=by omega
     by_cases hcc:cc=0
     ·subst hcc
      have hSR:=Lh (Q6K HV0.out HQ.out.1 (by have:=hsub.out;rw [Nat.zero_mul,Nat.add_zero] at this;exact this) hlt3.out)
      have hx3:=HR3.out.2.1.get (n - 1) (by omega)
      rw [show j+(n - 1)=j+n - 1 by omega] at hx3
      obtain ⟨v6,hv6⟩:=(HR3.out.2.2.2.wr HB1.out.2.2.2.2.2.2.2.2).cell j (by omega)
      have hf6:=(HR3.out.2.2.2.wr HB1.out.2.2.2.2.2.2.2.2).free j (by omega)
      rw [Nat.zero_add] at hv6 hf6
      have hjq1:(j:Int)<(m:Int)+1:=by omega
      clear hnx
      go_wp2_with fail
      go_roundg j
      case measure=>omega
      case rel =>
       exact ⟨_,rfl,rfl,DI.next H.out.ne1 HA.out.nq HA.out.nu HD.out hjm2 HV0.out hVB.out HA.out.q HB1.out.2.2.2.2.1 HR3.out.2.2.2 HR3.out.2.1 (by rw [← HA0.out];exact hSR.out.2) qh (by rw [← HA0.out];exact hSR.out.1) HQ.out.2.2.1⟩
     ·have hc1:cc=1:=by have:=HR3.out.1;omega
      subst hc1
      have g1:IntKind.i64.wrap ((j:Int)+(n:Int))=(j:Int)+(n:Int):=IntWalk.i64_in _ (by omega)
      have g2:(0:Int)≤(j:Int)+(n:Int):=by omega
      have g3:(j:Int)+(n:Int)≤(cu:Int):=by omega
      have g4:((j:Int)+(n:Int)).toNat=j+n:=by omega
      have g5:j≤j+n:=by omega
      have g6:j+n - j=n:=by omega
      clear hnx hjn
      go_upto_region 30 with fail
      go_still_tail 13,(by kernel_rfl)
      clear g1 g2 g3 g4 g5 g6
      change wpList _ _ _ _ _ w3.drew
      obtain ⟨w4,hw4⟩:∃ w4,w4=w3.drew:=⟨_,rfl⟩
      have HB4:Hid (IsW w4 bu j (n+1)∧MV w4 bu j (n+1)=MV w3 bu j (n+1)∧Chg bu j (j+(n+1)) wb w4):=by
       subst hw4
       exact ⟨HR3.out.2.1,Q02 _ _ _ _,HR3.out.2.2.2.drew⟩
      rw [← hw4]
      clear hw4
      go_wp2_with fail
      have hwu:Wr w4 bu j n:=by have:=(HB4.out.2.2.wr HB1.out.2.2.2.2.2.1).sub j n (by omega);rwa [Nat.zero_add] at this
      refine (Q3y bu j (cu - j) bu j (cu - j) bv ov cv n (by unfold maxLen;omega) w4 (HB4.out.1.mono (by omega)) (HB4.out.2.2.isW HB1.out.2.2.2.2.2.2.1 (.inl H.out.ne3)) hwu (.inr (Nat.le_refl _)) (.inl H.out.ne3)).mono ?_
      clear hwu
      rintro e w5 ⟨c2,rfl,hR⟩
      have HR5:=Lh hR;clear hR
      have hV4:Hid (MV w4 bv ov n=MV w bv ov n):=by
       show _=_
       rw [HB4.out.2.2.mv (.inl H.out.ne3)];exact HB1.out.2.2.2.2.2.2.2.1
      obtain ⟨hh,hhe⟩:∃ hh,hh=rd w4 bu (j+n):=⟨_,rfl⟩
      have HH:=Lh hhe;clear hhe
      have hhB:hh<BB:=by rw [HH.out];exact HB4.out.1.lt n (by omega)
      have hh5:w5.cell? ⟨bu,j+n,none⟩=some (.int .u64 (hh:Int)):=by
       rw [HR5.out.2.2.2.cell_other (.inr (by omega)),HH.out]
       exact HB4.out.1.get n (by omega)
      have hf5:=(HR5.out.2.2.2.wr (HB4.out.2.2.wr HB1.out.2.2.2.2.2.1)).free (j+n) (by omega)
      rw [Nat.zero_add] at hf5
      have hSW:=Lh (Q6L (A:=A) (V:=MV w bv ov n) (q:=qh) (A':=MV w3 bu j (n+1)) (L:=MV w4 bu j n) (h:=hh) (c2:=c2) (L':=MV w5 bu j n) (B:=BB) (Bn:=BB^n) HV0.out HQ.out.2.1
       (by have h1:=hsub.out;rw [Nat.one_mul,Nat.pow_succ,Nat.mul_comm (BB^n)] at h1;exact h1)
       (by have h1:=hlt3.out;rw [Nat.pow_succ,Nat.mul_comm (BB^n)] at h1;exact h1)
       (Nat.mul_comm _ _)
       (by rw [← HB4.out.2.1,HH.out,Nat.mul_comm];rfl)
       hhB
       (by rw [HR5.out.2.2.1,hV4.out])
       (Q15 HR5.out.2.1)
       (Nat.lt_of_lt_of_le hVB.out (Nat.le_mul_of_pos_left _ Qx)))
      have hq1:1≤qh:=by rw [hSW.out.1];exact Nat.le_add_left 1 _
      have hc2:IntKind.u64.wrap ((hh:Int)+(c2:Int))=(((hh+c2) % BB:Nat):Int):=by
       rw [Q1d];unfold BB;omega
      have hqm:IntKind.u64.wrap ((qh:Int) - 1)=((qh - 1:Nat):Int):=by
       have:=HQ.out.2.2.1
       rw [Qf (by omega) (by omega)];omega
      have HQm:Hid (qh - 1=A / MV w bv ov n∧qh - 1<BB):=⟨by have:=hSW.out.1;omega,by have:=HQ.out.2.2.1;omega⟩
      have HMm:Hid ((hh+c2) % BB<BB):=Nat.mod_lt _ Qx
      have hS2:=hSW.out.2
      generalize qh - 1=qm at hqm HQm
      generalize (hh+c2) % BB=h2 at hc2 hS2 HMm
      have HS2:=Lh hS2;clear hS2 hSW hq1 hhB
      have hHS5:=Lh (QJ (o:=j) (b:=bu) HR5.out.2.1 ⟨_,hh5⟩ HMm.out HR5.out.2.2.2)
      have hnl:(n:Int)<(n:Int)+1:=by omega
      have hjun:(j:Int)+(n:Int)<(m:Int)+(n:Int)+1:=by omega
      go_upto_region 33 with fail
      have hHS6:=hHS5.out
      generalize w5.setCell ⟨bu,j+n,none⟩ (.int .u64 (h2:Int))=w6 at hHS6 ⊢
      have HS6:=Lh hHS6;clear hHS6 hHS5 hh5 hf5
      have hC6:Hid (Chg bu j (j+(n+1)) wb w6):=HB4.out.2.2.trans HS6.out.2.2
      have hx6:=HS6.out.1.get (n - 1) (by omega)
      rw [show j+(n - 1)=j+n - 1 by omega] at hx6
      obtain ⟨v6,hv6⟩:=(hC6.out.wr HB1.out.2.2.2.2.2.2.2.2).cell j (by omega)
      have hf6:=(hC6.out.wr HB1.out.2.2.2.2.2.2.2.2).free j (by omega)
      rw [Nat.zero_add] at hv6 hf6
      have hjq1:(j:Int)<(m:Int)+1:=by omega
      go_wp2_with fail
      go_roundg j
      case measure=>omega
      case rel =>
       refine ⟨_,rfl,rfl,DI.next H.out.ne1 HA.out.nq HA.out.nu HD.out hjm2 HV0.out hVB.out HA.out.q HB1.out.2.2.2.2.1 hC6.out HS6.out.1 ?_ qm (by rw [← HA0.out];exact HQm.out.1) HQm.out.2⟩
       rw [HS6.out.2.1,← HA0.out,Nat.mul_comm]
       exact HS2.out
end Go.Proofs.YtpebcmfpehdafaaGreatDoor
