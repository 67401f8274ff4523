/- a part of the proof -/
import Derived.Test.YtpebcmfpehdafaaGreatDoorZ18
set_option linter.all false
set_option maxRecDepth 100000
set_option maxHeartbeats 16000000
namespace Go.Proofs.YtpebcmfpehdafaaGreatDoor
open Go Go.RowKit
theorem Q7a {w:World}(p md tr:Nat)(mx mn:Int)(hp:p≤60)(hmx:0≤mx∧mx≤500)(hmn:mn≤0 ∧ -500≤mn)(hmd:md<8){v:Value}{n:Bool}{c:Nat}{e:Int}(hx:FinV w v n c e)(he : -10000≤e∧e≤10000)(hlen:(dgs c).length≤10000)(hc:c≠0)(hadj:e+ndg c - 1<mn) :
  Calls Tryz.prog 11 #[CV p mx mn tr md,v,.int .u32 0] w fun r w'=>r=.returned (SRV (finS p mx mn md n e c))∧Below w.heap.size w w':=by
 obtain ⟨s,rfl,hs⟩:=hx
 have hs0:=Lh hs
 obtain ⟨q,cap,rfl,_⟩:=hs
 have HC0:=Lh hc
 have HADJ:=Lh hadj
 clear hc hadj
 obtain ⟨hmx1,hmx2⟩:=hmx
 obtain ⟨hmn1,hmn2⟩:=hmn
 obtain ⟨he1,he2⟩:=he
 have H0:=Lh (FS.start (w:=w) (p:=(p:Int)) (mx:=mx) (mn:=mn) (tr:=(tr:Int)) (md:=(md:Int)) (n:=n) (s:=.slice q (dgs c).length cap) (e:=e))
 have HD0:Hid (∀ w2,Below w.heap.size w w2→NumV w2 (.agg #[.bool false,.slice q (dgs c).length cap]) false c):=Lh (fun w2 h=>⟨_,rfl,hs0.out.later h⟩)
 have i1:IntKind.i64.wrap (p:Int)=(p:Int):=IntWalk.i64_in _ (by omega)
 have i2:IntKind.i64.wrap mn=mn:=IntWalk.i64_in _ (by omega)
 have i3:IntKind.i64.wrap (mn - (p:Int))=mn - (p:Int):=IntWalk.i64_in _ (by omega)
 have i4:IntKind.i64.wrap (mn - (p:Int)+1)=mn - (p:Int)+1:=IntWalk.i64_in _ (by omega)
 have i5:IntKind.i64.wrap mx=mx:=IntWalk.i64_in _ (by omega)
 have o1:bits .or .u32 0 32=32:=by kernel_rfl
 have o2:bits .or .u32 32 64=96:=by kernel_rfl
 have o3:bits .or .u32 96 24=120:=by kernel_rfl
 have o4:bits .or .u32 96 2048=2144:=by kernel_rfl
 have o5:bits .or .u32 120 2048=2168:=by kernel_rfl
 have o6:bits .or .u32 0 64=64:=by kernel_rfl
 have o7:bits .or .u32 64 16=80:=by kernel_rfl
 obtain ⟨S,hS⟩:∃ S,S=SRV (finS p mx mn md n e c):=⟨_,rfl⟩
 rw [← hS]
 have HS:=Lh hS
 generalize hL:(dgs c).length=L at H0 HD0 hlen ⊢
 have HL:=Lh hL
 obtain ⟨wA,hwA⟩:∃ wA,wA=((w.alloc (.cells #[.int .u32 (p:Int),.int .i32 mx,.int .i32 mn,.int .u32 (tr:Int),.int .i64 (md:Int)] 24)).alloc (.cells #[.bool n,.bool false,.slice q L cap,.int .i64 e] 39)).alloc (.cells #[.int .i64 0,.bool false,.int .i32 0,.string ⟨#[]⟩,.int .u32 0,.bool false,.bool false,.bool false] 33):=⟨_,rfl⟩
 rw [← hwA] at H0
 unfold CV
 clear hs0 hS hL
 obtain ⟨c0,c1,c2,c4⟩:=H0.out.cc
 obtain ⟨x0,x1,x2,x3⟩:=H0.out.xc
 go_enter Tryz.func11, Tryz.ntmps11
 go_wp2_with fail
 rw [← hwA]
 have HwA:=Lh hwA
 clear hwA
 go_quiet (fail)
 go_wp2_with fail
 refine (Q0b (HD0.out _ (H0.out.drewN _).bw)).mono ?_
 rintro r w1 ⟨rfl,hB⟩
 have H1:=Lh ((H0.out.drewN _).later hB)
 clear hB H0 c0 c1 c2 c4 x0 x1 x2 x3
 rw [decide_eq_false HC0.out]
 obtain ⟨x0,x1,x2,x3⟩:=H1.out.xc
 go_wp2_with fail
 refine AH.start (fun x=>x.cell? ⟨w.heap.size+1,0,none⟩=some (.bool n)∧x.cell? ⟨w.heap.size+1,1,none⟩=some (.bool false)∧x.cell? ⟨w.heap.size+1,2,none⟩=some (.slice q L cap)∧x.cell? ⟨w.heap.size+1,3,none⟩=some (.int .i64 e)) (by kernel_rfl) ?_
 clear x0 x1 x2 x3
 generalize hw2:w1.drew=w2
 have H2:Hid (FS w (p:Int) mx mn (tr:Int) (md:Int) n (.slice q L cap) e w2):=by rw [← hw2];exact Lh H1.out.drew
 clear hw2 H1
 have s2:=H2.out.xc
 refine AH.z 0 s2 ?_
 refine AH.z 1 s2 ?_
 refine AH.z 2 s2 ?_
 refine AH.z 3 s2 ?_
 refine AH.o 4 (fun K hK=>?_)
 go_simp
 refine (Qn (HD0.out _ H2.out.bw)).mono ?_
 rintro r w3 ⟨rfl,hB⟩
 have H3:=Lh (H2.out.later hB)
 have s3:=H3.out.xc
 refine hK _ _ s3 ?_
 clear hK K hB s2 H2
 try simp only [Act.put,Zp_]
 have hN0:=Qi c
 have hNL:=Qw c HC0.out
 rw [HL.out] at hNL
 generalize hN:ndg c=N at hN0 hNL ⊢
 have HN:=Lh hN
 have hN1:N≤10000:=by omega
 have i6:IntKind.i64.wrap (e+(N:Int))=e+(N:Int):=IntWalk.i64_in _ (by omega)
 have i7:IntKind.i64.wrap (e+(N:Int) - 1)=e+(N:Int) - 1:=IntWalk.i64_in _ (by omega)
 clear hN hNL
 refine AH.z 5 s3 ?_
 refine AH.z 6 s3 ?_
 refine AH.z 7 s3 ?_
 clear s3
 refine AH.done (by kernel_rfl) ?_
 have hadj:e+(N:Int) - 1<mn:=by rw [← HN.out];exact HADJ.out
 have badj:decide (e+(N:Int) - 1<mn)=true:=decide_eq_true hadj
 have HT:Hid (∀ w2 s' c' e',Below w.heap.size w w2→NumV w2 (.agg #[.bool false,s']) false c'→(-100000≤e'∧e'≤100000)→(dgs c').length≤4000000000→Calls Tryz.prog 20 #[.agg #[.bool n,.bool false,s',.int .i64 e']] w2 fun r w'=>r=.returned (DV 0 n e' (txS c'))∧Below w2.heap.size w2 w'):=Lh (fun w2 s' c' e' h hN he' hl=>by
  obtain ⟨s'',hs',hd⟩:=hN
  have hq:s'=s'':=by
   have:=congrArg (fun v=>match v with | Value.agg cs=>cs.toList | _=>[]) hs'
   simpa using this
  exact Q0z ⟨_,rfl,by rw [hq];exact hd⟩ he' hl)
 by_cases hp0:p=0
 ·have HV:Hid (S=SRV srNo):=Lh (by rw [HS.out];unfold finS;rw [if_neg HC0.out,if_pos HADJ.out,if_pos hp0])
  subst hp0
  obtain ⟨c0,c1,c2,c4⟩:=H3.out.cc
  obtain ⟨x0,x1,x2,x3⟩:=H3.out.xc
  obtain ⟨r0,r1,r2,r3,r4,r5,r6,r7⟩:=H3.out.rc
  obtain ⟨f0,f1,f2,f3,f4,f5,f6,f7⟩:=H3.out.rf
  go_wp2_with fail
  have h8:=QD H3.out.rb (.int .i64 0) (.bool false) (.int .i32 0) (.string ⟨#[]⟩) (.int .u32 0) (.bool false) (.bool false) (.bool false)
  have hb:=H3.out.done (.int .i64 0) (.bool false) (.int .i32 0) (.string ⟨#[]⟩) (.int .u32 0) (.bool false) (.bool false) (.bool false)
  unfold set8 at h8 hb
  exact bodyPost_ret (v:=.agg #[.int .i64 0,.bool false,.int .i32 0,.string ⟨#[]⟩,.int .u32 0,.bool false,.bool false,.bool false]) (by simp [results,Tryz.results11,go_sem,h8]) rfl ⟨Qz (by rw [HV.out];rfl),hb⟩
 ·have hp1:((p:Int) == 0)=false:=by simp;omega
  by_cases h1:e<mn - p+1
  ·have b1:decide (e<mn - (p:Int)+1)=true:=decide_eq_true h1
   obtain ⟨cut,hcut⟩:∃ cut,cut=(mn - p+1 - e).toNat:=⟨_,rfl⟩
   have hci:mn - (p:Int)+1 - e=(cut:Int):=by omega
   have hcl:cut≤100000:=by omega
   have i8:IntKind.i64.wrap (mn - (p:Int)+1 - e)=(cut:Int):=by rw [hci];exact IntWalk.i64_in _ (by omega)
   have HSb:Hid (S=SRV (if decide (c % 10^cut=0)=false∧n=true∧(md=3∨md=4) then srNo else ⟨true,false,⟨0,n,mn - p+1,rdiv md n c cut,subK (decide (rdiv md n c cut=0)) (decide (c % 10^cut=0))⟩⟩)):=Lh (by rw [HS.out];unfold finS;rw [if_neg HC0.out,if_pos HADJ.out,if_neg hp0,if_pos h1,← hcut];by_cases hzz:c % 10^cut=0 <;> simp only [hzz,ne_eq,not_true,not_false_iff,decide_true,decide_false,Bool.true_eq_false,false_and,true_and])
   have HR:Hid (∀ w2,Below w.heap.size w w2→Calls Tryz.prog 24 #[.int .i64 (md:Int),.bool n,.agg #[.bool false,.slice q L cap],.int .i64 (cut:Int)] w2 fun e w'=>∃ v',e=.returned (.tuple #[v',.bool (decide (c % 10^cut=0))])∧NumV w' v' false (rdiv md n c cut)∧Below w2.heap.size w2 w'):=Lh (fun w2 h=>Q1D md hmd n c (HD0.out w2 h) cut hcl (by rw [HL.out];omega))
   have HLq:Hid ((dgs (rdiv md n c cut)).length≤4000000000):=Lh (by
    have h2:=(Q2C md n c cut).2
    have h3:=Nat.div_le_self c (10^cut)
    have h4:=QM c
    rw [HL.out] at h4
    by_cases e0:rdiv md n c cut=0
    ·rw [e0,Qp];simp
    ·rw [Qw _ e0]
     refine Nat.le_trans (Q09 (k:=L+1) (by omega) ?_) (by omega)
     rw [Nat.pow_succ];omega)
   generalize decide (c % 10^cut=0)=ex at HR HSb
   generalize rdiv md n c cut=Q at HR HSb HLq
   clear hcut hci h1
   obtain ⟨c0,c1,c2,c4⟩:=H3.out.cc
   obtain ⟨x0,x1,x2,x3⟩:=H3.out.xc
   go_wp2_with fail
   refine (HR.out _ H3.out.bw).mono ?_
   rintro r w4 ⟨v4,rfl,⟨s4,rfl,k4⟩,hB⟩
   have H4:=Lh (H3.out.later hB)
   have N4:Hid (NumV w4 (.agg #[.bool false,s4]) false Q):=Lh ⟨s4,rfl,k4⟩
   obtain ⟨p4,cp4,rfl,_⟩:=k4
   generalize hl4:(dgs Q).length=l4 at N4 ⊢
   clear hB c0 c1 c2 c4 x0 x1 x2 x3 H3 hl4 HR
   go_upto_region 13 with (fail)
   have H5:=Lh (H4.out.al (.cells #[.bool false,.slice p4 l4 cp4] 37))
   have N5:=Lh (N4.out.later (Qm w4 (.cells #[.bool false,.slice p4 l4 cp4] 37)))
   have Q5:=Lh (gal w4 (.cells #[.bool false,.slice p4 l4 cp4] 37))
   have G5:Hid (w4.heap.size≠w.heap.size+1):=Lh (by have:=H4.out.size;omega)
   generalize hg:w4.heap.size=gq at Q5 G5 ⊢
   generalize hw5:w4.alloc (.cells #[.bool false,.slice p4 l4 cp4] 37)=w5 at H5 N5 Q5 ⊢
   clear hg hw5 H4 N4
   obtain ⟨c0,c1,c2,c4⟩:=H5.out.cc
   obtain ⟨x0,x1,x2,x3⟩:=H5.out.xc
   by_cases hun:ex=false∧n=true∧(md=3∨md=4)
   ·have HV:Hid (S=SRV srNo):=Lh (by rw [HSb.out,if_pos hun])
    obtain ⟨rfl,rfl,hm⟩:=hun
    rcases hm with rfl | rfl
    ·obtain ⟨r0,r1,r2,r3,r4,r5,r6,r7⟩:=H5.out.rc
     obtain ⟨f0,f1,f2,f3,f4,f5,f6,f7⟩:=H5.out.rf
     go_wp2_with fail
     have h8:=QD H5.out.rb (.int .i64 0) (.bool false) (.int .i32 0) (.string ⟨#[]⟩) (.int .u32 0) (.bool false) (.bool false) (.bool false)
     have hb:=H5.out.done (.int .i64 0) (.bool false) (.int .i32 0) (.string ⟨#[]⟩) (.int .u32 0) (.bool false) (.bool false) (.bool false)
     unfold set8 at h8 hb
     exact bodyPost_ret (v:=.agg #[.int .i64 0,.bool false,.int .i32 0,.string ⟨#[]⟩,.int .u32 0,.bool false,.bool false,.bool false]) (by simp [results,Tryz.results11,go_sem,h8]) rfl ⟨Qz (by rw [HV.out];rfl),hb⟩
    ·obtain ⟨r0,r1,r2,r3,r4,r5,r6,r7⟩:=H5.out.rc
     obtain ⟨f0,f1,f2,f3,f4,f5,f6,f7⟩:=H5.out.rf
     go_wp2_with fail
     have h8:=QD H5.out.rb (.int .i64 0) (.bool false) (.int .i32 0) (.string ⟨#[]⟩) (.int .u32 0) (.bool false) (.bool false) (.bool false)
     have hb:=H5.out.done (.int .i64 0) (.bool false) (.int .i32 0) (.string ⟨#[]⟩) (.int .u32 0) (.bool false) (.bool false) (.bool false)
     unfold set8 at h8 hb
     exact bodyPost_ret (v:=.agg #[.int .i64 0,.bool false,.int .i32 0,.string ⟨#[]⟩,.int .u32 0,.bool false,.bool false,.bool false]) (by simp [results,Tryz.results11,go_sem,h8]) rfl ⟨Qz (by rw [HV.out];rfl),hb⟩
   ·have HV:Hid (S=SRV ⟨true,false,⟨0,n,mn - p+1,Q,subK (decide (Q=0)) ex⟩⟩):=Lh (by rw [HSb.out,if_neg hun])
    have hg:ex=true∨(ex=false∧(n=false∨(n=true∧md≠3∧md≠4))):=by
     cases ex
     ·refine .inr ⟨rfl,?_⟩
      cases n
      ·exact .inl rfl
      ·exact .inr ⟨rfl,fun h=>hun ⟨rfl,rfl,.inl h⟩,fun h=>hun ⟨rfl,rfl,.inr h⟩⟩
     ·exact .inl rfl
    clear hun
    rcases hg with rfl | ⟨rfl,hg⟩
    ·obtain ⟨cp,_⟩:=Qe Q5.out
     have cp0:w5.cell? ⟨gq,0,none⟩=some (.bool false):=cp 0
     have cp1:w5.cell? ⟨gq,1,none⟩=some (.slice p4 l4 cp4):=cp 1
     clear cp
     go_wp2_with fail
     refine (Q0b N5.out).mono ?_
     rintro r w6 ⟨rfl,hB⟩
     have H6:=Lh (H5.out.later hB)
     have N6:=Lh (N5.out.later hB)
     have Q6:=Lh (Qb Q5.out hB)
     clear hB H5 N5 Q5 c0 c1 c2 c4 x0 x1 x2 x3 cp0 cp1
     obtain ⟨cq,_⟩:=Qe Q6.out
     have cq0:w6.cell? ⟨gq,0,none⟩=some (.bool false):=cq 0
     have cq1:w6.cell? ⟨gq,1,none⟩=some (.slice p4 l4 cp4):=cq 1
     clear cq
     obtain ⟨c0,c1,c2,c4⟩:=H6.out.cc
     obtain ⟨x0,x1,x2,x3⟩:=H6.out.xc
     obtain ⟨y0,y1,y2,y3⟩:=H6.out.xf
     have H7:=Lh (H6.out.setX n (.slice p4 l4 cp4) (mn - (p:Int)+1))
     have N7:=Lh (N6.out.keep H6.out.xb (by rfl) ((((Only.refl (w.heap.size+1) w6).set 0 (.bool n)).set 1 (.bool false)).set 2 (.slice p4 l4 cp4) |>.set 3 (.int .i64 (mn - (p:Int)+1))))
     by_cases hz:Q=0
     ·have HV2:Hid (S=SRV ⟨true,false,⟨0,n,mn - p+1,Q,2144⟩⟩):=Lh (by rw [HV.out,decide_eq_true hz];rfl)
      rw [decide_eq_true hz]
      clear hz
      go_upto_region 21 with (fail)
      generalize (((w6.setCell ⟨w.heap.size+1,0,none⟩ (.bool n)).setCell ⟨w.heap.size+1,1,none⟩ (.bool false)).setCell ⟨w.heap.size+1,2,none⟩ (.slice p4 l4 cp4)).setCell ⟨w.heap.size+1,3,none⟩ (.int .i64 (mn - (p:Int)+1))=w7 at H7 N7 ⊢
      clear c0 c1 c2 c4 x0 x1 x2 x3 y0 y1 y2 y3 cq0 cq1 H6 N6 Q6
      obtain ⟨c0,c1,c2,c4⟩:=H7.out.cc
      obtain ⟨x0,x1,x2,x3⟩:=H7.out.xc
      go_wp2_with fail
      refine (HT.out _ (.slice p4 l4 cp4) Q (mn - (p:Int)+1) H7.out.bw N7.out (by omega) (by first | omega | exact HLq.out)).mono ?_
      rintro r w8 ⟨rfl,hB⟩
      have Hw8:=Lh (H7.out.later hB)
      unfold DV
      generalize hT0:txS Q=T0
      have HT0:=Lh hT0
      clear hB c0 c1 c2 c4 x0 x1 x2 x3 H7 hT0
      obtain ⟨r0,r1,r2,r3,r4,r5,r6,r7⟩:=Hw8.out.rc
      obtain ⟨f0,f1,f2,f3,f4,f5,f6,f7⟩:=Hw8.out.rf
      go_wp2_with fail
      have h8:=QD Hw8.out.rb (.int .i64 0) (.bool n) (.int .i32 ((mn - (p:Int)+1))) (.string T0) (.int .u32 2144) (.bool true) (.bool false) (.bool false)
      have hb:=Hw8.out.done (.int .i64 0) (.bool n) (.int .i32 ((mn - (p:Int)+1))) (.string T0) (.int .u32 2144) (.bool true) (.bool false) (.bool false)
      unfold set8 at h8 hb
      exact bodyPost_ret (v:=.agg #[.int .i64 0,.bool n,.int .i32 ((mn - (p:Int)+1)),.string T0,.int .u32 2144,.bool true,.bool false,.bool false]) (by simp [results,Tryz.results11,go_sem,h8]) rfl ⟨Qz (by rw [HV2.out,← HT0.out];rfl),hb⟩
     ·have HV2:Hid (S=SRV ⟨true,false,⟨0,n,mn - p+1,Q,96⟩⟩):=Lh (by rw [HV.out,decide_eq_false hz];rfl)
      rw [decide_eq_false hz]
      clear hz
      go_upto_region 21 with (fail)
      generalize (((w6.setCell ⟨w.heap.size+1,0,none⟩ (.bool n)).setCell ⟨w.heap.size+1,1,none⟩ (.bool false)).setCell ⟨w.heap.size+1,2,none⟩ (.slice p4 l4 cp4)).setCell ⟨w.heap.size+1,3,none⟩ (.int .i64 (mn - (p:Int)+1))=w7 at H7 N7 ⊢
      clear c0 c1 c2 c4 x0 x1 x2 x3 y0 y1 y2 y3 cq0 cq1 H6 N6 Q6
      obtain ⟨c0,c1,c2,c4⟩:=H7.out.cc
      obtain ⟨x0,x1,x2,x3⟩:=H7.out.xc
      go_wp2_with fail
      refine (HT.out _ (.slice p4 l4 cp4) Q (mn - (p:Int)+1) H7.out.bw N7.out (by omega) (by first | omega | exact HLq.out)).mono ?_
      rintro r w8 ⟨rfl,hB⟩
      have Hw8:=Lh (H7.out.later hB)
      unfold DV
      generalize hT0:txS Q=T0
      have HT0:=Lh hT0
      clear hB c0 c1 c2 c4 x0 x1 x2 x3 H7 hT0
      obtain ⟨r0,r1,r2,r3,r4,r5,r6,r7⟩:=Hw8.out.rc
      obtain ⟨f0,f1,f2,f3,f4,f5,f6,f7⟩:=Hw8.out.rf
      go_wp2_with fail
      have h8:=QD Hw8.out.rb (.int .i64 0) (.bool n) (.int .i32 ((mn - (p:Int)+1))) (.string T0) (.int .u32 96) (.bool true) (.bool false) (.bool false)
      have hb:=Hw8.out.done (.int .i64 0) (.bool n) (.int .i32 ((mn - (p:Int)+1))) (.string T0) (.int .u32 96) (.bool true) (.bool false) (.bool false)
      unfold set8 at h8 hb
      exact bodyPost_ret (v:=.agg #[.int .i64 0,.bool n,.int .i32 ((mn - (p:Int)+1)),.string T0,.int .u32 96,.bool true,.bool false,.bool false]) (by simp [results,Tryz.results11,go_sem,h8]) rfl ⟨Qz (by rw [HV2.out,← HT0.out];rfl),hb⟩
    ·rcases hg with rfl | ⟨rfl,hm3,hm4⟩
     ·obtain ⟨cp,_⟩:=Qe Q5.out
      have cp0:w5.cell? ⟨gq,0,none⟩=some (.bool false):=cp 0
      have cp1:w5.cell? ⟨gq,1,none⟩=some (.slice p4 l4 cp4):=cp 1
      clear cp
      go_wp2_with fail
      refine (Q0b N5.out).mono ?_
      rintro r w6 ⟨rfl,hB⟩
      have H6:=Lh (H5.out.later hB)
      have N6:=Lh (N5.out.later hB)
      have Q6:=Lh (Qb Q5.out hB)
      clear hB H5 N5 Q5 c0 c1 c2 c4 x0 x1 x2 x3 cp0 cp1
      obtain ⟨cq,_⟩:=Qe Q6.out
      have cq0:w6.cell? ⟨gq,0,none⟩=some (.bool false):=cq 0
      have cq1:w6.cell? ⟨gq,1,none⟩=some (.slice p4 l4 cp4):=cq 1
      clear cq
      obtain ⟨c0,c1,c2,c4⟩:=H6.out.cc
      obtain ⟨x0,x1,x2,x3⟩:=H6.out.xc
      obtain ⟨y0,y1,y2,y3⟩:=H6.out.xf
      have H7:=Lh (H6.out.setX false (.slice p4 l4 cp4) (mn - (p:Int)+1))
      have N7:=Lh (N6.out.keep H6.out.xb (by rfl) ((((Only.refl (w.heap.size+1) w6).set 0 (.bool false)).set 1 (.bool false)).set 2 (.slice p4 l4 cp4) |>.set 3 (.int .i64 (mn - (p:Int)+1))))
      by_cases hz:Q=0
      ·have HV2:Hid (S=SRV ⟨true,false,⟨0,false,mn - p+1,Q,2168⟩⟩):=Lh (by rw [HV.out,decide_eq_true hz];rfl)
       rw [decide_eq_true hz]
       clear hz
       go_upto_region 21 with (fail)
       generalize (((w6.setCell ⟨w.heap.size+1,0,none⟩ (.bool false)).setCell ⟨w.heap.size+1,1,none⟩ (.bool false)).setCell ⟨w.heap.size+1,2,none⟩ (.slice p4 l4 cp4)).setCell ⟨w.heap.size+1,3,none⟩ (.int .i64 (mn - (p:Int)+1))=w7 at H7 N7 ⊢
       clear c0 c1 c2 c4 x0 x1 x2 x3 y0 y1 y2 y3 cq0 cq1 H6 N6 Q6
       obtain ⟨c0,c1,c2,c4⟩:=H7.out.cc
       obtain ⟨x0,x1,x2,x3⟩:=H7.out.xc
       go_wp2_with fail
       refine (HT.out _ (.slice p4 l4 cp4) Q (mn - (p:Int)+1) H7.out.bw N7.out (by omega) (by first | omega | exact HLq.out)).mono ?_
       rintro r w8 ⟨rfl,hB⟩
       have Hw8:=Lh (H7.out.later hB)
       unfold DV
       generalize hT0:txS Q=T0
       have HT0:=Lh hT0
       clear hB c0 c1 c2 c4 x0 x1 x2 x3 H7 hT0
       obtain ⟨r0,r1,r2,r3,r4,r5,r6,r7⟩:=Hw8.out.rc
       obtain ⟨f0,f1,f2,f3,f4,f5,f6,f7⟩:=Hw8.out.rf
       go_wp2_with fail
       have h8:=QD Hw8.out.rb (.int .i64 0) (.bool false) (.int .i32 ((mn - (p:Int)+1))) (.string T0) (.int .u32 2168) (.bool true) (.bool false) (.bool false)
       have hb:=Hw8.out.done (.int .i64 0) (.bool false) (.int .i32 ((mn - (p:Int)+1))) (.string T0) (.int .u32 2168) (.bool true) (.bool false) (.bool false)
       unfold set8 at h8 hb
       exact bodyPost_ret (v:=.agg #[.int .i64 0,.bool false,.int .i32 ((mn - (p:Int)+1)),.string T0,.int .u32 2168,.bool true,.bool false,.bool false]) (by simp [results,Tryz.results11,go_sem,h8]) rfl ⟨Qz (by rw [HV2.out,← HT0.out];rfl),hb⟩
      ·have HV2:Hid (S=SRV ⟨true,false,⟨0,false,mn - p+1,Q,120⟩⟩):=Lh (by rw [HV.out,decide_eq_false hz];rfl)
       rw [decide_eq_false hz]
       clear hz
       go_upto_region 21 with (fail)
       generalize (((w6.setCell ⟨w.heap.size+1,0,none⟩ (.bool false)).setCell ⟨w.heap.size+1,1,none⟩ (.bool false)).setCell ⟨w.heap.size+1,2,none⟩ (.slice p4 l4 cp4)).setCell ⟨w.heap.size+1,3,none⟩ (.int .i64 (mn - (p:Int)+1))=w7 at H7 N7 ⊢
       clear c0 c1 c2 c4 x0 x1 x2 x3 y0 y1 y2 y3 cq0 cq1 H6 N6 Q6
       obtain ⟨c0,c1,c2,c4⟩:=H7.out.cc
       obtain ⟨x0,x1,x2,x3⟩:=H7.out.xc
       go_wp2_with fail
       refine (HT.out _ (.slice p4 l4 cp4) Q (mn - (p:Int)+1) H7.out.bw N7.out (by omega) (by first | omega | exact HLq.out)).mono ?_
       rintro r w8 ⟨rfl,hB⟩
       have Hw8:=Lh (H7.out.later hB)
       unfold DV
       generalize hT0:txS Q=T0
       have HT0:=Lh hT0
       clear hB c0 c1 c2 c4 x0 x1 x2 x3 H7 hT0
       obtain ⟨r0,r1,r2,r3,r4,r5,r6,r7⟩:=Hw8.out.rc
       obtain ⟨f0,f1,f2,f3,f4,f5,f6,f7⟩:=Hw8.out.rf
       go_wp2_with fail
       have h8:=QD Hw8.out.rb (.int .i64 0) (.bool false) (.int .i32 ((mn - (p:Int)+1))) (.string T0) (.int .u32 120) (.bool true) (.bool false) (.bool false)
       have hb:=Hw8.out.done (.int .i64 0) (.bool false) (.int .i32 ((mn - (p:Int)+1))) (.string T0) (.int .u32 120) (.bool true) (.bool false) (.bool false)
       unfold set8 at h8 hb
       exact bodyPost_ret (v:=.agg #[.int .i64 0,.bool false,.int .i32 ((mn - (p:Int)+1)),.string T0,.int .u32 120,.bool true,.bool false,.bool false]) (by simp [results,Tryz.results11,go_sem,h8]) rfl ⟨Qz (by rw [HV2.out,← HT0.out];rfl),hb⟩
     ·have hm3':((md:Int) == 3)=false:=by simp;omega
      have hm4':((md:Int) == 4)=false:=by simp;omega
      clear hm3 hm4
      obtain ⟨cp,_⟩:=Qe Q5.out
      have cp0:w5.cell? ⟨gq,0,none⟩=some (.bool false):=cp 0
      have cp1:w5.cell? ⟨gq,1,none⟩=some (.slice p4 l4 cp4):=cp 1
      clear cp
      go_wp2_with fail
      refine (Q0b N5.out).mono ?_
      rintro r w6 ⟨rfl,hB⟩
      have H6:=Lh (H5.out.later hB)
      have N6:=Lh (N5.out.later hB)
      have Q6:=Lh (Qb Q5.out hB)
      clear hB H5 N5 Q5 c0 c1 c2 c4 x0 x1 x2 x3 cp0 cp1
      obtain ⟨cq,_⟩:=Qe Q6.out
      have cq0:w6.cell? ⟨gq,0,none⟩=some (.bool false):=cq 0
      have cq1:w6.cell? ⟨gq,1,none⟩=some (.slice p4 l4 cp4):=cq 1
      clear cq
      obtain ⟨c0,c1,c2,c4⟩:=H6.out.cc
      obtain ⟨x0,x1,x2,x3⟩:=H6.out.xc
      obtain ⟨y0,y1,y2,y3⟩:=H6.out.xf
      have H7:=Lh (H6.out.setX true (.slice p4 l4 cp4) (mn - (p:Int)+1))
      have N7:=Lh (N6.out.keep H6.out.xb (by rfl) ((((Only.refl (w.heap.size+1) w6).set 0 (.bool true)).set 1 (.bool false)).set 2 (.slice p4 l4 cp4) |>.set 3 (.int .i64 (mn - (p:Int)+1))))
      by_cases hz:Q=0
      ·have HV2:Hid (S=SRV ⟨true,false,⟨0,true,mn - p+1,Q,2168⟩⟩):=Lh (by rw [HV.out,decide_eq_true hz];rfl)
       rw [decide_eq_true hz]
       clear hz
       go_upto_region 21 with (fail)
       generalize (((w6.setCell ⟨w.heap.size+1,0,none⟩ (.bool true)).setCell ⟨w.heap.size+1,1,none⟩ (.bool false)).setCell ⟨w.heap.size+1,2,none⟩ (.slice p4 l4 cp4)).setCell ⟨w.heap.size+1,3,none⟩ (.int .i64 (mn - (p:Int)+1))=w7 at H7 N7 ⊢
       clear c0 c1 c2 c4 x0 x1 x2 x3 y0 y1 y2 y3 cq0 cq1 H6 N6 Q6
       obtain ⟨c0,c1,c2,c4⟩:=H7.out.cc
       obtain ⟨x0,x1,x2,x3⟩:=H7.out.xc
       go_wp2_with fail
       refine (HT.out _ (.slice p4 l4 cp4) Q (mn - (p:Int)+1) H7.out.bw N7.out (by omega) (by first | omega | exact HLq.out)).mono ?_
       rintro r w8 ⟨rfl,hB⟩
       have Hw8:=Lh (H7.out.later hB)
       unfold DV
       generalize hT0:txS Q=T0
       have HT0:=Lh hT0
       clear hB c0 c1 c2 c4 x0 x1 x2 x3 H7 hT0
       obtain ⟨r0,r1,r2,r3,r4,r5,r6,r7⟩:=Hw8.out.rc
       obtain ⟨f0,f1,f2,f3,f4,f5,f6,f7⟩:=Hw8.out.rf
       go_wp2_with fail
       have h8:=QD Hw8.out.rb (.int .i64 0) (.bool true) (.int .i32 ((mn - (p:Int)+1))) (.string T0) (.int .u32 2168) (.bool true) (.bool false) (.bool false)
       have hb:=Hw8.out.done (.int .i64 0) (.bool true) (.int .i32 ((mn - (p:Int)+1))) (.string T0) (.int .u32 2168) (.bool true) (.bool false) (.bool false)
       unfold set8 at h8 hb
       exact bodyPost_ret (v:=.agg #[.int .i64 0,.bool true,.int .i32 ((mn - (p:Int)+1)),.string T0,.int .u32 2168,.bool true,.bool false,.bool false]) (by simp [results,Tryz.results11,go_sem,h8]) rfl ⟨Qz (by rw [HV2.out,← HT0.out];rfl),hb⟩
      ·have HV2:Hid (S=SRV ⟨true,false,⟨0,true,mn - p+1,Q,120⟩⟩):=Lh (by rw [HV.out,decide_eq_false hz];rfl)
       rw [decide_eq_false hz]
       clear hz
       go_upto_region 21 with (fail)
       generalize (((w6.setCell ⟨w.heap.size+1,0,none⟩ (.bool true)).setCell ⟨w.heap.size+1,1,none⟩ (.bool false)).setCell ⟨w.heap.size+1,2,none⟩ (.slice p4 l4 cp4)).setCell ⟨w.heap.size+1,3,none⟩ (.int .i64 (mn - (p:Int)+1))=w7 at H7 N7 ⊢
       clear c0 c1 c2 c4 x0 x1 x2 x3 y0 y1 y2 y3 cq0 cq1 H6 N6 Q6
       obtain ⟨c0,c1,c2,c4⟩:=H7.out.cc
       obtain ⟨x0,x1,x2,x3⟩:=H7.out.xc
       go_wp2_with fail
       refine (HT.out _ (.slice p4 l4 cp4) Q (mn - (p:Int)+1) H7.out.bw N7.out (by omega) (by first | omega | exact HLq.out)).mono ?_
       rintro r w8 ⟨rfl,hB⟩
       have Hw8:=Lh (H7.out.later hB)
       unfold DV
       generalize hT0:txS Q=T0
       have HT0:=Lh hT0
       clear hB c0 c1 c2 c4 x0 x1 x2 x3 H7 hT0
       obtain ⟨r0,r1,r2,r3,r4,r5,r6,r7⟩:=Hw8.out.rc
       obtain ⟨f0,f1,f2,f3,f4,f5,f6,f7⟩:=Hw8.out.rf
       go_wp2_with fail
       have h8:=QD Hw8.out.rb (.int .i64 0) (.bool true) (.int .i32 ((mn - (p:Int)+1))) (.string T0) (.int .u32 120) (.bool true) (.bool false) (.bool false)
       have hb:=Hw8.out.done (.int .i64 0) (.bool true) (.int .i32 ((mn - (p:Int)+1))) (.string T0) (.int .u32 120) (.bool true) (.bool false) (.bool false)
       unfold set8 at h8 hb
       exact bodyPost_ret (v:=.agg #[.int .i64 0,.bool true,.int .i32 ((mn - (p:Int)+1)),.string T0,.int .u32 120,.bool true,.bool false,.bool false]) (by simp [results,Tryz.results11,go_sem,h8]) rfl ⟨Qz (by rw [HV2.out,← HT0.out];rfl),hb⟩
  ·have b1:decide (e<mn - (p:Int)+1)=false:=decide_eq_false h1
   have HV:Hid (S=SRV ⟨true,false,⟨0,n,e,c,32⟩⟩):=Lh (by rw [HS.out];unfold finS;rw [if_neg HC0.out,if_pos HADJ.out,if_neg hp0,if_neg h1])
   have HLq:Hid ((dgs c).length≤4000000000):=Lh (by rw [HL.out];omega)
   clear h1
   obtain ⟨c0,c1,c2,c4⟩:=H3.out.cc
   obtain ⟨x0,x1,x2,x3⟩:=H3.out.xc
   go_wp2_with fail
   refine (HT.out _ (.slice q L cap) c e H3.out.bw (HD0.out _ H3.out.bw) (by omega) (by first | omega | exact HLq.out)).mono ?_
   rintro r w4 ⟨rfl,hB⟩
   have Hw4:=Lh (H3.out.later hB)
   unfold DV
   generalize hT0:txS c=T0
   have HT0:=Lh hT0
   clear hB c0 c1 c2 c4 x0 x1 x2 x3 H3 hT0
   obtain ⟨r0,r1,r2,r3,r4,r5,r6,r7⟩:=Hw4.out.rc
   obtain ⟨f0,f1,f2,f3,f4,f5,f6,f7⟩:=Hw4.out.rf
   go_wp2_with fail
   have h8:=QD Hw4.out.rb (.int .i64 0) (.bool n) (.int .i32 (e)) (.string T0) (.int .u32 32) (.bool true) (.bool false) (.bool false)
   have hb:=Hw4.out.done (.int .i64 0) (.bool n) (.int .i32 (e)) (.string T0) (.int .u32 32) (.bool true) (.bool false) (.bool false)
   unfold set8 at h8 hb
   exact bodyPost_ret (v:=.agg #[.int .i64 0,.bool n,.int .i32 (e),.string T0,.int .u32 32,.bool true,.bool false,.bool false]) (by simp [results,Tryz.results11,go_sem,h8]) rfl ⟨Qz (by rw [HV.out,← HT0.out];rfl),hb⟩
end Go.Proofs.YtpebcmfpehdafaaGreatDoor
