/- a part of the proof -/
import Derived.Test.YtpebcmfpehdafaaGreatDoorZ18
set_option linter.all false
set_option maxRecDepth 100000
set_option maxHeartbeats 16000000
namespace Go.Proofs.YtpebcmfpehdafaaGreatDoor
open Go Go.RowKit
theorem Q5I {w:World}(p md tr:Nat)(mx mn:Int)(hp:p≤60)(hmx:0≤mx∧mx≤500)(hmn:mn≤0 ∧ -500≤mn)(hmd:md<8){v:Value}{n:Bool}{c:Nat}{e:Int}(hx:FinV w v n c e)(he : -10000≤e∧e≤10000)(hlen:(dgs c).length≤10000)(hc:c≠0)(hadj:¬ e+ndg c - 1<mn)(hcut:¬ (0<p∧p<ndg c)) :
  Calls Tryz.prog 11 #[CV p mx mn tr md,v,.int .u32 0] w fun r w'=>r=.returned (SRV (finS p mx mn md n e c))∧Below w.heap.size w w':=by
 obtain ⟨s,rfl,hs⟩:=hx
 have hs0:=Lh hs
 obtain ⟨q,cap,rfl,_⟩:=hs
 have HC0:=Lh hc
 have HADJ:Hid (mn≤e+ndg c - 1):=Lh (by omega)
 have HCUT:=Lh hcut
 clear hc hadj hcut
 obtain ⟨hmx1,hmx2⟩:=hmx
 obtain ⟨hmn1,hmn2⟩:=hmn
 obtain ⟨he1,he2⟩:=he
 have H0:=Lh (FS.start (w:=w) (p:=(p:Int)) (mx:=mx) (mn:=mn) (tr:=(tr:Int)) (md:=(md:Int)) (n:=n) (s:=.slice q (dgs c).length cap) (e:=e))
 have HD0:Hid (∀ w2,Below w.heap.size w w2→NumV w2 (.agg #[.bool false,.slice q (dgs c).length cap]) false c):=Lh (fun w2 h=>⟨_,rfl,hs0.out.later h⟩)
 have i1:IntKind.i64.wrap (p:Int)=(p:Int):=IntWalk.i64_in _ (by omega)
 have i2:IntKind.i64.wrap mn=mn:=IntWalk.i64_in _ (by omega)
 have i3:IntKind.i64.wrap (mn - (p:Int))=mn - (p:Int):=IntWalk.i64_in _ (by omega)
 have i4:IntKind.i64.wrap (mn - (p:Int)+1)=mn - (p:Int)+1:=IntWalk.i64_in _ (by omega)
 have i5:IntKind.i64.wrap mx=mx:=IntWalk.i64_in _ (by omega)
 have o1:bits .or .u32 0 32=32:=by kernel_rfl
 have o2:bits .or .u32 32 64=96:=by kernel_rfl
 have o3:bits .or .u32 96 24=120:=by kernel_rfl
 have o4:bits .or .u32 96 2048=2144:=by kernel_rfl
 have o5:bits .or .u32 120 2048=2168:=by kernel_rfl
 have o6:bits .or .u32 0 64=64:=by kernel_rfl
 have o7:bits .or .u32 64 16=80:=by kernel_rfl
 obtain ⟨S,hS⟩:∃ S,S=SRV (finS p mx mn md n e c):=⟨_,rfl⟩
 rw [← hS]
 have HS:=Lh hS
 generalize hL:(dgs c).length=L at H0 HD0 hlen ⊢
 have HL:=Lh hL
 obtain ⟨wA,hwA⟩:∃ wA,wA=((w.alloc (.cells #[.int .u32 (p:Int),.int .i32 mx,.int .i32 mn,.int .u32 (tr:Int),.int .i64 (md:Int)] 24)).alloc (.cells #[.bool n,.bool false,.slice q L cap,.int .i64 e] 39)).alloc (.cells #[.int .i64 0,.bool false,.int .i32 0,.string ⟨#[]⟩,.int .u32 0,.bool false,.bool false,.bool false] 33):=⟨_,rfl⟩
 rw [← hwA] at H0
 unfold CV
 clear hs0 hS hL
 obtain ⟨c0,c1,c2,c4⟩:=H0.out.cc
 obtain ⟨x0,x1,x2,x3⟩:=H0.out.xc
 go_enter Tryz.func11, Tryz.ntmps11
 go_wp2_with fail
 rw [← hwA]
 have HwA:=Lh hwA
 clear hwA
 go_quiet (fail)
 go_wp2_with fail
 refine (Q0b (HD0.out _ (H0.out.drewN _).bw)).mono ?_
 rintro r w1 ⟨rfl,hB⟩
 have H1:=Lh ((H0.out.drewN _).later hB)
 clear hB H0 c0 c1 c2 c4 x0 x1 x2 x3
 rw [decide_eq_false HC0.out]
 obtain ⟨x0,x1,x2,x3⟩:=H1.out.xc
 go_wp2_with fail
 refine AH.start (fun x=>x.cell? ⟨w.heap.size+1,0,none⟩=some (.bool n)∧x.cell? ⟨w.heap.size+1,1,none⟩=some (.bool false)∧x.cell? ⟨w.heap.size+1,2,none⟩=some (.slice q L cap)∧x.cell? ⟨w.heap.size+1,3,none⟩=some (.int .i64 e)) (by kernel_rfl) ?_
 clear x0 x1 x2 x3
 generalize hw2:w1.drew=w2
 have H2:Hid (FS w (p:Int) mx mn (tr:Int) (md:Int) n (.slice q L cap) e w2):=by rw [← hw2];exact Lh H1.out.drew
 clear hw2 H1
 have s2:=H2.out.xc
 refine AH.z 0 s2 ?_
 refine AH.z 1 s2 ?_
 refine AH.z 2 s2 ?_
 refine AH.z 3 s2 ?_
 refine AH.o 4 (fun K hK=>?_)
 go_simp
 refine (Qn (HD0.out _ H2.out.bw)).mono ?_
 rintro r w3 ⟨rfl,hB⟩
 have H3:=Lh (H2.out.later hB)
 have s3:=H3.out.xc
 refine hK _ _ s3 ?_
 clear hK K hB s2 H2
 try simp only [Act.put,Zp_]
 have hN0:=Qi c
 have hNL:=Qw c HC0.out
 rw [HL.out] at hNL
 generalize hN:ndg c=N at hN0 hNL ⊢
 have HN:=Lh hN
 have hN1:N≤10000:=by omega
 have i6:IntKind.i64.wrap (e+(N:Int))=e+(N:Int):=IntWalk.i64_in _ (by omega)
 have i7:IntKind.i64.wrap (e+(N:Int) - 1)=e+(N:Int) - 1:=IntWalk.i64_in _ (by omega)
 clear hN hNL
 refine AH.z 5 s3 ?_
 refine AH.z 6 s3 ?_
 refine AH.z 7 s3 ?_
 clear s3
 refine AH.done (by kernel_rfl) ?_
 have badj:decide (e+(N:Int) - 1<mn)=false:=decide_eq_false (by have:=HADJ.out;rw [HN.out] at this;omega)
 have HV:Hid (S=SRV (endS mx n e c 0)):=Lh (by rw [HS.out];unfold finS;rw [if_neg HC0.out,if_neg (by have:=HADJ.out;omega),if_neg HCUT.out])
 have hct:¬ (0<p∧p<N):=by rw [← HN.out];exact HCUT.out
 have HM1:Hid (ndg c≤10000):=Lh (by rw [HN.out];omega)
 have HT:Hid (∀ w2 s' c' e',Below w.heap.size w w2→NumV w2 (.agg #[.bool false,s']) false c'→(-100000≤e'∧e'≤100000)→(dgs c').length≤4000000000→Calls Tryz.prog 20 #[.agg #[.bool n,.bool false,s',.int .i64 e']] w2 fun r w'=>r=.returned (DV 0 n e' (txS c'))∧Below w2.heap.size w2 w'):=Lh (fun w2 s' c' e' h hN he' hl=>by
  obtain ⟨s'',hs',hd⟩:=hN
  have hq:s'=s'':=by
   have:=congrArg (fun v=>match v with | Value.agg cs=>cs.toList | _=>[]) hs'
   simpa using this
  exact Q0z ⟨_,rfl,by rw [hq];exact hd⟩ he' hl)
 obtain ⟨c0,c1,c2,c4⟩:=H3.out.cc
 obtain ⟨x0,x1,x2,x3⟩:=H3.out.xc
 by_cases hp0:0<p
 ·have bp:decide ((0:Int)<(p:Int))=true:=by simp;omega
  have bn:decide ((p:Int)<(N:Int))=false:=by simp;omega
  have bp':decide (0<p)=true:=decide_eq_true hp0
  have bn':decide (p<N)=false:=decide_eq_false (by omega)
  clear hct hp0
  go_wp2_with fail
  refine (Qn (HD0.out _ H3.out.bw)).mono ?_
  rintro r w4 ⟨rfl,hB⟩
  rw [HN.out]
  have H4:=Lh (H3.out.later hB)
  clear hB H3 c0 c1 c2 c4 x0 x1 x2 x3
  obtain ⟨c0,c1,c2,c4⟩:=H4.out.cc
  obtain ⟨x0,x1,x2,x3⟩:=H4.out.xc
  go_wp2_with fail
  clear c0 c1 c2 c4 x0 x1 x2 x3
  refine AH.start (fun x=>x.cell? ⟨w.heap.size+1,0,none⟩=some (.bool n)∧x.cell? ⟨w.heap.size+1,1,none⟩=some (.bool false)∧x.cell? ⟨w.heap.size+1,2,none⟩=some (.slice q L cap)∧x.cell? ⟨w.heap.size+1,3,none⟩=some (.int .i64 e)∧x.cell? ⟨w.heap.size,1,none⟩=some (.int .i32 mx)) (by kernel_rfl) ?_
  generalize hwT:w4.drew=wT
  have HT1:Hid (FS w (p:Int) mx mn (tr:Int) (md:Int) n (.slice q L cap) e wT):=by rw [← hwT];exact Lh H4.out.drew
  have NT1:Hid (NumV wT (.agg #[.bool false,(.slice q L cap)]) false c):=by rw [← hwT];exact Lh ((HD0.out _ H4.out.bw).later ⟨rfl,rfl,rfl,Nat.le_refl _,fun _ _=>rfl⟩)
  clear hwT H4
  have sT:wT.cell? ⟨w.heap.size+1,0,none⟩=some (.bool n)∧wT.cell? ⟨w.heap.size+1,1,none⟩=some (.bool false)∧wT.cell? ⟨w.heap.size+1,2,none⟩=some (.slice q L cap)∧wT.cell? ⟨w.heap.size+1,3,none⟩=some (.int .i64 e)∧wT.cell? ⟨w.heap.size,1,none⟩=some (.int .i32 mx):=⟨HT1.out.xc.1,HT1.out.xc.2.1,HT1.out.xc.2.2.1,HT1.out.xc.2.2.2,HT1.out.cc.2.1⟩
  refine AH.z 0 sT ?_
  refine AH.z 1 sT ?_
  refine AH.z 2 sT ?_
  refine AH.z 3 sT ?_
  refine AH.z 7 sT ?_
  refine AH.z 8 sT ?_
  refine AH.z 9 sT ?_
  refine AH.o 4 (fun K hK=>?_)
  go_simp
  refine (Qn NT1.out).mono ?_
  rintro r wU ⟨rfl,hB⟩
  have HU:=Lh (HT1.out.later hB)
  have NU:=Lh (NT1.out.later hB)
  have sU:wU.cell? ⟨w.heap.size+1,0,none⟩=some (.bool n)∧wU.cell? ⟨w.heap.size+1,1,none⟩=some (.bool false)∧wU.cell? ⟨w.heap.size+1,2,none⟩=some (.slice q L cap)∧wU.cell? ⟨w.heap.size+1,3,none⟩=some (.int .i64 e)∧wU.cell? ⟨w.heap.size,1,none⟩=some (.int .i32 mx):=⟨HU.out.xc.1,HU.out.xc.2.1,HU.out.xc.2.2.1,HU.out.xc.2.2.2,HU.out.cc.2.1⟩
  refine hK _ _ sU ?_
  clear hK K hB sT HT1 NT1
  try simp only [Act.put,Zp_]
  have hM0:=Qi c
  have hM1:=HM1.out
  generalize hM:ndg c=M at hM0 hM1 ⊢
  have HMM:=Lh hM
  have j6:IntKind.i64.wrap (e+(M:Int))=e+(M:Int):=IntWalk.i64_in _ (by omega)
  have j7:IntKind.i64.wrap (e+(M:Int) - 1)=e+(M:Int) - 1:=IntWalk.i64_in _ (by omega)
  clear hM
  refine AH.z 5 sU ?_
  refine AH.z 6 sU ?_
  refine AH.z 10 sU ?_
  clear sU
  refine AH.done (by kernel_rfl) ?_
  by_cases hov:mx<e+(M:Int) - 1
  ·have bov:decide (mx<e+(M:Int) - 1)=true:=decide_eq_true hov
   have HV2:Hid (S=SRV ⟨true,true,⟨1,n,0,0,4⟩⟩):=Lh (by rw [HV.out];unfold endS;rw [HMM.out,if_pos hov])
   obtain ⟨x0,x1,x2,x3⟩:=HU.out.xc
   obtain ⟨r0,r1,r2,r3,r4,r5,r6,r7⟩:=HU.out.rc
   obtain ⟨f0,f1,f2,f3,f4,f5,f6,f7⟩:=HU.out.rf
   go_wp2_with fail
   have h8:=QD HU.out.rb (.int .i64 1) (.bool n) (.int .i32 0) (.string ⟨#[]⟩) (.int .u32 4) (.bool true) (.bool false) (.bool true)
   have hb:=HU.out.done (.int .i64 1) (.bool n) (.int .i32 0) (.string ⟨#[]⟩) (.int .u32 4) (.bool true) (.bool false) (.bool true)
   unfold set8 at h8 hb
   exact bodyPost_ret (v:=.agg #[.int .i64 1,.bool n,.int .i32 0,.string ⟨#[]⟩,.int .u32 4,.bool true,.bool false,.bool true]) (by simp [results,Tryz.results11,go_sem,h8]) rfl ⟨Qz (by rw [HV2.out];rfl),hb⟩
  ·have bov:decide (mx<e+(M:Int) - 1)=false:=decide_eq_false hov
   have HV2:Hid (S=SRV ⟨true,false,⟨0,n,e,c,0⟩⟩):=Lh (by rw [HV.out];unfold endS;rw [HMM.out,if_neg hov])
   have HLq:Hid ((dgs c).length≤4000000000):=Lh (by
    by_cases e0:c=0
    ·rw [e0,Qp];simp
    ·rw [Qw _ e0,HMM.out];omega)
   obtain ⟨c0,c1,c2,c4⟩:=HU.out.cc
   obtain ⟨x0,x1,x2,x3⟩:=HU.out.xc
   go_wp2_with fail
   refine (HT.out _ (.slice q L cap) c e HU.out.bw NU.out (by omega) (by first | omega | exact HLq.out)).mono ?_
   rintro r wV ⟨rfl,hB⟩
   have HwV:=Lh (HU.out.later hB)
   unfold DV
   generalize hT0:txS c=T0
   have HT0:=Lh hT0
   clear hB c0 c1 c2 c4 x0 x1 x2 x3 HU hT0
   obtain ⟨r0,r1,r2,r3,r4,r5,r6,r7⟩:=HwV.out.rc
   obtain ⟨f0,f1,f2,f3,f4,f5,f6,f7⟩:=HwV.out.rf
   go_wp2_with fail
   have h8:=QD HwV.out.rb (.int .i64 0) (.bool n) (.int .i32 (e)) (.string T0) (.int .u32 0) (.bool true) (.bool false) (.bool false)
   have hb:=HwV.out.done (.int .i64 0) (.bool n) (.int .i32 (e)) (.string T0) (.int .u32 0) (.bool true) (.bool false) (.bool false)
   unfold set8 at h8 hb
   exact bodyPost_ret (v:=.agg #[.int .i64 0,.bool n,.int .i32 (e),.string T0,.int .u32 0,.bool true,.bool false,.bool false]) (by simp [results,Tryz.results11,go_sem,h8]) rfl ⟨Qz (by rw [HV2.out,← HT0.out];rfl),hb⟩
 ·have bp:decide ((0:Int)<(p:Int))=false:=by simp;omega
  have bp':decide (0<p)=false:=decide_eq_false hp0
  clear hct hp0
  go_wp2_with fail
  refine (Qn (HD0.out _ H3.out.bw)).mono ?_
  rintro r w4 ⟨rfl,hB⟩
  rw [HN.out]
  have H4:=Lh (H3.out.later hB)
  clear hB H3 c0 c1 c2 c4 x0 x1 x2 x3
  obtain ⟨c0,c1,c2,c4⟩:=H4.out.cc
  obtain ⟨x0,x1,x2,x3⟩:=H4.out.xc
  go_wp2_with fail
  clear c0 c1 c2 c4 x0 x1 x2 x3
  refine AH.start (fun x=>x.cell? ⟨w.heap.size+1,0,none⟩=some (.bool n)∧x.cell? ⟨w.heap.size+1,1,none⟩=some (.bool false)∧x.cell? ⟨w.heap.size+1,2,none⟩=some (.slice q L cap)∧x.cell? ⟨w.heap.size+1,3,none⟩=some (.int .i64 e)∧x.cell? ⟨w.heap.size,1,none⟩=some (.int .i32 mx)) (by kernel_rfl) ?_
  generalize hwT:w4.drew=wT
  have HT1:Hid (FS w (p:Int) mx mn (tr:Int) (md:Int) n (.slice q L cap) e wT):=by rw [← hwT];exact Lh H4.out.drew
  have NT1:Hid (NumV wT (.agg #[.bool false,(.slice q L cap)]) false c):=by rw [← hwT];exact Lh ((HD0.out _ H4.out.bw).later ⟨rfl,rfl,rfl,Nat.le_refl _,fun _ _=>rfl⟩)
  clear hwT H4
  have sT:wT.cell? ⟨w.heap.size+1,0,none⟩=some (.bool n)∧wT.cell? ⟨w.heap.size+1,1,none⟩=some (.bool false)∧wT.cell? ⟨w.heap.size+1,2,none⟩=some (.slice q L cap)∧wT.cell? ⟨w.heap.size+1,3,none⟩=some (.int .i64 e)∧wT.cell? ⟨w.heap.size,1,none⟩=some (.int .i32 mx):=⟨HT1.out.xc.1,HT1.out.xc.2.1,HT1.out.xc.2.2.1,HT1.out.xc.2.2.2,HT1.out.cc.2.1⟩
  refine AH.z 0 sT ?_
  refine AH.z 1 sT ?_
  refine AH.z 2 sT ?_
  refine AH.z 3 sT ?_
  refine AH.z 7 sT ?_
  refine AH.z 8 sT ?_
  refine AH.z 9 sT ?_
  refine AH.o 4 (fun K hK=>?_)
  go_simp
  refine (Qn NT1.out).mono ?_
  rintro r wU ⟨rfl,hB⟩
  have HU:=Lh (HT1.out.later hB)
  have NU:=Lh (NT1.out.later hB)
  have sU:wU.cell? ⟨w.heap.size+1,0,none⟩=some (.bool n)∧wU.cell? ⟨w.heap.size+1,1,none⟩=some (.bool false)∧wU.cell? ⟨w.heap.size+1,2,none⟩=some (.slice q L cap)∧wU.cell? ⟨w.heap.size+1,3,none⟩=some (.int .i64 e)∧wU.cell? ⟨w.heap.size,1,none⟩=some (.int .i32 mx):=⟨HU.out.xc.1,HU.out.xc.2.1,HU.out.xc.2.2.1,HU.out.xc.2.2.2,HU.out.cc.2.1⟩
  refine hK _ _ sU ?_
  clear hK K hB sT HT1 NT1
  try simp only [Act.put,Zp_]
  have hM0:=Qi c
  have hM1:=HM1.out
  generalize hM:ndg c=M at hM0 hM1 ⊢
  have HMM:=Lh hM
  have j6:IntKind.i64.wrap (e+(M:Int))=e+(M:Int):=IntWalk.i64_in _ (by omega)
  have j7:IntKind.i64.wrap (e+(M:Int) - 1)=e+(M:Int) - 1:=IntWalk.i64_in _ (by omega)
  clear hM
  refine AH.z 5 sU ?_
  refine AH.z 6 sU ?_
  refine AH.z 10 sU ?_
  clear sU
  refine AH.done (by kernel_rfl) ?_
  by_cases hov:mx<e+(M:Int) - 1
  ·have bov:decide (mx<e+(M:Int) - 1)=true:=decide_eq_true hov
   have HV2:Hid (S=SRV ⟨true,true,⟨1,n,0,0,4⟩⟩):=Lh (by rw [HV.out];unfold endS;rw [HMM.out,if_pos hov])
   obtain ⟨x0,x1,x2,x3⟩:=HU.out.xc
   obtain ⟨r0,r1,r2,r3,r4,r5,r6,r7⟩:=HU.out.rc
   obtain ⟨f0,f1,f2,f3,f4,f5,f6,f7⟩:=HU.out.rf
   go_wp2_with fail
   have h8:=QD HU.out.rb (.int .i64 1) (.bool n) (.int .i32 0) (.string ⟨#[]⟩) (.int .u32 4) (.bool true) (.bool false) (.bool true)
   have hb:=HU.out.done (.int .i64 1) (.bool n) (.int .i32 0) (.string ⟨#[]⟩) (.int .u32 4) (.bool true) (.bool false) (.bool true)
   unfold set8 at h8 hb
   exact bodyPost_ret (v:=.agg #[.int .i64 1,.bool n,.int .i32 0,.string ⟨#[]⟩,.int .u32 4,.bool true,.bool false,.bool true]) (by simp [results,Tryz.results11,go_sem,h8]) rfl ⟨Qz (by rw [HV2.out];rfl),hb⟩
  ·have bov:decide (mx<e+(M:Int) - 1)=false:=decide_eq_false hov
   have HV2:Hid (S=SRV ⟨true,false,⟨0,n,e,c,0⟩⟩):=Lh (by rw [HV.out];unfold endS;rw [HMM.out,if_neg hov])
   have HLq:Hid ((dgs c).length≤4000000000):=Lh (by
    by_cases e0:c=0
    ·rw [e0,Qp];simp
    ·rw [Qw _ e0,HMM.out];omega)
   obtain ⟨c0,c1,c2,c4⟩:=HU.out.cc
   obtain ⟨x0,x1,x2,x3⟩:=HU.out.xc
   go_wp2_with fail
   refine (HT.out _ (.slice q L cap) c e HU.out.bw NU.out (by omega) (by first | omega | exact HLq.out)).mono ?_
   rintro r wV ⟨rfl,hB⟩
   have HwV:=Lh (HU.out.later hB)
   unfold DV
   generalize hT0:txS c=T0
   have HT0:=Lh hT0
   clear hB c0 c1 c2 c4 x0 x1 x2 x3 HU hT0
   obtain ⟨r0,r1,r2,r3,r4,r5,r6,r7⟩:=HwV.out.rc
   obtain ⟨f0,f1,f2,f3,f4,f5,f6,f7⟩:=HwV.out.rf
   go_wp2_with fail
   have h8:=QD HwV.out.rb (.int .i64 0) (.bool n) (.int .i32 (e)) (.string T0) (.int .u32 0) (.bool true) (.bool false) (.bool false)
   have hb:=HwV.out.done (.int .i64 0) (.bool n) (.int .i32 (e)) (.string T0) (.int .u32 0) (.bool true) (.bool false) (.bool false)
   unfold set8 at h8 hb
   exact bodyPost_ret (v:=.agg #[.int .i64 0,.bool n,.int .i32 (e),.string T0,.int .u32 0,.bool true,.bool false,.bool false]) (by simp [results,Tryz.results11,go_sem,h8]) rfl ⟨Qz (by rw [HV2.out,← HT0.out];rfl),hb⟩
end Go.Proofs.YtpebcmfpehdafaaGreatDoor
