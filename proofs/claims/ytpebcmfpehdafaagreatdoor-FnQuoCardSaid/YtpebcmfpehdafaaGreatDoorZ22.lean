/- a part of the proof -/
import Derived.Test.YtpebcmfpehdafaaGreatDoorZ18
set_option linter.all false
set_option maxRecDepth 100000
set_option maxHeartbeats 16000000
namespace Go.Proofs.YtpebcmfpehdafaaGreatDoor
open Go Go.RowKit
theorem FS.other {w:World}{p mx mn tr md:Int}{n:Bool}{s:Value}{e:Int}{w2 w3:World}{g:Nat}(h:FS w p mx mn tr md n s e w2)(hg:w.heap.size≤g∧g≠w.heap.size+1∧g≠w.heap.size∧g≠w.heap.size+1+1)(o:Only g w2 w3)(hB:Below g w2 w3):FS w p mx mn tr md n s e w3 :=
 ⟨(o.1 _ (Ne.symm hg.2.2.1)).trans h.cb,(o.1 _ (Ne.symm hg.2.1)).trans h.xb,(o.1 _ (Ne.symm hg.2.2.2)).trans h.rb,h.bw.trans (hB.mono hg.1)⟩
theorem Q9m {A B:Prop}(a:A)(h:A→B):B:=h a
theorem Q2p {w:World}(p md tr:Nat)(mx mn:Int)(hp:p≤60)(hmx:0≤mx∧mx≤500)(hmn:mn≤0 ∧ -500≤mn)(hmd:md<8){v:Value}{n:Bool}{c:Nat}{e:Int}(hx:FinV w v n c e)(he : -10000≤e∧e≤10000)(hlen:(dgs c).length≤10000)(hc:c≠0)(hadj:¬ e+ndg c - 1<mn)(hcut:0<p∧p<ndg c)(hex:c % 10^(ndg c - p)=0) :
  Calls Tryz.prog 11 #[CV p mx mn tr md,v,.int .u32 0] w fun r w'=>r=.returned (SRV (finS p mx mn md n e c))∧Below w.heap.size w w':=by
 obtain ⟨s,rfl,hs⟩:=hx
 have hs0:=Lh hs
 obtain ⟨q,cap,rfl,_⟩:=hs
 have HC0:=Lh hc
 have HADJ:Hid (mn≤e+ndg c - 1):=Lh (by omega)
 have HCUT:=Lh hcut
 have HEX:=Lh hex
 clear hc hadj hcut hex
 obtain ⟨hmx1,hmx2⟩:=hmx
 obtain ⟨hmn1,hmn2⟩:=hmn
 obtain ⟨he1,he2⟩:=he
 have H0:=Lh (FS.start (w:=w) (p:=(p:Int)) (mx:=mx) (mn:=mn) (tr:=(tr:Int)) (md:=(md:Int)) (n:=n) (s:=.slice q (dgs c).length cap) (e:=e))
 have HD0:Hid (∀ w2,Below w.heap.size w w2→NumV w2 (.agg #[.bool false,.slice q (dgs c).length cap]) false c):=Lh (fun w2 h=>⟨_,rfl,hs0.out.later h⟩)
 have i1:IntKind.i64.wrap (p:Int)=(p:Int):=IntWalk.i64_in _ (by omega)
 have i2:IntKind.i64.wrap mn=mn:=IntWalk.i64_in _ (by omega)
 have i3:IntKind.i64.wrap (mn - (p:Int))=mn - (p:Int):=IntWalk.i64_in _ (by omega)
 have i4:IntKind.i64.wrap (mn - (p:Int)+1)=mn - (p:Int)+1:=IntWalk.i64_in _ (by omega)
 have i5:IntKind.i64.wrap mx=mx:=IntWalk.i64_in _ (by omega)
 have o1:bits .or .u32 0 32=32:=by kernel_rfl
 have o2:bits .or .u32 32 64=96:=by kernel_rfl
 have o3:bits .or .u32 96 24=120:=by kernel_rfl
 have o4:bits .or .u32 96 2048=2144:=by kernel_rfl
 have o5:bits .or .u32 120 2048=2168:=by kernel_rfl
 have o6:bits .or .u32 0 64=64:=by kernel_rfl
 have o7:bits .or .u32 64 16=80:=by kernel_rfl
 obtain ⟨S,hS⟩:∃ S,S=SRV (finS p mx mn md n e c):=⟨_,rfl⟩
 rw [← hS]
 have HS:=Lh hS
 generalize hL:(dgs c).length=L at H0 HD0 hlen ⊢
 have HL:=Lh hL
 obtain ⟨wA,hwA⟩:∃ wA,wA=((w.alloc (.cells #[.int .u32 (p:Int),.int .i32 mx,.int .i32 mn,.int .u32 (tr:Int),.int .i64 (md:Int)] 24)).alloc (.cells #[.bool n,.bool false,.slice q L cap,.int .i64 e] 39)).alloc (.cells #[.int .i64 0,.bool false,.int .i32 0,.string ⟨#[]⟩,.int .u32 0,.bool false,.bool false,.bool false] 33):=⟨_,rfl⟩
 rw [← hwA] at H0
 unfold CV
 clear hs0 hS hL
 obtain ⟨c0,c1,c2,c4⟩:=H0.out.cc
 obtain ⟨x0,x1,x2,x3⟩:=H0.out.xc
 go_enter Tryz.func11, Tryz.ntmps11
 go_wp2_with fail
 rw [← hwA]
 have HwA:=Lh hwA
 clear hwA
 go_quiet (fail)
 go_wp2_with fail
 refine (Q0b (HD0.out _ (H0.out.drewN _).bw)).mono ?_
 rintro r w1 ⟨rfl,hB⟩
 have H1:=Lh ((H0.out.drewN _).later hB)
 clear hB H0 c0 c1 c2 c4 x0 x1 x2 x3
 rw [decide_eq_false HC0.out]
 obtain ⟨x0,x1,x2,x3⟩:=H1.out.xc
 go_wp2_with fail
 refine AH.start (fun x=>x.cell? ⟨w.heap.size+1,0,none⟩=some (.bool n)∧x.cell? ⟨w.heap.size+1,1,none⟩=some (.bool false)∧x.cell? ⟨w.heap.size+1,2,none⟩=some (.slice q L cap)∧x.cell? ⟨w.heap.size+1,3,none⟩=some (.int .i64 e)) (by kernel_rfl) ?_
 clear x0 x1 x2 x3
 generalize hw2:w1.drew=w2
 have H2:Hid (FS w (p:Int) mx mn (tr:Int) (md:Int) n (.slice q L cap) e w2):=by rw [← hw2];exact Lh H1.out.drew
 clear hw2 H1
 have s2:=H2.out.xc
 refine AH.z 0 s2 ?_
 refine AH.z 1 s2 ?_
 refine AH.z 2 s2 ?_
 refine AH.z 3 s2 ?_
 refine AH.o 4 (fun K hK=>?_)
 go_simp
 refine (Qn (HD0.out _ H2.out.bw)).mono ?_
 rintro r w3 ⟨rfl,hB⟩
 have H3:=Lh (H2.out.later hB)
 have s3:=H3.out.xc
 refine hK _ _ s3 ?_
 clear hK K hB s2 H2
 try simp only [Act.put,Zp_]
 have hN0:=Qi c
 have hNL:=Qw c HC0.out
 rw [HL.out] at hNL
 generalize hN:ndg c=N at hN0 hNL ⊢
 have HN:=Lh hN
 have hN1:N≤10000:=by omega
 have i6:IntKind.i64.wrap (e+(N:Int))=e+(N:Int):=IntWalk.i64_in _ (by omega)
 have i7:IntKind.i64.wrap (e+(N:Int) - 1)=e+(N:Int) - 1:=IntWalk.i64_in _ (by omega)
 clear hN hNL
 refine AH.z 5 s3 ?_
 refine AH.z 6 s3 ?_
 refine AH.z 7 s3 ?_
 clear s3
 refine AH.done (by kernel_rfl) ?_
 have badj:decide (e+(N:Int) - 1<mn)=false:=decide_eq_false (by have:=HADJ.out;rw [HN.out] at this;omega)
 have hct:0<p∧p<N:=by rw [← HN.out];exact HCUT.out
 obtain ⟨d,hd⟩:∃ d,d=N - p:=⟨_,rfl⟩
 have hdi:(N:Int) - (p:Int)=(d:Int):=by omega
 have hd0:d≤10000:=by omega
 have i8:IntKind.i64.wrap ((N:Int) - (p:Int))=(d:Int):=by rw [hdi];exact IntWalk.i64_in _ (by omega)
 have i9:IntKind.i64.wrap (e+(d:Int))=e+(d:Int):=IntWalk.i64_in _ (by omega)
 have i10:IntKind.i64.wrap (e+(d:Int)+1)=e+(d:Int)+1:=IntWalk.i64_in _ (by omega)
 have HSb:Hid (S=SRV (if p<ndg (rdiv md n c d) then endS mx n (e+(d:Int)+1) (rdiv md n c d / 10) 64 else endS mx n (e+(d:Int)) (rdiv md n c d) 64)):=Lh (by
  have h1:=HADJ.out;have h2:=HEX.out
  rw [HS.out];unfold finS cutK
  rw [if_neg HC0.out,if_neg (by omega),if_pos HCUT.out,if_pos h2,HN.out,← hd])
 have HR:Hid (∀ w2,Below w.heap.size w w2→Calls Tryz.prog 24 #[.int .i64 (md:Int),.bool n,.agg #[.bool false,.slice q L cap],.int .i64 (d:Int)] w2 fun e w'=>∃ v',e=.returned (.tuple #[v',.bool true])∧NumV w' v' false (rdiv md n c d)∧Below w2.heap.size w2 w'):=Lh (fun w2 h=>by
  have h1:=Q1D md hmd n c (HD0.out w2 h) d (by omega) (by rw [HL.out];omega)
  have h2:=HEX.out
  rw [HN.out,← hd] at h2
  rw [decide_eq_true h2] at h1
  exact h1)
 have hNQb:ndg (rdiv md n c d)≤N+1:=by
  have h2:=(Q2C md n c d).2
  have h3:=Nat.div_le_self c (10^d)
  have h4:=Q0m c
  rw [HN.out] at h4
  exact Q09 (by omega) (by rw [Nat.pow_succ];omega)
 have HLq2:Hid ((dgs (rdiv md n c d)).length≤4000000):=Lh (by
  by_cases e0:rdiv md n c d=0
  ·rw [e0,Qp];simp
  ·rw [Qw _ e0];omega)
 have hNQ0:=Qi (rdiv md n c d)
 generalize rdiv md n c d=Q at HR HSb HLq2 hNQb hNQ0
 generalize hnq:ndg Q=NQ at hNQb hNQ0
 have HNQ:=Lh hnq
 have hNQ1:NQ≤10001:=by omega
 clear hnq hd hNQb
 have HT:Hid (∀ w2 s' c' e',Below w.heap.size w w2→NumV w2 (.agg #[.bool false,s']) false c'→(-100000≤e'∧e'≤100000)→(dgs c').length≤4000000000→Calls Tryz.prog 20 #[.agg #[.bool n,.bool false,s',.int .i64 e']] w2 fun r w'=>r=.returned (DV 0 n e' (txS c'))∧Below w2.heap.size w2 w'):=Lh (fun w2 s' c' e' h hN he' hl=>by
  obtain ⟨s'',hs',hd⟩:=hN
  have hq:s'=s'':=by
   have:=congrArg (fun v=>match v with | Value.agg cs=>cs.toList | _=>[]) hs'
   simpa using this
  exact Q0z ⟨_,rfl,by rw [hq];exact hd⟩ he' hl)
 obtain ⟨c0,c1,c2,c4⟩:=H3.out.cc
 obtain ⟨x0,x1,x2,x3⟩:=H3.out.xc
 have bp:decide ((0:Int)<(p:Int))=true:=by simp;omega
 have bn:decide ((p:Int)<(N:Int))=true:=by simp;omega
 have bp':decide (0<p)=true:=decide_eq_true hct.1
 have bn':decide (p<N)=true:=decide_eq_true hct.2
 go_wp2_with fail
 refine (Qn (HD0.out _ H3.out.bw)).mono ?_
 rintro r w4 ⟨rfl,hB⟩
 rw [HN.out]
 have H4:=Lh (H3.out.later hB)
 clear hB H3 c0 c1 c2 c4 x0 x1 x2 x3
 obtain ⟨c0,c1,c2,c4⟩:=H4.out.cc
 obtain ⟨x0,x1,x2,x3⟩:=H4.out.xc
 go_wp2_with fail
 refine (HR.out _ H4.out.bw).mono ?_
 rintro r w4b ⟨v4,rfl,⟨s4,rfl,k4⟩,hB⟩
 have H4b:=Lh (H4.out.later hB)
 have N4:Hid (NumV w4b (.agg #[.bool false,s4]) false Q):=Lh ⟨s4,rfl,k4⟩
 obtain ⟨p4,cp4,rfl,_⟩:=k4
 generalize hl4:(dgs Q).length=l4 at N4 ⊢
 clear hB c0 c1 c2 c4 x0 x1 x2 x3 H4 hl4 HR
 go_upto_region 25 with (fail)
 have H5:=Lh (H4b.out.al (.cells #[.bool false,.slice p4 l4 cp4] 37))
 have N5:=Lh (N4.out.later (Qm w4b (.cells #[.bool false,.slice p4 l4 cp4] 37)))
 have Q5:=Lh (gal w4b (.cells #[.bool false,.slice p4 l4 cp4] 37))
 have G5:Hid (w.heap.size≤w4b.heap.size∧w4b.heap.size≠w.heap.size+1∧w4b.heap.size≠w.heap.size∧w4b.heap.size≠w.heap.size+1+1):=Lh (by have:=H4b.out.size;omega)
 generalize hg:w4b.heap.size=gq at Q5 G5 ⊢
 generalize hw5:w4b.alloc (.cells #[.bool false,.slice p4 l4 cp4] 37)=w5 at H5 N5 Q5 ⊢
 clear hg hw5 H4b N4
 obtain ⟨x0,x1,x2,x3⟩:=H5.out.xc
 obtain ⟨y0,y1,y2,y3⟩:=H5.out.xf
 go_upto_region 29 with (fail)
 have H6:=Lh (H5.out.setE (e+(d:Int)))
 have N6:=Lh (N5.out.keep H5.out.xb (by rfl) ((Only.refl (w.heap.size+1) w5).set 3 (.int .i64 (e+(d:Int)))))
 have Q6:=Lh (QH Q5.out G5.out.2.1 3 (.int .i64 (e+(d:Int))))
 generalize w5.setCell ⟨w.heap.size+1,3,none⟩ (.int .i64 (e+(d:Int)))=w6 at H6 N6 Q6 ⊢
 clear H5 N5 Q5 x0 x1 x2 x3 y0 y1 y2 y3
 obtain ⟨cq,_⟩:=Qe Q6.out
 have cq0:w6.cell? ⟨gq,0,none⟩=some (.bool false):=cq 0
 have cq1:w6.cell? ⟨gq,1,none⟩=some (.slice p4 l4 cp4):=cq 1
 clear cq
 go_wp2_with fail
 refine (Qn N6.out).mono ?_
 rintro r w7 ⟨rfl,hB⟩
 rw [HNQ.out]
 have H7:=Lh (H6.out.later hB)
 have N7:=Lh (N6.out.later hB)
 have Q7:=Lh (Qb Q6.out hB)
 clear hB H6 N6 Q6 cq0 cq1
 obtain ⟨cq,_⟩:=Qe Q7.out
 have cq0:w7.cell? ⟨gq,0,none⟩=some (.bool false):=cq 0
 have cq1:w7.cell? ⟨gq,1,none⟩=some (.slice p4 l4 cp4):=cq 1
 clear cq
 obtain ⟨c0,c1,c2,c4⟩:=H7.out.cc
 obtain ⟨x0,x1,x2,x3⟩:=H7.out.xc
 obtain ⟨y0,y1,y2,y3⟩:=H7.out.xf
 by_cases hcq:p<NQ
 ·have bq:decide ((p:Int)<(NQ:Int))=true:=by simp;omega
  have bq':decide (p<NQ)=true:=decide_eq_true hcq
  have HV1:Hid (S=SRV (endS mx n (e+(d:Int)+1) (Q / 10) 64)):=Lh (by rw [HSb.out,HNQ.out,if_pos hcq])
  have HM1:Hid (ndg (Q / 10)≤10001):=Lh (by
   have:=HNQ.out
   rcases Nat.lt_or_ge Q 10 with h | h
   ·rw [Nat.div_eq_of_lt h,Qj (by decide)];omega
   ·rw [QT h] at this;omega)
  go_upto_region 30 with (fail)
  clear hcq c0 c1 c2 c4 x0 x1 x2 x3 y0 y1 y2 y3 cq0 cq1
  refine AH.start (fun _=>True) (by kernel_rfl) ?_
  generalize hw8:w7.drew=w8
  have hs8:Below w7.heap.size w7 w8:=by rw [← hw8];exact (Below.refl _ _).drew
  have H8:=Lh (H7.out.later hs8)
  have N8:=Lh (N7.out.later hs8)
  have Q8:=Lh (Qb Q7.out hs8)
  clear hw8 hs8 H7 N7 Q7
  refine' Q9m ?rest (fun aa=>AH.t 0 1 (fun K hK=>?g1) (fun K hK=>?g2))
  case g1 =>
   obtain ⟨cq,_⟩:=Qe Q8.out
   have cq0:w8.cell? ⟨gq,0,none⟩=some (.bool false):=cq 0
   have cq1:w8.cell? ⟨gq,1,none⟩=some (.slice p4 l4 cp4):=cq 1
   clear cq
   go_simp
   refine hK _ _ trivial ?_
   clear hK K cq0 cq1
   try simp only [Act.put,Zp_]
   refine AH.o 1 (fun K hK=>?_)
   go_simp
   refine (Q2V 10 (by decide) w8).mono ?_
   rintro r w9 ⟨vt,rfl,kt,hB⟩
   have H9:=Lh (H8.out.later hB)
   have N9:=Lh (N8.out.later hB)
   have Q9:=Lh (Qb Q8.out hB)
   have T9:=Lh kt
   refine hK _ _ trivial ?_
   clear hK K hB kt
   try simp only [Act.put,Zp_]
   revert T9 Q9 N9 H9
   revert vt w9
   exact aa
  case g2 =>
   go_simp
   refine (Q2V 10 (by decide) w8).mono ?_
   rintro r w9 ⟨vt,rfl,kt,hB⟩
   have H9:=Lh (H8.out.later hB)
   have N9:=Lh (N8.out.later hB)
   have Q9:=Lh (Qb Q8.out hB)
   have T9:=Lh kt
   have cq:=(Qe Q9.out).1
   have cq0:w9.cell? ⟨gq,0,none⟩=some (.bool false):=cq 0
   have cq1:w9.cell? ⟨gq,1,none⟩=some (.slice p4 l4 cp4):=cq 1
   refine hK _ _ trivial ?_
   clear hK K hB kt cq
   try simp only [Act.put,Zp_]
   refine AH.o 0 (fun K hK=>?_)
   go_simp
   refine hK _ _ trivial ?_
   clear hK K cq0 cq1
   try simp only [Act.put,Zp_]
   revert T9 Q9 N9 H9
   revert vt w9
   exact aa
  case rest =>
   intro w9 vt H9 N9 Q9 T9
   clear H8 N8 Q8
   refine AH.o 2 (fun K hK=>?_)
   go_simp
   refine (Q1q N9.out T9.out (by decide) HLq2.out (by rw [Qw 10 (by decide),QT (by decide),Qj (by decide)];decide)).mono ?_
   rintro r w10 ⟨v1,v2,rfl,⟨⟨s9,rfl,k9⟩,⟨t9,rfl,_⟩⟩,hB⟩
   have H10:=Lh (H9.out.later hB)
   have N10:Hid (NumV w10 (.agg #[.bool false,s9]) false (Q / 10)):=Lh ⟨s9,rfl,k9⟩
   have Q10:=Lh (Qb Q9.out hB)
   obtain ⟨p9,cp9,rfl,_⟩:=k9
   generalize hl9:(dgs (Q / 10)).length=l9 at N10 ⊢
   refine hK _ _ trivial ?_
   clear hK K hB H9 N9 Q9 T9 hl9
   try simp only [Act.put,Zp_]
   refine AH.z 3 trivial ?_
   refine AH.z 4 trivial ?_
   refine AH.z 5 trivial ?_
   obtain ⟨cq,fq⟩:=Qe Q10.out
   have cq0:w10.cell? ⟨gq,0,none⟩=some (.bool false):=cq 0
   have cq1:w10.cell? ⟨gq,1,none⟩=some (.slice p4 l4 cp4):=cq 1
   have fq0:=fq 0;have fq1:=fq 1
   clear cq fq
   refine AH.o 6 (fun K hK=>?_)
   go_simp
   refine hK _ _ trivial ?_
   clear hK K cq0 cq1 fq0 fq1
   try simp only [Act.put,Zp_]
   have oq:=(((Only.refl gq w10).set 0 (.bool false)).set 1 (.slice p9 l9 cp9))
   have H11:=Lh (H10.out.other G5.out oq (((Below.refl gq w10).setCell (p:=⟨gq,0,none⟩) (Nat.le_refl _) (.bool false)).setCell (p:=⟨gq,1,none⟩) (Nat.le_refl _) (.slice p9 l9 cp9)))
   have N11:=Lh (N10.out.keep Q10.out (by rfl) oq)
   have Q11:=Lh (Q1h Q10.out (.bool false) (.slice p9 l9 cp9))
   generalize (w10.setCell ⟨gq,0,none⟩ (.bool false)).setCell ⟨gq,1,none⟩ (.slice p9 l9 cp9)=w11 at H11 N11 Q11 ⊢
   clear oq H10 N10 Q10
   refine AH.done (by kernel_rfl) ?_
   obtain ⟨cq,_⟩:=Qe Q11.out
   have cq0:w11.cell? ⟨gq,0,none⟩=some (.bool false):=cq 0
   have cq1:w11.cell? ⟨gq,1,none⟩=some (.slice p9 l9 cp9):=cq 1
   clear cq
   obtain ⟨x0,x1,x2,x3⟩:=H11.out.xc
   obtain ⟨y0,y1,y2,y3⟩:=H11.out.xf
   go_upto_region 32 with (fail)
   have H12:=Lh (H11.out.setE (e+(d:Int)+1))
   have N12:=Lh (N11.out.keep H11.out.xb (by rfl) ((Only.refl (w.heap.size+1) w11).set 3 (.int .i64 (e+(d:Int)+1))))
   have Q12:=Lh (QH Q11.out G5.out.2.1 3 (.int .i64 (e+(d:Int)+1)))
   generalize w11.setCell ⟨w.heap.size+1,3,none⟩ (.int .i64 (e+(d:Int)+1))=w12 at H12 N12 Q12 ⊢
   clear H11 N11 Q11 x0 x1 x2 x3 y0 y1 y2 y3 cq0 cq1
   obtain ⟨cq,_⟩:=Qe Q12.out
   have cq0:w12.cell? ⟨gq,0,none⟩=some (.bool false):=cq 0
   have cq1:w12.cell? ⟨gq,1,none⟩=some (.slice p9 l9 cp9):=cq 1
   clear cq
   obtain ⟨x0,x1,x2,x3⟩:=H12.out.xc
   obtain ⟨y0,y1,y2,y3⟩:=H12.out.xf
   go_upto_region 33 with (fail)
   have H13:=Lh (H12.out.setC (.slice p9 l9 cp9))
   have N13:=Lh (N12.out.keep H12.out.xb (by rfl) (((Only.refl (w.heap.size+1) w12).set 1 (.bool false)).set 2 (.slice p9 l9 cp9)))
   generalize (w12.setCell ⟨w.heap.size+1,1,none⟩ (.bool false)).setCell ⟨w.heap.size+1,2,none⟩ (.slice p9 l9 cp9)=w13 at H13 N13 ⊢
   clear H12 N12 Q12 x0 x1 x2 x3 y0 y1 y2 y3 cq0 cq1
   refine AH.start (fun x=>x.cell? ⟨w.heap.size+1,0,none⟩=some (.bool n)∧x.cell? ⟨w.heap.size+1,1,none⟩=some (.bool false)∧x.cell? ⟨w.heap.size+1,2,none⟩=some (.slice p9 l9 cp9)∧x.cell? ⟨w.heap.size+1,3,none⟩=some (.int .i64 (e+(d:Int)+1))∧x.cell? ⟨w.heap.size,1,none⟩=some (.int .i32 mx)) (by kernel_rfl) ?_
   generalize hwT:w13.drew=wT
   have HT1:Hid (FS w (p:Int) mx mn (tr:Int) (md:Int) n (.slice p9 l9 cp9) (e+(d:Int)+1) wT):=by rw [← hwT];exact Lh H13.out.drew
   have NT1:Hid (NumV wT (.agg #[.bool false,(.slice p9 l9 cp9)]) false (Q / 10)):=by rw [← hwT];exact Lh (N13.out.later ⟨rfl,rfl,rfl,Nat.le_refl _,fun _ _=>rfl⟩)
   clear hwT H13
   have sT:wT.cell? ⟨w.heap.size+1,0,none⟩=some (.bool n)∧wT.cell? ⟨w.heap.size+1,1,none⟩=some (.bool false)∧wT.cell? ⟨w.heap.size+1,2,none⟩=some (.slice p9 l9 cp9)∧wT.cell? ⟨w.heap.size+1,3,none⟩=some (.int .i64 (e+(d:Int)+1))∧wT.cell? ⟨w.heap.size,1,none⟩=some (.int .i32 mx):=⟨HT1.out.xc.1,HT1.out.xc.2.1,HT1.out.xc.2.2.1,HT1.out.xc.2.2.2,HT1.out.cc.2.1⟩
   refine AH.z 0 sT ?_
   refine AH.z 1 sT ?_
   refine AH.z 2 sT ?_
   refine AH.z 3 sT ?_
   refine AH.z 7 sT ?_
   refine AH.z 8 sT ?_
   refine AH.z 9 sT ?_
   refine AH.o 4 (fun K hK=>?_)
   go_simp
   refine (Qn NT1.out).mono ?_
   rintro r wU ⟨rfl,hB⟩
   have HU:=Lh (HT1.out.later hB)
   have NU:=Lh (NT1.out.later hB)
   have sU:wU.cell? ⟨w.heap.size+1,0,none⟩=some (.bool n)∧wU.cell? ⟨w.heap.size+1,1,none⟩=some (.bool false)∧wU.cell? ⟨w.heap.size+1,2,none⟩=some (.slice p9 l9 cp9)∧wU.cell? ⟨w.heap.size+1,3,none⟩=some (.int .i64 (e+(d:Int)+1))∧wU.cell? ⟨w.heap.size,1,none⟩=some (.int .i32 mx):=⟨HU.out.xc.1,HU.out.xc.2.1,HU.out.xc.2.2.1,HU.out.xc.2.2.2,HU.out.cc.2.1⟩
   refine hK _ _ sU ?_
   clear hK K hB sT HT1 NT1
   try simp only [Act.put,Zp_]
   have hM0:=Qi (Q / 10)
   have hM1:=HM1.out
   generalize hM:ndg (Q / 10)=M at hM0 hM1 ⊢
   have HMM:=Lh hM
   have j6:IntKind.i64.wrap ((e+(d:Int)+1)+(M:Int))=(e+(d:Int)+1)+(M:Int):=IntWalk.i64_in _ (by omega)
   have j7:IntKind.i64.wrap ((e+(d:Int)+1)+(M:Int) - 1)=(e+(d:Int)+1)+(M:Int) - 1:=IntWalk.i64_in _ (by omega)
   clear hM
   refine AH.z 5 sU ?_
   refine AH.z 6 sU ?_
   refine AH.z 10 sU ?_
   clear sU
   refine AH.done (by kernel_rfl) ?_
   by_cases hov:mx<(e+(d:Int)+1)+(M:Int) - 1
   ·have bov:decide (mx<(e+(d:Int)+1)+(M:Int) - 1)=true:=decide_eq_true hov
    have HV2:Hid (S=SRV ⟨true,true,⟨1,n,0,0,4⟩⟩):=Lh (by rw [HV1.out];unfold endS;rw [HMM.out,if_pos hov])
    obtain ⟨x0,x1,x2,x3⟩:=HU.out.xc
    obtain ⟨r0,r1,r2,r3,r4,r5,r6,r7⟩:=HU.out.rc
    obtain ⟨f0,f1,f2,f3,f4,f5,f6,f7⟩:=HU.out.rf
    go_wp2_with fail
    have h8:=QD HU.out.rb (.int .i64 1) (.bool n) (.int .i32 0) (.string ⟨#[]⟩) (.int .u32 4) (.bool true) (.bool false) (.bool true)
    have hb:=HU.out.done (.int .i64 1) (.bool n) (.int .i32 0) (.string ⟨#[]⟩) (.int .u32 4) (.bool true) (.bool false) (.bool true)
    unfold set8 at h8 hb
    exact bodyPost_ret (v:=.agg #[.int .i64 1,.bool n,.int .i32 0,.string ⟨#[]⟩,.int .u32 4,.bool true,.bool false,.bool true]) (by simp [results,Tryz.results11,go_sem,h8]) rfl ⟨Qz (by rw [HV2.out];rfl),hb⟩
   ·have bov:decide (mx<(e+(d:Int)+1)+(M:Int) - 1)=false:=decide_eq_false hov
    have HV2:Hid (S=SRV ⟨true,false,⟨0,n,(e+(d:Int)+1),(Q / 10),64⟩⟩):=Lh (by rw [HV1.out];unfold endS;rw [HMM.out,if_neg hov])
    have HLq:Hid ((dgs (Q / 10)).length≤4000000000):=Lh (by
     by_cases e0:(Q / 10)=0
     ·rw [e0,Qp];simp
     ·rw [Qw _ e0,HMM.out];omega)
    obtain ⟨c0,c1,c2,c4⟩:=HU.out.cc
    obtain ⟨x0,x1,x2,x3⟩:=HU.out.xc
    go_wp2_with fail
    refine (HT.out _ (.slice p9 l9 cp9) (Q / 10) (e+(d:Int)+1) HU.out.bw NU.out (by omega) (by first | omega | exact HLq.out)).mono ?_
    rintro r wV ⟨rfl,hB⟩
    have HwV:=Lh (HU.out.later hB)
    unfold DV
    generalize hT0:txS (Q / 10)=T0
    have HT0:=Lh hT0
    clear hB c0 c1 c2 c4 x0 x1 x2 x3 HU hT0
    obtain ⟨r0,r1,r2,r3,r4,r5,r6,r7⟩:=HwV.out.rc
    obtain ⟨f0,f1,f2,f3,f4,f5,f6,f7⟩:=HwV.out.rf
    go_wp2_with fail
    have h8:=QD HwV.out.rb (.int .i64 0) (.bool n) (.int .i32 ((e+(d:Int)+1))) (.string T0) (.int .u32 64) (.bool true) (.bool false) (.bool false)
    have hb:=HwV.out.done (.int .i64 0) (.bool n) (.int .i32 ((e+(d:Int)+1))) (.string T0) (.int .u32 64) (.bool true) (.bool false) (.bool false)
    unfold set8 at h8 hb
    exact bodyPost_ret (v:=.agg #[.int .i64 0,.bool n,.int .i32 ((e+(d:Int)+1)),.string T0,.int .u32 64,.bool true,.bool false,.bool false]) (by simp [results,Tryz.results11,go_sem,h8]) rfl ⟨Qz (by rw [HV2.out,← HT0.out];rfl),hb⟩
 ·have hq1:¬ p<NQ:=hcq
  have bq:decide ((p:Int)<(NQ:Int))=false:=by simp;omega
  have bq':decide (p<NQ)=false:=decide_eq_false hcq
  have HV1:Hid (S=SRV (endS mx n (e+(d:Int)) Q 64)):=Lh (by rw [HSb.out,HNQ.out,if_neg hcq])
  have HM1:Hid (ndg Q≤10001):=Lh (by rw [HNQ.out];exact hNQ1)
  clear hcq hq1
  go_upto_region 33 with (fail)
  have H12:=Lh (H7.out.setC (.slice p4 l4 cp4))
  have N12:=Lh (N7.out.keep H7.out.xb (by rfl) (((Only.refl (w.heap.size+1) w7).set 1 (.bool false)).set 2 (.slice p4 l4 cp4)))
  generalize (w7.setCell ⟨w.heap.size+1,1,none⟩ (.bool false)).setCell ⟨w.heap.size+1,2,none⟩ (.slice p4 l4 cp4)=w12 at H12 N12 ⊢
  clear H7 N7 Q7 c0 c1 c2 c4 x0 x1 x2 x3 y0 y1 y2 y3 cq0 cq1
  refine AH.start (fun x=>x.cell? ⟨w.heap.size+1,0,none⟩=some (.bool n)∧x.cell? ⟨w.heap.size+1,1,none⟩=some (.bool false)∧x.cell? ⟨w.heap.size+1,2,none⟩=some (.slice p4 l4 cp4)∧x.cell? ⟨w.heap.size+1,3,none⟩=some (.int .i64 (e+(d:Int)))∧x.cell? ⟨w.heap.size,1,none⟩=some (.int .i32 mx)) (by kernel_rfl) ?_
  generalize hwT:w12.drew=wT
  have HT1:Hid (FS w (p:Int) mx mn (tr:Int) (md:Int) n (.slice p4 l4 cp4) (e+(d:Int)) wT):=by rw [← hwT];exact Lh H12.out.drew
  have NT1:Hid (NumV wT (.agg #[.bool false,(.slice p4 l4 cp4)]) false Q):=by rw [← hwT];exact Lh (N12.out.later ⟨rfl,rfl,rfl,Nat.le_refl _,fun _ _=>rfl⟩)
  clear hwT H12
  have sT:wT.cell? ⟨w.heap.size+1,0,none⟩=some (.bool n)∧wT.cell? ⟨w.heap.size+1,1,none⟩=some (.bool false)∧wT.cell? ⟨w.heap.size+1,2,none⟩=some (.slice p4 l4 cp4)∧wT.cell? ⟨w.heap.size+1,3,none⟩=some (.int .i64 (e+(d:Int)))∧wT.cell? ⟨w.heap.size,1,none⟩=some (.int .i32 mx):=⟨HT1.out.xc.1,HT1.out.xc.2.1,HT1.out.xc.2.2.1,HT1.out.xc.2.2.2,HT1.out.cc.2.1⟩
  refine AH.z 0 sT ?_
  refine AH.z 1 sT ?_
  refine AH.z 2 sT ?_
  refine AH.z 3 sT ?_
  refine AH.z 7 sT ?_
  refine AH.z 8 sT ?_
  refine AH.z 9 sT ?_
  refine AH.o 4 (fun K hK=>?_)
  go_simp
  refine (Qn NT1.out).mono ?_
  rintro r wU ⟨rfl,hB⟩
  have HU:=Lh (HT1.out.later hB)
  have NU:=Lh (NT1.out.later hB)
  have sU:wU.cell? ⟨w.heap.size+1,0,none⟩=some (.bool n)∧wU.cell? ⟨w.heap.size+1,1,none⟩=some (.bool false)∧wU.cell? ⟨w.heap.size+1,2,none⟩=some (.slice p4 l4 cp4)∧wU.cell? ⟨w.heap.size+1,3,none⟩=some (.int .i64 (e+(d:Int)))∧wU.cell? ⟨w.heap.size,1,none⟩=some (.int .i32 mx):=⟨HU.out.xc.1,HU.out.xc.2.1,HU.out.xc.2.2.1,HU.out.xc.2.2.2,HU.out.cc.2.1⟩
  refine hK _ _ sU ?_
  clear hK K hB sT HT1 NT1
  try simp only [Act.put,Zp_]
  have hM0:=Qi Q
  have hM1:=HM1.out
  generalize hM:ndg Q=M at hM0 hM1 ⊢
  have HMM:=Lh hM
  have j6:IntKind.i64.wrap ((e+(d:Int))+(M:Int))=(e+(d:Int))+(M:Int):=IntWalk.i64_in _ (by omega)
  have j7:IntKind.i64.wrap ((e+(d:Int))+(M:Int) - 1)=(e+(d:Int))+(M:Int) - 1:=IntWalk.i64_in _ (by omega)
  clear hM
  refine AH.z 5 sU ?_
  refine AH.z 6 sU ?_
  refine AH.z 10 sU ?_
  clear sU
  refine AH.done (by kernel_rfl) ?_
  by_cases hov:mx<(e+(d:Int))+(M:Int) - 1
  ·have bov:decide (mx<(e+(d:Int))+(M:Int) - 1)=true:=decide_eq_true hov
   have HV2:Hid (S=SRV ⟨true,true,⟨1,n,0,0,4⟩⟩):=Lh (by rw [HV1.out];unfold endS;rw [HMM.out,if_pos hov])
   obtain ⟨x0,x1,x2,x3⟩:=HU.out.xc
   obtain ⟨r0,r1,r2,r3,r4,r5,r6,r7⟩:=HU.out.rc
   obtain ⟨f0,f1,f2,f3,f4,f5,f6,f7⟩:=HU.out.rf
   go_wp2_with fail
   have h8:=QD HU.out.rb (.int .i64 1) (.bool n) (.int .i32 0) (.string ⟨#[]⟩) (.int .u32 4) (.bool true) (.bool false) (.bool true)
   have hb:=HU.out.done (.int .i64 1) (.bool n) (.int .i32 0) (.string ⟨#[]⟩) (.int .u32 4) (.bool true) (.bool false) (.bool true)
   unfold set8 at h8 hb
   exact bodyPost_ret (v:=.agg #[.int .i64 1,.bool n,.int .i32 0,.string ⟨#[]⟩,.int .u32 4,.bool true,.bool false,.bool true]) (by simp [results,Tryz.results11,go_sem,h8]) rfl ⟨Qz (by rw [HV2.out];rfl),hb⟩
  ·have bov:decide (mx<(e+(d:Int))+(M:Int) - 1)=false:=decide_eq_false hov
   have HV2:Hid (S=SRV ⟨true,false,⟨0,n,(e+(d:Int)),Q,64⟩⟩):=Lh (by rw [HV1.out];unfold endS;rw [HMM.out,if_neg hov])
   have HLq:Hid ((dgs Q).length≤4000000000):=Lh (by
    by_cases e0:Q=0
    ·rw [e0,Qp];simp
    ·rw [Qw _ e0,HMM.out];omega)
   obtain ⟨c0,c1,c2,c4⟩:=HU.out.cc
   obtain ⟨x0,x1,x2,x3⟩:=HU.out.xc
   go_wp2_with fail
   refine (HT.out _ (.slice p4 l4 cp4) Q (e+(d:Int)) HU.out.bw NU.out (by omega) (by first | omega | exact HLq.out)).mono ?_
   rintro r wV ⟨rfl,hB⟩
   have HwV:=Lh (HU.out.later hB)
   unfold DV
   generalize hT0:txS Q=T0
   have HT0:=Lh hT0
   clear hB c0 c1 c2 c4 x0 x1 x2 x3 HU hT0
   obtain ⟨r0,r1,r2,r3,r4,r5,r6,r7⟩:=HwV.out.rc
   obtain ⟨f0,f1,f2,f3,f4,f5,f6,f7⟩:=HwV.out.rf
   go_wp2_with fail
   have h8:=QD HwV.out.rb (.int .i64 0) (.bool n) (.int .i32 ((e+(d:Int)))) (.string T0) (.int .u32 64) (.bool true) (.bool false) (.bool false)
   have hb:=HwV.out.done (.int .i64 0) (.bool n) (.int .i32 ((e+(d:Int)))) (.string T0) (.int .u32 64) (.bool true) (.bool false) (.bool false)
   unfold set8 at h8 hb
   exact bodyPost_ret (v:=.agg #[.int .i64 0,.bool n,.int .i32 ((e+(d:Int))),.string T0,.int .u32 64,.bool true,.bool false,.bool false]) (by simp [results,Tryz.results11,go_sem,h8]) rfl ⟨Qz (by rw [HV2.out,← HT0.out];rfl),hb⟩
end Go.Proofs.YtpebcmfpehdafaaGreatDoor
