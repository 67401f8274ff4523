/- a part of the proof -/
import Derived.Test.YtpebcmfpehdafaaGreatDoorZ9
set_option linter.all false
set_option maxRecDepth 100000
set_option maxHeartbeats 16000000
namespace Go.Proofs.YtpebcmfpehdafaaGreatDoor
open Go Go.RowKit
theorem Qb {w w':World}{g:Nat}{o:Obj}(h:w.heap[g]?=some o)(hB:Below w.heap.size w w'):w'.heap[g]?=some o:=by
 rw [hB.block _ (Array.getElem?_eq_some_iff.1 h).1];exact h
theorem Q1h {w:World}{g:Nat}{x y:Value}{T:TypeId}(h:w.heap[g]?=some (.cells #[x,y] T (0,0)))(u v:Value):((w.setCell ⟨g,0,none⟩ u).setCell ⟨g,1,none⟩ v).heap[g]?=some (.cells #[u,v] T (0,0)):=by
 unfold World.setCell
 simp only [Array.getElem?_modify,if_true,h,Option.map_some]
 rfl
theorem Qe {w:World}{g:Nat}{C:Array Value}{T:TypeId}(h:w.heap[g]?=some (.cells C T (0,0))):(∀ i,w.cell? ⟨g,i,none⟩=C[i]?)∧∀ i,w.frozen? ⟨g,i,none⟩=false :=
 ⟨fun i=>by unfold World.cell?;rw [h];simp,fun i=>by unfold World.frozen?;rw [h];simp⟩
def TwoN (wA:World)(q r:Nat)(tq tr:Value)(wx:World):Prop :=
 ∃ gA gB p1 l1 c1 p2 l2 c2,tq=.pointer (some ⟨gA,0,none⟩)∧tr=.pointer (some ⟨gB,0,none⟩)∧(wx.heap[gA]?=some (.cells #[.bool false,.slice p1 l1 c1] 37 (0,0))∧wx.heap[gB]?=some (.cells #[.bool false,.slice p2 l2 c2] 37 (0,0)))∧NumV wx (.agg #[.bool false,.slice p1 l1 c1]) false q∧NumV wx (.agg #[.bool false,.slice p2 l2 c2]) false r∧wA.heap.size≤gA∧wA.heap.size≤gB∧gA≠gB∧Below wA.heap.size wA wx
theorem Q9c {wA w4:World}{q r gA gB:Nat}{s1 s2:Value}(hB:Below wA.heap.size wA w4)(hA:w4.heap[gA]?=some (.cells #[.bool false,.slice none 0 0] 37 (0,0)))(hB2:w4.heap[gB]?=some (.cells #[.bool false,.slice none 0 0] 37 (0,0)))(lA:wA.heap.size≤gA)(lB:wA.heap.size≤gB)(ne:gA≠gB)(n1:NumV w4 (.agg #[.bool false,s1]) false q)(n2:NumV w4 (.agg #[.bool false,s2]) false r) :
  TwoN wA q r (.pointer (some ⟨gA,0,none⟩)) (.pointer (some ⟨gB,0,none⟩)) ((((w4.setCell ⟨gA,0,none⟩ (.bool false)).setCell ⟨gA,1,none⟩ s1).setCell ⟨gB,0,none⟩ (.bool false)).setCell ⟨gB,1,none⟩ s2):=by
 have o1:=((Only.refl gA w4).set 0 (.bool false)).set 1 s1
 have h5:((w4.setCell ⟨gA,0,none⟩ (.bool false)).setCell ⟨gA,1,none⟩ s1).heap[gB]?=some (.cells #[.bool false,.slice none 0 0] 37 (0,0)):=(o1.1 gB ne.symm).trans hB2
 have o2:=((Only.refl gB ((w4.setCell ⟨gA,0,none⟩ (.bool false)).setCell ⟨gA,1,none⟩ s1)).set 0 (.bool false)).set 1 s2
 have k1:=(n1.keep hA (by decide) o1).keep h5 (by decide) o2
 have k2:=(n2.keep hA (by decide) o1).keep h5 (by decide) o2
 obtain ⟨t1,e1,d1⟩:=n1
 obtain ⟨t2,e2,d2⟩:=n2
 have e1':s1=t1:=by
  have:=congrArg (fun v=>match v with | Value.agg cs=>cs.toList | _=>[]) e1
  simpa using this
 have e2':s2=t2:=by
  have:=congrArg (fun v=>match v with | Value.agg cs=>cs.toList | _=>[]) e2
  simpa using this
 subst e1' e2'
 obtain ⟨p1,c1,rfl,_⟩:=d1
 obtain ⟨p2,c2,rfl,_⟩:=d2
 refine ⟨gA,gB,p1,_,c1,p2,_,c2,rfl,rfl,⟨?_,Q1h h5 _ _⟩,k1,k2,lA,lB,ne,(((hB.setCell (by exact lA) _).setCell (by exact lA) _).setCell (by exact lB) _).setCell (by exact lB) _⟩
 rw [o2.1 gA ne];exact Q1h hA _ _
theorem Q6W {wA w4:World}{q r gA gB:Nat}{s1 s2:Value}(hB:Below wA.heap.size wA w4)(hA:w4.heap[gA]?=some (.cells #[.bool false,.slice none 0 0] 37 (0,0)))(hB2:w4.heap[gB]?=some (.cells #[.bool false,.slice none 0 0] 37 (0,0)))(lA:wA.heap.size≤gA)(lB:wA.heap.size≤gB)(ne:gA≠gB)(n1:NumV w4 (.agg #[.bool false,s1]) false q)(n2:NumV w4 (.agg #[.bool false,s2]) false r) :
  (w4.cell? ⟨gA,0,none⟩=some (.bool false)∧w4.cell? ⟨gA,1,none⟩=some (.slice none 0 0)∧w4.frozen? ⟨gA,0,none⟩=false∧w4.frozen? ⟨gA,1,none⟩=false) ∧
  Below wA.heap.size wA ((w4.setCell ⟨gA,0,none⟩ (.bool false)).setCell ⟨gA,1,none⟩ s1) ∧
  (((w4.setCell ⟨gA,0,none⟩ (.bool false)).setCell ⟨gA,1,none⟩ s1).cell? ⟨gB,0,none⟩=some (.bool false)∧((w4.setCell ⟨gA,0,none⟩ (.bool false)).setCell ⟨gA,1,none⟩ s1).cell? ⟨gB,1,none⟩=some (.slice none 0 0)∧((w4.setCell ⟨gA,0,none⟩ (.bool false)).setCell ⟨gA,1,none⟩ s1).frozen? ⟨gB,0,none⟩=false∧((w4.setCell ⟨gA,0,none⟩ (.bool false)).setCell ⟨gA,1,none⟩ s1).frozen? ⟨gB,1,none⟩=false) ∧
  Below wA.heap.size wA ((((w4.setCell ⟨gA,0,none⟩ (.bool false)).setCell ⟨gA,1,none⟩ s1).setCell ⟨gB,0,none⟩ (.bool false)).setCell ⟨gB,1,none⟩ s2) ∧
  TwoN wA q r (.pointer (some ⟨gA,0,none⟩)) (.pointer (some ⟨gB,0,none⟩)) ((((w4.setCell ⟨gA,0,none⟩ (.bool false)).setCell ⟨gA,1,none⟩ s1).setCell ⟨gB,0,none⟩ (.bool false)).setCell ⟨gB,1,none⟩ s2):=by
 obtain ⟨ca,fa⟩:=Qe hA
 have h5:((w4.setCell ⟨gA,0,none⟩ (.bool false)).setCell ⟨gA,1,none⟩ s1).heap[gB]?=some (.cells #[.bool false,.slice none 0 0] 37 (0,0)):=((((Only.refl gA w4).set 0 (.bool false)).set 1 s1).1 gB ne.symm).trans hB2
 obtain ⟨cb,fb⟩:=Qe h5
 exact ⟨⟨ca 0,ca 1,fa 0,fa 1⟩,(hB.setCell (by exact lA) _).setCell (by exact lA) _,⟨cb 0,cb 1,fb 0,fb 1⟩,(((hB.setCell (by exact lA) _).setCell (by exact lA) _).setCell (by exact lB) _).setCell (by exact lB) _,Q9c hB hA hB2 lA lB ne n1 n2⟩
theorem Q1D {w:World}{v:Value}(m:Nat)(hm:m<8)(neg:Bool)(n:Nat)(hv:NumV w v false n)(cut:Nat)(hcut:cut≤100000)(hlen:(dgs n).length≤100000) :
  Calls Tryz.prog 24 #[.int .i64 (m:Int),.bool neg,v,.int .i64 (cut:Int)] w fun e w'=>∃ v',e=.returned (.tuple #[v',.bool (decide (n % 10^cut=0))])∧NumV w' v' false (rdiv m neg n cut)∧Below w.heap.size w w':=by
 obtain ⟨s,rfl,hs⟩:=hv
 have hs0:=hs
 obtain ⟨p,cap,rfl,_⟩:=hs
 have hT0:=QE cut
 have hTl:(dgs (10^cut)).length≤4000000:=by rw [Q2E];simp;omega
 have hRd:rdiv m neg n cut=if n % 10^cut=0 then n / 10^cut else if upR m neg (n / 10^cut) (cm (2*(n % 10^cut)) (10^cut)) then n / 10^cut+1 else n / 10^cut:=rfl
 rw [hRd]
 obtain ⟨wA,hwA⟩:∃ wA,wA=(w.alloc (.cells #[.bool false,.slice p (dgs n).length cap] 37)).alloc (.cells #[.bool false,.slice none 0 0] 37):=⟨_,rfl⟩
 have hBA:Below w.heap.size w wA:=by rw [hwA];exact bal (Qm w _) _
 have HTen:Hid (∀ w2,Calls Tryz.prog 56 #[.int .i64 (cut:Int)] w2 fun e w'=>∃ v',e=.returned v'∧NumV w' v' false (10^cut)∧Below w2.heap.size w2 w'):=fun w2=>Q9H cut (by omega) w2
 have HQR:Hid (∀ w2,Below wA.heap.size wA w2→∀ v15,NumV w2 v15 false (10^cut)→Calls Tryz.prog 21 #[.agg #[.bool false,.slice p (dgs n).length cap],v15] w2 fun e w'=>∃ v1 v2,e=.returned (.tuple #[v1,v2])∧(NumV w' v1 false (n / 10^cut)∧NumV w' v2 false (n % 10^cut))∧Below w2.heap.size w2 w'):=fun w2 h2 v15 h15 =>
  Q1q ⟨_,rfl,hs0.later (Qd hBA h2)⟩ h15 hT0 (by omega) hTl
 have HC:Hid (∀ w2,Below wA.heap.size wA w2→(w2.cell? ⟨w.heap.size,0,none⟩=some (.bool false)∧w2.cell? ⟨w.heap.size,1,none⟩=some (.slice p (dgs n).length cap))∧(w2.cell? ⟨w.heap.size+1,0,none⟩=some (.bool false)∧w2.cell? ⟨w.heap.size+1,1,none⟩=some (.slice none 0 0)∧w2.frozen? ⟨w.heap.size+1,0,none⟩=false∧w2.frozen? ⟨w.heap.size+1,1,none⟩=false)∧w2.heap[w.heap.size+1]?=some (.cells #[.bool false,.slice none 0 0] 37 (0,0))):=fun w2 h2=>by
  rw [hwA] at h2
  obtain ⟨x,y,z,hh⟩:=Q49 (w:=w) rfl rfl h2
  exact ⟨⟨x 0,x 1⟩,⟨y 0,y 1,z 0,z 1⟩,hh⟩
 have hml:(dgs (n / 10^cut)).length≤100000:=Nat.le_trans (QR (Nat.div_le_self _ _)) hlen
 have hmr:(dgs (n % 10^cut)).length≤100000:=Nat.le_trans (QR (Nat.mod_le _ _)) hlen
 have hBA:=Lh hBA
 clear hs0 hRd hT0 hTl
 generalize n / 10^cut=q at HQR hml ⊢
 generalize n % 10^cut=r0 at HQR hmr ⊢
 generalize 10^cut=T at HTen HQR ⊢
 obtain ⟨zz,hzz⟩:∃ z,z=decide (r0=0):=⟨_,rfl⟩
 obtain ⟨ans,hans⟩:∃ a,a=if r0=0 then q else if upR m neg q (cm (2*r0) T) then q+1 else q:=⟨_,rfl⟩
 rw [← hzz,← hans]
 have HZZ:=Lh hzz;have HANS:=Lh hans
 clear hzz hans
 go_enter Tryz.func24, Tryz.ntmps24
 go_wp2_with fail
 rw [← hwA]
 have HwA:=Lh hwA
 clear hwA
 go_cut [10,11] from 12 to 18 (fun tq tr wx=>TwoN wA q r0 tq tr wx)
 case first =>
  refine AH.start (fun x=>x.cell? ⟨w.heap.size,0,none⟩=some (.bool false)∧x.cell? ⟨w.heap.size,1,none⟩=some (.slice p (dgs n).length cap)) (by kernel_rfl) ?_
  generalize hw0:wA.drew=w0
  have HB0:Hid (Below wA.heap.size wA w0):=by rw [← hw0];exact Lh ((Below.refl _ _).drew)
  clear hw0
  have s_0:=(HC.out _ HB0.out).1
  refine AH.z 0 s_0 ?_
  refine AH.z 1 s_0 ?_
  clear s_0
  refine AH.three (i:=2) (j:=7) (k:=8) (by kernel_rfl) rfl rfl rfl (by kernel_rfl) (by kernel_rfl) (by kernel_rfl) (fun K hK=>?n3T) (fun K hK=>?n3A) (fun K hK=>?n3B)
  case' n3T =>
   go_simp
   refine (HTen.out w0).mono ?_
   rintro r w1 ⟨v15,rfl,k,hB⟩
   have HB1:=Lh (Qd HB0.out hB)
   have FT1:=Lh k
   refine hK _ _ (HC.out _ HB1.out).1 ?_
   clear hK K k hB
   try simp only [Act.put,Zp_]
   refine AH.three (i:=3) (j:=7) (k:=8) (by kernel_rfl) rfl rfl rfl (by kernel_rfl) (by kernel_rfl) (by kernel_rfl) (fun K hK=>?n4Q) (fun K hK=>?n4A) (fun K hK=>?n4B)
   case' n4Q =>
    go_simp
    refine (HQR.out w1 HB1.out v15 FT1.out).mono ?_
    rintro r w2 ⟨v1,v2,rfl,⟨⟨s1,rfl,k1⟩,⟨s2,rfl,k2⟩⟩,hB⟩
    have HB2:=Lh (Qd HB1.out hB)
    have N1_2:Hid (NumV w2 (.agg #[.bool false,s1]) false q):=Lh ⟨s1,rfl,k1⟩
    have N2_2:Hid (NumV w2 (.agg #[.bool false,s2]) false r0):=Lh ⟨s2,rfl,k2⟩
    obtain ⟨p1,c1,rfl,_⟩:=k1
    obtain ⟨p2,c2,rfl,_⟩:=k2
    have s2':=(HC.out _ HB2.out).1
    refine hK _ _ s2' ?_
    clear hK K hB
    try simp only [Act.put,Zp_]
    refine AH.z 4 s2' ?_
    refine AH.z 5 s2' ?_
    refine AH.z 6 s2' ?_
    clear s2'
    refine AH.t 7 8 (fun K hK=>?n8A) (fun K hK=>?n8B)
    case' n8A =>
     go_simp
     have HB3:=Lh (bal HB2.out (.cells #[.bool false,.slice none 0 0] 37))
     have FA3:=Lh (gal w2 (.cells #[.bool false,.slice none 0 0] 37))
     have LA:=HB2.out.size
     have N1_3:=Lh (N1_2.out.later (Qm w2 (.cells #[.bool false,.slice none 0 0] 37)))
     have N2_3:=Lh (N2_2.out.later (Qm w2 (.cells #[.bool false,.slice none 0 0] 37)))
     refine hK _ _ (HC.out _ HB3.out).1 ?_
     clear hK K
     try simp only [Act.put,Zp_]
     generalize hg:w2.heap.size=gA at FA3 LA ⊢
     generalize hw:w2.alloc (.cells #[.bool false,.slice none 0 0] 37)=w3 at HB3 FA3 N1_3 N2_3 ⊢
     clear hg hw
     refine AH.o 8 (fun K hK=>?_)
     go_simp
     have HB4:=Lh (bal HB3.out (.cells #[.bool false,.slice none 0 0] 37))
     have FB4:=Lh (gal w3 (.cells #[.bool false,.slice none 0 0] 37))
     have LB:=HB3.out.size
     have FA4:=Lh (Qb FA3.out (Qm w3 (.cells #[.bool false,.slice none 0 0] 37)))
     have N1_4:=Lh (N1_3.out.later (Qm w3 (.cells #[.bool false,.slice none 0 0] 37)))
     have N2_4:=Lh (N2_3.out.later (Qm w3 (.cells #[.bool false,.slice none 0 0] 37)))
     have NE:gA≠w3.heap.size:=by have:=(Array.getElem?_eq_some_iff.1 FA3.out).1;omega
     refine hK _ _ (HC.out _ HB4.out).1 ?_
     clear hK K
     try simp only [Act.put,Zp_]
     generalize hg:w3.heap.size=gB at FB4 LB NE ⊢
     generalize hw:w3.alloc (.cells #[.bool false,.slice none 0 0] 37)=w4 at HB4 FA4 FB4 N1_4 N2_4 ⊢
     clear hg hw
    case' n8B =>
     go_simp
     have HB3:=Lh (bal HB2.out (.cells #[.bool false,.slice none 0 0] 37))
     have FB3:=Lh (gal w2 (.cells #[.bool false,.slice none 0 0] 37))
     have LB:=HB2.out.size
     have N1_3:=Lh (N1_2.out.later (Qm w2 (.cells #[.bool false,.slice none 0 0] 37)))
     have N2_3:=Lh (N2_2.out.later (Qm w2 (.cells #[.bool false,.slice none 0 0] 37)))
     refine hK _ _ (HC.out _ HB3.out).1 ?_
     clear hK K
     try simp only [Act.put,Zp_]
     generalize hg:w2.heap.size=gB at FB3 LB ⊢
     generalize hw:w2.alloc (.cells #[.bool false,.slice none 0 0] 37)=w3 at HB3 FB3 N1_3 N2_3 ⊢
     clear hg hw
     refine AH.o 7 (fun K hK=>?_)
     go_simp
     have HB4:=Lh (bal HB3.out (.cells #[.bool false,.slice none 0 0] 37))
     have FA4:=Lh (gal w3 (.cells #[.bool false,.slice none 0 0] 37))
     have LA:=HB3.out.size
     have FB4:=Lh (Qb FB3.out (Qm w3 (.cells #[.bool false,.slice none 0 0] 37)))
     have N1_4:=Lh (N1_3.out.later (Qm w3 (.cells #[.bool false,.slice none 0 0] 37)))
     have N2_4:=Lh (N2_3.out.later (Qm w3 (.cells #[.bool false,.slice none 0 0] 37)))
     have NE:w3.heap.size≠gB:=by have:=(Array.getElem?_eq_some_iff.1 FB3.out).1;omega
     refine hK _ _ (HC.out _ HB4.out).1 ?_
     clear hK K
     try simp only [Act.put,Zp_]
     generalize hg:w3.heap.size=gA at FA4 LA NE ⊢
     generalize hw:w3.alloc (.cells #[.bool false,.slice none 0 0] 37)=w4 at HB4 FA4 FB4 N1_4 N2_4 ⊢
     clear hg hw
   case' n4A =>
    go_simp
    have HB2:=Lh (bal HB1.out (.cells #[.bool false,.slice none 0 0] 37))
    have FA2:=Lh (gal w1 (.cells #[.bool false,.slice none 0 0] 37))
    have LA:=HB1.out.size
    have FT2:=Lh (FT1.out.later (Qm w1 (.cells #[.bool false,.slice none 0 0] 37)))
    refine hK _ _ (HC.out _ HB2.out).1 ?_
    clear hK K
    try simp only [Act.put,Zp_]
    generalize hg:w1.heap.size=gA at FA2 LA ⊢
    generalize hw:w1.alloc (.cells #[.bool false,.slice none 0 0] 37)=w2 at HB2 FA2 FT2 ⊢
    clear hg hw
    refine AH.t 3 8 (fun K hK=>?n9Q) (fun K hK=>?n9B)
    case' n9Q =>
     go_simp
     refine (HQR.out w2 HB2.out v15 FT2.out).mono ?_
     rintro r w3 ⟨v1,v2,rfl,⟨⟨s1,rfl,k1⟩,⟨s2,rfl,k2⟩⟩,hB⟩
     have HB3:=Lh (Qd HB2.out hB)
     have N1_3:Hid (NumV w3 (.agg #[.bool false,s1]) false q):=Lh ⟨s1,rfl,k1⟩
     have N2_3:Hid (NumV w3 (.agg #[.bool false,s2]) false r0):=Lh ⟨s2,rfl,k2⟩
     have FA3:=Lh (Qb FA2.out hB)
     obtain ⟨p1,c1,rfl,_⟩:=k1
     obtain ⟨p2,c2,rfl,_⟩:=k2
     have s3':=(HC.out _ HB3.out).1
     refine hK _ _ s3' ?_
     clear hK K hB
     try simp only [Act.put,Zp_]
     refine AH.z 4 s3' ?_
     refine AH.z 5 s3' ?_
     refine AH.z 6 s3' ?_
     clear s3'
     refine AH.o 8 (fun K hK=>?_)
     go_simp
     have HB4:=Lh (bal HB3.out (.cells #[.bool false,.slice none 0 0] 37))
     have FB4:=Lh (gal w3 (.cells #[.bool false,.slice none 0 0] 37))
     have LB:=HB3.out.size
     have FA4:=Lh (Qb FA3.out (Qm w3 (.cells #[.bool false,.slice none 0 0] 37)))
     have N1_4:=Lh (N1_3.out.later (Qm w3 (.cells #[.bool false,.slice none 0 0] 37)))
     have N2_4:=Lh (N2_3.out.later (Qm w3 (.cells #[.bool false,.slice none 0 0] 37)))
     have NE:gA≠w3.heap.size:=by have:=(Array.getElem?_eq_some_iff.1 FA3.out).1;omega
     refine hK _ _ (HC.out _ HB4.out).1 ?_
     clear hK K
     try simp only [Act.put,Zp_]
     generalize hg:w3.heap.size=gB at FB4 LB NE ⊢
     generalize hw:w3.alloc (.cells #[.bool false,.slice none 0 0] 37)=w4 at HB4 FA4 FB4 N1_4 N2_4 ⊢
     clear hg hw
    case' n9B =>
     go_simp
     have HB3:=Lh (bal HB2.out (.cells #[.bool false,.slice none 0 0] 37))
     have FB3:=Lh (gal w2 (.cells #[.bool false,.slice none 0 0] 37))
     have LB:=HB2.out.size
     have FA3:=Lh (Qb FA2.out (Qm w2 (.cells #[.bool false,.slice none 0 0] 37)))
     have FT3:=Lh (FT2.out.later (Qm w2 (.cells #[.bool false,.slice none 0 0] 37)))
     have NE:gA≠w2.heap.size:=by have:=(Array.getElem?_eq_some_iff.1 FA2.out).1;omega
     refine hK _ _ (HC.out _ HB3.out).1 ?_
     clear hK K
     try simp only [Act.put,Zp_]
     generalize hg:w2.heap.size=gB at FB3 LB NE ⊢
     generalize hw:w2.alloc (.cells #[.bool false,.slice none 0 0] 37)=w3 at HB3 FA3 FB3 FT3 ⊢
     clear hg hw
     refine AH.o 3 (fun K hK=>?_)
     go_simp
     refine (HQR.out w3 HB3.out v15 FT3.out).mono ?_
     rintro r w4 ⟨v1,v2,rfl,⟨⟨s1,rfl,k1⟩,⟨s2,rfl,k2⟩⟩,hB⟩
     have HB4:=Lh (Qd HB3.out hB)
     have N1_4:Hid (NumV w4 (.agg #[.bool false,s1]) false q):=Lh ⟨s1,rfl,k1⟩
     have N2_4:Hid (NumV w4 (.agg #[.bool false,s2]) false r0):=Lh ⟨s2,rfl,k2⟩
     have FA4:=Lh (Qb FA3.out hB)
     have FB4:=Lh (Qb FB3.out hB)
     obtain ⟨p1,c1,rfl,_⟩:=k1
     obtain ⟨p2,c2,rfl,_⟩:=k2
     have s4':=(HC.out _ HB4.out).1
     refine hK _ _ s4' ?_
     clear hK K hB
     try simp only [Act.put,Zp_]
     refine AH.z 4 s4' ?_
     refine AH.z 5 s4' ?_
     refine AH.z 6 s4' ?_
     clear s4'
   case' n4B =>
    go_simp
    have HB2:=Lh (bal HB1.out (.cells #[.bool false,.slice none 0 0] 37))
    have FB2:=Lh (gal w1 (.cells #[.bool false,.slice none 0 0] 37))
    have LB:=HB1.out.size
    have FT2:=Lh (FT1.out.later (Qm w1 (.cells #[.bool false,.slice none 0 0] 37)))
    refine hK _ _ (HC.out _ HB2.out).1 ?_
    clear hK K
    try simp only [Act.put,Zp_]
    generalize hg:w1.heap.size=gB at FB2 LB ⊢
    generalize hw:w1.alloc (.cells #[.bool false,.slice none 0 0] 37)=w2 at HB2 FB2 FT2 ⊢
    clear hg hw
    refine AH.t 3 7 (fun K hK=>?n16Q) (fun K hK=>?n16A)
    case' n16Q =>
     go_simp
     refine (HQR.out w2 HB2.out v15 FT2.out).mono ?_
     rintro r w3 ⟨v1,v2,rfl,⟨⟨s1,rfl,k1⟩,⟨s2,rfl,k2⟩⟩,hB⟩
     have HB3:=Lh (Qd HB2.out hB)
     have N1_3:Hid (NumV w3 (.agg #[.bool false,s1]) false q):=Lh ⟨s1,rfl,k1⟩
     have N2_3:Hid (NumV w3 (.agg #[.bool false,s2]) false r0):=Lh ⟨s2,rfl,k2⟩
     have FB3:=Lh (Qb FB2.out hB)
     obtain ⟨p1,c1,rfl,_⟩:=k1
     obtain ⟨p2,c2,rfl,_⟩:=k2
     have s3':=(HC.out _ HB3.out).1
     refine hK _ _ s3' ?_
     clear hK K hB
     try simp only [Act.put,Zp_]
     refine AH.z 4 s3' ?_
     refine AH.z 5 s3' ?_
     refine AH.z 6 s3' ?_
     clear s3'
     refine AH.o 7 (fun K hK=>?_)
     go_simp
     have HB4:=Lh (bal HB3.out (.cells #[.bool false,.slice none 0 0] 37))
     have FA4:=Lh (gal w3 (.cells #[.bool false,.slice none 0 0] 37))
     have LA:=HB3.out.size
     have FB4:=Lh (Qb FB3.out (Qm w3 (.cells #[.bool false,.slice none 0 0] 37)))
     have N1_4:=Lh (N1_3.out.later (Qm w3 (.cells #[.bool false,.slice none 0 0] 37)))
     have N2_4:=Lh (N2_3.out.later (Qm w3 (.cells #[.bool false,.slice none 0 0] 37)))
     have NE:w3.heap.size≠gB:=by have:=(Array.getElem?_eq_some_iff.1 FB3.out).1;omega
     refine hK _ _ (HC.out _ HB4.out).1 ?_
     clear hK K
     try simp only [Act.put,Zp_]
     generalize hg:w3.heap.size=gA at FA4 LA NE ⊢
     generalize hw:w3.alloc (.cells #[.bool false,.slice none 0 0] 37)=w4 at HB4 FA4 FB4 N1_4 N2_4 ⊢
     clear hg hw
    case' n16A =>
     go_simp
     have HB3:=Lh (bal HB2.out (.cells #[.bool false,.slice none 0 0] 37))
     have FA3:=Lh (gal w2 (.cells #[.bool false,.slice none 0 0] 37))
     have LA:=HB2.out.size
     have FB3:=Lh (Qb FB2.out (Qm w2 (.cells #[.bool false,.slice none 0 0] 37)))
     have FT3:=Lh (FT2.out.later (Qm w2 (.cells #[.bool false,.slice none 0 0] 37)))
     have NE:w2.heap.size≠gB:=by have:=(Array.getElem?_eq_some_iff.1 FB2.out).1;omega
     refine hK _ _ (HC.out _ HB3.out).1 ?_
     clear hK K
     try simp only [Act.put,Zp_]
     generalize hg:w2.heap.size=gA at FA3 LA NE ⊢
     generalize hw:w2.alloc (.cells #[.bool false,.slice none 0 0] 37)=w3 at HB3 FA3 FB3 FT3 ⊢
     clear hg hw
     refine AH.o 3 (fun K hK=>?_)
     go_simp
     refine (HQR.out w3 HB3.out v15 FT3.out).mono ?_
     rintro r w4 ⟨v1,v2,rfl,⟨⟨s1,rfl,k1⟩,⟨s2,rfl,k2⟩⟩,hB⟩
     have HB4:=Lh (Qd HB3.out hB)
     have N1_4:Hid (NumV w4 (.agg #[.bool false,s1]) false q):=Lh ⟨s1,rfl,k1⟩
     have N2_4:Hid (NumV w4 (.agg #[.bool false,s2]) false r0):=Lh ⟨s2,rfl,k2⟩
     have FA4:=Lh (Qb FA3.out hB)
     have FB4:=Lh (Qb FB3.out hB)
     obtain ⟨p1,c1,rfl,_⟩:=k1
     obtain ⟨p2,c2,rfl,_⟩:=k2
     have s4':=(HC.out _ HB4.out).1
     refine hK _ _ s4' ?_
     clear hK K hB
     try simp only [Act.put,Zp_]
     refine AH.z 4 s4' ?_
     refine AH.z 5 s4' ?_
     refine AH.z 6 s4' ?_
     clear s4'
  case' n3A =>
   go_simp
   have HB1:=Lh (bal HB0.out (.cells #[.bool false,.slice none 0 0] 37))
   have FA1:=Lh (gal w0 (.cells #[.bool false,.slice none 0 0] 37))
   have LA:=HB0.out.size
   refine hK _ _ (HC.out _ HB1.out).1 ?_
   clear hK K
   try simp only [Act.put,Zp_]
   generalize hg:w0.heap.size=gA at FA1 LA ⊢
   generalize hw:w0.alloc (.cells #[.bool false,.slice none 0 0] 37)=w1 at HB1 FA1 ⊢
   clear hg hw
   refine AH.t 2 8 (fun K hK=>?n23T) (fun K hK=>?n23B)
   case' n23T =>
    go_simp
    refine (HTen.out w1).mono ?_
    rintro r w2 ⟨v15,rfl,k,hB⟩
    have HB2:=Lh (Qd HB1.out hB)
    have FT2:=Lh k
    have FA2:=Lh (Qb FA1.out hB)
    refine hK _ _ (HC.out _ HB2.out).1 ?_
    clear hK K k hB
    try simp only [Act.put,Zp_]
    refine AH.t 3 8 (fun K hK=>?n24Q) (fun K hK=>?n24B)
    case' n24Q =>
     go_simp
     refine (HQR.out w2 HB2.out v15 FT2.out).mono ?_
     rintro r w3 ⟨v1,v2,rfl,⟨⟨s1,rfl,k1⟩,⟨s2,rfl,k2⟩⟩,hB⟩
     have HB3:=Lh (Qd HB2.out hB)
     have N1_3:Hid (NumV w3 (.agg #[.bool false,s1]) false q):=Lh ⟨s1,rfl,k1⟩
     have N2_3:Hid (NumV w3 (.agg #[.bool false,s2]) false r0):=Lh ⟨s2,rfl,k2⟩
     have FA3:=Lh (Qb FA2.out hB)
     obtain ⟨p1,c1,rfl,_⟩:=k1
     obtain ⟨p2,c2,rfl,_⟩:=k2
     have s3':=(HC.out _ HB3.out).1
     refine hK _ _ s3' ?_
     clear hK K hB
     try simp only [Act.put,Zp_]
     refine AH.z 4 s3' ?_
     refine AH.z 5 s3' ?_
     refine AH.z 6 s3' ?_
     clear s3'
     refine AH.o 8 (fun K hK=>?_)
     go_simp
     have HB4:=Lh (bal HB3.out (.cells #[.bool false,.slice none 0 0] 37))
     have FB4:=Lh (gal w3 (.cells #[.bool false,.slice none 0 0] 37))
     have LB:=HB3.out.size
     have FA4:=Lh (Qb FA3.out (Qm w3 (.cells #[.bool false,.slice none 0 0] 37)))
     have N1_4:=Lh (N1_3.out.later (Qm w3 (.cells #[.bool false,.slice none 0 0] 37)))
     have N2_4:=Lh (N2_3.out.later (Qm w3 (.cells #[.bool false,.slice none 0 0] 37)))
     have NE:gA≠w3.heap.size:=by have:=(Array.getElem?_eq_some_iff.1 FA3.out).1;omega
     refine hK _ _ (HC.out _ HB4.out).1 ?_
     clear hK K
     try simp only [Act.put,Zp_]
     generalize hg:w3.heap.size=gB at FB4 LB NE ⊢
     generalize hw:w3.alloc (.cells #[.bool false,.slice none 0 0] 37)=w4 at HB4 FA4 FB4 N1_4 N2_4 ⊢
     clear hg hw
    case' n24B =>
     go_simp
     have HB3:=Lh (bal HB2.out (.cells #[.bool false,.slice none 0 0] 37))
     have FB3:=Lh (gal w2 (.cells #[.bool false,.slice none 0 0] 37))
     have LB:=HB2.out.size
     have FA3:=Lh (Qb FA2.out (Qm w2 (.cells #[.bool false,.slice none 0 0] 37)))
     have FT3:=Lh (FT2.out.later (Qm w2 (.cells #[.bool false,.slice none 0 0] 37)))
     have NE:gA≠w2.heap.size:=by have:=(Array.getElem?_eq_some_iff.1 FA2.out).1;omega
     refine hK _ _ (HC.out _ HB3.out).1 ?_
     clear hK K
     try simp only [Act.put,Zp_]
     generalize hg:w2.heap.size=gB at FB3 LB NE ⊢
     generalize hw:w2.alloc (.cells #[.bool false,.slice none 0 0] 37)=w3 at HB3 FA3 FB3 FT3 ⊢
     clear hg hw
     refine AH.o 3 (fun K hK=>?_)
     go_simp
     refine (HQR.out w3 HB3.out v15 FT3.out).mono ?_
     rintro r w4 ⟨v1,v2,rfl,⟨⟨s1,rfl,k1⟩,⟨s2,rfl,k2⟩⟩,hB⟩
     have HB4:=Lh (Qd HB3.out hB)
     have N1_4:Hid (NumV w4 (.agg #[.bool false,s1]) false q):=Lh ⟨s1,rfl,k1⟩
     have N2_4:Hid (NumV w4 (.agg #[.bool false,s2]) false r0):=Lh ⟨s2,rfl,k2⟩
     have FA4:=Lh (Qb FA3.out hB)
     have FB4:=Lh (Qb FB3.out hB)
     obtain ⟨p1,c1,rfl,_⟩:=k1
     obtain ⟨p2,c2,rfl,_⟩:=k2
     have s4':=(HC.out _ HB4.out).1
     refine hK _ _ s4' ?_
     clear hK K hB
     try simp only [Act.put,Zp_]
     refine AH.z 4 s4' ?_
     refine AH.z 5 s4' ?_
     refine AH.z 6 s4' ?_
     clear s4'
   case' n23B =>
    go_simp
    have HB2:=Lh (bal HB1.out (.cells #[.bool false,.slice none 0 0] 37))
    have FB2:=Lh (gal w1 (.cells #[.bool false,.slice none 0 0] 37))
    have LB:=HB1.out.size
    have FA2:=Lh (Qb FA1.out (Qm w1 (.cells #[.bool false,.slice none 0 0] 37)))
    have NE:gA≠w1.heap.size:=by have:=(Array.getElem?_eq_some_iff.1 FA1.out).1;omega
    refine hK _ _ (HC.out _ HB2.out).1 ?_
    clear hK K
    try simp only [Act.put,Zp_]
    generalize hg:w1.heap.size=gB at FB2 LB NE ⊢
    generalize hw:w1.alloc (.cells #[.bool false,.slice none 0 0] 37)=w2 at HB2 FA2 FB2 ⊢
    clear hg hw
    refine AH.o 2 (fun K hK=>?_)
    go_simp
    refine (HTen.out w2).mono ?_
    rintro r w3 ⟨v15,rfl,k,hB⟩
    have HB3:=Lh (Qd HB2.out hB)
    have FT3:=Lh k
    have FA3:=Lh (Qb FA2.out hB)
    have FB3:=Lh (Qb FB2.out hB)
    refine hK _ _ (HC.out _ HB3.out).1 ?_
    clear hK K k hB
    try simp only [Act.put,Zp_]
    refine AH.o 3 (fun K hK=>?_)
    go_simp
    refine (HQR.out w3 HB3.out v15 FT3.out).mono ?_
    rintro r w4 ⟨v1,v2,rfl,⟨⟨s1,rfl,k1⟩,⟨s2,rfl,k2⟩⟩,hB⟩
    have HB4:=Lh (Qd HB3.out hB)
    have N1_4:Hid (NumV w4 (.agg #[.bool false,s1]) false q):=Lh ⟨s1,rfl,k1⟩
    have N2_4:Hid (NumV w4 (.agg #[.bool false,s2]) false r0):=Lh ⟨s2,rfl,k2⟩
    have FA4:=Lh (Qb FA3.out hB)
    have FB4:=Lh (Qb FB3.out hB)
    obtain ⟨p1,c1,rfl,_⟩:=k1
    obtain ⟨p2,c2,rfl,_⟩:=k2
    have s4':=(HC.out _ HB4.out).1
    refine hK _ _ s4' ?_
    clear hK K hB
    try simp only [Act.put,Zp_]
    refine AH.z 4 s4' ?_
    refine AH.z 5 s4' ?_
    refine AH.z 6 s4' ?_
    clear s4'
  case' n3B =>
   go_simp
   have HB1:=Lh (bal HB0.out (.cells #[.bool false,.slice none 0 0] 37))
   have FB1:=Lh (gal w0 (.cells #[.bool false,.slice none 0 0] 37))
   have LB:=HB0.out.size
   refine hK _ _ (HC.out _ HB1.out).1 ?_
   clear hK K
   try simp only [Act.put,Zp_]
   generalize hg:w0.heap.size=gB at FB1 LB ⊢
   generalize hw:w0.alloc (.cells #[.bool false,.slice none 0 0] 37)=w1 at HB1 FB1 ⊢
   clear hg hw
   refine AH.t 2 7 (fun K hK=>?n34T) (fun K hK=>?n34A)
   case' n34T =>
    go_simp
    refine (HTen.out w1).mono ?_
    rintro r w2 ⟨v15,rfl,k,hB⟩
    have HB2:=Lh (Qd HB1.out hB)
    have FT2:=Lh k
    have FB2:=Lh (Qb FB1.out hB)
    refine hK _ _ (HC.out _ HB2.out).1 ?_
    clear hK K k hB
    try simp only [Act.put,Zp_]
    refine AH.t 3 7 (fun K hK=>?n35Q) (fun K hK=>?n35A)
    case' n35Q =>
     go_simp
     refine (HQR.out w2 HB2.out v15 FT2.out).mono ?_
     rintro r w3 ⟨v1,v2,rfl,⟨⟨s1,rfl,k1⟩,⟨s2,rfl,k2⟩⟩,hB⟩
     have HB3:=Lh (Qd HB2.out hB)
     have N1_3:Hid (NumV w3 (.agg #[.bool false,s1]) false q):=Lh ⟨s1,rfl,k1⟩
     have N2_3:Hid (NumV w3 (.agg #[.bool false,s2]) false r0):=Lh ⟨s2,rfl,k2⟩
     have FB3:=Lh (Qb FB2.out hB)
     obtain ⟨p1,c1,rfl,_⟩:=k1
     obtain ⟨p2,c2,rfl,_⟩:=k2
     have s3':=(HC.out _ HB3.out).1
     refine hK _ _ s3' ?_
     clear hK K hB
     try simp only [Act.put,Zp_]
     refine AH.z 4 s3' ?_
     refine AH.z 5 s3' ?_
     refine AH.z 6 s3' ?_
     clear s3'
     refine AH.o 7 (fun K hK=>?_)
     go_simp
     have HB4:=Lh (bal HB3.out (.cells #[.bool false,.slice none 0 0] 37))
     have FA4:=Lh (gal w3 (.cells #[.bool false,.slice none 0 0] 37))
     have LA:=HB3.out.size
     have FB4:=Lh (Qb FB3.out (Qm w3 (.cells #[.bool false,.slice none 0 0] 37)))
     have N1_4:=Lh (N1_3.out.later (Qm w3 (.cells #[.bool false,.slice none 0 0] 37)))
     have N2_4:=Lh (N2_3.out.later (Qm w3 (.cells #[.bool false,.slice none 0 0] 37)))
     have NE:w3.heap.size≠gB:=by have:=(Array.getElem?_eq_some_iff.1 FB3.out).1;omega
     refine hK _ _ (HC.out _ HB4.out).1 ?_
     clear hK K
     try simp only [Act.put,Zp_]
     generalize hg:w3.heap.size=gA at FA4 LA NE ⊢
     generalize hw:w3.alloc (.cells #[.bool false,.slice none 0 0] 37)=w4 at HB4 FA4 FB4 N1_4 N2_4 ⊢
     clear hg hw
    case' n35A =>
     go_simp
     have HB3:=Lh (bal HB2.out (.cells #[.bool false,.slice none 0 0] 37))
     have FA3:=Lh (gal w2 (.cells #[.bool false,.slice none 0 0] 37))
     have LA:=HB2.out.size
     have FB3:=Lh (Qb FB2.out (Qm w2 (.cells #[.bool false,.slice none 0 0] 37)))
     have FT3:=Lh (FT2.out.later (Qm w2 (.cells #[.bool false,.slice none 0 0] 37)))
     have NE:w2.heap.size≠gB:=by have:=(Array.getElem?_eq_some_iff.1 FB2.out).1;omega
     refine hK _ _ (HC.out _ HB3.out).1 ?_
     clear hK K
     try simp only [Act.put,Zp_]
     generalize hg:w2.heap.size=gA at FA3 LA NE ⊢
     generalize hw:w2.alloc (.cells #[.bool false,.slice none 0 0] 37)=w3 at HB3 FA3 FB3 FT3 ⊢
     clear hg hw
     refine AH.o 3 (fun K hK=>?_)
     go_simp
     refine (HQR.out w3 HB3.out v15 FT3.out).mono ?_
     rintro r w4 ⟨v1,v2,rfl,⟨⟨s1,rfl,k1⟩,⟨s2,rfl,k2⟩⟩,hB⟩
     have HB4:=Lh (Qd HB3.out hB)
     have N1_4:Hid (NumV w4 (.agg #[.bool false,s1]) false q):=Lh ⟨s1,rfl,k1⟩
     have N2_4:Hid (NumV w4 (.agg #[.bool false,s2]) false r0):=Lh ⟨s2,rfl,k2⟩
     have FA4:=Lh (Qb FA3.out hB)
     have FB4:=Lh (Qb FB3.out hB)
     obtain ⟨p1,c1,rfl,_⟩:=k1
     obtain ⟨p2,c2,rfl,_⟩:=k2
     have s4':=(HC.out _ HB4.out).1
     refine hK _ _ s4' ?_
     clear hK K hB
     try simp only [Act.put,Zp_]
     refine AH.z 4 s4' ?_
     refine AH.z 5 s4' ?_
     refine AH.z 6 s4' ?_
     clear s4'
   case' n34A =>
    go_simp
    have HB2:=Lh (bal HB1.out (.cells #[.bool false,.slice none 0 0] 37))
    have FA2:=Lh (gal w1 (.cells #[.bool false,.slice none 0 0] 37))
    have LA:=HB1.out.size
    have FB2:=Lh (Qb FB1.out (Qm w1 (.cells #[.bool false,.slice none 0 0] 37)))
    have NE:w1.heap.size≠gB:=by have:=(Array.getElem?_eq_some_iff.1 FB1.out).1;omega
    refine hK _ _ (HC.out _ HB2.out).1 ?_
    clear hK K
    try simp only [Act.put,Zp_]
    generalize hg:w1.heap.size=gA at FA2 LA NE ⊢
    generalize hw:w1.alloc (.cells #[.bool false,.slice none 0 0] 37)=w2 at HB2 FA2 FB2 ⊢
    clear hg hw
    refine AH.o 2 (fun K hK=>?_)
    go_simp
    refine (HTen.out w2).mono ?_
    rintro r w3 ⟨v15,rfl,k,hB⟩
    have HB3:=Lh (Qd HB2.out hB)
    have FT3:=Lh k
    have FA3:=Lh (Qb FA2.out hB)
    have FB3:=Lh (Qb FB2.out hB)
    refine hK _ _ (HC.out _ HB3.out).1 ?_
    clear hK K k hB
    try simp only [Act.put,Zp_]
    refine AH.o 3 (fun K hK=>?_)
    go_simp
    refine (HQR.out w3 HB3.out v15 FT3.out).mono ?_
    rintro r w4 ⟨v1,v2,rfl,⟨⟨s1,rfl,k1⟩,⟨s2,rfl,k2⟩⟩,hB⟩
    have HB4:=Lh (Qd HB3.out hB)
    have N1_4:Hid (NumV w4 (.agg #[.bool false,s1]) false q):=Lh ⟨s1,rfl,k1⟩
    have N2_4:Hid (NumV w4 (.agg #[.bool false,s2]) false r0):=Lh ⟨s2,rfl,k2⟩
    have FA4:=Lh (Qb FA3.out hB)
    have FB4:=Lh (Qb FB3.out hB)
    obtain ⟨p1,c1,rfl,_⟩:=k1
    obtain ⟨p2,c2,rfl,_⟩:=k2
    have s4':=(HC.out _ HB4.out).1
    refine hK _ _ s4' ?_
    clear hK K hB
    try simp only [Act.put,Zp_]
    refine AH.z 4 s4' ?_
    refine AH.z 5 s4' ?_
    refine AH.z 6 s4' ?_
    clear s4'
  all_goals
   obtain ⟨⟨a0,a1,fa0,fa1⟩,hBs,⟨b0,b1,fb0,fb1⟩,hBt,hT2⟩:=Q6W HB4.out FA4.out FB4.out LA LB NE N1_4.out N2_4.out
   have HT2:=Lh hT2;have HBs:=Lh hBs;have HBt:=Lh hBt
   clear hT2 hBs hBt
   refine AH.o 9 (fun K hK=>?_)
   go_simp
   refine hK _ _ (HC.out _ HBs.out).1 ?_
   clear hK K a0 a1 fa0 fa1
   try simp only [Act.put,Zp_]
   generalize (w4.setCell ⟨gA,0,none⟩ (.bool false)).setCell ⟨gA,1,none⟩ (.slice p1 (dgs q).length c1)=ws at HT2 b0 b1 fb0 fb1 HBt ⊢
   refine AH.o 10 (fun K hK=>?_)
   go_simp
   refine hK _ _ (HC.out _ HBt.out).1 ?_
   clear hK K
   try simp only [Act.put,Zp_]
   refine AH.done (by kernel_rfl) ?_
   go_wp2_with fail
   go_meet
   exact HT2.out
 case rest =>
  obtain ⟨gA,gB,p1,l1,c1,p2,l2,c2,rfl,rfl,⟨hA,hB⟩,n1,n2,lA,lB,ne,hBx⟩:=hcut
  have HC2:Hid (∀ w2,Below wc.heap.size wc w2→(w2.cell? ⟨gA,0,none⟩=some (.bool false)∧w2.cell? ⟨gA,1,none⟩=some (.slice p1 l1 c1)∧w2.cell? ⟨gB,0,none⟩=some (.bool false)∧w2.cell? ⟨gB,1,none⟩=some (.slice p2 l2 c2))∧(w2.cell? ⟨w.heap.size+1,0,none⟩=some (.bool false)∧w2.cell? ⟨w.heap.size+1,1,none⟩=some (.slice none 0 0)∧w2.frozen? ⟨w.heap.size+1,0,none⟩=false∧w2.frozen? ⟨w.heap.size+1,1,none⟩=false)∧(w2.frozen? ⟨gA,0,none⟩=false∧w2.frozen? ⟨gA,1,none⟩=false)):=Lh (fun w2 h2=>by
   obtain ⟨ca,fa⟩:=Qe (Qb hA h2)
   obtain ⟨cb,fb⟩:=Qe (Qb hB h2)
   exact ⟨⟨ca 0,ca 1,cb 0,cb 1⟩,(HC.out _ (Qd hBx h2)).2.1,fa 0,fa 1⟩)
  have HH:Hid (∀ w2,Below wc.heap.size wc w2→w2.heap[w.heap.size+1]?=some (.cells #[.bool false,.slice none 0 0] 37 (0,0))):=Lh (fun w2 h2=>(HC.out _ (Qd hBx h2)).2.2)
  have HBw:Hid (Below w.heap.size w wc):=Lh (Qd hBA.out hBx)
  have HZ:=Lh (Q0b n2)
  have N1:=Lh n1;have N2:=Lh n2;have HBc:=Lh hBx;have HA:=Lh hA;have HLA:=Lh lA
  have hwl:w.heap.size+1<wA.heap.size:=by rw [HwA.out];simp
  have HNE:Hid (gA≠w.heap.size+1):=Lh (by omega)
  obtain ⟨⟨a0,a1,b0,b1⟩,⟨r0',r1',f0,f1⟩,g0,g1⟩:=HC2.out wc (Below.refl _ _)
  clear hA hB n1 n2 lA lB ne hBx hwl
  by_cases hz:r0=0
  ·rw [decide_eq_true hz] at HZ
   have HZT:Hid (zz=true):=Lh (by rw [HZZ.out,decide_eq_true hz])
   have HAN:Hid (ans=q):=Lh (by rw [HANS.out,if_pos hz])
   clear hz
   go_wp2_with fail
   refine HZ.out.mono ?_
   rintro e w1 ⟨rfl,hB1⟩
   obtain ⟨⟨d0,d1,_,_⟩,⟨z0,z1,z2,z3⟩,_⟩:=HC2.out w1 hB1
   have HF:=Lh (show NumV ((w1.setCell ⟨w.heap.size+1,0,none⟩ (.bool false)).setCell ⟨w.heap.size+1,1,none⟩ (.slice p1 l1 c1)) (.agg #[.bool false,.slice p1 l1 c1]) false q from (N1.out.later hB1).keep (HH.out _ hB1) (by decide) (((Only.refl _ _).set 0 _).set 1 _))
   have HE:=Lh (((Qd HBw.out hB1).setCell (p:=⟨w.heap.size+1,0,none⟩) (by simp only;omega) (.bool false)).setCell (p:=⟨w.heap.size+1,1,none⟩) (by simp only;omega) (.slice p1 l1 c1))
   clear hB1 HZ a0 a1 b0 b1 r0' r1' f0 f1 g0 g1
   go_wp2_with fail
   exact bodyPost_ret (v:=.tuple #[.agg #[.bool false,.slice p1 l1 c1],.bool true]) (by simp [results,Tryz.results24,go_sem,z0,z1]) rfl ⟨_,by rw [HZT.out],by rw [HAN.out];exact HF.out,HE.out⟩
  ·rw [decide_eq_false hz] at HZ
   have HZT:Hid (zz=false):=Lh (by rw [HZZ.out,decide_eq_false hz])
   have HAN:Hid (ans=if upR m neg q (cm (2*r0) T) then q+1 else q):=Lh (by rw [HANS.out,if_neg hz])
   clear hz
   go_wp2_with fail
   refine HZ.out.mono ?_
   rintro e w1 ⟨rfl,hB1⟩
   have s1:=(HC2.out w1 hB1).1
   have HB1:=Lh hB1
   clear hB1 HZ a0 a1 b0 b1 r0' r1' f0 f1 g0 g1
   go_wp2_with fail
   refine AH.start (fun x=>x.cell? ⟨gA,0,none⟩=some (.bool false)∧x.cell? ⟨gA,1,none⟩=some (.slice p1 l1 c1)∧x.cell? ⟨gB,0,none⟩=some (.bool false)∧x.cell? ⟨gB,1,none⟩=some (.slice p2 l2 c2)) (by kernel_rfl) ?_
   generalize hw2:w1.drew=w2
   have HB2:Hid (Below wc.heap.size wc w2):=by rw [← hw2];exact Lh HB1.out.drew
   clear hw2 s1
   have s2:=(HC2.out w2 HB2.out).1
   refine AH.z 0 s2 ?_
   refine AH.z 1 s2 ?_
   refine AH.z 2 s2 ?_
   refine AH.z 3 s2 ?_
   refine AH.z 4 s2 ?_
   refine AH.z 6 s2 ?_
   refine AH.o 5 (fun K hK=>?_)
   go_simp
   refine (Q4K (N2.out.later HB2.out) (N2.out.later HB2.out) (by omega) (by omega)).mono ?_
   rintro r w3 ⟨v27,rfl,k27,hB⟩
   have HB3:=Lh (Qd HB2.out hB)
   have s3:=(HC2.out w3 HB3.out).1
   have N27:Hid (NumV w3 v27 false (r0+r0)):=Lh k27
   refine hK _ _ s3 ?_
   clear hK K hB k27 s2
   try simp only [Act.put,Zp_]
   refine AH.o 7 (fun K hK=>?_)
   go_simp
   refine (HTen.out w3).mono ?_
   rintro r w4 ⟨v29,rfl,k29,hB⟩
   have HB4:=Lh (Qd HB3.out hB)
   have s4:=(HC2.out w4 HB4.out).1
   have N27':=Lh (N27.out.later hB)
   have N29:=Lh k29
   refine hK _ _ s4 ?_
   clear hK K hB k29 s3
   try simp only [Act.put,Zp_]
   refine AH.o 8 (fun K hK=>?_)
   go_simp
   refine (Q96 N27'.out N29.out).mono ?_
   rintro r w5 ⟨rfl,hB⟩
   have HB5:=Lh (Qd HB4.out hB)
   have s5:=(HC2.out w5 HB5.out).1
   refine hK _ _ s5 ?_
   clear hK K hB s4
   try simp only [Act.put,Zp_]
   refine AH.o 9 (fun K hK=>?_)
   go_simp
   refine (Qa1 m hm neg (cm (r0+r0) T) q (N1.out.later HB5.out)).mono ?_
   rintro r w6 ⟨rfl,hB⟩
   have HB6:=Lh (Qd HB5.out hB)
   have s6:=(HC2.out w6 HB6.out).1
   refine hK _ _ s6 ?_
   clear hK K hB s5
   try simp only [Act.put,Zp_]
   refine AH.done (by kernel_rfl) ?_
   have HAN2:Hid (ans=if upR m neg q (cm (r0+r0) T) then q+1 else q):=Lh (by rw [HAN.out,Nat.two_mul])
   generalize upR m neg q (cm (r0+r0) T)=ub at HAN2 ⊢
   have HL:Hid (∀ (v:Value) (w7:World) (p3:Option Addr) (l3 c3:Nat),Below w.heap.size w w7→w7.heap[w.heap.size+1]?=some (.cells #[.bool false,.slice none 0 0] 37 (0,0))→NumV w7 (.agg #[.bool false,.slice p3 l3 c3]) false ans→NumV ((w7.setCell ⟨w.heap.size+1,0,none⟩ (.bool false)).setCell ⟨w.heap.size+1,1,none⟩ (.slice p3 l3 c3)) (.agg #[.bool false,.slice p3 l3 c3]) false ans∧Below w.heap.size w ((w7.setCell ⟨w.heap.size+1,0,none⟩ (.bool false)).setCell ⟨w.heap.size+1,1,none⟩ (.slice p3 l3 c3))):=Lh (fun _ w7 p3 l3 c3 h1 h2 h3 =>
    ⟨h3.keep h2 (by decide) (((Only.refl _ _).set 0 _).set 1 _),(h1.setCell (by simp only;omega) _).setCell (by simp only;omega) _⟩)
   cases ub
   ·have HANq:Hid (ans=q):=Lh (by rw [HAN2.out];rfl)
    obtain ⟨⟨d0,d1,_,_⟩,⟨z0,z1,z2,z3⟩,_⟩:=HC2.out w6 HB6.out
    have HF:=Lh (HL.out (.bool true) w6 p1 l1 c1 (Qd HBw.out HB6.out) (HH.out _ HB6.out) (by rw [HANq.out];exact N1.out.later HB6.out))
    clear s6
    go_wp2_with fail
    exact bodyPost_ret (v:=.tuple #[.agg #[.bool false,.slice p1 l1 c1],.bool false]) (by simp [results,Tryz.results24,go_sem,z0,z1]) rfl ⟨_,by rw [HZT.out],HF.out.1,HF.out.2⟩
   ·have HANq:Hid (ans=q+1):=Lh (by rw [HAN2.out];rfl)
    go_wp2_with fail
    refine AH.start (fun _=>True) (by kernel_rfl) ?_
    generalize hw7:w6.drew=w7
    have HB7:Hid (Below wc.heap.size wc w7):=by rw [← hw7];exact Lh HB6.out.drew
    clear hw7 s6
    refine AH.t 0 1 (fun K hK=>?g1) (fun K hK=>?g2)
    case' g1 =>
     obtain ⟨⟨a0,a1,_,_⟩,_,_,_⟩:=HC2.out w7 HB7.out
     go_simp
     refine hK _ _ trivial ?_
     clear hK K a0 a1
     try simp only [Act.put,Zp_]
     refine AH.o 1 (fun K hK=>?_)
     go_simp
     refine (Q2V 1 (by decide) w7).mono ?_
     rintro r w8 ⟨v8,rfl,k8,hB⟩
     have HB8:=Lh (Qd HB7.out hB)
     have N8:=Lh k8
     refine hK _ _ trivial ?_
     clear hK K hB k8
     try simp only [Act.put,Zp_]
    case' g2 =>
     go_simp
     refine (Q2V 1 (by decide) w7).mono ?_
     rintro r w8 ⟨v8,rfl,k8,hB⟩
     have HB8:=Lh (Qd HB7.out hB)
     have N8:=Lh k8
     obtain ⟨⟨a0,a1,_,_⟩,_,_,_⟩:=HC2.out w8 HB8.out
     refine hK _ _ trivial ?_
     clear hK K hB k8
     try simp only [Act.put,Zp_]
     refine AH.o 0 (fun K hK=>?_)
     go_simp
     refine hK _ _ trivial ?_
     clear hK K a0 a1
     try simp only [Act.put,Zp_]
    all_goals
     refine AH.o 2 (fun K hK=>?_)
     go_simp
     refine (Q4K (N1.out.later HB8.out) N8.out (by omega) (by rw [Qw 1 (by decide),Qj (by decide)];decide)).mono ?_
     rintro r w9 ⟨v9,rfl,⟨s9,rfl,k9⟩,hB⟩
     have HB9:=Lh (Qd HB8.out hB)
     have N9:Hid (NumV w9 (.agg #[.bool false,s9]) false (q+1)):=Lh ⟨s9,rfl,k9⟩
     obtain ⟨p9,c9,rfl,_⟩:=k9
     obtain ⟨⟨a0,a1,_,_⟩,_,g0,g1⟩:=HC2.out w9 HB9.out
     refine hK _ _ trivial ?_
     clear hK K hB
     try simp only [Act.put,Zp_]
     have HAw:=Lh (Qb HA.out HB9.out)
     have hbs:=Q1h HAw.out (.bool false) (.slice p9 (dgs (q+1)).length c9)
     obtain ⟨cs,_⟩:=Qe hbs
     have t0:((w9.setCell ⟨gA,0,none⟩ (.bool false)).setCell ⟨gA,1,none⟩ (.slice p9 (dgs (q+1)).length c9)).cell? ⟨gA,0,none⟩=some (.bool false):=cs 0
     have t1:((w9.setCell ⟨gA,0,none⟩ (.bool false)).setCell ⟨gA,1,none⟩ (.slice p9 (dgs (q+1)).length c9)).cell? ⟨gA,1,none⟩=some (.slice p9 (dgs (q+1)).length c9):=cs 1
     have o9:=(((Only.refl gA w9).set 0 (.bool false)).set 1 (.slice p9 (dgs (q+1)).length c9))
     have N10:=Lh (N9.out.keep HAw.out (by rfl) o9)
     have H10:=Lh ((o9.1 (w.heap.size+1) (Ne.symm HNE.out)).trans (HH.out _ HB9.out))
     have HB10:Hid (Below w.heap.size w ((w9.setCell ⟨gA,0,none⟩ (.bool false)).setCell ⟨gA,1,none⟩ (.slice p9 (dgs (q+1)).length c9))):=Lh (((Qd HBw.out HB9.out).setCell (by have:=HLA.out;have:=hBA.out.size;simp only;omega) _).setCell (by have:=HLA.out;have:=hBA.out.size;simp only;omega) _)
     obtain ⟨ch,fh⟩:=Qe H10.out
     have z0:((w9.setCell ⟨gA,0,none⟩ (.bool false)).setCell ⟨gA,1,none⟩ (.slice p9 (dgs (q+1)).length c9)).cell? ⟨w.heap.size+1,0,none⟩=some (.bool false):=ch 0
     have z1:((w9.setCell ⟨gA,0,none⟩ (.bool false)).setCell ⟨gA,1,none⟩ (.slice p9 (dgs (q+1)).length c9)).cell? ⟨w.heap.size+1,1,none⟩=some (.slice none 0 0):=ch 1
     have z2:=fh 0;have z3:=fh 1
     clear hbs cs o9 ch fh
     refine AH.o 3 (fun K hK=>?_)
     go_simp
     refine hK _ _ trivial ?_
     clear hK K a0 a1 g0 g1
     try simp only [Act.put,Zp_]
     generalize (w9.setCell ⟨gA,0,none⟩ (.bool false)).setCell ⟨gA,1,none⟩ (.slice p9 (dgs (q+1)).length c9)=w10 at t0 t1 z0 z1 z2 z3 N10 H10 HB10 ⊢
     have HF:=Lh (HL.out (.bool true) w10 p9 _ c9 HB10.out H10.out (by rw [HANq.out];exact N10.out))
     refine AH.done (by kernel_rfl) ?_
     go_wp2_with fail
     exact bodyPost_ret (v:=.tuple #[.agg #[.bool false,.slice p9 (dgs (q+1)).length c9],.bool false]) (by simp [results,Tryz.results24,go_sem,z0,z1]) rfl ⟨_,by rw [HZT.out],HF.out.1,HF.out.2⟩
end Go.Proofs.YtpebcmfpehdafaaGreatDoor
