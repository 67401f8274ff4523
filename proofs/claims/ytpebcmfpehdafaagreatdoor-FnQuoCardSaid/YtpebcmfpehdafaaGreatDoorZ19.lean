/- a part of the proof -/
import Derived.Test.YtpebcmfpehdafaaGreatDoorZ18
set_option linter.all false
set_option maxRecDepth 100000
set_option maxHeartbeats 16000000
namespace Go.Proofs.YtpebcmfpehdafaaGreatDoor
open Go Go.RowKit
theorem Qab {A B:Prop}(a:A)(h:A→B):B:=h a
def ngZ (n:Bool)(c:Nat):Bool:=n && decide (c≠0)
def cmZ (n:Bool)(a:Nat)(m:Bool)(b:Nat):Int:=if n && !m then -1 else if !n && m then 1 else if n then cm b a else cm a b
theorem NumV.sgn {w:World}{s:Value}{n:Nat}(h:NumV w (.agg #[.bool false,s]) false n)(a:Bool):NumV w (.agg #[.bool a,s]) a n:=by
 obtain ⟨t,e,d⟩:=h
 have e':s=t:=by
  have:=congrArg (fun v=>match v with | Value.agg cs=>cs.toList | _=>[]) e
  simpa using this
 subst e'
 exact ⟨s,rfl,d⟩
theorem Qal {wA w4:World}{A B gA gB:Nat}{s1 s2:Value}(hB:Below wA.heap.size wA w4)(hA:w4.heap[gA]?=some (.cells #[.bool false,s1] 37 (0,0)))(hB2:w4.heap[gB]?=some (.cells #[.bool false,s2] 37 (0,0)))(lA:wA.heap.size≤gA)(lB:wA.heap.size≤gB)(ne:gA≠gB)(n1:NumV w4 (.agg #[.bool false,s1]) false A)(n2:NumV w4 (.agg #[.bool false,s2]) false B)(hs1:∃ p l c,s1=.slice p l c)(hs2:∃ p l c,s2=.slice p l c)(a b:Bool) :
  w4.cell? ⟨gA,0,none⟩=some (.bool false)∧w4.frozen? ⟨gA,0,none⟩=false∧(w4.setCell ⟨gA,0,none⟩ (.bool a)).cell? ⟨gB,0,none⟩=some (.bool false)∧(w4.setCell ⟨gA,0,none⟩ (.bool a)).frozen? ⟨gB,0,none⟩=false ∧
  Below wA.heap.size wA (w4.setCell ⟨gA,0,none⟩ (.bool a))∧Below wA.heap.size wA ((w4.setCell ⟨gA,0,none⟩ (.bool a)).setCell ⟨gB,0,none⟩ (.bool b)) ∧
  ((w4.setCell ⟨gA,0,none⟩ (.bool a)).setCell ⟨gB,0,none⟩ (.bool b)).cell? ⟨gA,0,none⟩=some (.bool a)∧((w4.setCell ⟨gA,0,none⟩ (.bool a)).setCell ⟨gB,0,none⟩ (.bool b)).cell? ⟨gA,1,none⟩=some s1 ∧
  ((w4.setCell ⟨gA,0,none⟩ (.bool a)).setCell ⟨gB,0,none⟩ (.bool b)).cell? ⟨gB,0,none⟩=some (.bool b)∧((w4.setCell ⟨gA,0,none⟩ (.bool a)).setCell ⟨gB,0,none⟩ (.bool b)).cell? ⟨gB,1,none⟩=some s2 ∧
  NumV ((w4.setCell ⟨gA,0,none⟩ (.bool a)).setCell ⟨gB,0,none⟩ (.bool b)) (.agg #[.bool a,s1]) a A∧NumV ((w4.setCell ⟨gA,0,none⟩ (.bool a)).setCell ⟨gB,0,none⟩ (.bool b)) (.agg #[.bool b,s2]) b B∧True:=by
 obtain ⟨p1,l1,c1,rfl⟩:=hs1
 obtain ⟨p2,l2,c2,rfl⟩:=hs2
 obtain ⟨ca,fa⟩:=Qe hA
 have h5:=QH hB2 (fun e=>ne e.symm) 0 (.bool a)
 obtain ⟨cb,fb⟩:=Qe h5
 have o1:=(Only.refl gA w4).set 0 (.bool a)
 have o2:=(Only.refl gB (w4.setCell ⟨gA,0,none⟩ (.bool a))).set 0 (.bool b)
 obtain ⟨ea,_⟩:=Qe (QH (Qq hA 0 (.bool a)) ne 0 (.bool b))
 obtain ⟨eb,_⟩:=Qe (Qq h5 0 (.bool b))
 have b5:=hB.setCell (p:=⟨gA,0,none⟩) (by exact lA) (.bool a)
 exact ⟨ca 0,fa 0,cb 0,fb 0,b5,b5.setCell (by exact lB) _,ea 0,ea 1,eb 0,eb 1,((n1.keep hA (by rfl) o1).keep h5 (by rfl) o2).sgn a,((n2.keep hA (by rfl) o1).keep h5 (by rfl) o2).sgn b,trivial⟩
theorem Qaf {w:World}{u v:Value}{n m:Bool}{a b:Nat}(hu:NumV w u n a)(hv:NumV w v m b):Calls Tryz.prog 59 #[u,v] w fun e w'=>e=.returned (.int .i64 (cmZ n a m b))∧Below w.heap.size w w':=by
 obtain ⟨s,rfl,hs⟩:=hu
 obtain ⟨t,rfl,ht⟩:=hv
 obtain ⟨wA,hwA⟩:∃ wA,wA=(w.alloc (.cells #[.bool n,s] 37)).alloc (.cells #[.bool m,t] 37):=⟨_,rfl⟩
 have hB:Below w.heap.size w wA:=by rw [hwA];exact bal (Qm w _) _
 have HB:=Lh hB
 have HC1:=Lh (Q1C (hs.later hB) (ht.later hB))
 have HC2:=Lh (Q1C (ht.later hB) (hs.later hB))
 obtain ⟨p,cap,rfl,_⟩:=hs
 obtain ⟨q,cbp,rfl,_⟩:=ht
 generalize (dgs a).length=L at *
 generalize (dgs b).length=M at *
 obtain ⟨x,y⟩:(∀ i,wA.cell? ⟨w.heap.size,i,none⟩=(#[.bool n,.slice p L cap]:Array Value)[i]?)∧∀ i,wA.cell? ⟨w.heap.size+1,i,none⟩=(#[.bool m,.slice q M cbp]:Array Value)[i]?:=by
  have g1:wA.heap[w.heap.size]?=some (.cells #[.bool n,.slice p L cap] 37 (0,0)):=by rw [hwA];exact Qb (gal w _) (Qm _ _)
  have g2:wA.heap[w.heap.size+1]?=some (.cells #[.bool m,.slice q M cbp] 37 (0,0)):=by
   have e:(w.alloc (.cells #[.bool n,.slice p L cap] 37)).heap.size=w.heap.size+1:=by simp
   rw [hwA,← e];exact gal _ _
  exact ⟨(Qe g1).1,(Qe g2).1⟩
 have x0:wA.cell? ⟨w.heap.size,0,none⟩=some (.bool n):=x 0
 have x1:wA.cell? ⟨w.heap.size,1,none⟩=some (.slice p L cap):=x 1
 have y0:wA.cell? ⟨w.heap.size+1,0,none⟩=some (.bool m):=y 0
 have y1:wA.cell? ⟨w.heap.size+1,1,none⟩=some (.slice q M cbp):=y 1
 clear x y hB
 unfold cmZ
 cases n <;> cases m
 ·go_enter Tryz.func59, Tryz.ntmps59
  go_upto_region 1 with (fail)
  rw [← hwA]
  clear hwA
  go_wp2_with fail
  refine HC1.out.mono ?_
  rintro e w1 ⟨rfl,hb⟩
  have HB1:=Lh (Qd HB.out hb)
  clear hb
  go_wp2_with fail
  go_ret
  exact ⟨rfl,HB1.out⟩
 ·go_enter Tryz.func59, Tryz.ntmps59
  go_upto_region 1 with (fail)
  rw [← hwA]
  clear hwA
  go_wp2_with fail
  go_ret
  exact ⟨rfl,HB.out⟩
 ·go_enter Tryz.func59, Tryz.ntmps59
  go_upto_region 1 with (fail)
  rw [← hwA]
  clear hwA
  go_wp2_with fail
  go_ret
  exact ⟨rfl,HB.out⟩
 ·go_enter Tryz.func59, Tryz.ntmps59
  go_upto_region 1 with (fail)
  rw [← hwA]
  clear hwA
  go_wp2_with fail
  refine HC2.out.mono ?_
  rintro e w1 ⟨rfl,hb⟩
  have HB1:=Lh (Qd HB.out hb)
  clear hb
  go_wp2_with fail
  go_ret
  exact ⟨rfl,HB1.out⟩
theorem Qb7 {w:World}{u v:Value}{nx ny:Bool}{cx cy:Nat}{ex ey:Int}(hu:FinV w u nx cx ex)(hv:FinV w v ny cy ey)(he : -2000≤ex∧ex≤2000)(he' : -2000≤ey∧ey≤2000)(hl:(dgs cx).length≤5000)(hl':(dgs cy).length≤5000) :
  Calls Tryz.prog 78 #[u,v] w fun r w'=>r=.returned (.int .i64 (cmZ (ngZ nx (cx*10^(ex - min ex ey).toNat)) (cx*10^(ex - min ex ey).toNat) (ngZ ny (cy*10^(ey - min ex ey).toNat)) (cy*10^(ey - min ex ey).toNat)))∧Below w.heap.size w w':=by
 obtain ⟨s,rfl,hs⟩:=hu
 obtain ⟨t,rfl,ht⟩:=hv
 have hs0:=Lh hs;have ht0:=Lh ht
 obtain ⟨pa,ca,rfl,_⟩:=hs
 obtain ⟨pb,cb,rfl,_⟩:=ht
 have hl0:=Lh hl;have hl0':=Lh hl'
 generalize hla:(dgs cx).length=la at *
 generalize hlb:(dgs cy).length=lb at *
 obtain ⟨m,hm⟩:∃ m,m=min ex ey:=⟨_,rfl⟩
 obtain ⟨d1,hd1⟩:∃ d1,d1=(ex - min ex ey).toNat:=⟨_,rfl⟩
 obtain ⟨d2,hd2⟩:∃ d2,d2=(ey - min ex ey).toNat:=⟨_,rfl⟩
 rw [← hd1,← hd2]
 have j1:IntKind.i64.wrap (ex - m)=(d1:Int):=by rw [show ex - m=(d1:Int) by omega];exact IntWalk.i64_in _ (by omega)
 have j2:IntKind.i64.wrap (ey - m)=(d2:Int):=by rw [show ey - m=(d2:Int) by omega];exact IntWalk.i64_in _ (by omega)
 obtain ⟨wA,hwA⟩:∃ wA,wA=(w.alloc (.cells #[.bool nx,.bool false,.slice pa la ca,.int .i64 ex] 39)).alloc (.cells #[.bool ny,.bool false,.slice pb lb cb,.int .i64 ey] 39):=⟨_,rfl⟩
 have hBA:Below w.heap.size w wA:=by rw [hwA];exact bal (Qm w _) _
 have g1:wA.heap[w.heap.size]?=some (.cells #[.bool nx,.bool false,.slice pa la ca,.int .i64 ex] 39 (0,0)):=by rw [hwA];exact Qb (gal w _) (Qm _ _)
 have g2:wA.heap[w.heap.size+1]?=some (.cells #[.bool ny,.bool false,.slice pb lb cb,.int .i64 ey] 39 (0,0)):=by
  have e:(w.alloc (.cells #[.bool nx,.bool false,.slice pa la ca,.int .i64 ex] 39)).heap.size=w.heap.size+1:=by simp
  rw [hwA,← e];exact gal _ _
 have HC:Hid (∀ w2,Below wA.heap.size wA w2→w2.cell? ⟨w.heap.size,0,none⟩=some (.bool nx)∧w2.cell? ⟨w.heap.size,1,none⟩=some (.bool false)∧w2.cell? ⟨w.heap.size,2,none⟩=some (.slice pa la ca)∧w2.cell? ⟨w.heap.size,3,none⟩=some (.int .i64 ex)∧w2.cell? ⟨w.heap.size+1,0,none⟩=some (.bool ny)∧w2.cell? ⟨w.heap.size+1,1,none⟩=some (.bool false)∧w2.cell? ⟨w.heap.size+1,2,none⟩=some (.slice pb lb cb)∧w2.cell? ⟨w.heap.size+1,3,none⟩=some (.int .i64 ey)):=Lh (fun w2 h=>by
  have k1:=Qb g1 h;have k2:=Qb g2 h
  exact ⟨(Qe k1).1 0,(Qe k1).1 1,(Qe k1).1 2,(Qe k1).1 3,(Qe k2).1 0,(Qe k2).1 1,(Qe k2).1 2,(Qe k2).1 3⟩)
 have HT1:Hid (∀ w2,Calls Tryz.prog 56 #[.int .i64 (d1:Int)] w2 fun r w'=>∃ v',r=.returned v'∧NumV w' v' false (10^d1)∧Below w2.heap.size w2 w'):=Lh (fun w2=>Q9H d1 (by omega) w2)
 have HT2:Hid (∀ w2,Calls Tryz.prog 56 #[.int .i64 (d2:Int)] w2 fun r w'=>∃ v',r=.returned v'∧NumV w' v' false (10^d2)∧Below w2.heap.size w2 w'):=Lh (fun w2=>Q9H d2 (by omega) w2)
 have HM1:Hid (∀ w2 v',Below wA.heap.size wA w2→NumV w2 v' false (10^d1)→Calls Tryz.prog 75 #[.agg #[.bool false,.slice pa la ca],v'] w2 fun r w'=>∃ p l c,r=.returned (.agg #[.bool false,.slice p l c])∧NumV w' (.agg #[.bool false,.slice p l c]) false (cx*10^d1)∧Below w2.heap.size w2 w'):=Lh (fun w2 v' hB hN=>Qak ⟨_,rfl,hs0.out.later (Qd hBA hB)⟩ hN (by rw [hla];exact Nat.le_trans hl0.out (by decide)) (by rw [Q2E];simp;omega))
 have HM2:Hid (∀ w2 v',Below wA.heap.size wA w2→NumV w2 v' false (10^d2)→Calls Tryz.prog 75 #[.agg #[.bool false,.slice pb lb cb],v'] w2 fun r w'=>∃ p l c,r=.returned (.agg #[.bool false,.slice p l c])∧NumV w' (.agg #[.bool false,.slice p l c]) false (cy*10^d2)∧Below w2.heap.size w2 w'):=Lh (fun w2 v' hB hN=>Qak ⟨_,rfl,ht0.out.later (Qd hBA hB)⟩ hN (by rw [hlb];exact Nat.le_trans hl0'.out (by decide)) (by rw [Q2E];simp;omega))
 generalize cx*10^d1=A at HM1 ⊢
 generalize cy*10^d2=B at HM2 ⊢
 generalize hP1:10^d1=P1 at HT1 HM1
 generalize hP2:10^d2=P2 at HT2 HM2
 have HBA:=Lh hBA
 have hmin:min ex ey=m:=hm.symm
 obtain ⟨x0,x1,x2,x3,y0,y1,y2,y3⟩:=HC.out _ (Below.refl _ _)
 clear hs0 ht0 hl0 hl0' hP1 hP2 hd1 hd2 hm g1 g2 hBA hla hlb
 go_enter Tryz.func78, Tryz.ntmps78
 go_upto_region 1 with (fail)
 rw [← hwA]
 have HwA:=Lh hwA
 clear hwA
 go_upto_region 2 with (fail)
 go_cut [6,7] from 13 to 29 (fun tq tr wx=>TwoN wA A B tq tr wx)
 case first =>
  refine AH.start (fun x=>x.cell? ⟨w.heap.size,0,none⟩=some (.bool nx)∧x.cell? ⟨w.heap.size,1,none⟩=some (.bool false)∧x.cell? ⟨w.heap.size,2,none⟩=some (.slice pa la ca)∧x.cell? ⟨w.heap.size,3,none⟩=some (.int .i64 ex)∧x.cell? ⟨w.heap.size+1,0,none⟩=some (.bool ny)∧x.cell? ⟨w.heap.size+1,1,none⟩=some (.bool false)∧x.cell? ⟨w.heap.size+1,2,none⟩=some (.slice pb lb cb)∧x.cell? ⟨w.heap.size+1,3,none⟩=some (.int .i64 ey)) (by kernel_rfl) ?_
  generalize hw0:wA.drew=wq
  have HB:Hid (Below wA.heap.size wA wq):=by rw [← hw0];exact Lh ((Below.refl _ _).drew)
  clear hw0 x0 x1 x2 x3 y0 y1 y2 y3
  have s0:=HC.out _ HB.out
  refine AH.z 0 s0 ?_
  refine AH.z 1 s0 ?_
  refine AH.z 2 s0 ?_
  refine AH.z 3 s0 ?_
  refine AH.z 4 s0 ?_
  refine AH.z 5 s0 ?_
  refine AH.z 8 s0 ?_
  refine AH.z 9 s0 ?_
  refine AH.z 10 s0 ?_
  refine AH.z 11 s0 ?_
  refine AH.z 12 s0 ?_
  refine AH.z 13 s0 ?_
  clear s0
  revert HB
  revert wq
  refine' Qab ?st411 (fun hst411=>Qab ?st410 (fun hst410=>Qab ?st401 (fun hst401=>Qab ?st311 (fun hst311=>Qab ?st400 (fun hst400=>Qab ?st310 (fun hst310=>Qab ?st301 (fun hst301=>Qab ?st211 (fun hst211=>Qab ?st300 (fun hst300=>Qab ?st210 (fun hst210=>Qab ?st201 (fun hst201=>Qab ?st111 (fun hst111=>Qab ?st200 (fun hst200=>Qab ?st110 (fun hst110=>Qab ?st101 (fun hst101=>Qab ?st011 (fun hst011=>Qab ?st100 (fun hst100=>Qab ?st010 (fun hst010=>Qab ?st001 (fun hst001=>?st000)))))))))))))))))))
  case st000 =>
   intro wq HB
   refine AH.three (i:=6) (j:=16) (k:=17) (by kernel_rfl) rfl rfl rfl (by kernel_rfl) (by kernel_rfl) (by kernel_rfl) (fun K hK=>?d1T1) (fun K hK=>?d1A) (fun K hK=>?d1B)
   case d1T1 =>
    go_simp
    refine (HT1.out wq).mono ?_
    rintro r wn ⟨v1,rfl,kv,hB⟩
    have HBn:=Lh (Qd HB.out hB)
    have V1n:=Lh kv
    refine hK _ _ (HC.out _ HBn.out) ?_
    clear hK K kv hB
    try simp only [Act.put,Zp_]
    clear HB
    revert V1n
    revert HBn
    revert v1
    revert wn
    exact hst100
   case d1A =>
    go_simp
    have HBn:=Lh (bal HB.out (.cells #[.bool false,.slice none 0 0] 37))
    have FAn:=Lh (gal wq (.cells #[.bool false,.slice none 0 0] 37))
    have LAn:=HB.out.size
    refine hK _ _ (HC.out _ HBn.out) ?_
    clear hK K
    try simp only [Act.put,Zp_]
    generalize hg:wq.heap.size=gA at FAn LAn ⊢
    generalize hw:wq.alloc (.cells #[.bool false,.slice none 0 0] 37)=wn at HBn FAn ⊢
    clear hg hw
    clear HB
    revert LAn
    revert FAn
    revert HBn
    revert gA
    revert wn
    exact hst010
   case d1B =>
    go_simp
    have HBn:=Lh (bal HB.out (.cells #[.bool false,.slice none 0 0] 37))
    have FBn:=Lh (gal wq (.cells #[.bool false,.slice none 0 0] 37))
    have LBn:=HB.out.size
    refine hK _ _ (HC.out _ HBn.out) ?_
    clear hK K
    try simp only [Act.put,Zp_]
    generalize hg:wq.heap.size=gB at FBn LBn ⊢
    generalize hw:wq.alloc (.cells #[.bool false,.slice none 0 0] 37)=wn at HBn FBn ⊢
    clear hg hw
    clear HB
    revert LBn
    revert FBn
    revert HBn
    revert gB
    revert wn
    exact hst001
  case st001 =>
   intro wq gB HB FB LB
   refine AH.t 6 16 (fun K hK=>?d2T1) (fun K hK=>?d2A)
   case d2T1 =>
    go_simp
    refine (HT1.out wq).mono ?_
    rintro r wn ⟨v1,rfl,kv,hB⟩
    have HBn:=Lh (Qd HB.out hB)
    have V1n:=Lh kv
    have FBn:=Lh (Qb FB.out hB)
    have LBn:=LB
    refine hK _ _ (HC.out _ HBn.out) ?_
    clear hK K kv hB
    try simp only [Act.put,Zp_]
    clear HB FB LB
    revert V1n
    revert LBn
    revert FBn
    revert HBn
    revert v1
    revert gB
    revert wn
    exact hst101
   case d2A =>
    go_simp
    have HBn:=Lh (bal HB.out (.cells #[.bool false,.slice none 0 0] 37))
    have FAn:=Lh (gal wq (.cells #[.bool false,.slice none 0 0] 37))
    have LAn:=HB.out.size
    have FBn:=Lh (Qb FB.out (Qm wq (.cells #[.bool false,.slice none 0 0] 37)))
    have LBn:=LB
    have NEn:wq.heap.size≠gB:=by have:=(Array.getElem?_eq_some_iff.1 FB.out).1;omega
    refine hK _ _ (HC.out _ HBn.out) ?_
    clear hK K
    try simp only [Act.put,Zp_]
    generalize hg:wq.heap.size=gA at FAn LAn NEn ⊢
    generalize hw:wq.alloc (.cells #[.bool false,.slice none 0 0] 37)=wn at HBn FAn FBn ⊢
    clear hg hw
    clear HB FB LB
    revert NEn
    revert LBn
    revert FBn
    revert LAn
    revert FAn
    revert HBn
    revert gB
    revert gA
    revert wn
    exact hst011
  case st010 =>
   intro wq gA HB FA LA
   refine AH.t 6 17 (fun K hK=>?d3T1) (fun K hK=>?d3B)
   case d3T1 =>
    go_simp
    refine (HT1.out wq).mono ?_
    rintro r wn ⟨v1,rfl,kv,hB⟩
    have HBn:=Lh (Qd HB.out hB)
    have V1n:=Lh kv
    have FAn:=Lh (Qb FA.out hB)
    have LAn:=LA
    refine hK _ _ (HC.out _ HBn.out) ?_
    clear hK K kv hB
    try simp only [Act.put,Zp_]
    clear HB FA LA
    revert V1n
    revert LAn
    revert FAn
    revert HBn
    revert v1
    revert gA
    revert wn
    exact hst110
   case d3B =>
    go_simp
    have HBn:=Lh (bal HB.out (.cells #[.bool false,.slice none 0 0] 37))
    have FBn:=Lh (gal wq (.cells #[.bool false,.slice none 0 0] 37))
    have LBn:=HB.out.size
    have FAn:=Lh (Qb FA.out (Qm wq (.cells #[.bool false,.slice none 0 0] 37)))
    have LAn:=LA
    have NEn:gA≠wq.heap.size:=by have:=(Array.getElem?_eq_some_iff.1 FA.out).1;omega
    refine hK _ _ (HC.out _ HBn.out) ?_
    clear hK K
    try simp only [Act.put,Zp_]
    generalize hg:wq.heap.size=gB at FBn LBn NEn ⊢
    generalize hw:wq.alloc (.cells #[.bool false,.slice none 0 0] 37)=wn at HBn FAn FBn ⊢
    clear hg hw
    clear HB FA LA
    revert NEn
    revert LBn
    revert FBn
    revert LAn
    revert FAn
    revert HBn
    revert gB
    revert gA
    revert wn
    exact hst011
  case st100 =>
   intro wq v1 HB V1
   refine AH.three (i:=7) (j:=16) (k:=17) (by kernel_rfl) rfl rfl rfl (by kernel_rfl) (by kernel_rfl) (by kernel_rfl) (fun K hK=>?d4M1) (fun K hK=>?d4A) (fun K hK=>?d4B)
   case d4M1 =>
    go_simp
    refine (HM1.out wq v1 HB.out V1.out).mono ?_
    rintro r wn ⟨p1,l1,c1,rfl,kv,hB⟩
    have HBn:=Lh (Qd HB.out hB)
    have N1n:=Lh kv
    refine hK _ _ (HC.out _ HBn.out) ?_
    clear hK K kv hB
    try simp only [Act.put,Zp_]
    clear HB V1
    revert N1n
    revert HBn
    revert c1
    revert l1
    revert p1
    revert v1
    revert wn
    exact hst200
   case d4A =>
    go_simp
    have HBn:=Lh (bal HB.out (.cells #[.bool false,.slice none 0 0] 37))
    have FAn:=Lh (gal wq (.cells #[.bool false,.slice none 0 0] 37))
    have LAn:=HB.out.size
    have V1n:=Lh (V1.out.later (Qm wq (.cells #[.bool false,.slice none 0 0] 37)))
    refine hK _ _ (HC.out _ HBn.out) ?_
    clear hK K
    try simp only [Act.put,Zp_]
    generalize hg:wq.heap.size=gA at FAn LAn ⊢
    generalize hw:wq.alloc (.cells #[.bool false,.slice none 0 0] 37)=wn at HBn FAn V1n ⊢
    clear hg hw
    clear HB V1
    revert V1n
    revert LAn
    revert FAn
    revert HBn
    revert v1
    revert gA
    revert wn
    exact hst110
   case d4B =>
    go_simp
    have HBn:=Lh (bal HB.out (.cells #[.bool false,.slice none 0 0] 37))
    have FBn:=Lh (gal wq (.cells #[.bool false,.slice none 0 0] 37))
    have LBn:=HB.out.size
    have V1n:=Lh (V1.out.later (Qm wq (.cells #[.bool false,.slice none 0 0] 37)))
    refine hK _ _ (HC.out _ HBn.out) ?_
    clear hK K
    try simp only [Act.put,Zp_]
    generalize hg:wq.heap.size=gB at FBn LBn ⊢
    generalize hw:wq.alloc (.cells #[.bool false,.slice none 0 0] 37)=wn at HBn FBn V1n ⊢
    clear hg hw
    clear HB V1
    revert V1n
    revert LBn
    revert FBn
    revert HBn
    revert v1
    revert gB
    revert wn
    exact hst101
  case st011 =>
   intro wq gA gB HB FA LA FB LB NE
   refine AH.o 6 (fun K hK=>?_)
   go_simp
   refine (HT1.out wq).mono ?_
   rintro r wn ⟨v1,rfl,kv,hB⟩
   have HBn:=Lh (Qd HB.out hB)
   have V1n:=Lh kv
   have FAn:=Lh (Qb FA.out hB)
   have LAn:=LA
   have FBn:=Lh (Qb FB.out hB)
   have LBn:=LB
   have NEn:=NE
   refine hK _ _ (HC.out _ HBn.out) ?_
   clear hK K kv hB
   try simp only [Act.put,Zp_]
   clear HB FA LA FB LB NE
   revert V1n
   revert NEn
   revert LBn
   revert FBn
   revert LAn
   revert FAn
   revert HBn
   revert v1
   revert gB
   revert gA
   revert wn
   exact hst111
  case st101 =>
   intro wq gB v1 HB FB LB V1
   refine AH.t 7 16 (fun K hK=>?d5M1) (fun K hK=>?d5A)
   case d5M1 =>
    go_simp
    refine (HM1.out wq v1 HB.out V1.out).mono ?_
    rintro r wn ⟨p1,l1,c1,rfl,kv,hB⟩
    have HBn:=Lh (Qd HB.out hB)
    have N1n:=Lh kv
    have FBn:=Lh (Qb FB.out hB)
    have LBn:=LB
    refine hK _ _ (HC.out _ HBn.out) ?_
    clear hK K kv hB
    try simp only [Act.put,Zp_]
    clear HB FB LB V1
    revert N1n
    revert LBn
    revert FBn
    revert HBn
    revert c1
    revert l1
    revert p1
    revert v1
    revert gB
    revert wn
    exact hst201
   case d5A =>
    go_simp
    have HBn:=Lh (bal HB.out (.cells #[.bool false,.slice none 0 0] 37))
    have FAn:=Lh (gal wq (.cells #[.bool false,.slice none 0 0] 37))
    have LAn:=HB.out.size
    have FBn:=Lh (Qb FB.out (Qm wq (.cells #[.bool false,.slice none 0 0] 37)))
    have LBn:=LB
    have V1n:=Lh (V1.out.later (Qm wq (.cells #[.bool false,.slice none 0 0] 37)))
    have NEn:wq.heap.size≠gB:=by have:=(Array.getElem?_eq_some_iff.1 FB.out).1;omega
    refine hK _ _ (HC.out _ HBn.out) ?_
    clear hK K
    try simp only [Act.put,Zp_]
    generalize hg:wq.heap.size=gA at FAn LAn NEn ⊢
    generalize hw:wq.alloc (.cells #[.bool false,.slice none 0 0] 37)=wn at HBn FAn FBn V1n ⊢
    clear hg hw
    clear HB FB LB V1
    revert V1n
    revert NEn
    revert LBn
    revert FBn
    revert LAn
    revert FAn
    revert HBn
    revert v1
    revert gB
    revert gA
    revert wn
    exact hst111
  case st110 =>
   intro wq gA v1 HB FA LA V1
   refine AH.t 7 17 (fun K hK=>?d6M1) (fun K hK=>?d6B)
   case d6M1 =>
    go_simp
    refine (HM1.out wq v1 HB.out V1.out).mono ?_
    rintro r wn ⟨p1,l1,c1,rfl,kv,hB⟩
    have HBn:=Lh (Qd HB.out hB)
    have N1n:=Lh kv
    have FAn:=Lh (Qb FA.out hB)
    have LAn:=LA
    refine hK _ _ (HC.out _ HBn.out) ?_
    clear hK K kv hB
    try simp only [Act.put,Zp_]
    clear HB FA LA V1
    revert N1n
    revert LAn
    revert FAn
    revert HBn
    revert c1
    revert l1
    revert p1
    revert v1
    revert gA
    revert wn
    exact hst210
   case d6B =>
    go_simp
    have HBn:=Lh (bal HB.out (.cells #[.bool false,.slice none 0 0] 37))
    have FBn:=Lh (gal wq (.cells #[.bool false,.slice none 0 0] 37))
    have LBn:=HB.out.size
    have FAn:=Lh (Qb FA.out (Qm wq (.cells #[.bool false,.slice none 0 0] 37)))
    have LAn:=LA
    have V1n:=Lh (V1.out.later (Qm wq (.cells #[.bool false,.slice none 0 0] 37)))
    have NEn:gA≠wq.heap.size:=by have:=(Array.getElem?_eq_some_iff.1 FA.out).1;omega
    refine hK _ _ (HC.out _ HBn.out) ?_
    clear hK K
    try simp only [Act.put,Zp_]
    generalize hg:wq.heap.size=gB at FBn LBn NEn ⊢
    generalize hw:wq.alloc (.cells #[.bool false,.slice none 0 0] 37)=wn at HBn FAn FBn V1n ⊢
    clear hg hw
    clear HB FA LA V1
    revert V1n
    revert NEn
    revert LBn
    revert FBn
    revert LAn
    revert FAn
    revert HBn
    revert v1
    revert gB
    revert gA
    revert wn
    exact hst111
  case st200 =>
   intro wq v1 p1 l1 c1 HB N1
   refine AH.three (i:=14) (j:=16) (k:=17) (by kernel_rfl) rfl rfl rfl (by kernel_rfl) (by kernel_rfl) (by kernel_rfl) (fun K hK=>?d7T2) (fun K hK=>?d7A) (fun K hK=>?d7B)
   case d7T2 =>
    go_simp
    refine (HT2.out wq).mono ?_
    rintro r wn ⟨v2,rfl,kv,hB⟩
    have HBn:=Lh (Qd HB.out hB)
    have V2n:=Lh kv
    have N1n:=Lh (N1.out.later hB)
    refine hK _ _ (HC.out _ HBn.out) ?_
    clear hK K kv hB
    try simp only [Act.put,Zp_]
    clear HB N1
    revert V2n
    revert N1n
    revert HBn
    revert v2
    revert c1
    revert l1
    revert p1
    revert v1
    revert wn
    exact hst300
   case d7A =>
    go_simp
    have HBn:=Lh (bal HB.out (.cells #[.bool false,.slice none 0 0] 37))
    have FAn:=Lh (gal wq (.cells #[.bool false,.slice none 0 0] 37))
    have LAn:=HB.out.size
    have N1n:=Lh (N1.out.later (Qm wq (.cells #[.bool false,.slice none 0 0] 37)))
    refine hK _ _ (HC.out _ HBn.out) ?_
    clear hK K
    try simp only [Act.put,Zp_]
    generalize hg:wq.heap.size=gA at FAn LAn ⊢
    generalize hw:wq.alloc (.cells #[.bool false,.slice none 0 0] 37)=wn at HBn FAn N1n ⊢
    clear hg hw
    clear HB N1
    revert N1n
    revert LAn
    revert FAn
    revert HBn
    revert c1
    revert l1
    revert p1
    revert v1
    revert gA
    revert wn
    exact hst210
   case d7B =>
    go_simp
    have HBn:=Lh (bal HB.out (.cells #[.bool false,.slice none 0 0] 37))
    have FBn:=Lh (gal wq (.cells #[.bool false,.slice none 0 0] 37))
    have LBn:=HB.out.size
    have N1n:=Lh (N1.out.later (Qm wq (.cells #[.bool false,.slice none 0 0] 37)))
    refine hK _ _ (HC.out _ HBn.out) ?_
    clear hK K
    try simp only [Act.put,Zp_]
    generalize hg:wq.heap.size=gB at FBn LBn ⊢
    generalize hw:wq.alloc (.cells #[.bool false,.slice none 0 0] 37)=wn at HBn FBn N1n ⊢
    clear hg hw
    clear HB N1
    revert N1n
    revert LBn
    revert FBn
    revert HBn
    revert c1
    revert l1
    revert p1
    revert v1
    revert gB
    revert wn
    exact hst201
  case st111 =>
   intro wq gA gB v1 HB FA LA FB LB NE V1
   refine AH.o 7 (fun K hK=>?_)
   go_simp
   refine (HM1.out wq v1 HB.out V1.out).mono ?_
   rintro r wn ⟨p1,l1,c1,rfl,kv,hB⟩
   have HBn:=Lh (Qd HB.out hB)
   have N1n:=Lh kv
   have FAn:=Lh (Qb FA.out hB)
   have LAn:=LA
   have FBn:=Lh (Qb FB.out hB)
   have LBn:=LB
   have NEn:=NE
   refine hK _ _ (HC.out _ HBn.out) ?_
   clear hK K kv hB
   try simp only [Act.put,Zp_]
   clear HB FA LA FB LB NE V1
   revert N1n
   revert NEn
   revert LBn
   revert FBn
   revert LAn
   revert FAn
   revert HBn
   revert c1
   revert l1
   revert p1
   revert v1
   revert gB
   revert gA
   revert wn
   exact hst211
  case st201 =>
   intro wq gB v1 p1 l1 c1 HB FB LB N1
   refine AH.t 14 16 (fun K hK=>?d8T2) (fun K hK=>?d8A)
   case d8T2 =>
    go_simp
    refine (HT2.out wq).mono ?_
    rintro r wn ⟨v2,rfl,kv,hB⟩
    have HBn:=Lh (Qd HB.out hB)
    have V2n:=Lh kv
    have FBn:=Lh (Qb FB.out hB)
    have LBn:=LB
    have N1n:=Lh (N1.out.later hB)
    refine hK _ _ (HC.out _ HBn.out) ?_
    clear hK K kv hB
    try simp only [Act.put,Zp_]
    clear HB FB LB N1
    revert V2n
    revert N1n
    revert LBn
    revert FBn
    revert HBn
    revert v2
    revert c1
    revert l1
    revert p1
    revert v1
    revert gB
    revert wn
    exact hst301
   case d8A =>
    go_simp
    have HBn:=Lh (bal HB.out (.cells #[.bool false,.slice none 0 0] 37))
    have FAn:=Lh (gal wq (.cells #[.bool false,.slice none 0 0] 37))
    have LAn:=HB.out.size
    have FBn:=Lh (Qb FB.out (Qm wq (.cells #[.bool false,.slice none 0 0] 37)))
    have LBn:=LB
    have N1n:=Lh (N1.out.later (Qm wq (.cells #[.bool false,.slice none 0 0] 37)))
    have NEn:wq.heap.size≠gB:=by have:=(Array.getElem?_eq_some_iff.1 FB.out).1;omega
    refine hK _ _ (HC.out _ HBn.out) ?_
    clear hK K
    try simp only [Act.put,Zp_]
    generalize hg:wq.heap.size=gA at FAn LAn NEn ⊢
    generalize hw:wq.alloc (.cells #[.bool false,.slice none 0 0] 37)=wn at HBn FAn FBn N1n ⊢
    clear hg hw
    clear HB FB LB N1
    revert N1n
    revert NEn
    revert LBn
    revert FBn
    revert LAn
    revert FAn
    revert HBn
    revert c1
    revert l1
    revert p1
    revert v1
    revert gB
    revert gA
    revert wn
    exact hst211
  case st210 =>
   intro wq gA v1 p1 l1 c1 HB FA LA N1
   refine AH.t 14 17 (fun K hK=>?d9T2) (fun K hK=>?d9B)
   case d9T2 =>
    go_simp
    refine (HT2.out wq).mono ?_
    rintro r wn ⟨v2,rfl,kv,hB⟩
    have HBn:=Lh (Qd HB.out hB)
    have V2n:=Lh kv
    have FAn:=Lh (Qb FA.out hB)
    have LAn:=LA
    have N1n:=Lh (N1.out.later hB)
    refine hK _ _ (HC.out _ HBn.out) ?_
    clear hK K kv hB
    try simp only [Act.put,Zp_]
    clear HB FA LA N1
    revert V2n
    revert N1n
    revert LAn
    revert FAn
    revert HBn
    revert v2
    revert c1
    revert l1
    revert p1
    revert v1
    revert gA
    revert wn
    exact hst310
   case d9B =>
    go_simp
    have HBn:=Lh (bal HB.out (.cells #[.bool false,.slice none 0 0] 37))
    have FBn:=Lh (gal wq (.cells #[.bool false,.slice none 0 0] 37))
    have LBn:=HB.out.size
    have FAn:=Lh (Qb FA.out (Qm wq (.cells #[.bool false,.slice none 0 0] 37)))
    have LAn:=LA
    have N1n:=Lh (N1.out.later (Qm wq (.cells #[.bool false,.slice none 0 0] 37)))
    have NEn:gA≠wq.heap.size:=by have:=(Array.getElem?_eq_some_iff.1 FA.out).1;omega
    refine hK _ _ (HC.out _ HBn.out) ?_
    clear hK K
    try simp only [Act.put,Zp_]
    generalize hg:wq.heap.size=gB at FBn LBn NEn ⊢
    generalize hw:wq.alloc (.cells #[.bool false,.slice none 0 0] 37)=wn at HBn FAn FBn N1n ⊢
    clear hg hw
    clear HB FA LA N1
    revert N1n
    revert NEn
    revert LBn
    revert FBn
    revert LAn
    revert FAn
    revert HBn
    revert c1
    revert l1
    revert p1
    revert v1
    revert gB
    revert gA
    revert wn
    exact hst211
  case st300 =>
   intro wq v1 p1 l1 c1 v2 HB N1 V2
   refine AH.three (i:=15) (j:=16) (k:=17) (by kernel_rfl) rfl rfl rfl (by kernel_rfl) (by kernel_rfl) (by kernel_rfl) (fun K hK=>?d10M2) (fun K hK=>?d10A) (fun K hK=>?d10B)
   case d10M2 =>
    go_simp
    refine (HM2.out wq v2 HB.out V2.out).mono ?_
    rintro r wn ⟨p2,l2,c2,rfl,kv,hB⟩
    have HBn:=Lh (Qd HB.out hB)
    have N2n:=Lh kv
    have N1n:=Lh (N1.out.later hB)
    refine hK _ _ (HC.out _ HBn.out) ?_
    clear hK K kv hB
    try simp only [Act.put,Zp_]
    clear HB N1 V2
    revert N2n
    revert N1n
    revert HBn
    revert c2
    revert l2
    revert p2
    revert v2
    revert c1
    revert l1
    revert p1
    revert v1
    revert wn
    exact hst400
   case d10A =>
    go_simp
    have HBn:=Lh (bal HB.out (.cells #[.bool false,.slice none 0 0] 37))
    have FAn:=Lh (gal wq (.cells #[.bool false,.slice none 0 0] 37))
    have LAn:=HB.out.size
    have N1n:=Lh (N1.out.later (Qm wq (.cells #[.bool false,.slice none 0 0] 37)))
    have V2n:=Lh (V2.out.later (Qm wq (.cells #[.bool false,.slice none 0 0] 37)))
    refine hK _ _ (HC.out _ HBn.out) ?_
    clear hK K
    try simp only [Act.put,Zp_]
    generalize hg:wq.heap.size=gA at FAn LAn ⊢
    generalize hw:wq.alloc (.cells #[.bool false,.slice none 0 0] 37)=wn at HBn FAn N1n V2n ⊢
    clear hg hw
    clear HB N1 V2
    revert V2n
    revert N1n
    revert LAn
    revert FAn
    revert HBn
    revert v2
    revert c1
    revert l1
    revert p1
    revert v1
    revert gA
    revert wn
    exact hst310
   case d10B =>
    go_simp
    have HBn:=Lh (bal HB.out (.cells #[.bool false,.slice none 0 0] 37))
    have FBn:=Lh (gal wq (.cells #[.bool false,.slice none 0 0] 37))
    have LBn:=HB.out.size
    have N1n:=Lh (N1.out.later (Qm wq (.cells #[.bool false,.slice none 0 0] 37)))
    have V2n:=Lh (V2.out.later (Qm wq (.cells #[.bool false,.slice none 0 0] 37)))
    refine hK _ _ (HC.out _ HBn.out) ?_
    clear hK K
    try simp only [Act.put,Zp_]
    generalize hg:wq.heap.size=gB at FBn LBn ⊢
    generalize hw:wq.alloc (.cells #[.bool false,.slice none 0 0] 37)=wn at HBn FBn N1n V2n ⊢
    clear hg hw
    clear HB N1 V2
    revert V2n
    revert N1n
    revert LBn
    revert FBn
    revert HBn
    revert v2
    revert c1
    revert l1
    revert p1
    revert v1
    revert gB
    revert wn
    exact hst301
  case st211 =>
   intro wq gA gB v1 p1 l1 c1 HB FA LA FB LB NE N1
   refine AH.o 14 (fun K hK=>?_)
   go_simp
   refine (HT2.out wq).mono ?_
   rintro r wn ⟨v2,rfl,kv,hB⟩
   have HBn:=Lh (Qd HB.out hB)
   have V2n:=Lh kv
   have FAn:=Lh (Qb FA.out hB)
   have LAn:=LA
   have FBn:=Lh (Qb FB.out hB)
   have LBn:=LB
   have NEn:=NE
   have N1n:=Lh (N1.out.later hB)
   refine hK _ _ (HC.out _ HBn.out) ?_
   clear hK K kv hB
   try simp only [Act.put,Zp_]
   clear HB FA LA FB LB NE N1
   revert V2n
   revert N1n
   revert NEn
   revert LBn
   revert FBn
   revert LAn
   revert FAn
   revert HBn
   revert v2
   revert c1
   revert l1
   revert p1
   revert v1
   revert gB
   revert gA
   revert wn
   exact hst311
  case st301 =>
   intro wq gB v1 p1 l1 c1 v2 HB FB LB N1 V2
   refine AH.t 15 16 (fun K hK=>?d11M2) (fun K hK=>?d11A)
   case d11M2 =>
    go_simp
    refine (HM2.out wq v2 HB.out V2.out).mono ?_
    rintro r wn ⟨p2,l2,c2,rfl,kv,hB⟩
    have HBn:=Lh (Qd HB.out hB)
    have N2n:=Lh kv
    have FBn:=Lh (Qb FB.out hB)
    have LBn:=LB
    have N1n:=Lh (N1.out.later hB)
    refine hK _ _ (HC.out _ HBn.out) ?_
    clear hK K kv hB
    try simp only [Act.put,Zp_]
    clear HB FB LB N1 V2
    revert N2n
    revert N1n
    revert LBn
    revert FBn
    revert HBn
    revert c2
    revert l2
    revert p2
    revert v2
    revert c1
    revert l1
    revert p1
    revert v1
    revert gB
    revert wn
    exact hst401
   case d11A =>
    go_simp
    have HBn:=Lh (bal HB.out (.cells #[.bool false,.slice none 0 0] 37))
    have FAn:=Lh (gal wq (.cells #[.bool false,.slice none 0 0] 37))
    have LAn:=HB.out.size
    have FBn:=Lh (Qb FB.out (Qm wq (.cells #[.bool false,.slice none 0 0] 37)))
    have LBn:=LB
    have N1n:=Lh (N1.out.later (Qm wq (.cells #[.bool false,.slice none 0 0] 37)))
    have V2n:=Lh (V2.out.later (Qm wq (.cells #[.bool false,.slice none 0 0] 37)))
    have NEn:wq.heap.size≠gB:=by have:=(Array.getElem?_eq_some_iff.1 FB.out).1;omega
    refine hK _ _ (HC.out _ HBn.out) ?_
    clear hK K
    try simp only [Act.put,Zp_]
    generalize hg:wq.heap.size=gA at FAn LAn NEn ⊢
    generalize hw:wq.alloc (.cells #[.bool false,.slice none 0 0] 37)=wn at HBn FAn FBn N1n V2n ⊢
    clear hg hw
    clear HB FB LB N1 V2
    revert V2n
    revert N1n
    revert NEn
    revert LBn
    revert FBn
    revert LAn
    revert FAn
    revert HBn
    revert v2
    revert c1
    revert l1
    revert p1
    revert v1
    revert gB
    revert gA
    revert wn
    exact hst311
  case st310 =>
   intro wq gA v1 p1 l1 c1 v2 HB FA LA N1 V2
   refine AH.t 15 17 (fun K hK=>?d12M2) (fun K hK=>?d12B)
   case d12M2 =>
    go_simp
    refine (HM2.out wq v2 HB.out V2.out).mono ?_
    rintro r wn ⟨p2,l2,c2,rfl,kv,hB⟩
    have HBn:=Lh (Qd HB.out hB)
    have N2n:=Lh kv
    have FAn:=Lh (Qb FA.out hB)
    have LAn:=LA
    have N1n:=Lh (N1.out.later hB)
    refine hK _ _ (HC.out _ HBn.out) ?_
    clear hK K kv hB
    try simp only [Act.put,Zp_]
    clear HB FA LA N1 V2
    revert N2n
    revert N1n
    revert LAn
    revert FAn
    revert HBn
    revert c2
    revert l2
    revert p2
    revert v2
    revert c1
    revert l1
    revert p1
    revert v1
    revert gA
    revert wn
    exact hst410
   case d12B =>
    go_simp
    have HBn:=Lh (bal HB.out (.cells #[.bool false,.slice none 0 0] 37))
    have FBn:=Lh (gal wq (.cells #[.bool false,.slice none 0 0] 37))
    have LBn:=HB.out.size
    have FAn:=Lh (Qb FA.out (Qm wq (.cells #[.bool false,.slice none 0 0] 37)))
    have LAn:=LA
    have N1n:=Lh (N1.out.later (Qm wq (.cells #[.bool false,.slice none 0 0] 37)))
    have V2n:=Lh (V2.out.later (Qm wq (.cells #[.bool false,.slice none 0 0] 37)))
    have NEn:gA≠wq.heap.size:=by have:=(Array.getElem?_eq_some_iff.1 FA.out).1;omega
    refine hK _ _ (HC.out _ HBn.out) ?_
    clear hK K
    try simp only [Act.put,Zp_]
    generalize hg:wq.heap.size=gB at FBn LBn NEn ⊢
    generalize hw:wq.alloc (.cells #[.bool false,.slice none 0 0] 37)=wn at HBn FAn FBn N1n V2n ⊢
    clear hg hw
    clear HB FA LA N1 V2
    revert V2n
    revert N1n
    revert NEn
    revert LBn
    revert FBn
    revert LAn
    revert FAn
    revert HBn
    revert v2
    revert c1
    revert l1
    revert p1
    revert v1
    revert gB
    revert gA
    revert wn
    exact hst311
  case st400 =>
   intro wq v1 p1 l1 c1 v2 p2 l2 c2 HB N1 N2
   refine AH.t 16 17 (fun K hK=>?d13A) (fun K hK=>?d13B)
   case d13A =>
    go_simp
    have HBn:=Lh (bal HB.out (.cells #[.bool false,.slice none 0 0] 37))
    have FAn:=Lh (gal wq (.cells #[.bool false,.slice none 0 0] 37))
    have LAn:=HB.out.size
    have N1n:=Lh (N1.out.later (Qm wq (.cells #[.bool false,.slice none 0 0] 37)))
    have N2n:=Lh (N2.out.later (Qm wq (.cells #[.bool false,.slice none 0 0] 37)))
    refine hK _ _ (HC.out _ HBn.out) ?_
    clear hK K
    try simp only [Act.put,Zp_]
    generalize hg:wq.heap.size=gA at FAn LAn ⊢
    generalize hw:wq.alloc (.cells #[.bool false,.slice none 0 0] 37)=wn at HBn FAn N1n N2n ⊢
    clear hg hw
    clear HB N1 N2
    revert N2n
    revert N1n
    revert LAn
    revert FAn
    revert HBn
    revert c2
    revert l2
    revert p2
    revert v2
    revert c1
    revert l1
    revert p1
    revert v1
    revert gA
    revert wn
    exact hst410
   case d13B =>
    go_simp
    have HBn:=Lh (bal HB.out (.cells #[.bool false,.slice none 0 0] 37))
    have FBn:=Lh (gal wq (.cells #[.bool false,.slice none 0 0] 37))
    have LBn:=HB.out.size
    have N1n:=Lh (N1.out.later (Qm wq (.cells #[.bool false,.slice none 0 0] 37)))
    have N2n:=Lh (N2.out.later (Qm wq (.cells #[.bool false,.slice none 0 0] 37)))
    refine hK _ _ (HC.out _ HBn.out) ?_
    clear hK K
    try simp only [Act.put,Zp_]
    generalize hg:wq.heap.size=gB at FBn LBn ⊢
    generalize hw:wq.alloc (.cells #[.bool false,.slice none 0 0] 37)=wn at HBn FBn N1n N2n ⊢
    clear hg hw
    clear HB N1 N2
    revert N2n
    revert N1n
    revert LBn
    revert FBn
    revert HBn
    revert c2
    revert l2
    revert p2
    revert v2
    revert c1
    revert l1
    revert p1
    revert v1
    revert gB
    revert wn
    exact hst401
  case st311 =>
   intro wq gA gB v1 p1 l1 c1 v2 HB FA LA FB LB NE N1 V2
   refine AH.o 15 (fun K hK=>?_)
   go_simp
   refine (HM2.out wq v2 HB.out V2.out).mono ?_
   rintro r wn ⟨p2,l2,c2,rfl,kv,hB⟩
   have HBn:=Lh (Qd HB.out hB)
   have N2n:=Lh kv
   have FAn:=Lh (Qb FA.out hB)
   have LAn:=LA
   have FBn:=Lh (Qb FB.out hB)
   have LBn:=LB
   have NEn:=NE
   have N1n:=Lh (N1.out.later hB)
   refine hK _ _ (HC.out _ HBn.out) ?_
   clear hK K kv hB
   try simp only [Act.put,Zp_]
   clear HB FA LA FB LB NE N1 V2
   revert N2n
   revert N1n
   revert NEn
   revert LBn
   revert FBn
   revert LAn
   revert FAn
   revert HBn
   revert c2
   revert l2
   revert p2
   revert v2
   revert c1
   revert l1
   revert p1
   revert v1
   revert gB
   revert gA
   revert wn
   exact hst411
  case st401 =>
   intro wq gB v1 p1 l1 c1 v2 p2 l2 c2 HB FB LB N1 N2
   refine AH.o 16 (fun K hK=>?_)
   go_simp
   have HBn:=Lh (bal HB.out (.cells #[.bool false,.slice none 0 0] 37))
   have FAn:=Lh (gal wq (.cells #[.bool false,.slice none 0 0] 37))
   have LAn:=HB.out.size
   have FBn:=Lh (Qb FB.out (Qm wq (.cells #[.bool false,.slice none 0 0] 37)))
   have LBn:=LB
   have N1n:=Lh (N1.out.later (Qm wq (.cells #[.bool false,.slice none 0 0] 37)))
   have N2n:=Lh (N2.out.later (Qm wq (.cells #[.bool false,.slice none 0 0] 37)))
   have NEn:wq.heap.size≠gB:=by have:=(Array.getElem?_eq_some_iff.1 FB.out).1;omega
   refine hK _ _ (HC.out _ HBn.out) ?_
   clear hK K
   try simp only [Act.put,Zp_]
   generalize hg:wq.heap.size=gA at FAn LAn NEn ⊢
   generalize hw:wq.alloc (.cells #[.bool false,.slice none 0 0] 37)=wn at HBn FAn FBn N1n N2n ⊢
   clear hg hw
   clear HB FB LB N1 N2
   revert N2n
   revert N1n
   revert NEn
   revert LBn
   revert FBn
   revert LAn
   revert FAn
   revert HBn
   revert c2
   revert l2
   revert p2
   revert v2
   revert c1
   revert l1
   revert p1
   revert v1
   revert gB
   revert gA
   revert wn
   exact hst411
  case st410 =>
   intro wq gA v1 p1 l1 c1 v2 p2 l2 c2 HB FA LA N1 N2
   refine AH.o 17 (fun K hK=>?_)
   go_simp
   have HBn:=Lh (bal HB.out (.cells #[.bool false,.slice none 0 0] 37))
   have FBn:=Lh (gal wq (.cells #[.bool false,.slice none 0 0] 37))
   have LBn:=HB.out.size
   have FAn:=Lh (Qb FA.out (Qm wq (.cells #[.bool false,.slice none 0 0] 37)))
   have LAn:=LA
   have N1n:=Lh (N1.out.later (Qm wq (.cells #[.bool false,.slice none 0 0] 37)))
   have N2n:=Lh (N2.out.later (Qm wq (.cells #[.bool false,.slice none 0 0] 37)))
   have NEn:gA≠wq.heap.size:=by have:=(Array.getElem?_eq_some_iff.1 FA.out).1;omega
   refine hK _ _ (HC.out _ HBn.out) ?_
   clear hK K
   try simp only [Act.put,Zp_]
   generalize hg:wq.heap.size=gB at FBn LBn NEn ⊢
   generalize hw:wq.alloc (.cells #[.bool false,.slice none 0 0] 37)=wn at HBn FAn FBn N1n N2n ⊢
   clear hg hw
   clear HB FA LA N1 N2
   revert N2n
   revert N1n
   revert NEn
   revert LBn
   revert FBn
   revert LAn
   revert FAn
   revert HBn
   revert c2
   revert l2
   revert p2
   revert v2
   revert c1
   revert l1
   revert p1
   revert v1
   revert gB
   revert gA
   revert wn
   exact hst411
  case st411 =>
   intro wq gA gB v1 p1 l1 c1 v2 p2 l2 c2 HB FA LA FB LB NE N1 N2
   obtain ⟨⟨a0,a1,fa0,fa1⟩,hBs,⟨b0,b1,fb0,fb1⟩,hBt,hT2⟩:=Q6W HB.out FA.out FB.out LA LB NE N1.out N2.out
   have HT2:=Lh hT2;have HBs:=Lh hBs;have HBt:=Lh hBt
   clear hT2 hBs hBt
   refine AH.o 18 (fun K hK=>?_)
   go_simp
   refine hK _ _ (HC.out _ HBs.out) ?_
   clear hK K a0 a1 fa0 fa1
   try simp only [Act.put,Zp_]
   generalize (wq.setCell ⟨gA,0,none⟩ (.bool false)).setCell ⟨gA,1,none⟩ (.slice p1 l1 c1)=ws at HT2 b0 b1 fb0 fb1 HBt ⊢
   refine AH.o 19 (fun K hK=>?_)
   go_simp
   refine hK _ _ (HC.out _ HBt.out) ?_
   clear hK K
   try simp only [Act.put,Zp_]
   refine AH.done (by kernel_rfl) ?_
   go_wp2_with fail
   go_meet
   exact HT2.out
 case rest =>
  obtain ⟨gA,gB,p1,l1,c1,p2,l2,c2,rfl,rfl,⟨hA,hB⟩,n1,n2,lA,lB,ne,hBx⟩:=hcut
  obtain ⟨x0,x1,x2,x3,y0,y1,y2,y3⟩:=HC.out _ hBx
  have HA:=Lh hA;have HBl:=Lh hB;have N1:=Lh n1;have N2:=Lh n2;have HB:=Lh hBx
  clear hA hB n1 n2 hBx HT1 HT2 HM1 HM2
  cases nx <;> cases ny
  ·go_wp2_with fail
   refine AH.start (fun x=>x.cell? ⟨w.heap.size,0,none⟩=some (.bool false)∧x.cell? ⟨w.heap.size,1,none⟩=some (.bool false)∧x.cell? ⟨w.heap.size,2,none⟩=some (.slice pa la ca)∧x.cell? ⟨w.heap.size,3,none⟩=some (.int .i64 ex)∧x.cell? ⟨w.heap.size+1,0,none⟩=some (.bool false)∧x.cell? ⟨w.heap.size+1,1,none⟩=some (.bool false)∧x.cell? ⟨w.heap.size+1,2,none⟩=some (.slice pb lb cb)∧x.cell? ⟨w.heap.size+1,3,none⟩=some (.int .i64 ey)) (by kernel_rfl) ?_
   have hd:Below wc.heap.size wc wc.drew:=(Below.refl _ _).drew
   replace HB:Hid (Below wA.heap.size wA wc.drew):=Lh HB.out.drew
   have FA:Hid (wc.drew.heap[gA]?=some (.cells #[.bool false,.slice p1 l1 c1] 37 (0,0))):=Lh (Qb HA.out hd)
   have FB:Hid (wc.drew.heap[gB]?=some (.cells #[.bool false,.slice p2 l2 c2] 37 (0,0))):=Lh (Qb HBl.out hd)
   replace N1:=Lh (N1.out.later hd)
   replace N2:=Lh (N2.out.later hd)
   clear hd HA HBl x0 x1 x2 x3 y0 y1 y2 y3
   generalize wc.drew=wq at *
   have s0:=HC.out _ HB.out
   refine AH.z 0 s0 ?_
   refine AH.z 1 s0 ?_
   refine AH.z 2 s0 ?_
   refine AH.p 3 s0 ?_
   refine AH.p 4 s0 ?_
   refine AH.p 5 s0 ?_
   refine AH.z 6 s0 ?_
   refine AH.z 7 s0 ?_
   refine AH.z 8 s0 ?_
   refine AH.z 9 s0 ?_
   refine AH.p 10 s0 ?_
   refine AH.p 11 s0 ?_
   refine AH.p 12 s0 ?_
   refine AH.z 13 s0 ?_
   refine AH.z 14 s0 ?_
   have K9:=Qal HB.out FA.out FB.out lA lB ne N1.out N2.out ⟨_,_,_,rfl⟩ ⟨_,_,_,rfl⟩ false false
   obtain ⟨q1,q2,q3,q4,q5,q6,q7,q8,q9,q10,q11,q12,q13⟩:=K9
   have Q6:=Lh q6;have Q5:=Lh q5;have N1x:=Lh q11;have N2x:=Lh q12
   clear q5 q6 q11 q12 HB FA FB N1 N2
   refine AH.o 15 (fun K hK=>?_)
   go_simp
   refine hK _ _ (HC.out _ Q5.out) ?_
   clear hK K
   try simp only [Act.put,Zp_]
   have s0:=HC.out _ Q5.out
   refine AH.z 16 s0 ?_
   generalize wq.setCell ⟨gA,0,none⟩ (.bool false)=ws at *
   refine AH.o 17 (fun K hK=>?_)
   go_simp
   refine hK _ _ (HC.out _ Q6.out) ?_
   clear hK K
   try simp only [Act.put,Zp_]
   generalize ws.setCell ⟨gB,0,none⟩ (.bool false)=wt at *
   refine AH.done (by kernel_rfl) ?_
   go_wp2_with fail
   refine (Qaf N1x.out N2x.out).mono ?_
   rintro e w1 ⟨rfl,hb⟩
   have HBe:=Lh (Qd HBA.out (Qd Q6.out hb))
   clear hb
   go_wp2_with fail
   go_ret
   exact ⟨by simp [ngZ],HBe.out⟩
  ·go_wp2_with fail
   refine AH.start (fun x=>x.cell? ⟨w.heap.size,0,none⟩=some (.bool false)∧x.cell? ⟨w.heap.size,1,none⟩=some (.bool false)∧x.cell? ⟨w.heap.size,2,none⟩=some (.slice pa la ca)∧x.cell? ⟨w.heap.size,3,none⟩=some (.int .i64 ex)∧x.cell? ⟨w.heap.size+1,0,none⟩=some (.bool true)∧x.cell? ⟨w.heap.size+1,1,none⟩=some (.bool false)∧x.cell? ⟨w.heap.size+1,2,none⟩=some (.slice pb lb cb)∧x.cell? ⟨w.heap.size+1,3,none⟩=some (.int .i64 ey)) (by kernel_rfl) ?_
   have hd:Below wc.heap.size wc wc.drew:=(Below.refl _ _).drew
   replace HB:Hid (Below wA.heap.size wA wc.drew):=Lh HB.out.drew
   have FA:Hid (wc.drew.heap[gA]?=some (.cells #[.bool false,.slice p1 l1 c1] 37 (0,0))):=Lh (Qb HA.out hd)
   have FB:Hid (wc.drew.heap[gB]?=some (.cells #[.bool false,.slice p2 l2 c2] 37 (0,0))):=Lh (Qb HBl.out hd)
   replace N1:=Lh (N1.out.later hd)
   replace N2:=Lh (N2.out.later hd)
   clear hd HA HBl x0 x1 x2 x3 y0 y1 y2 y3
   generalize wc.drew=wq at *
   have s0:=HC.out _ HB.out
   refine AH.z 0 s0 ?_
   refine AH.z 1 s0 ?_
   refine AH.z 2 s0 ?_
   refine AH.p 3 s0 ?_
   refine AH.p 4 s0 ?_
   refine AH.p 5 s0 ?_
   refine AH.z 6 s0 ?_
   refine AH.z 7 s0 ?_
   refine AH.z 8 s0 ?_
   refine AH.z 9 s0 ?_
   refine AH.z 14 s0 ?_
   refine AH.o 10 (fun K hK=>?_)
   have a0:wq.cell? ⟨gB,0,none⟩=some (.bool false):=(Qe FB.out).1 0
   have a1:wq.cell? ⟨gB,1,none⟩=some (.slice p2 l2 c2):=(Qe FB.out).1 1
   go_simp
   refine hK _ _ s0 ?_
   clear hK K a0 a1
   try simp only [Act.put,Zp_]
   refine AH.o 11 (fun K hK=>?_)
   go_simp
   refine (Q0b N2.out).mono ?_
   rintro r wn ⟨rfl,hb⟩
   have HBn:=Lh (Qd HB.out hb)
   have FAn:=Lh (Qb FA.out hb);have FBn:=Lh (Qb FB.out hb);have N1n:=Lh (N1.out.later hb);have N2n:=Lh (N2.out.later hb)
   refine hK _ _ (HC.out _ HBn.out) ?_
   clear hK K s0
   replace HB:=HBn;replace FA:=FAn;replace FB:=FBn;replace N1:=N1n;replace N2:=N2n
   clear hb HBn FAn FBn N1n N2n
   clear wq
   generalize wn=wq at *
   have s0:=HC.out _ HB.out
   try simp only [Act.put,Zp_]
   refine AH.z 12 s0 ?_
   refine AH.z 13 s0 ?_
   have K9:=Qal HB.out FA.out FB.out lA lB ne N1.out N2.out ⟨_,_,_,rfl⟩ ⟨_,_,_,rfl⟩ false (!decide (B=0))
   obtain ⟨q1,q2,q3,q4,q5,q6,q7,q8,q9,q10,q11,q12,q13⟩:=K9
   have Q6:=Lh q6;have Q5:=Lh q5;have N1x:=Lh q11;have N2x:=Lh q12
   clear q5 q6 q11 q12 HB FA FB N1 N2
   refine AH.o 15 (fun K hK=>?_)
   go_simp
   refine hK _ _ (HC.out _ Q5.out) ?_
   clear hK K
   try simp only [Act.put,Zp_]
   have s0:=HC.out _ Q5.out
   refine AH.z 16 s0 ?_
   generalize wq.setCell ⟨gA,0,none⟩ (.bool false)=ws at *
   refine AH.o 17 (fun K hK=>?_)
   go_simp
   refine hK _ _ (HC.out _ Q6.out) ?_
   clear hK K
   try simp only [Act.put,Zp_]
   generalize ws.setCell ⟨gB,0,none⟩ (.bool (!decide (B=0)))=wt at *
   refine AH.done (by kernel_rfl) ?_
   go_wp2_with fail
   refine (Qaf N1x.out N2x.out).mono ?_
   rintro e w1 ⟨rfl,hb⟩
   have HBe:=Lh (Qd HBA.out (Qd Q6.out hb))
   clear hb
   go_wp2_with fail
   go_ret
   exact ⟨by simp [ngZ],HBe.out⟩
  ·go_wp2_with fail
   refine AH.start (fun x=>x.cell? ⟨w.heap.size,0,none⟩=some (.bool true)∧x.cell? ⟨w.heap.size,1,none⟩=some (.bool false)∧x.cell? ⟨w.heap.size,2,none⟩=some (.slice pa la ca)∧x.cell? ⟨w.heap.size,3,none⟩=some (.int .i64 ex)∧x.cell? ⟨w.heap.size+1,0,none⟩=some (.bool false)∧x.cell? ⟨w.heap.size+1,1,none⟩=some (.bool false)∧x.cell? ⟨w.heap.size+1,2,none⟩=some (.slice pb lb cb)∧x.cell? ⟨w.heap.size+1,3,none⟩=some (.int .i64 ey)) (by kernel_rfl) ?_
   have hd:Below wc.heap.size wc wc.drew:=(Below.refl _ _).drew
   replace HB:Hid (Below wA.heap.size wA wc.drew):=Lh HB.out.drew
   have FA:Hid (wc.drew.heap[gA]?=some (.cells #[.bool false,.slice p1 l1 c1] 37 (0,0))):=Lh (Qb HA.out hd)
   have FB:Hid (wc.drew.heap[gB]?=some (.cells #[.bool false,.slice p2 l2 c2] 37 (0,0))):=Lh (Qb HBl.out hd)
   replace N1:=Lh (N1.out.later hd)
   replace N2:=Lh (N2.out.later hd)
   clear hd HA HBl x0 x1 x2 x3 y0 y1 y2 y3
   generalize wc.drew=wq at *
   have s0:=HC.out _ HB.out
   refine AH.z 0 s0 ?_
   refine AH.z 1 s0 ?_
   refine AH.z 2 s0 ?_
   refine AH.z 7 s0 ?_
   refine AH.z 8 s0 ?_
   refine AH.o 3 (fun K hK=>?_)
   have a0:wq.cell? ⟨gA,0,none⟩=some (.bool false):=(Qe FA.out).1 0
   have a1:wq.cell? ⟨gA,1,none⟩=some (.slice p1 l1 c1):=(Qe FA.out).1 1
   go_simp
   refine hK _ _ s0 ?_
   clear hK K a0 a1
   try simp only [Act.put,Zp_]
   refine AH.o 4 (fun K hK=>?_)
   go_simp
   refine (Q0b N1.out).mono ?_
   rintro r wn ⟨rfl,hb⟩
   have HBn:=Lh (Qd HB.out hb)
   have FAn:=Lh (Qb FA.out hb);have FBn:=Lh (Qb FB.out hb);have N1n:=Lh (N1.out.later hb);have N2n:=Lh (N2.out.later hb)
   refine hK _ _ (HC.out _ HBn.out) ?_
   clear hK K s0
   replace HB:=HBn;replace FA:=FAn;replace FB:=FBn;replace N1:=N1n;replace N2:=N2n
   clear hb HBn FAn FBn N1n N2n
   clear wq
   generalize wn=wq at *
   have s0:=HC.out _ HB.out
   try simp only [Act.put,Zp_]
   refine AH.z 5 s0 ?_
   refine AH.z 6 s0 ?_
   refine AH.z 9 s0 ?_
   refine AH.p 10 s0 ?_
   refine AH.p 11 s0 ?_
   refine AH.p 12 s0 ?_
   refine AH.z 13 s0 ?_
   refine AH.z 14 s0 ?_
   have K9:=Qal HB.out FA.out FB.out lA lB ne N1.out N2.out ⟨_,_,_,rfl⟩ ⟨_,_,_,rfl⟩ (!decide (A=0)) false
   obtain ⟨q1,q2,q3,q4,q5,q6,q7,q8,q9,q10,q11,q12,q13⟩:=K9
   have Q6:=Lh q6;have Q5:=Lh q5;have N1x:=Lh q11;have N2x:=Lh q12
   clear q5 q6 q11 q12 HB FA FB N1 N2
   refine AH.o 15 (fun K hK=>?_)
   go_simp
   refine hK _ _ (HC.out _ Q5.out) ?_
   clear hK K
   try simp only [Act.put,Zp_]
   have s0:=HC.out _ Q5.out
   refine AH.z 16 s0 ?_
   generalize wq.setCell ⟨gA,0,none⟩ (.bool (!decide (A=0)))=ws at *
   refine AH.o 17 (fun K hK=>?_)
   go_simp
   refine hK _ _ (HC.out _ Q6.out) ?_
   clear hK K
   try simp only [Act.put,Zp_]
   generalize ws.setCell ⟨gB,0,none⟩ (.bool false)=wt at *
   refine AH.done (by kernel_rfl) ?_
   go_wp2_with fail
   refine (Qaf N1x.out N2x.out).mono ?_
   rintro e w1 ⟨rfl,hb⟩
   have HBe:=Lh (Qd HBA.out (Qd Q6.out hb))
   clear hb
   go_wp2_with fail
   go_ret
   exact ⟨by simp [ngZ],HBe.out⟩
  ·go_wp2_with fail
   refine AH.start (fun x=>x.cell? ⟨w.heap.size,0,none⟩=some (.bool true)∧x.cell? ⟨w.heap.size,1,none⟩=some (.bool false)∧x.cell? ⟨w.heap.size,2,none⟩=some (.slice pa la ca)∧x.cell? ⟨w.heap.size,3,none⟩=some (.int .i64 ex)∧x.cell? ⟨w.heap.size+1,0,none⟩=some (.bool true)∧x.cell? ⟨w.heap.size+1,1,none⟩=some (.bool false)∧x.cell? ⟨w.heap.size+1,2,none⟩=some (.slice pb lb cb)∧x.cell? ⟨w.heap.size+1,3,none⟩=some (.int .i64 ey)) (by kernel_rfl) ?_
   have hd:Below wc.heap.size wc wc.drew:=(Below.refl _ _).drew
   replace HB:Hid (Below wA.heap.size wA wc.drew):=Lh HB.out.drew
   have FA:Hid (wc.drew.heap[gA]?=some (.cells #[.bool false,.slice p1 l1 c1] 37 (0,0))):=Lh (Qb HA.out hd)
   have FB:Hid (wc.drew.heap[gB]?=some (.cells #[.bool false,.slice p2 l2 c2] 37 (0,0))):=Lh (Qb HBl.out hd)
   replace N1:=Lh (N1.out.later hd)
   replace N2:=Lh (N2.out.later hd)
   clear hd HA HBl x0 x1 x2 x3 y0 y1 y2 y3
   generalize wc.drew=wq at *
   have s0:=HC.out _ HB.out
   refine AH.z 0 s0 ?_
   refine AH.z 1 s0 ?_
   refine AH.z 2 s0 ?_
   refine AH.z 7 s0 ?_
   refine AH.z 8 s0 ?_
   refine AH.o 3 (fun K hK=>?_)
   have a0:wq.cell? ⟨gA,0,none⟩=some (.bool false):=(Qe FA.out).1 0
   have a1:wq.cell? ⟨gA,1,none⟩=some (.slice p1 l1 c1):=(Qe FA.out).1 1
   go_simp
   refine hK _ _ s0 ?_
   clear hK K a0 a1
   try simp only [Act.put,Zp_]
   refine AH.o 4 (fun K hK=>?_)
   go_simp
   refine (Q0b N1.out).mono ?_
   rintro r wn ⟨rfl,hb⟩
   have HBn:=Lh (Qd HB.out hb)
   have FAn:=Lh (Qb FA.out hb);have FBn:=Lh (Qb FB.out hb);have N1n:=Lh (N1.out.later hb);have N2n:=Lh (N2.out.later hb)
   refine hK _ _ (HC.out _ HBn.out) ?_
   clear hK K s0
   replace HB:=HBn;replace FA:=FAn;replace FB:=FBn;replace N1:=N1n;replace N2:=N2n
   clear hb HBn FAn FBn N1n N2n
   clear wq
   generalize wn=wq at *
   have s0:=HC.out _ HB.out
   try simp only [Act.put,Zp_]
   refine AH.z 5 s0 ?_
   refine AH.z 6 s0 ?_
   refine AH.z 9 s0 ?_
   refine AH.z 14 s0 ?_
   refine AH.o 10 (fun K hK=>?_)
   have a0:wq.cell? ⟨gB,0,none⟩=some (.bool false):=(Qe FB.out).1 0
   have a1:wq.cell? ⟨gB,1,none⟩=some (.slice p2 l2 c2):=(Qe FB.out).1 1
   go_simp
   refine hK _ _ s0 ?_
   clear hK K a0 a1
   try simp only [Act.put,Zp_]
   refine AH.o 11 (fun K hK=>?_)
   go_simp
   refine (Q0b N2.out).mono ?_
   rintro r wn ⟨rfl,hb⟩
   have HBn:=Lh (Qd HB.out hb)
   have FAn:=Lh (Qb FA.out hb);have FBn:=Lh (Qb FB.out hb);have N1n:=Lh (N1.out.later hb);have N2n:=Lh (N2.out.later hb)
   refine hK _ _ (HC.out _ HBn.out) ?_
   clear hK K s0
   replace HB:=HBn;replace FA:=FAn;replace FB:=FBn;replace N1:=N1n;replace N2:=N2n
   clear hb HBn FAn FBn N1n N2n
   clear wq
   generalize wn=wq at *
   have s0:=HC.out _ HB.out
   try simp only [Act.put,Zp_]
   refine AH.z 12 s0 ?_
   refine AH.z 13 s0 ?_
   have K9:=Qal HB.out FA.out FB.out lA lB ne N1.out N2.out ⟨_,_,_,rfl⟩ ⟨_,_,_,rfl⟩ (!decide (A=0)) (!decide (B=0))
   obtain ⟨q1,q2,q3,q4,q5,q6,q7,q8,q9,q10,q11,q12,q13⟩:=K9
   have Q6:=Lh q6;have Q5:=Lh q5;have N1x:=Lh q11;have N2x:=Lh q12
   clear q5 q6 q11 q12 HB FA FB N1 N2
   refine AH.o 15 (fun K hK=>?_)
   go_simp
   refine hK _ _ (HC.out _ Q5.out) ?_
   clear hK K
   try simp only [Act.put,Zp_]
   have s0:=HC.out _ Q5.out
   refine AH.z 16 s0 ?_
   generalize wq.setCell ⟨gA,0,none⟩ (.bool (!decide (A=0)))=ws at *
   refine AH.o 17 (fun K hK=>?_)
   go_simp
   refine hK _ _ (HC.out _ Q6.out) ?_
   clear hK K
   try simp only [Act.put,Zp_]
   generalize ws.setCell ⟨gB,0,none⟩ (.bool (!decide (B=0)))=wt at *
   refine AH.done (by kernel_rfl) ?_
   go_wp2_with fail
   refine (Qaf N1x.out N2x.out).mono ?_
   rintro e w1 ⟨rfl,hb⟩
   have HBe:=Lh (Qd HBA.out (Qd Q6.out hb))
   clear hb
   go_wp2_with fail
   go_ret
   exact ⟨by simp [ngZ],HBe.out⟩
end Go.Proofs.YtpebcmfpehdafaaGreatDoor
