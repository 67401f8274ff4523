/- a part of the proof -/
import Derived.Deep.CutBlock
import Derived.Test.YtpebcmfpehdafaaGreatDoorZ19
import Derived.Test.YtpebcmfpehdafaaGreatDoorZ24
set_option linter.all false
set_option maxRecDepth 100000
set_option maxHeartbeats 16000000
namespace Go.Proofs.YtpebcmfpehdafaaGreatDoor
open Go Go.RowKit
theorem Q3N (l:List Obj):∀ (w:World),Below w.heap.size w (l.foldl World.alloc w):=by
 induction l with
 | nil=>intro w;exact Below.refl _ _
 | cons a l ih=>intro w;exact Qd (Qm w a) (ih _)
theorem Q6k (l:List Obj):∀ (w:World) (i:Nat) (o:Obj),l[i]?=some o→(l.foldl World.alloc w).heap[w.heap.size+i]?=some o:=by
 induction l with
 | nil=>intro w i o h;simp at h
 | cons a l ih =>
  intro w i o h
  have hs:(w.alloc a).heap.size=w.heap.size+1:=by simp
  cases i with
  | zero =>
   have e:a=o:=by simpa using h
   subst e
   exact ((Q3N l (w.alloc a)).block _ (by omega)).trans (gal w a)
  | succ i =>
   have:=ih (w.alloc a) i o (by simpa using h)
   rw [show (w.alloc a).heap.size+i=w.heap.size+(i+1) by omega] at this
   exact this
theorem Q87 (l:List Obj):∀ (w:World),(l.foldl World.alloc w).heap.size=w.heap.size+l.length:=by
 induction l with
 | nil=>intro w;rfl
 | cons a l ih=>intro w;show (l.foldl World.alloc (w.alloc a)).heap.size=_;rw [ih];simp;omega
theorem Qa9 {w:World}{g:Nat}{C:Array Value}{T:TypeId}(h:w.heap[g]?=some (.cells C T (0,0)))(i:Nat){u:Value}(hu:C[i]?=some u):w.cell? ⟨g,i,none⟩=some u:=((Qe h).1 i).trans hu
theorem Q88 {w:World}{B:Nat}{T:TypeId}{x0 x1 x2 x3 x4 x5 x6 x7:Value}(h:w.heap[B]?=some (.cells #[x0,x1,x2,x3,x4,x5,x6,x7] T (0,0)))(u0 u1 u2 u3 u4 u5 u6 u7:Value):(set8 w B u0 u1 u2 u3 u4 u5 u6 u7).heap[B]?=some (.cells #[u0,u1,u2,u3,u4,u5,u6,u7] T (0,0)):=by
 have hC:(((((((#[x0,x1,x2,x3,x4,x5,x6,x7].setIfInBounds 0 u0).setIfInBounds 1 u1).setIfInBounds 2 u2).setIfInBounds 3 u3).setIfInBounds 4 u4).setIfInBounds 5 u5).setIfInBounds 6 u6).setIfInBounds 7 u7=#[u0,u1,u2,u3,u4,u5,u6,u7]:=by simp
 rw [← hC];exact Qq (Qq (Qq (Qq (Qq (Qq (Qq (Qq h 0 u0) 1 u1) 2 u2) 3 u3) 4 u4) 5 u5) 6 u6) 7 u7
theorem Q78 (w:World)(B:Nat)(u0 u1 u2 u3 u4 u5 u6 u7:Value):Only B w (set8 w B u0 u1 u2 u3 u4 u5 u6 u7):=(((((((((Only.refl B w).set 0 u0).set 1 u1).set 2 u2).set 3 u3).set 4 u4).set 5 u5).set 6 u6).set 7 u7)
theorem Q5F {w w2:World}{N B:Nat}(h:Below N w w2)(hB:N≤B)(u0 u1 u2 u3 u4 u5 u6 u7:Value):Below N w (set8 w2 B u0 u1 u2 u3 u4 u5 u6 u7) :=
 (((((((h.setCell (p:=⟨B,0,none⟩) hB u0).setCell (p:=⟨B,1,none⟩) hB u1).setCell (p:=⟨B,2,none⟩) hB u2).setCell (p:=⟨B,3,none⟩) hB u3).setCell (p:=⟨B,4,none⟩) hB u4).setCell (p:=⟨B,5,none⟩) hB u5).setCell (p:=⟨B,6,none⟩) hB u6).setCell (p:=⟨B,7,none⟩) hB u7
theorem NumV.dg' {w:World}{s:Value}{b n:Bool}{c:Nat}(h:NumV w (.agg #[.bool b,s]) n c):Dg w s (dgs c):=by
 obtain ⟨t,e,d⟩:=h
 have e':s=t:=by
  have:=congrArg (fun v=>match v with | Value.agg cs=>cs.toList | _=>[]) e
  simp at this
  exact this.2
 exact e' ▸ d
theorem Qaa {A B:Prop}(a:A)(h:A→B):B:=h a
def TwoQ (wA:World)(Q R:Nat)(tq tr:Value)(w:World):Prop:=∃ gA gB p1 c1 p2 c2,tq=.pointer (some ⟨gA,0,none⟩)∧tr=.pointer (some ⟨gB,0,none⟩)∧(w.heap[gA]?=some (.cells #[.bool false,.slice p1 (dgs Q).length c1] 37 (0,0))∧w.heap[gB]?=some (.cells #[.bool false,.slice p2 (dgs R).length c2] 37 (0,0))) ∧
 NumV w (.agg #[.bool false,.slice p1 (dgs Q).length c1]) false Q∧NumV w (.agg #[.bool false,.slice p2 (dgs R).length c2]) false R∧wA.heap.size≤gA∧wA.heap.size≤gB∧gA≠gB∧Below wA.heap.size wA w
theorem QaN {w:World}{u v:Value}{nx ny:Bool}{cx cy:Nat}{ex ey:Int}(p:Nat)(hp:p≤1000)(hu:FinV w u nx cx ex)(hv:FinV w v ny cy ey)(he : -2000≤ex∧ex≤2000)(he' : -2000≤ey∧ey≤2000)(hl:(dgs cx).length≤100)(hl':(dgs cy).length≤100)(hy:cy≠0) :
  Calls Tryz.prog 124 #[.int .i64 (p:Int),u,v] w fun r w'=>∃ v1,r=.returned v1∧FinV w' v1 (nx != ny) (quoS p ex ey cx cy).2 (quoS p ex ey cx cy).1∧Below w.heap.size w w':=by
 obtain ⟨s,rfl,hs⟩:=hu
 obtain ⟨t,rfl,ht⟩:=hv
 have hs0:=Lh hs;have ht0:=Lh ht
 obtain ⟨pa,ca,rfl,_⟩:=hs
 obtain ⟨pb,cb,rfl,_⟩:=ht
 have hn:∀ c:Nat,(dgs c).length≤100→ndg c≤100:=fun c h=>by
  by_cases q:c=0
  ·rw [q,Qj (by decide)];decide
  ·rwa [Qw _ q] at h
 have hnx:=hn cx hl;have hny:=hn cy hl'
 have hl0:=Lh hl;have hl0':=Lh hl'
 generalize hla:(dgs cx).length=la at *
 generalize hlb:(dgs cy).length=lb at *
 obtain ⟨sN,hsN⟩:∃ sN,sN=qsS p cx cy:=⟨_,rfl⟩
 have hsb:sN≤1200:=by rw [hsN];unfold qsS;omega
 obtain ⟨E,hE⟩:∃ E:Int,E=(quoS p ex ey cx cy).1:=⟨_,rfl⟩
 obtain ⟨Cc,hCc⟩:∃ Cc,Cc=(quoS p ex ey cx cy).2:=⟨_,rfl⟩
 rw [← hE,← hCc]
 have HRes:=Lh (And.intro hE hCc)
 clear hE hCc
 have HSn:=Lh hsN
 obtain ⟨wA,hwA⟩:∃ wA,wA=((w.alloc (.cells #[.bool nx,.bool false,.slice pa la ca,.int .i64 ex] 39)).alloc (.cells #[.bool ny,.bool false,.slice pb lb cb,.int .i64 ey] 39)).alloc (.cells #[.bool false,.bool false,.slice none 0 0,.int .i64 0] 39):=⟨_,rfl⟩
 have hBA:Below w.heap.size w wA:=by rw [hwA];exact Q3N [.cells #[.bool nx,.bool false,.slice pa la ca,.int .i64 ex] 39,.cells #[.bool ny,.bool false,.slice pb lb cb,.int .i64 ey] 39,.cells #[.bool false,.bool false,.slice none 0 0,.int .i64 0] 39] w
 have g1:wA.heap[w.heap.size]?=some (.cells #[.bool nx,.bool false,.slice pa la ca,.int .i64 ex] 39 (0,0)):=by rw [hwA];exact Q6k [.cells #[.bool nx,.bool false,.slice pa la ca,.int .i64 ex] 39,.cells #[.bool ny,.bool false,.slice pb lb cb,.int .i64 ey] 39,.cells #[.bool false,.bool false,.slice none 0 0,.int .i64 0] 39] w 0 _ rfl
 have g2:wA.heap[w.heap.size+1]?=some (.cells #[.bool ny,.bool false,.slice pb lb cb,.int .i64 ey] 39 (0,0)):=by rw [hwA];exact Q6k [.cells #[.bool nx,.bool false,.slice pa la ca,.int .i64 ex] 39,.cells #[.bool ny,.bool false,.slice pb lb cb,.int .i64 ey] 39,.cells #[.bool false,.bool false,.slice none 0 0,.int .i64 0] 39] w 1 _ rfl
 have G3:Hid (wA.heap[w.heap.size+1+1]?=some (.cells #[.bool false,.bool false,.slice none 0 0,.int .i64 0] 39 (0,0))):=Lh (by rw [hwA];exact Q6k [.cells #[.bool nx,.bool false,.slice pa la ca,.int .i64 ex] 39,.cells #[.bool ny,.bool false,.slice pb lb cb,.int .i64 ey] 39,.cells #[.bool false,.bool false,.slice none 0 0,.int .i64 0] 39] w 2 _ rfl)
 have HSz:Hid (wA.heap.size=w.heap.size+3):=Lh (by rw [hwA];exact Q87 [.cells #[.bool nx,.bool false,.slice pa la ca,.int .i64 ex] 39,.cells #[.bool ny,.bool false,.slice pb lb cb,.int .i64 ey] 39,.cells #[.bool false,.bool false,.slice none 0 0,.int .i64 0] 39] w)
 have HC:Hid (∀ w2,Below wA.heap.size wA w2→w2.cell? ⟨w.heap.size,0,none⟩=some (.bool nx)∧w2.cell? ⟨w.heap.size,1,none⟩=some (.bool false)∧w2.cell? ⟨w.heap.size,2,none⟩=some (.slice pa la ca)∧w2.cell? ⟨w.heap.size,3,none⟩=some (.int .i64 ex)∧w2.cell? ⟨w.heap.size+1,0,none⟩=some (.bool ny)∧w2.cell? ⟨w.heap.size+1,1,none⟩=some (.bool false)∧w2.cell? ⟨w.heap.size+1,2,none⟩=some (.slice pb lb cb)∧w2.cell? ⟨w.heap.size+1,3,none⟩=some (.int .i64 ey)):=Lh (fun w2 h=>by
  have k1:=Qb g1 h;have k2:=Qb g2 h
  exact ⟨Qa9 k1 0 rfl,Qa9 k1 1 rfl,Qa9 k1 2 rfl,Qa9 k1 3 rfl,Qa9 k2 0 rfl,Qa9 k2 1 rfl,Qa9 k2 2 rfl,Qa9 k2 3 rfl⟩)
 have HCx:Hid (∀ w2,Below wA.heap.size wA w2→Calls Tryz.prog 23 #[.agg #[.bool false,.slice pa la ca]] w2 fun r w'=>r=.returned (.int .i64 (ndg cx:Int))∧Below w2.heap.size w2 w'):=Lh (fun w2 h=>Qn ⟨_,rfl,hs0.out.later (Qd hBA h)⟩)
 have HCy:Hid (∀ w2,Below wA.heap.size wA w2→Calls Tryz.prog 23 #[.agg #[.bool false,.slice pb lb cb]] w2 fun r w'=>r=.returned (.int .i64 (ndg cy:Int))∧Below w2.heap.size w2 w'):=Lh (fun w2 h=>Qn ⟨_,rfl,ht0.out.later (Qd hBA h)⟩)
 have HT:Hid (∀ w2,Calls Tryz.prog 56 #[.int .i64 (sN:Int)] w2 fun r w'=>∃ v',r=.returned v'∧NumV w' v' false (10^sN)∧Below w2.heap.size w2 w'):=Lh (fun w2=>Q9H sN (by omega) w2)
 have HM:Hid (∀ w2 v',Below wA.heap.size wA w2→NumV w2 v' false (10^sN)→Calls Tryz.prog 75 #[.agg #[.bool false,.slice pa la ca],v'] w2 fun r w'=>∃ p l c,r=.returned (.agg #[.bool false,.slice p l c])∧NumV w' (.agg #[.bool false,.slice p l c]) false (cx*10^sN)∧Below w2.heap.size w2 w'):=Lh (fun w2 v' hB hN=>Qak ⟨_,rfl,hs0.out.later (Qd hBA hB)⟩ hN (by rw [hla];exact Nat.le_trans hl0.out (by decide)) (by rw [Q2E];simp;omega))
 have hlA:(dgs (cx*10^sN)).length≤5000:=by
  by_cases q:cx=0
  ·rw [q,Nat.zero_mul,Qp];exact Nat.zero_le _
  ·rw [Qw _ (Nat.mul_ne_zero q (by have:=QE sN;omega))]
   obtain ⟨M,hM⟩:∃ M:Nat,M=5000:=⟨_,rfl⟩
   rw [← hM]
   refine Q09 (by omega) (Nat.lt_of_lt_of_le (Nat.mul_lt_mul_of_pos_right (Q0m cx) (QE sN)) ?_)
   rw [← Nat.pow_add];exact Nat.pow_le_pow_right (by decide) (by omega)
 have HQR:Hid (∀ w2 v',Below wA.heap.size wA w2→NumV w2 v' false (cx*10^sN)→Calls Tryz.prog 21 #[v',.agg #[.bool false,.slice pb lb cb]] w2 fun r w'=>∃ v1 v2,r=.returned (.tuple #[v1,v2])∧(NumV w' v1 false (cx*10^sN / cy)∧NumV w' v2 false (cx*10^sN % cy))∧Below w2.heap.size w2 w'):=Lh (fun w2 v' hB hN=>Q1q hN ⟨_,rfl,ht0.out.later (Qd hBA hB)⟩ (Nat.pos_of_ne_zero hy) (Nat.le_trans hlA (by decide)) (by rw [hlb];exact Nat.le_trans hl0'.out (by decide)))
 have HRes2:Hid ((cx*10^sN % cy≠0→E=ex - ey - (sN:Int) - 1∧Cc=cx*10^sN / cy*10+1)∧(cx*10^sN % cy=0→E=ex - ey - (sN:Int)+((stripN sN (cx*10^sN / cy)).2:Nat)∧Cc=(stripN sN (cx*10^sN / cy)).1)):=Lh (by
  obtain ⟨r1,r2⟩:=HRes.out
  unfold quoS at r1 r2
  rw [← hsN] at r1 r2
  constructor
  ·intro h;rw [if_pos h] at r1 r2;exact ⟨r1,r2⟩
  ·intro h;rw [if_neg (by omega)] at r1 r2;exact ⟨r1,r2⟩)
 have HQ1:Hid ((dgs (cx*10^sN / cy*10^1)).length≤6000):=Lh (by
  by_cases q:cx*10^sN / cy=0
  ·rw [q,Nat.zero_mul,Qp];exact Nat.zero_le _
  ·have h1:=Nat.le_trans (QR (Nat.div_le_self (cx*10^sN) cy)) hlA
   rw [Qw _ q] at h1
   rw [Qw _ (by omega)]
   have:=QT (n:=cx*10^sN / cy*10^1) (by omega)
   rw [this,show cx*10^sN / cy*10^1 / 10=cx*10^sN / cy by omega];omega)
 have HQl:Hid ((dgs (cx*10^sN / cy)).length≤5000):=Lh (Nat.le_trans (QR (Nat.div_le_self _ _)) hlA)
 generalize hQ:cx*10^sN / cy=Q at HQR HRes2 HQl HQ1
 generalize hR:cx*10^sN % cy=R at HQR HRes2
 clear hQ hR hlA HRes
 generalize cx*10^sN=A at HM HQR
 generalize hP1:10^sN=P1 at HT HM
 clear hP1
 have hmx:max (0:Int) ((p:Int)+2+(ndg cy:Int) - (ndg cx:Int))=(sN:Int):=by rw [hsN];unfold qsS;omega
 generalize ndg cx=dx at HCx hmx hnx
 generalize ndg cy=dy at HCy hmx hny
 have w1:IntKind.i64.wrap ((p:Int)+2)=(p:Int)+2:=IntWalk.i64_in _ (by omega)
 have w2:IntKind.i64.wrap ((p:Int)+2+(dy:Int))=(p:Int)+2+(dy:Int):=IntWalk.i64_in _ (by omega)
 have w3:IntKind.i64.wrap ((p:Int)+2+(dy:Int) - (dx:Int))=(p:Int)+2+(dy:Int) - (dx:Int):=IntWalk.i64_in _ (by omega)
 have w4:IntKind.i64.wrap (ex - ey)=ex - ey:=IntWalk.i64_in _ (by omega)
 have w5:IntKind.i64.wrap (ex - ey - (sN:Int))=ex - ey - (sN:Int):=IntWalk.i64_in _ (by omega)
 have w6:IntKind.i64.wrap (ex - ey - (sN:Int) - 1)=ex - ey - (sN:Int) - 1:=IntWalk.i64_in _ (by omega)
 have HEb:=Lh (And.intro he (And.intro he' hsb))
 have HBA:=Lh hBA
 obtain ⟨x0,x1,x2,x3,y0,y1,y2,y3⟩:=HC.out _ (Below.refl _ _)
 clear hs0 ht0 hl0 hl0' hsN HSn g1 g2 hBA hla hlb hn hnx hny hl hl' hp he he' hsb hy
 go_enter Tryz.func124, Tryz.ntmps124
 go_upto_region 1 with (fail)
 rw [← hwA]
 have HwA:=Lh hwA
 clear hwA
 refine AH.start (fun x=>x.cell? ⟨w.heap.size,0,none⟩=some (.bool nx)∧x.cell? ⟨w.heap.size,1,none⟩=some (.bool false)∧x.cell? ⟨w.heap.size,2,none⟩=some (.slice pa la ca)∧x.cell? ⟨w.heap.size,3,none⟩=some (.int .i64 ex)∧x.cell? ⟨w.heap.size+1,0,none⟩=some (.bool ny)∧x.cell? ⟨w.heap.size+1,1,none⟩=some (.bool false)∧x.cell? ⟨w.heap.size+1,2,none⟩=some (.slice pb lb cb)∧x.cell? ⟨w.heap.size+1,3,none⟩=some (.int .i64 ey)) (by kernel_rfl) ?_
 generalize hw0:wA.drew=wp
 have HB0:Hid (Below wA.heap.size wA wp):=by rw [← hw0];exact Lh ((Below.refl _ _).drew)
 clear hw0 x0 x1 x2 x3 y0 y1 y2 y3
 have s0:=HC.out _ HB0.out
 refine AH.z 0 s0 ?_
 refine AH.z 1 s0 ?_
 refine AH.z 2 s0 ?_
 refine AH.z 3 s0 ?_
 refine AH.z 6 s0 ?_
 refine AH.z 7 s0 ?_
 clear s0
 refine AH.o 4 (fun K hK=>?_)
 go_simp
 refine (HCy.out wp HB0.out).mono ?_
 rintro r wr ⟨rfl,hB⟩
 have HB1:=Lh (Qd HB0.out hB)
 refine hK _ _ (HC.out _ HB1.out) ?_
 clear hK K hB HB0
 try simp only [Act.put,Zp_]
 refine AH.z 5 (HC.out _ HB1.out) ?_
 refine AH.o 8 (fun K hK=>?_)
 go_simp
 refine (HCx.out wr HB1.out).mono ?_
 rintro r wt ⟨rfl,hB⟩
 have HB2:=Lh (Qd HB1.out hB)
 refine hK _ _ (HC.out _ HB2.out) ?_
 clear hK K hB HB1
 try simp only [Act.put,Zp_]
 have s0:=HC.out _ HB2.out
 refine AH.z 9 s0 ?_
 refine AH.z 10 s0 ?_
 refine AH.z 11 s0 ?_
 clear s0
 refine AH.done (by kernel_rfl) ?_
 obtain ⟨x0,x1,x2,x3,y0,y1,y2,y3⟩:=HC.out _ HB2.out
 go_upto_region 2 with (fail)
 go_cut [8,9] from 24 to 33 (fun tq tr wx=>TwoQ wA Q R tq tr wx)
 case first =>
  refine AH.start (fun x=>x.cell? ⟨w.heap.size,0,none⟩=some (.bool nx)∧x.cell? ⟨w.heap.size,1,none⟩=some (.bool false)∧x.cell? ⟨w.heap.size,2,none⟩=some (.slice pa la ca)∧x.cell? ⟨w.heap.size,3,none⟩=some (.int .i64 ex)∧x.cell? ⟨w.heap.size+1,0,none⟩=some (.bool ny)∧x.cell? ⟨w.heap.size+1,1,none⟩=some (.bool false)∧x.cell? ⟨w.heap.size+1,2,none⟩=some (.slice pb lb cb)∧x.cell? ⟨w.heap.size+1,3,none⟩=some (.int .i64 ey)) (by kernel_rfl) ?_
  have HB:Hid (Below wA.heap.size wA wt.drew):=Lh HB2.out.drew
  clear x0 x1 x2 x3 y0 y1 y2 y3 HB2 HRes2
  generalize wt.drew=wq at HB ⊢
  have s0:=HC.out _ HB.out
  refine AH.z 0 s0 ?_
  refine AH.z 1 s0 ?_
  refine AH.z 2 s0 ?_
  refine AH.z 5 s0 ?_
  refine AH.z 6 s0 ?_
  clear s0
  revert HB
  revert wq
  refine' Qaa ?st311 (fun hst311=>Qaa ?st310 (fun hst310=>Qaa ?st301 (fun hst301=>Qaa ?st211 (fun hst211=>Qaa ?st300 (fun hst300=>Qaa ?st210 (fun hst210=>Qaa ?st201 (fun hst201=>Qaa ?st111 (fun hst111=>Qaa ?st200 (fun hst200=>Qaa ?st110 (fun hst110=>Qaa ?st101 (fun hst101=>Qaa ?st011 (fun hst011=>Qaa ?st100 (fun hst100=>Qaa ?st010 (fun hst010=>Qaa ?st001 (fun hst001=>?st000)))))))))))))))
  case st000 =>
   intro wq HB
   refine AH.three (i:=3) (j:=11) (k:=12) (by kernel_rfl) rfl rfl rfl (by kernel_rfl) (by kernel_rfl) (by kernel_rfl) (fun K hK=>?d1T) (fun K hK=>?d1A) (fun K hK=>?d1B)
   case d1T =>
    go_simp
    refine (HT.out wq).mono ?_
    rintro r wn ⟨v1,rfl,kv,hB⟩
    have HBn:=Lh (Qd HB.out hB)
    have V1n:=Lh kv
    refine hK _ _ (HC.out _ HBn.out) ?_
    clear hK K hB kv
    try simp only [Act.put,Zp_]
    clear HB
    revert V1n
    revert HBn
    revert v1
    revert wn
    exact hst100
   case d1A =>
    go_simp
    have HBn:=Lh (bal HB.out (.cells #[.bool false,.slice none 0 0] 37))
    have FAn:=Lh (gal wq (.cells #[.bool false,.slice none 0 0] 37))
    have LAn:=HB.out.size
    refine hK _ _ (HC.out _ HBn.out) ?_
    clear hK K
    try simp only [Act.put,Zp_]
    generalize hg:wq.heap.size=gA at FAn LAn ⊢
    generalize hw:wq.alloc (.cells #[.bool false,.slice none 0 0] 37)=wn at HBn FAn ⊢
    clear hg hw
    clear HB
    revert LAn
    revert FAn
    revert HBn
    revert gA
    revert wn
    exact hst010
   case d1B =>
    go_simp
    have HBn:=Lh (bal HB.out (.cells #[.bool false,.slice none 0 0] 37))
    have FBn:=Lh (gal wq (.cells #[.bool false,.slice none 0 0] 37))
    have LBn:=HB.out.size
    refine hK _ _ (HC.out _ HBn.out) ?_
    clear hK K
    try simp only [Act.put,Zp_]
    generalize hg:wq.heap.size=gB at FBn LBn ⊢
    generalize hw:wq.alloc (.cells #[.bool false,.slice none 0 0] 37)=wn at HBn FBn ⊢
    clear hg hw
    clear HB
    revert LBn
    revert FBn
    revert HBn
    revert gB
    revert wn
    exact hst001
  case st001 =>
   intro wq gB HB FB LB
   refine AH.t 3 11 (fun K hK=>?d2T) (fun K hK=>?d2A)
   case d2T =>
    go_simp
    refine (HT.out wq).mono ?_
    rintro r wn ⟨v1,rfl,kv,hB⟩
    have HBn:=Lh (Qd HB.out hB)
    have V1n:=Lh kv
    have FBn:=Lh (Qb FB.out hB)
    have LBn:=LB
    refine hK _ _ (HC.out _ HBn.out) ?_
    clear hK K hB kv
    try simp only [Act.put,Zp_]
    clear HB FB LB
    revert V1n
    revert LBn
    revert FBn
    revert HBn
    revert v1
    revert gB
    revert wn
    exact hst101
   case d2A =>
    go_simp
    have HBn:=Lh (bal HB.out (.cells #[.bool false,.slice none 0 0] 37))
    have FAn:=Lh (gal wq (.cells #[.bool false,.slice none 0 0] 37))
    have LAn:=HB.out.size
    have FBn:=Lh (Qb FB.out (Qm wq (.cells #[.bool false,.slice none 0 0] 37)))
    have LBn:=LB
    have NEn:wq.heap.size≠gB:=by have:=(Array.getElem?_eq_some_iff.1 FB.out).1;omega
    refine hK _ _ (HC.out _ HBn.out) ?_
    clear hK K
    try simp only [Act.put,Zp_]
    generalize hg:wq.heap.size=gA at FAn LAn NEn ⊢
    generalize hw:wq.alloc (.cells #[.bool false,.slice none 0 0] 37)=wn at HBn FAn FBn ⊢
    clear hg hw
    clear HB FB LB
    revert NEn
    revert LBn
    revert FBn
    revert LAn
    revert FAn
    revert HBn
    revert gB
    revert gA
    revert wn
    exact hst011
  case st010 =>
   intro wq gA HB FA LA
   refine AH.t 3 12 (fun K hK=>?d3T) (fun K hK=>?d3B)
   case d3T =>
    go_simp
    refine (HT.out wq).mono ?_
    rintro r wn ⟨v1,rfl,kv,hB⟩
    have HBn:=Lh (Qd HB.out hB)
    have V1n:=Lh kv
    have FAn:=Lh (Qb FA.out hB)
    have LAn:=LA
    refine hK _ _ (HC.out _ HBn.out) ?_
    clear hK K hB kv
    try simp only [Act.put,Zp_]
    clear HB FA LA
    revert V1n
    revert LAn
    revert FAn
    revert HBn
    revert v1
    revert gA
    revert wn
    exact hst110
   case d3B =>
    go_simp
    have HBn:=Lh (bal HB.out (.cells #[.bool false,.slice none 0 0] 37))
    have FBn:=Lh (gal wq (.cells #[.bool false,.slice none 0 0] 37))
    have LBn:=HB.out.size
    have FAn:=Lh (Qb FA.out (Qm wq (.cells #[.bool false,.slice none 0 0] 37)))
    have LAn:=LA
    have NEn:gA≠wq.heap.size:=by have:=(Array.getElem?_eq_some_iff.1 FA.out).1;omega
    refine hK _ _ (HC.out _ HBn.out) ?_
    clear hK K
    try simp only [Act.put,Zp_]
    generalize hg:wq.heap.size=gB at FBn LBn NEn ⊢
    generalize hw:wq.alloc (.cells #[.bool false,.slice none 0 0] 37)=wn at HBn FAn FBn ⊢
    clear hg hw
    clear HB FA LA
    revert NEn
    revert LBn
    revert FBn
    revert LAn
    revert FAn
    revert HBn
    revert gB
    revert gA
    revert wn
    exact hst011
  case st100 =>
   intro wq v1 HB V1
   refine AH.three (i:=4) (j:=11) (k:=12) (by kernel_rfl) rfl rfl rfl (by kernel_rfl) (by kernel_rfl) (by kernel_rfl) (fun K hK=>?d4M) (fun K hK=>?d4A) (fun K hK=>?d4B)
   case d4M =>
    go_simp
    refine (HM.out wq v1 HB.out V1.out).mono ?_
    rintro r wn ⟨p1,l1,c1,rfl,kv,hB⟩
    have HBn:=Lh (Qd HB.out hB)
    have N1n:=Lh kv
    refine hK _ _ (HC.out _ HBn.out) ?_
    clear hK K hB kv
    try simp only [Act.put,Zp_]
    clear HB V1
    revert N1n
    revert HBn
    revert c1
    revert l1
    revert p1
    revert v1
    revert wn
    exact hst200
   case d4A =>
    go_simp
    have HBn:=Lh (bal HB.out (.cells #[.bool false,.slice none 0 0] 37))
    have FAn:=Lh (gal wq (.cells #[.bool false,.slice none 0 0] 37))
    have LAn:=HB.out.size
    have V1n:=Lh (V1.out.later (Qm wq (.cells #[.bool false,.slice none 0 0] 37)))
    refine hK _ _ (HC.out _ HBn.out) ?_
    clear hK K
    try simp only [Act.put,Zp_]
    generalize hg:wq.heap.size=gA at FAn LAn ⊢
    generalize hw:wq.alloc (.cells #[.bool false,.slice none 0 0] 37)=wn at HBn FAn V1n ⊢
    clear hg hw
    clear HB V1
    revert V1n
    revert LAn
    revert FAn
    revert HBn
    revert v1
    revert gA
    revert wn
    exact hst110
   case d4B =>
    go_simp
    have HBn:=Lh (bal HB.out (.cells #[.bool false,.slice none 0 0] 37))
    have FBn:=Lh (gal wq (.cells #[.bool false,.slice none 0 0] 37))
    have LBn:=HB.out.size
    have V1n:=Lh (V1.out.later (Qm wq (.cells #[.bool false,.slice none 0 0] 37)))
    refine hK _ _ (HC.out _ HBn.out) ?_
    clear hK K
    try simp only [Act.put,Zp_]
    generalize hg:wq.heap.size=gB at FBn LBn ⊢
    generalize hw:wq.alloc (.cells #[.bool false,.slice none 0 0] 37)=wn at HBn FBn V1n ⊢
    clear hg hw
    clear HB V1
    revert V1n
    revert LBn
    revert FBn
    revert HBn
    revert v1
    revert gB
    revert wn
    exact hst101
  case st011 =>
   intro wq gA gB HB FA LA FB LB NE
   refine AH.o 3 (fun K hK=>?_)
   go_simp
   refine (HT.out wq).mono ?_
   rintro r wn ⟨v1,rfl,kv,hB⟩
   have HBn:=Lh (Qd HB.out hB)
   have V1n:=Lh kv
   have FAn:=Lh (Qb FA.out hB)
   have LAn:=LA
   have FBn:=Lh (Qb FB.out hB)
   have LBn:=LB
   have NEn:=NE
   refine hK _ _ (HC.out _ HBn.out) ?_
   clear hK K hB kv
   try simp only [Act.put,Zp_]
   clear HB FA LA FB LB NE
   revert V1n
   revert NEn
   revert LBn
   revert FBn
   revert LAn
   revert FAn
   revert HBn
   revert v1
   revert gB
   revert gA
   revert wn
   exact hst111
  case st101 =>
   intro wq gB v1 HB FB LB V1
   refine AH.t 4 11 (fun K hK=>?d5M) (fun K hK=>?d5A)
   case d5M =>
    go_simp
    refine (HM.out wq v1 HB.out V1.out).mono ?_
    rintro r wn ⟨p1,l1,c1,rfl,kv,hB⟩
    have HBn:=Lh (Qd HB.out hB)
    have N1n:=Lh kv
    have FBn:=Lh (Qb FB.out hB)
    have LBn:=LB
    refine hK _ _ (HC.out _ HBn.out) ?_
    clear hK K hB kv
    try simp only [Act.put,Zp_]
    clear HB FB LB V1
    revert N1n
    revert LBn
    revert FBn
    revert HBn
    revert c1
    revert l1
    revert p1
    revert v1
    revert gB
    revert wn
    exact hst201
   case d5A =>
    go_simp
    have HBn:=Lh (bal HB.out (.cells #[.bool false,.slice none 0 0] 37))
    have FAn:=Lh (gal wq (.cells #[.bool false,.slice none 0 0] 37))
    have LAn:=HB.out.size
    have FBn:=Lh (Qb FB.out (Qm wq (.cells #[.bool false,.slice none 0 0] 37)))
    have LBn:=LB
    have V1n:=Lh (V1.out.later (Qm wq (.cells #[.bool false,.slice none 0 0] 37)))
    have NEn:wq.heap.size≠gB:=by have:=(Array.getElem?_eq_some_iff.1 FB.out).1;omega
    refine hK _ _ (HC.out _ HBn.out) ?_
    clear hK K
    try simp only [Act.put,Zp_]
    generalize hg:wq.heap.size=gA at FAn LAn NEn ⊢
    generalize hw:wq.alloc (.cells #[.bool false,.slice none 0 0] 37)=wn at HBn FAn FBn V1n ⊢
    clear hg hw
    clear HB FB LB V1
    revert V1n
    revert NEn
    revert LBn
    revert FBn
    revert LAn
    revert FAn
    revert HBn
    revert v1
    revert gB
    revert gA
    revert wn
    exact hst111
  case st110 =>
   intro wq gA v1 HB FA LA V1
   refine AH.t 4 12 (fun K hK=>?d6M) (fun K hK=>?d6B)
   case d6M =>
    go_simp
    refine (HM.out wq v1 HB.out V1.out).mono ?_
    rintro r wn ⟨p1,l1,c1,rfl,kv,hB⟩
    have HBn:=Lh (Qd HB.out hB)
    have N1n:=Lh kv
    have FAn:=Lh (Qb FA.out hB)
    have LAn:=LA
    refine hK _ _ (HC.out _ HBn.out) ?_
    clear hK K hB kv
    try simp only [Act.put,Zp_]
    clear HB FA LA V1
    revert N1n
    revert LAn
    revert FAn
    revert HBn
    revert c1
    revert l1
    revert p1
    revert v1
    revert gA
    revert wn
    exact hst210
   case d6B =>
    go_simp
    have HBn:=Lh (bal HB.out (.cells #[.bool false,.slice none 0 0] 37))
    have FBn:=Lh (gal wq (.cells #[.bool false,.slice none 0 0] 37))
    have LBn:=HB.out.size
    have FAn:=Lh (Qb FA.out (Qm wq (.cells #[.bool false,.slice none 0 0] 37)))
    have LAn:=LA
    have V1n:=Lh (V1.out.later (Qm wq (.cells #[.bool false,.slice none 0 0] 37)))
    have NEn:gA≠wq.heap.size:=by have:=(Array.getElem?_eq_some_iff.1 FA.out).1;omega
    refine hK _ _ (HC.out _ HBn.out) ?_
    clear hK K
    try simp only [Act.put,Zp_]
    generalize hg:wq.heap.size=gB at FBn LBn NEn ⊢
    generalize hw:wq.alloc (.cells #[.bool false,.slice none 0 0] 37)=wn at HBn FAn FBn V1n ⊢
    clear hg hw
    clear HB FA LA V1
    revert V1n
    revert NEn
    revert LBn
    revert FBn
    revert LAn
    revert FAn
    revert HBn
    revert v1
    revert gB
    revert gA
    revert wn
    exact hst111
  case st200 =>
   intro wq v1 p1 l1 c1 HB N1
   refine AH.three (i:=7) (j:=11) (k:=12) (by kernel_rfl) rfl rfl rfl (by kernel_rfl) (by kernel_rfl) (by kernel_rfl) (fun K hK=>?d7Q) (fun K hK=>?d7A) (fun K hK=>?d7B)
   case d7Q =>
    go_simp
    refine (HQR.out wq _ HB.out N1.out).mono ?_
    rintro r wn ⟨v2,v3,rfl,⟨⟨s2,rfl,kv⟩,⟨s3,rfl,kr⟩⟩,hB⟩
    have HBn:=Lh (Qd HB.out hB)
    obtain ⟨q1,e1,rfl,-⟩:=id kv
    obtain ⟨q2,e2,rfl,-⟩:=id kr
    have NQn:Hid (NumV wn (.agg #[.bool false,.slice q1 (dgs Q).length e1]) false Q):=Lh ⟨_,rfl,kv⟩
    have NRn:Hid (NumV wn (.agg #[.bool false,.slice q2 (dgs R).length e2]) false R):=Lh ⟨_,rfl,kr⟩
    refine hK _ _ (HC.out _ HBn.out) ?_
    clear hK K hB kv kr
    try simp only [Act.put,Zp_]
    refine AH.z 8 (HC.out _ HBn.out) ?_
    refine AH.z 9 (HC.out _ HBn.out) ?_
    refine AH.z 10 (HC.out _ HBn.out) ?_
    clear HB N1
    revert NRn
    revert NQn
    revert HBn
    revert e2
    revert q2
    revert e1
    revert q1
    revert c1
    revert l1
    revert p1
    revert v1
    revert wn
    exact hst300
   case d7A =>
    go_simp
    have HBn:=Lh (bal HB.out (.cells #[.bool false,.slice none 0 0] 37))
    have FAn:=Lh (gal wq (.cells #[.bool false,.slice none 0 0] 37))
    have LAn:=HB.out.size
    have N1n:=Lh (N1.out.later (Qm wq (.cells #[.bool false,.slice none 0 0] 37)))
    refine hK _ _ (HC.out _ HBn.out) ?_
    clear hK K
    try simp only [Act.put,Zp_]
    generalize hg:wq.heap.size=gA at FAn LAn ⊢
    generalize hw:wq.alloc (.cells #[.bool false,.slice none 0 0] 37)=wn at HBn FAn N1n ⊢
    clear hg hw
    clear HB N1
    revert N1n
    revert LAn
    revert FAn
    revert HBn
    revert c1
    revert l1
    revert p1
    revert v1
    revert gA
    revert wn
    exact hst210
   case d7B =>
    go_simp
    have HBn:=Lh (bal HB.out (.cells #[.bool false,.slice none 0 0] 37))
    have FBn:=Lh (gal wq (.cells #[.bool false,.slice none 0 0] 37))
    have LBn:=HB.out.size
    have N1n:=Lh (N1.out.later (Qm wq (.cells #[.bool false,.slice none 0 0] 37)))
    refine hK _ _ (HC.out _ HBn.out) ?_
    clear hK K
    try simp only [Act.put,Zp_]
    generalize hg:wq.heap.size=gB at FBn LBn ⊢
    generalize hw:wq.alloc (.cells #[.bool false,.slice none 0 0] 37)=wn at HBn FBn N1n ⊢
    clear hg hw
    clear HB N1
    revert N1n
    revert LBn
    revert FBn
    revert HBn
    revert c1
    revert l1
    revert p1
    revert v1
    revert gB
    revert wn
    exact hst201
  case st111 =>
   intro wq gA gB v1 HB FA LA FB LB NE V1
   refine AH.o 4 (fun K hK=>?_)
   go_simp
   refine (HM.out wq v1 HB.out V1.out).mono ?_
   rintro r wn ⟨p1,l1,c1,rfl,kv,hB⟩
   have HBn:=Lh (Qd HB.out hB)
   have N1n:=Lh kv
   have FAn:=Lh (Qb FA.out hB)
   have LAn:=LA
   have FBn:=Lh (Qb FB.out hB)
   have LBn:=LB
   have NEn:=NE
   refine hK _ _ (HC.out _ HBn.out) ?_
   clear hK K hB kv
   try simp only [Act.put,Zp_]
   clear HB FA LA FB LB NE V1
   revert N1n
   revert NEn
   revert LBn
   revert FBn
   revert LAn
   revert FAn
   revert HBn
   revert c1
   revert l1
   revert p1
   revert v1
   revert gB
   revert gA
   revert wn
   exact hst211
  case st201 =>
   intro wq gB v1 p1 l1 c1 HB FB LB N1
   refine AH.t 7 11 (fun K hK=>?d8Q) (fun K hK=>?d8A)
   case d8Q =>
    go_simp
    refine (HQR.out wq _ HB.out N1.out).mono ?_
    rintro r wn ⟨v2,v3,rfl,⟨⟨s2,rfl,kv⟩,⟨s3,rfl,kr⟩⟩,hB⟩
    have HBn:=Lh (Qd HB.out hB)
    obtain ⟨q1,e1,rfl,-⟩:=id kv
    obtain ⟨q2,e2,rfl,-⟩:=id kr
    have NQn:Hid (NumV wn (.agg #[.bool false,.slice q1 (dgs Q).length e1]) false Q):=Lh ⟨_,rfl,kv⟩
    have NRn:Hid (NumV wn (.agg #[.bool false,.slice q2 (dgs R).length e2]) false R):=Lh ⟨_,rfl,kr⟩
    have FBn:=Lh (Qb FB.out hB)
    have LBn:=LB
    refine hK _ _ (HC.out _ HBn.out) ?_
    clear hK K hB kv kr
    try simp only [Act.put,Zp_]
    refine AH.z 8 (HC.out _ HBn.out) ?_
    refine AH.z 9 (HC.out _ HBn.out) ?_
    refine AH.z 10 (HC.out _ HBn.out) ?_
    clear HB FB LB N1
    revert NRn
    revert NQn
    revert LBn
    revert FBn
    revert HBn
    revert e2
    revert q2
    revert e1
    revert q1
    revert c1
    revert l1
    revert p1
    revert v1
    revert gB
    revert wn
    exact hst301
   case d8A =>
    go_simp
    have HBn:=Lh (bal HB.out (.cells #[.bool false,.slice none 0 0] 37))
    have FAn:=Lh (gal wq (.cells #[.bool false,.slice none 0 0] 37))
    have LAn:=HB.out.size
    have FBn:=Lh (Qb FB.out (Qm wq (.cells #[.bool false,.slice none 0 0] 37)))
    have LBn:=LB
    have N1n:=Lh (N1.out.later (Qm wq (.cells #[.bool false,.slice none 0 0] 37)))
    have NEn:wq.heap.size≠gB:=by have:=(Array.getElem?_eq_some_iff.1 FB.out).1;omega
    refine hK _ _ (HC.out _ HBn.out) ?_
    clear hK K
    try simp only [Act.put,Zp_]
    generalize hg:wq.heap.size=gA at FAn LAn NEn ⊢
    generalize hw:wq.alloc (.cells #[.bool false,.slice none 0 0] 37)=wn at HBn FAn FBn N1n ⊢
    clear hg hw
    clear HB FB LB N1
    revert N1n
    revert NEn
    revert LBn
    revert FBn
    revert LAn
    revert FAn
    revert HBn
    revert c1
    revert l1
    revert p1
    revert v1
    revert gB
    revert gA
    revert wn
    exact hst211
  case st210 =>
   intro wq gA v1 p1 l1 c1 HB FA LA N1
   refine AH.t 7 12 (fun K hK=>?d9Q) (fun K hK=>?d9B)
   case d9Q =>
    go_simp
    refine (HQR.out wq _ HB.out N1.out).mono ?_
    rintro r wn ⟨v2,v3,rfl,⟨⟨s2,rfl,kv⟩,⟨s3,rfl,kr⟩⟩,hB⟩
    have HBn:=Lh (Qd HB.out hB)
    obtain ⟨q1,e1,rfl,-⟩:=id kv
    obtain ⟨q2,e2,rfl,-⟩:=id kr
    have NQn:Hid (NumV wn (.agg #[.bool false,.slice q1 (dgs Q).length e1]) false Q):=Lh ⟨_,rfl,kv⟩
    have NRn:Hid (NumV wn (.agg #[.bool false,.slice q2 (dgs R).length e2]) false R):=Lh ⟨_,rfl,kr⟩
    have FAn:=Lh (Qb FA.out hB)
    have LAn:=LA
    refine hK _ _ (HC.out _ HBn.out) ?_
    clear hK K hB kv kr
    try simp only [Act.put,Zp_]
    refine AH.z 8 (HC.out _ HBn.out) ?_
    refine AH.z 9 (HC.out _ HBn.out) ?_
    refine AH.z 10 (HC.out _ HBn.out) ?_
    clear HB FA LA N1
    revert NRn
    revert NQn
    revert LAn
    revert FAn
    revert HBn
    revert e2
    revert q2
    revert e1
    revert q1
    revert c1
    revert l1
    revert p1
    revert v1
    revert gA
    revert wn
    exact hst310
   case d9B =>
    go_simp
    have HBn:=Lh (bal HB.out (.cells #[.bool false,.slice none 0 0] 37))
    have FBn:=Lh (gal wq (.cells #[.bool false,.slice none 0 0] 37))
    have LBn:=HB.out.size
    have FAn:=Lh (Qb FA.out (Qm wq (.cells #[.bool false,.slice none 0 0] 37)))
    have LAn:=LA
    have N1n:=Lh (N1.out.later (Qm wq (.cells #[.bool false,.slice none 0 0] 37)))
    have NEn:gA≠wq.heap.size:=by have:=(Array.getElem?_eq_some_iff.1 FA.out).1;omega
    refine hK _ _ (HC.out _ HBn.out) ?_
    clear hK K
    try simp only [Act.put,Zp_]
    generalize hg:wq.heap.size=gB at FBn LBn NEn ⊢
    generalize hw:wq.alloc (.cells #[.bool false,.slice none 0 0] 37)=wn at HBn FAn FBn N1n ⊢
    clear hg hw
    clear HB FA LA N1
    revert N1n
    revert NEn
    revert LBn
    revert FBn
    revert LAn
    revert FAn
    revert HBn
    revert c1
    revert l1
    revert p1
    revert v1
    revert gB
    revert gA
    revert wn
    exact hst211
  case st300 =>
   intro wq v1 p1 l1 c1 q1 e1 q2 e2 HB NQ NR
   refine AH.t 11 12 (fun K hK=>?d10A) (fun K hK=>?d10B)
   case d10A =>
    go_simp
    have HBn:=Lh (bal HB.out (.cells #[.bool false,.slice none 0 0] 37))
    have FAn:=Lh (gal wq (.cells #[.bool false,.slice none 0 0] 37))
    have LAn:=HB.out.size
    have NQn:=Lh (NQ.out.later (Qm wq (.cells #[.bool false,.slice none 0 0] 37)))
    have NRn:=Lh (NR.out.later (Qm wq (.cells #[.bool false,.slice none 0 0] 37)))
    refine hK _ _ (HC.out _ HBn.out) ?_
    clear hK K
    try simp only [Act.put,Zp_]
    generalize hg:wq.heap.size=gA at FAn LAn ⊢
    generalize hw:wq.alloc (.cells #[.bool false,.slice none 0 0] 37)=wn at HBn FAn NQn NRn ⊢
    clear hg hw
    clear HB NQ NR
    revert NRn
    revert NQn
    revert LAn
    revert FAn
    revert HBn
    revert e2
    revert q2
    revert e1
    revert q1
    revert c1
    revert l1
    revert p1
    revert v1
    revert gA
    revert wn
    exact hst310
   case d10B =>
    go_simp
    have HBn:=Lh (bal HB.out (.cells #[.bool false,.slice none 0 0] 37))
    have FBn:=Lh (gal wq (.cells #[.bool false,.slice none 0 0] 37))
    have LBn:=HB.out.size
    have NQn:=Lh (NQ.out.later (Qm wq (.cells #[.bool false,.slice none 0 0] 37)))
    have NRn:=Lh (NR.out.later (Qm wq (.cells #[.bool false,.slice none 0 0] 37)))
    refine hK _ _ (HC.out _ HBn.out) ?_
    clear hK K
    try simp only [Act.put,Zp_]
    generalize hg:wq.heap.size=gB at FBn LBn ⊢
    generalize hw:wq.alloc (.cells #[.bool false,.slice none 0 0] 37)=wn at HBn FBn NQn NRn ⊢
    clear hg hw
    clear HB NQ NR
    revert NRn
    revert NQn
    revert LBn
    revert FBn
    revert HBn
    revert e2
    revert q2
    revert e1
    revert q1
    revert c1
    revert l1
    revert p1
    revert v1
    revert gB
    revert wn
    exact hst301
  case st211 =>
   intro wq gA gB v1 p1 l1 c1 HB FA LA FB LB NE N1
   refine AH.o 7 (fun K hK=>?_)
   go_simp
   refine (HQR.out wq _ HB.out N1.out).mono ?_
   rintro r wn ⟨v2,v3,rfl,⟨⟨s2,rfl,kv⟩,⟨s3,rfl,kr⟩⟩,hB⟩
   have HBn:=Lh (Qd HB.out hB)
   obtain ⟨q1,e1,rfl,-⟩:=id kv
   obtain ⟨q2,e2,rfl,-⟩:=id kr
   have NQn:Hid (NumV wn (.agg #[.bool false,.slice q1 (dgs Q).length e1]) false Q):=Lh ⟨_,rfl,kv⟩
   have NRn:Hid (NumV wn (.agg #[.bool false,.slice q2 (dgs R).length e2]) false R):=Lh ⟨_,rfl,kr⟩
   have FAn:=Lh (Qb FA.out hB)
   have LAn:=LA
   have FBn:=Lh (Qb FB.out hB)
   have LBn:=LB
   have NEn:=NE
   refine hK _ _ (HC.out _ HBn.out) ?_
   clear hK K hB kv kr
   try simp only [Act.put,Zp_]
   refine AH.z 8 (HC.out _ HBn.out) ?_
   refine AH.z 9 (HC.out _ HBn.out) ?_
   refine AH.z 10 (HC.out _ HBn.out) ?_
   clear HB FA LA FB LB NE N1
   revert NRn
   revert NQn
   revert NEn
   revert LBn
   revert FBn
   revert LAn
   revert FAn
   revert HBn
   revert e2
   revert q2
   revert e1
   revert q1
   revert c1
   revert l1
   revert p1
   revert v1
   revert gB
   revert gA
   revert wn
   exact hst311
  case st301 =>
   intro wq gB v1 p1 l1 c1 q1 e1 q2 e2 HB FB LB NQ NR
   refine AH.o 11 (fun K hK=>?_)
   go_simp
   have HBn:=Lh (bal HB.out (.cells #[.bool false,.slice none 0 0] 37))
   have FAn:=Lh (gal wq (.cells #[.bool false,.slice none 0 0] 37))
   have LAn:=HB.out.size
   have FBn:=Lh (Qb FB.out (Qm wq (.cells #[.bool false,.slice none 0 0] 37)))
   have LBn:=LB
   have NQn:=Lh (NQ.out.later (Qm wq (.cells #[.bool false,.slice none 0 0] 37)))
   have NRn:=Lh (NR.out.later (Qm wq (.cells #[.bool false,.slice none 0 0] 37)))
   have NEn:wq.heap.size≠gB:=by have:=(Array.getElem?_eq_some_iff.1 FB.out).1;omega
   refine hK _ _ (HC.out _ HBn.out) ?_
   clear hK K
   try simp only [Act.put,Zp_]
   generalize hg:wq.heap.size=gA at FAn LAn NEn ⊢
   generalize hw:wq.alloc (.cells #[.bool false,.slice none 0 0] 37)=wn at HBn FAn FBn NQn NRn ⊢
   clear hg hw
   clear HB FB LB NQ NR
   revert NRn
   revert NQn
   revert NEn
   revert LBn
   revert FBn
   revert LAn
   revert FAn
   revert HBn
   revert e2
   revert q2
   revert e1
   revert q1
   revert c1
   revert l1
   revert p1
   revert v1
   revert gB
   revert gA
   revert wn
   exact hst311
  case st310 =>
   intro wq gA v1 p1 l1 c1 q1 e1 q2 e2 HB FA LA NQ NR
   refine AH.o 12 (fun K hK=>?_)
   go_simp
   have HBn:=Lh (bal HB.out (.cells #[.bool false,.slice none 0 0] 37))
   have FBn:=Lh (gal wq (.cells #[.bool false,.slice none 0 0] 37))
   have LBn:=HB.out.size
   have FAn:=Lh (Qb FA.out (Qm wq (.cells #[.bool false,.slice none 0 0] 37)))
   have LAn:=LA
   have NQn:=Lh (NQ.out.later (Qm wq (.cells #[.bool false,.slice none 0 0] 37)))
   have NRn:=Lh (NR.out.later (Qm wq (.cells #[.bool false,.slice none 0 0] 37)))
   have NEn:gA≠wq.heap.size:=by have:=(Array.getElem?_eq_some_iff.1 FA.out).1;omega
   refine hK _ _ (HC.out _ HBn.out) ?_
   clear hK K
   try simp only [Act.put,Zp_]
   generalize hg:wq.heap.size=gB at FBn LBn NEn ⊢
   generalize hw:wq.alloc (.cells #[.bool false,.slice none 0 0] 37)=wn at HBn FAn FBn NQn NRn ⊢
   clear hg hw
   clear HB FA LA NQ NR
   revert NRn
   revert NQn
   revert NEn
   revert LBn
   revert FBn
   revert LAn
   revert FAn
   revert HBn
   revert e2
   revert q2
   revert e1
   revert q1
   revert c1
   revert l1
   revert p1
   revert v1
   revert gB
   revert gA
   revert wn
   exact hst311
  case st311 =>
   intro wq gA gB v1 p1 l1 c1 q1 e1 q2 e2 HB FA LA FB LB NE NQ NR
   have G5:Hid (((wq.setCell ⟨gA,0,none⟩ (.bool false)).setCell ⟨gA,1,none⟩ (.slice q1 (dgs Q).length e1)).heap[gA]?=some (.cells #[.bool false,.slice q1 (dgs Q).length e1] 37 (0,0))):=Lh (by
    have:=Qq (Qq FA.out 0 (.bool false)) 1 (.slice q1 (dgs Q).length e1)
    simpa using this)
   have o5:Only gA wq ((wq.setCell ⟨gA,0,none⟩ (.bool false)).setCell ⟨gA,1,none⟩ (.slice q1 (dgs Q).length e1)):=((Only.refl _ wq).set 0 _).set 1 _
   have B5:Hid (Below wA.heap.size wA ((wq.setCell ⟨gA,0,none⟩ (.bool false)).setCell ⟨gA,1,none⟩ (.slice q1 (dgs Q).length e1))):=Lh ((HB.out.setCell (by exact LA) _).setCell (by exact LA) _)
   have H5:=Lh ((o5.1 gB (Ne.symm NE)).trans FB.out)
   have NQ5:=Lh (NQ.out.keep FA.out (by rfl) o5)
   have NR5:=Lh (NR.out.keep FA.out (by rfl) o5)
   have a0:=Qa9 FA.out 0 rfl;have a1:=Qa9 FA.out 1 rfl
   have fg:=(Qe FA.out).2
   have f0:=fg 0;have f1:=fg 1
   clear fg o5
   refine AH.o 13 (fun K hK=>?_)
   go_simp
   refine hK _ _ (HC.out _ B5.out) ?_
   clear hK K a0 a1 f0 f1 HB FA FB NQ NR
   try simp only [Act.put,Zp_]
   generalize (wq.setCell ⟨gA,0,none⟩ (.bool false)).setCell ⟨gA,1,none⟩ (.slice q1 (dgs Q).length e1)=ws at G5 B5 H5 NQ5 NR5 ⊢
   have G6:(((ws.setCell ⟨gB,0,none⟩ (.bool false)).setCell ⟨gB,1,none⟩ (.slice q2 (dgs R).length e2)).heap[gB]?=some (.cells #[.bool false,.slice q2 (dgs R).length e2] 37 (0,0))):=by
    have:=Qq (Qq H5.out 0 (.bool false)) 1 (.slice q2 (dgs R).length e2)
    simpa using this
   have o6:Only gB ws ((ws.setCell ⟨gB,0,none⟩ (.bool false)).setCell ⟨gB,1,none⟩ (.slice q2 (dgs R).length e2)):=((Only.refl _ ws).set 0 _).set 1 _
   have B6:Below wA.heap.size wA ((ws.setCell ⟨gB,0,none⟩ (.bool false)).setCell ⟨gB,1,none⟩ (.slice q2 (dgs R).length e2)):=(B5.out.setCell (by exact LB) _).setCell (by exact LB) _
   have hT2:TwoQ wA Q R (.pointer (some ⟨gA,0,none⟩)) (.pointer (some ⟨gB,0,none⟩)) ((ws.setCell ⟨gB,0,none⟩ (.bool false)).setCell ⟨gB,1,none⟩ (.slice q2 (dgs R).length e2)) :=
    ⟨gA,gB,q1,e1,q2,e2,rfl,rfl,⟨(o6.1 gA NE).trans G5.out,G6⟩,NQ5.out.keep H5.out (by rfl) o6,NR5.out.keep H5.out (by rfl) o6,LA,LB,NE,B6⟩
   have HT2:=Lh hT2;have HB6:=Lh B6
   have a0:=Qa9 H5.out 0 rfl;have a1:=Qa9 H5.out 1 rfl
   have fg:=(Qe H5.out).2
   have f0:=fg 0;have f1:=fg 1
   clear fg o6 G6 B6 hT2
   refine AH.o 14 (fun K hK=>?_)
   go_simp
   refine hK _ _ (HC.out _ HB6.out) ?_
   clear hK K
   try simp only [Act.put,Zp_]
   refine AH.done (by kernel_rfl) ?_
   go_wp2_with fail
   go_meet
   exact HT2.out
 case rest =>
  obtain ⟨gA,gB,p1,c1,p2,c2,rfl,rfl,⟨hA,hBk⟩,n1,n2,lA,lB,ne,hBx⟩:=hcut
  have GA:=Lh hA;have GB:=Lh hBk;have N1:=Lh n1;have N2:=Lh n2;have HB3:=Lh hBx;have HLA:=Lh lA
  clear x0 x1 x2 x3 y0 y1 y2 y3 hA hBk n1 n2 lA lB ne hBx HT HM HQR HCx HCy HB2
  obtain ⟨x0,x1,x2,x3,y0,y1,y2,y3⟩:=HC.out _ HB3.out
  have b0:=Qa9 GB.out 0 rfl;have b1:=Qa9 GB.out 1 rfl
  go_wp2_with fail
  refine (Q0b N2.out).mono ?_
  rintro r w4 ⟨rfl,hB⟩
  have GA4:=Lh (Qb GA.out hB);have N4:=Lh (N1.out.later hB);have HB4:=Lh (Qd HB3.out hB)
  clear hB x0 x1 x2 x3 y0 y1 y2 y3 b0 b1 GA GB N1 N2 HB3
  obtain ⟨x0,x1,x2,x3,y0,y1,y2,y3⟩:=HC.out _ HB4.out
  have a0:=Qa9 GA4.out 0 rfl;have a1:=Qa9 GA4.out 1 rfl
  by_cases hr:R=0
  ·rw [decide_eq_true hr]
   obtain ⟨hE,hC⟩:=HRes2.out.2 hr
   have HEC:=Lh (And.intro hE hC)
   clear hr hE hC HRes2
   go_wp2_with fail
   go_loopw [11] (fun i wr=>∃ (j x:Nat) (qp:Option Addr) (cp:Nat),i=.int .i64 (ex - ey - (sN:Int)+(j:Int))∧SR_ sN Q j x∧wr.heap[gA]?=some (.cells #[.bool false,.slice qp (dgs x).length cp] 37 (0,0))∧Dg wr (.slice qp (dgs x).length cp) (dgs x)∧Below wA.heap.size wA wr) (fun i _=>(ex - ey - intOf i).toNat)
   case atStart=>exact ⟨0,Q,p1,c1,by rw [show ex - ey - (sN:Int)+((0:Nat):Int)=ex - ey - (sN:Int) by omega],Qb8 _ _,GA4.out,N4.out.dg',HB4.out⟩
   case round =>
    obtain ⟨j,x,qp,cp,rfl,hsr,hG,hD,hBw⟩:=hrel
    have HSR:=Lh hsr;have HG:=Lh hG;have HD:=Lh hD;have HBw:=Lh hBw
    have hxl:(dgs x).length≤5000:=by
     obtain ⟨_,h2,_⟩:=hsr
     refine Nat.le_trans (QR ?_) HQl.out
     rw [h2];exact Nat.le_mul_of_pos_right _ (QE j)
    have HXL:=Lh hxl
    have hj1:j≤sN:=hsr.1
    clear hsr hG hD hBw x0 x1 x2 x3 y0 y1 y2 y3 a0 a1
    obtain ⟨x0,x1,x2,x3,y0,y1,y2,y3⟩:=HC.out _ HBw.out
    have a0:=Qa9 HG.out 0 rfl;have a1:=Qa9 HG.out 1 rfl
    by_cases hjs:j=sN
    ·have t1:¬ (ex - ey - (sN:Int)+(j:Int)<ex - ey):=by omega
     have HEn:=Lh (QaQ HSR.out (.inl hjs))
     have HV:Hid (E=ex - ey - (sN:Int)+(j:Int)∧Cc=x):=Lh (by rw [HEC.out.1,HEC.out.2,HEn.out];exact ⟨rfl,rfl⟩)
     clear hjs hj1 HEn hxl
     have G9:=Lh (Qb G3.out HBw.out)
     have r0:=Qa9 G9.out 0 rfl;have r1:=Qa9 G9.out 1 rfl;have r2:=Qa9 G9.out 2 rfl;have r3:=Qa9 G9.out 3 rfl
     have fg:=(Qe G9.out).2
     have f0:=fg 0;have f1:=fg 1;have f2:=fg 2;have f3:=fg 3
     clear fg
     go_wp2_with fail
     have hsz:=HSz.out
     have o4:Only (w.heap.size+1+1) wr ((((wr.setCell ⟨w.heap.size+1+1,0,none⟩ (.bool (!(nx == ny)))).setCell ⟨w.heap.size+1+1,1,none⟩ (.bool false)).setCell ⟨w.heap.size+1+1,2,none⟩ (.slice qp (dgs x).length cp)).setCell ⟨w.heap.size+1+1,3,none⟩ (.int .i64 (ex - ey - (sN:Int)+(j:Int)))):=((((Only.refl _ wr).set 0 _).set 1 _).set 2 _).set 3 _
     obtain ⟨h0',h1',h2',h3'⟩:=Q0n r0 r1 r2 r3 (.bool (!(nx == ny))) (.bool false) (.slice qp (dgs x).length cp) (.int .i64 (ex - ey - (sN:Int)+(j:Int)))
     have hb:Below w.heap.size w ((((wr.setCell ⟨w.heap.size+1+1,0,none⟩ (.bool (!(nx == ny)))).setCell ⟨w.heap.size+1+1,1,none⟩ (.bool false)).setCell ⟨w.heap.size+1+1,2,none⟩ (.slice qp (dgs x).length cp)).setCell ⟨w.heap.size+1+1,3,none⟩ (.int .i64 (ex - ey - (sN:Int)+(j:Int)))) :=
      ((((Qd HBA.out HBw.out).setCell (by simp only;omega) _).setCell (by simp only;omega) _).setCell (by simp only;omega) _).setCell (by simp only;omega) _
     exact bodyPost_ret (v:=.agg #[.bool (!(nx == ny)),.bool false,.slice qp (dgs x).length cp,.int .i64 (ex - ey - (sN:Int)+(j:Int))]) (by simp [results,Tryz.results124,go_sem,h0',h1',h2',h3']) rfl ⟨_,rfl,⟨_,by rw [HV.out.1];rfl,by rw [HV.out.2];exact HD.out.keep G9.out (by rfl) o4⟩,hb⟩
    ·have t1:ex - ey - (sN:Int)+(j:Int)<ex - ey:=by omega
     by_cases hx0:x=0
     ·have HEn:=Lh (QaQ HSR.out (.inr (fun q=>q.1 hx0)))
      have HV:Hid (E=ex - ey - (sN:Int)+(j:Int)∧Cc=x):=Lh (by rw [HEC.out.1,HEC.out.2,HEn.out];exact ⟨rfl,rfl⟩)
      have hl0:(dgs x).length=0:=Q2U.2 hx0
      have t2:¬ (0:Int)<((dgs x).length:Int):=by omega
      clear hx0 hl0 HEn hjs hj1 hxl
      have G9:=Lh (Qb G3.out HBw.out)
      have r0:=Qa9 G9.out 0 rfl;have r1:=Qa9 G9.out 1 rfl;have r2:=Qa9 G9.out 2 rfl;have r3:=Qa9 G9.out 3 rfl
      have fg:=(Qe G9.out).2
      have f0:=fg 0;have f1:=fg 1;have f2:=fg 2;have f3:=fg 3
      clear fg
      go_wp2_with fail
      have hsz:=HSz.out
      have o4:Only (w.heap.size+1+1) wr ((((wr.setCell ⟨w.heap.size+1+1,0,none⟩ (.bool (!(nx == ny)))).setCell ⟨w.heap.size+1+1,1,none⟩ (.bool false)).setCell ⟨w.heap.size+1+1,2,none⟩ (.slice qp (dgs x).length cp)).setCell ⟨w.heap.size+1+1,3,none⟩ (.int .i64 (ex - ey - (sN:Int)+(j:Int)))):=((((Only.refl _ wr).set 0 _).set 1 _).set 2 _).set 3 _
      obtain ⟨h0',h1',h2',h3'⟩:=Q0n r0 r1 r2 r3 (.bool (!(nx == ny))) (.bool false) (.slice qp (dgs x).length cp) (.int .i64 (ex - ey - (sN:Int)+(j:Int)))
      have hb:Below w.heap.size w ((((wr.setCell ⟨w.heap.size+1+1,0,none⟩ (.bool (!(nx == ny)))).setCell ⟨w.heap.size+1+1,1,none⟩ (.bool false)).setCell ⟨w.heap.size+1+1,2,none⟩ (.slice qp (dgs x).length cp)).setCell ⟨w.heap.size+1+1,3,none⟩ (.int .i64 (ex - ey - (sN:Int)+(j:Int)))) :=
       ((((Qd HBA.out HBw.out).setCell (by simp only;omega) _).setCell (by simp only;omega) _).setCell (by simp only;omega) _).setCell (by simp only;omega) _
      exact bodyPost_ret (v:=.agg #[.bool (!(nx == ny)),.bool false,.slice qp (dgs x).length cp,.int .i64 (ex - ey - (sN:Int)+(j:Int))]) (by simp [results,Tryz.results124,go_sem,h0',h1',h2',h3']) rfl ⟨_,rfl,⟨_,by rw [HV.out.1];rfl,by rw [HV.out.2];exact HD.out.keep G9.out (by rfl) o4⟩,hb⟩
     ·have hl0:0<(dgs x).length:=by
       rcases Nat.eq_zero_or_pos (dgs x).length with e1 | e1
       ·exact absurd (Q2U.1 e1) hx0
       ·exact e1
      have t2:(0:Int)<((dgs x).length:Int):=by omega
      obtain ⟨b,o,hqp,hbl,hcell⟩:=HD.out.DC.dig 0 hl0
      rw [Nat.add_zero,Nat.pow_zero,Nat.div_one] at hcell
      subst hqp
      clear hbl
      by_cases hz:x % 10=0
      ·have hz1:(((x % 10:Nat):Int) == 0)=true:=by rw [hz];rfl
       have HS2:=Lh (QbF HSR.out (by omega) hx0 hz)
       have HJ:Hid (j<sN):=Lh (by omega)
       generalize hlen:(dgs x).length=L at *
       generalize x % 10=xd at hz1 hcell
       clear hz hx0 hjs hj1 HSR
       go_wp2_with fail
       refine AH.start (fun _=>True) (by kernel_rfl) ?_
       have hd:Below wr.heap.size wr wr.drew:=(Below.refl _ _).drew
       replace HG:=Lh (Qb HG.out hd);replace HD:=Lh (HD.out.later hd);replace HBw:=Lh (Qd HBw.out hd)
       clear hd a0 a1 hcell x0 x1 x2 x3 y0 y1 y2 y3
       generalize wr.drew=wq at *
       have HOf:Hid (∀ w2,Calls Tryz.prog 22 #[.int .i64 10] w2 fun r w'=>∃ v',r=.returned v'∧NumV w' v' false 10∧Below w2.heap.size w2 w'):=Lh (fun w2=>Q2V 10 (by decide) w2)
       refine AH.t 0 1 (fun K hK=>?m1) (fun K hK=>?m2)
       case' m1 =>
        have a0:=Qa9 HG.out 0 rfl;have a1:=Qa9 HG.out 1 rfl
        go_simp
        refine hK _ _ trivial ?_
        clear hK K a0 a1
        try simp only [Act.put,Zp_]
        refine AH.o 1 (fun K hK=>?_)
        go_simp
        refine (HOf.out wq).mono ?_
        rintro r wn ⟨v1,rfl,hN,hB⟩
        have HGn:=Lh (Qb HG.out hB);have HDn:=Lh (HD.out.later hB);have HBn:=Lh (Qd HBw.out hB);have HNn:=Lh hN
        refine hK _ _ trivial ?_
        clear hK K hN hB HG HD HBw
        try simp only [Act.put,Zp_]
       case' m2 =>
        go_simp
        refine (HOf.out wq).mono ?_
        rintro r wn ⟨v1,rfl,hN,hB⟩
        have HGn:=Lh (Qb HG.out hB);have HDn:=Lh (HD.out.later hB);have HBn:=Lh (Qd HBw.out hB);have HNn:=Lh hN
        refine hK _ _ trivial ?_
        clear hK K hN hB HG HD HBw
        try simp only [Act.put,Zp_]
        refine AH.o 0 (fun K hK=>?_)
        have a0:=Qa9 HGn.out 0 rfl;have a1:=Qa9 HGn.out 1 rfl
        go_simp
        refine hK _ _ trivial ?_
        clear hK K a0 a1
        try simp only [Act.put,Zp_]
       all_goals
        refine AH.o 2 (fun K hK=>?_)
        go_simp
        refine (Q1q (u:=.agg #[.bool false,.slice (some ⟨b,o,none⟩) L cp]) (v:=v1) (X:=x) (Y:=10) ⟨_,rfl,HDn.out⟩ HNn.out (by decide) (by rw [hlen];exact Nat.le_trans HXL.out (by decide)) (by rw [show (10:Nat)=10^1 from rfl,Q2E];simp)).mono ?_
        rintro r wm ⟨v2,v3,rfl,⟨⟨s2,rfl,hN2⟩,⟨s3,rfl,_⟩⟩,hB⟩
        obtain ⟨p2,c2,rfl,_⟩:=id hN2
        have HGm:=Lh (Qb HGn.out hB);have HDm:=Lh hN2;have HBm:=Lh (Qd HBn.out hB)
        refine hK _ _ trivial ?_
        clear hK K hN2 hB HGn HDn HBn HNn
        try simp only [Act.put,Zp_]
        refine AH.z 3 trivial ?_
        refine AH.z 4 trivial ?_
        refine AH.z 5 trivial ?_
        have a0:=Qa9 HGm.out 0 rfl;have a1:=Qa9 HGm.out 1 rfl
        have fg:=(Qe HGm.out).2
        have f0:=fg 0;have f1:=fg 1
        clear fg
        generalize hl2:(dgs (x / 10)).length=L2 at *
        refine AH.o 6 (fun K hK=>?_)
        go_simp
        refine hK _ _ trivial ?_
        clear hK K a0 a1 f0 f1
        try simp only [Act.put,Zp_]
        refine AH.done (by kernel_rfl) ?_
        have ho:Only gA wm ((wm.setCell ⟨gA,0,none⟩ (.bool false)).setCell ⟨gA,1,none⟩ (.slice p2 L2 c2)):=((Only.refl gA wm).set 0 _).set 1 _
        have HG5:Hid (((wm.setCell ⟨gA,0,none⟩ (.bool false)).setCell ⟨gA,1,none⟩ (.slice p2 L2 c2)).heap[gA]?=some (.cells #[.bool false,.slice p2 L2 c2] 37 (0,0))):=Lh (by
         have:=Qq (Qq HGm.out 0 (.bool false)) 1 (.slice p2 L2 c2)
         simpa using this)
        have HD5:Hid (Dg ((wm.setCell ⟨gA,0,none⟩ (.bool false)).setCell ⟨gA,1,none⟩ (.slice p2 L2 c2)) (.slice p2 L2 c2) (dgs (x / 10))):=Lh (HDm.out.keep HGm.out (by rfl) ho)
        have HB5:Hid (Below wA.heap.size wA ((wm.setCell ⟨gA,0,none⟩ (.bool false)).setCell ⟨gA,1,none⟩ (.slice p2 L2 c2))):=Lh ((HBm.out.setCell (by exact HLA.out) _).setCell (by exact HLA.out) _)
        clear ho HGm HDm HBm
        generalize (wm.setCell ⟨gA,0,none⟩ (.bool false)).setCell ⟨gA,1,none⟩ (.slice p2 L2 c2)=w5 at HG5 HD5 HB5 ⊢
        have j1:IntKind.i64.wrap (ex - ey - (sN:Int)+(j:Int)+1)=ex - ey - (sN:Int)+(j:Int)+1:=IntWalk.i64_in _ (by have:=HEb.out;have:=HJ.out;omega)
        have j2:wrap64 (ex - ey - (sN:Int)+(j:Int)+1)=ex - ey - (sN:Int)+(j:Int)+1:=by have:=HEb.out;have:=HJ.out;unfold wrap64;omega
        have HM:Hid ((ex - ey - (ex - ey - (sN:Int)+(j:Int)+1)).toNat<(ex - ey - (ex - ey - (sN:Int)+(j:Int))).toNat):=Lh (by have:=HJ.out;omega)
        go_wp2_with fail
        go_roundw
        case rel=>exact ⟨j+1,x / 10,p2,c2,by rw [show ex - ey - (sN:Int)+((j+1:Nat):Int)=ex - ey - (sN:Int)+(j:Int)+1 by omega],HS2.out,by rw [hl2];exact HG5.out,by rw [hl2];exact HD5.out,HB5.out⟩
        case measure=>exact HM.out
      ·have hz1:(((x % 10:Nat):Int) == 0)=false:=by simp;omega
       have HEn:=Lh (QaQ HSR.out (.inr (fun q=>hz q.2)))
       have HV:Hid (E=ex - ey - (sN:Int)+(j:Int)∧Cc=x):=Lh (by rw [HEC.out.1,HEC.out.2,HEn.out];exact ⟨rfl,rfl⟩)
       generalize x % 10=xd at hz1 hcell
       clear hz hx0 HEn hjs hj1 hxl
       have G9:=Lh (Qb G3.out HBw.out)
       have r0:=Qa9 G9.out 0 rfl;have r1:=Qa9 G9.out 1 rfl;have r2:=Qa9 G9.out 2 rfl;have r3:=Qa9 G9.out 3 rfl
       have fg:=(Qe G9.out).2
       have f0:=fg 0;have f1:=fg 1;have f2:=fg 2;have f3:=fg 3
       clear fg
       go_wp2_with fail
       have hsz:=HSz.out
       have o4:Only (w.heap.size+1+1) wr ((((wr.setCell ⟨w.heap.size+1+1,0,none⟩ (.bool (!(nx == ny)))).setCell ⟨w.heap.size+1+1,1,none⟩ (.bool false)).setCell ⟨w.heap.size+1+1,2,none⟩ (.slice (some ⟨b,o,none⟩) (dgs x).length cp)).setCell ⟨w.heap.size+1+1,3,none⟩ (.int .i64 (ex - ey - (sN:Int)+(j:Int)))):=((((Only.refl _ wr).set 0 _).set 1 _).set 2 _).set 3 _
       obtain ⟨h0',h1',h2',h3'⟩:=Q0n r0 r1 r2 r3 (.bool (!(nx == ny))) (.bool false) (.slice (some ⟨b,o,none⟩) (dgs x).length cp) (.int .i64 (ex - ey - (sN:Int)+(j:Int)))
       have hb:Below w.heap.size w ((((wr.setCell ⟨w.heap.size+1+1,0,none⟩ (.bool (!(nx == ny)))).setCell ⟨w.heap.size+1+1,1,none⟩ (.bool false)).setCell ⟨w.heap.size+1+1,2,none⟩ (.slice (some ⟨b,o,none⟩) (dgs x).length cp)).setCell ⟨w.heap.size+1+1,3,none⟩ (.int .i64 (ex - ey - (sN:Int)+(j:Int)))) :=
        ((((Qd HBA.out HBw.out).setCell (by simp only;omega) _).setCell (by simp only;omega) _).setCell (by simp only;omega) _).setCell (by simp only;omega) _
       exact bodyPost_ret (v:=.agg #[.bool (!(nx == ny)),.bool false,.slice (some ⟨b,o,none⟩) (dgs x).length cp,.int .i64 (ex - ey - (sN:Int)+(j:Int))]) (by simp [results,Tryz.results124,go_sem,h0',h1',h2',h3']) rfl ⟨_,rfl,⟨_,by rw [HV.out.1];rfl,by rw [HV.out.2];exact HD.out.keep G9.out (by rfl) o4⟩,hb⟩
  ·rw [decide_eq_false hr]
   obtain ⟨hE,hC⟩:=HRes2.out.1 hr
   have HEC:=Lh (And.intro hE hC)
   clear hr hE hC HRes2
   go_wp2_with fail
   have HO10:Hid (∀ w2,Calls Tryz.prog 22 #[.int .i64 10] w2 fun r w'=>∃ v',r=.returned v'∧NumV w' v' false 10∧Below w2.heap.size w2 w'):=Lh (fun w2=>Q2V 10 (by decide) w2)
   have HO1:Hid (∀ w2,Calls Tryz.prog 22 #[.int .i64 1] w2 fun r w'=>∃ v',r=.returned v'∧NumV w' v' false 1∧Below w2.heap.size w2 w'):=Lh (fun w2=>Q2V 1 (by decide) w2)
   have HS:Hid (∀ w2,Below wA.heap.size wA w2→w2.heap[gA]?=some (.cells #[.bool false,.slice p1 (dgs Q).length c1] 37 (0,0))→(w2.cell? ⟨w.heap.size,0,none⟩=some (.bool nx)∧w2.cell? ⟨w.heap.size,1,none⟩=some (.bool false)∧w2.cell? ⟨w.heap.size,2,none⟩=some (.slice pa la ca)∧w2.cell? ⟨w.heap.size,3,none⟩=some (.int .i64 ex)∧w2.cell? ⟨w.heap.size+1,0,none⟩=some (.bool ny)∧w2.cell? ⟨w.heap.size+1,1,none⟩=some (.bool false)∧w2.cell? ⟨w.heap.size+1,2,none⟩=some (.slice pb lb cb)∧w2.cell? ⟨w.heap.size+1,3,none⟩=some (.int .i64 ey))∧w2.cell? ⟨gA,0,none⟩=some (.bool false)∧w2.cell? ⟨gA,1,none⟩=some (.slice p1 (dgs Q).length c1)):=Lh (fun w2 h g=>⟨HC.out _ h,Qa9 g 0 rfl,Qa9 g 1 rfl⟩)
   refine AH.start (fun x=>(x.cell? ⟨w.heap.size,0,none⟩=some (.bool nx)∧x.cell? ⟨w.heap.size,1,none⟩=some (.bool false)∧x.cell? ⟨w.heap.size,2,none⟩=some (.slice pa la ca)∧x.cell? ⟨w.heap.size,3,none⟩=some (.int .i64 ex)∧x.cell? ⟨w.heap.size+1,0,none⟩=some (.bool ny)∧x.cell? ⟨w.heap.size+1,1,none⟩=some (.bool false)∧x.cell? ⟨w.heap.size+1,2,none⟩=some (.slice pb lb cb)∧x.cell? ⟨w.heap.size+1,3,none⟩=some (.int .i64 ey))∧x.cell? ⟨gA,0,none⟩=some (.bool false)∧x.cell? ⟨gA,1,none⟩=some (.slice p1 (dgs Q).length c1)) (by kernel_rfl) ?_
   have hd:Below w4.heap.size w4 w4.drew:=(Below.refl _ _).drew
   replace GA4:=Lh (Qb GA4.out hd);replace N4:=Lh (N4.out.later hd);replace HB4:=Lh (Qd HB4.out hd)
   clear hd a0 a1 x0 x1 x2 x3 y0 y1 y2 y3
   generalize w4.drew=wq at GA4 N4 HB4 ⊢
   have s0:=HS.out _ HB4.out GA4.out
   refine AH.z 0 s0 ?_
   refine AH.z 1 s0 ?_
   refine AH.z 2 s0 ?_
   refine AH.z 3 s0 ?_
   refine AH.z 4 s0 ?_
   refine AH.z 5 s0 ?_
   refine AH.z 10 s0 ?_
   refine AH.z 11 s0 ?_
   clear s0
   refine AH.o 6 (fun K hK=>?_)
   go_simp
   refine (HO10.out wq).mono ?_
   rintro r wa ⟨v1,rfl,hN,hB⟩
   have GAa:=Lh (Qb GA4.out hB);have Na:=Lh (N4.out.later hB);have HBa:=Lh (Qd HB4.out hB);have Va:=Lh hN
   refine hK _ _ (HS.out _ HBa.out GAa.out) ?_
   clear hK K hN hB GA4 N4 HB4
   try simp only [Act.put,Zp_]
   refine AH.o 7 (fun K hK=>?_)
   go_simp
   refine (Qak Na.out Va.out (Nat.le_trans HQl.out (by decide)) (by rw [show (10:Nat)=10^1 from rfl,Q2E];simp)).mono ?_
   rintro r wb ⟨p3,l3,c3,rfl,hN,hB⟩
   have GAb:=Lh (Qb GAa.out hB);have HBb:=Lh (Qd HBa.out hB);have Nb:=Lh hN
   refine hK _ _ (HS.out _ HBb.out GAb.out) ?_
   clear hK K hN hB GAa Na HBa Va
   try simp only [Act.put,Zp_]
   refine AH.o 8 (fun K hK=>?_)
   go_simp
   refine (HO1.out wb).mono ?_
   rintro r wc ⟨v2,rfl,hN,hB⟩
   have GAc:=Lh (Qb GAb.out hB);have HBc:=Lh (Qd HBb.out hB);have Nc:=Lh (Nb.out.later hB);have Vc:=Lh hN
   refine hK _ _ (HS.out _ HBc.out GAc.out) ?_
   clear hK K hN hB GAb HBb Nb
   try simp only [Act.put,Zp_]
   refine AH.o 9 (fun K hK=>?_)
   go_simp
   refine (Q4K Nc.out Vc.out (by rw [show Q*10=Q*10^1 from rfl];exact Nat.le_trans (HQ1.out) (by decide)) (by rw [Qw _ (by decide),Qj (by decide)];decide)).mono ?_
   rintro r wd ⟨v3,rfl,⟨s3,rfl,hN⟩,hB⟩
   have GAd:=Lh (Qb GAc.out hB);have HBd:=Lh (Qd HBc.out hB);have Dd:=Lh hN
   obtain ⟨p4,c4,rfl,_⟩:=hN
   refine hK _ _ (HS.out _ HBd.out GAd.out) ?_
   clear hK K hB GAc HBc Nc Vc
   try simp only [Act.put,Zp_]
   have s0:=HS.out _ HBd.out GAd.out
   refine AH.z 12 s0 ?_
   have G9:=Lh (Qb G3.out HBd.out)
   have r0:=Qa9 G9.out 0 rfl;have r1:=Qa9 G9.out 1 rfl;have r2:=Qa9 G9.out 2 rfl;have r3:=Qa9 G9.out 3 rfl
   have fg:=(Qe G9.out).2
   have f0:=fg 0;have f1:=fg 1;have f2:=fg 2;have f3:=fg 3
   clear fg
   generalize hL4:(dgs (Q*10+1)).length=L4 at *
   have hsz:=HSz.out
   have hlg:=HLA.out
   have o4:Only (w.heap.size+1+1) wd ((((wd.setCell ⟨w.heap.size+1+1,0,none⟩ (.bool (!(nx == ny)))).setCell ⟨w.heap.size+1+1,1,none⟩ (.bool false)).setCell ⟨w.heap.size+1+1,2,none⟩ (.slice p4 L4 c4)).setCell ⟨w.heap.size+1+1,3,none⟩ (.int .i64 (ex - ey - (sN:Int) - 1))):=((((Only.refl _ wd).set 0 _).set 1 _).set 2 _).set 3 _
   have HO4:=Lh o4
   refine AH.o 13 (fun K hK=>?_)
   go_simp
   refine hK _ _ (by
    obtain ⟨⟨t0,t1,t2,t3,t4,t5,t6,t7⟩,t8,t9⟩:=s0
    have f0:=fun i=>World.cell?_of_block (w:=wd) (a:=⟨w.heap.size,i,none⟩) (o4.1 w.heap.size (by omega))
    have f1:=fun i=>World.cell?_of_block (w:=wd) (a:=⟨w.heap.size+1,i,none⟩) (o4.1 (w.heap.size+1) (by omega))
    have f2:=fun i=>World.cell?_of_block (w:=wd) (a:=⟨gA,i,none⟩) (o4.1 gA (by omega))
    exact ⟨⟨(f0 0).trans t0,(f0 1).trans t1,(f0 2).trans t2,(f0 3).trans t3,(f1 0).trans t4,(f1 1).trans t5,(f1 2).trans t6,(f1 3).trans t7⟩,(f2 0).trans t8,(f2 1).trans t9⟩) ?_
   clear hK K s0
   try simp only [Act.put,Zp_]
   refine AH.done (by kernel_rfl) ?_
   go_wp2_with fail
   obtain ⟨h0',h1',h2',h3'⟩:=Q0n r0 r1 r2 r3 (.bool (!(nx == ny))) (.bool false) (.slice p4 L4 c4) (.int .i64 (ex - ey - (sN:Int) - 1))
   have hb:Below w.heap.size w ((((wd.setCell ⟨w.heap.size+1+1,0,none⟩ (.bool (!(nx == ny)))).setCell ⟨w.heap.size+1+1,1,none⟩ (.bool false)).setCell ⟨w.heap.size+1+1,2,none⟩ (.slice p4 L4 c4)).setCell ⟨w.heap.size+1+1,3,none⟩ (.int .i64 (ex - ey - (sN:Int) - 1))) :=
    ((((Qd HBA.out HBd.out).setCell (by simp only;omega) _).setCell (by simp only;omega) _).setCell (by simp only;omega) _).setCell (by simp only;omega) _
   exact bodyPost_ret (v:=.agg #[.bool (!(nx == ny)),.bool false,.slice p4 L4 c4,.int .i64 (ex - ey - (sN:Int) - 1)]) (by simp [results,Tryz.results124,go_sem,h0',h1',h2',h3']) rfl ⟨_,rfl,⟨_,by rw [HEC.out.1];rfl,by rw [HEC.out.2];exact Dd.out.keep G9.out (by rfl) HO4.out⟩,hb⟩
end Go.Proofs.YtpebcmfpehdafaaGreatDoor
