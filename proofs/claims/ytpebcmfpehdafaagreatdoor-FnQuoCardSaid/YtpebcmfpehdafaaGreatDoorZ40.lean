/- a part of the proof -/
import Derived.Test.YtpebcmfpehdafaaGreatDoorZ29
import Derived.Test.YtpebcmfpehdafaaGreatDoorZ34
import Derived.Test.YtpebcmfpehdafaaGreatDoorZ36
import Derived.Test.YtpebcmfpehdafaaGreatDoorZ38
import Derived.Test.YtpebcmfpehdafaaGreatDoorZ39
set_option linter.all false
set_option maxRecDepth 100000
set_option maxHeartbeats 16000000
namespace Go.Proofs.YtpebcmfpehdafaaGreatDoor
open Go Go.RowKit
theorem Qa6:ndg 3=1:=Qj (by decide)
theorem Q9Y:ndg 333=3:=by rw [QT (by decide),QT (by decide),Qj (by decide)]
theorem Qa7:decS 3=⟨#[51]⟩:=by unfold decS decB;rw [Qa6];decide
theorem Q9C:decS 333=⟨#[51,51,51]⟩:=by unfold decS decB;rw [Q9Y];decide
theorem Q1u (d:UInt8)(h:48≤d.toNat∧d.toNat≤57):Digs ⟨#[d]⟩ :=
 ⟨by show 0<1;decide,by show 1≤100;decide,fun k hk=>by
  have:k=0:=by have:k<1:=hk;omega
  subst this;exact h⟩
theorem Q8D {w:World}(hW:GW w){Tv:TypeId}{av:Value}(hE:EOFv w Tv av) :
  Calls Tryz.prog 17 #[.int .i64 0,CV 5 500 (-500) 0 2,DV 0 false 0 ⟨#[49]⟩,DV 0 false 0 ⟨#[50]⟩,.int .i64 0] w fun r w'=>r=.returned (.tuple #[DV 0 false 0 ⟨#[51]⟩,.int .u32 0,.bool false])∧Below w.heap.size w w':=by
 have h:=Q9E (w:=w) 0 0 5 500 (-500) 0 2 0 false 0 ⟨#[49]⟩ 0 false 0 ⟨#[50]⟩ 0 false 0 3 0 (badK 0 (0 % 4096)) (fun σ w1 bC bX bY bA bO bD bK bF h B=>Q8s hW h hE 0 5 2 0 500 (-500) (by decide) (by decide) (by decide) 0 0 0 (by decide) (by decide) false false 0 0 ⟨#[49]⟩ ⟨#[50]⟩ (Q1u 49 (by decide)) (Q1u 50 (by decide)) (by decide) B 0 false 0 3 0 (by decide) (by unfold BB;decide) (by decide)
  (.inl ⟨rfl,fun τ w1 bk bz bx bu f' n' e' c' h hk hb hx hu hn=>by
   have q:=Q5L (c:=1) (c':=2) hW h hk (by decide) hb hx hu (hn.2 rfl).2.1 (hn.2 rfl).2.2 (by unfold BB;decide) (by unfold BB;decide) ⟨0,false,0,3,0⟩ (by decide) (fun w2 q2=>(QbK (c:=3) hW q2 (Q1 _ _ _) (hk.upd hb _) ⟨by decide,by unfold BB;decide⟩ (by decide) (by decide) (by rw [Qa6];decide) (by rw [Qa6];decide) (by rw [Qa6];decide)).mono fun r w' ⟨a,q⟩=>⟨a,q.upd2⟩)
   exact q⟩))
 rw [Qa7] at h
 exact h
theorem QbL:quoF 3 500 2 false 0 0 1 3=⟨0,false,-3,333,80⟩∧quoE 3 0 0 1 3 = -3:=by
 have n1:ndg 1=1:=Qj (by decide)
 have n3:ndg 333=3:=by rw [QT (by decide),QT (by decide),Qj (by decide)]
 have hA:qD0 1 3=1:=by unfold qD0;rw [n1,Qa6]
 have hV:qV 1 3=3:=by unfold qV;rw [n1,Qa6]
 have hL:qLs 1 3=1:=by unfold qLs;rw [hA,hV];rfl
 have hD:qD 3 1 3=1000:=by unfold qD;rw [hA,hL]
 have hC:quoC 3 2 false 1 3=333:=by unfold quoC;rw [hD,hV];decide
 have hK:quoK 3 1 3=80:=by unfold quoK;rw [hD,hV];rfl
 have hE:quoE 3 0 0 1 3 = -3:=by unfold quoE;rw [hL,n1,Qa6];rfl
 refine ⟨?_,hE⟩
 unfold quoF
 rw [hE,hC,hK,n3]
 rfl
theorem Q8E {w:World}(hW:GW w){Tv:TypeId}{av:Value}(hE:EOFv w Tv av) :
  Calls Tryz.prog 17 #[.int .i64 3,CV 3 500 (-500) 0 2,DV 0 false 0 ⟨#[49]⟩,DV 0 false 0 ⟨#[51]⟩,.int .i64 0] w fun r w'=>r=.returned (.tuple #[DV 0 false (-3) ⟨#[51,51,51]⟩,.int .u32 80,.bool false])∧Below w.heap.size w w':=by
 have h:=Q9E (w:=w) 3 0 3 500 (-500) 0 2 0 false 0 ⟨#[49]⟩ 0 false 0 ⟨#[51]⟩ 0 false (-3) 333 80 (badK 80 (0 % 4096)) (fun σ w1 bC bX bY bA bO bD bK bF h B=>Q8s hW h hE 3 3 2 0 500 (-500) (by decide) (by decide) (by decide) 0 0 0 (by decide) (by decide) false false 0 0 ⟨#[49]⟩ ⟨#[51]⟩ (Q1u 49 (by decide)) (Q1u 51 (by decide)) (by decide) B 0 false (-3) 333 80 (by decide) (by unfold BB;decide) (by decide)
  (.inr (.inl ⟨rfl,fun τ w1 bk bz bx bu f' n' e' c' h hk hb hx hu hn =>
   by
   have q:=Qbf (n1:=false) (n2:=false) (e1:=0) (e2:=0) (c1:=1) (c2:=3) hW h hk (by decide) (by decide) hb hx hu (by decide) (by decide) (by decide) (by decide) (by rw [QbL.2];decide)
   rw [show (false != false)=false from rfl,QbL.1] at q
   exact q⟩)))
 rw [Q9C] at h
 exact h
theorem Q8F {w:World}(hW:GW w){Tv:TypeId}{av:Value}(hE:EOFv w Tv av):Calls Tryz.prog 9 #[] w fun r w'=>r=.returned (.bool true)∧Below w.heap.size w w':=by
 have HP5:Hid (∀ w2,Calls Tryz.prog 18 #[.int .u32 5] w2 fun r w'=>r=.returned (.agg #[.int .u32 5,.int .i32 500,.int .i32 (-500),.int .u32 0,.int .i64 2])∧Below w2.heap.size w2 w'):=Lh (fun w2=>Q17 5 w2)
 have HP3:Hid (∀ w2,Calls Tryz.prog 18 #[.int .u32 3] w2 fun r w'=>r=.returned (.agg #[.int .u32 3,.int .i32 500,.int .i32 (-500),.int .u32 0,.int .i64 2])∧Below w2.heap.size w2 w'):=Lh (fun w2=>Q17 3 w2)
 have HA:Hid (∀ w2,Below w.heap.size w w2→Calls Tryz.prog 17 #[.int .i64 0,.agg #[.int .u32 5,.int .i32 500,.int .i32 (-500),.int .u32 0,.int .i64 2],.agg #[.int .i64 0,.bool false,.int .i32 0,.string ⟨#[49]⟩],.agg #[.int .i64 0,.bool false,.int .i32 0,.string ⟨#[50]⟩],.int .i64 0] w2 fun r w'=>r=.returned (.tuple #[.agg #[.int .i64 0,.bool false,.int .i32 0,.string ⟨#[51]⟩],.int .u32 0,.bool false])∧Below w2.heap.size w2 w'):=Lh (fun w2 h=>Q8D (hW.later h) (hE.next h))
 have HQ:Hid (∀ w2,Below w.heap.size w w2→Calls Tryz.prog 17 #[.int .i64 3,.agg #[.int .u32 3,.int .i32 500,.int .i32 (-500),.int .u32 0,.int .i64 2],.agg #[.int .i64 0,.bool false,.int .i32 0,.string ⟨#[49]⟩],.agg #[.int .i64 0,.bool false,.int .i32 0,.string ⟨#[51]⟩],.int .i64 0] w2 fun r w'=>r=.returned (.tuple #[.agg #[.int .i64 0,.bool false,.int .i32 (-3),.string ⟨#[51,51,51]⟩],.int .u32 80,.bool false])∧Below w2.heap.size w2 w'):=Lh (fun w2 h=>Q8E (hW.later h) (hE.next h))
 have e1:∀ w2:World,(binOp .eql 9 (.string ⟨#[51]⟩) (.string ⟨#[51]⟩)).run Tryz.prog w2=.ok (.bool true) w2:=fun _=>by kernel_rfl
 have e2:∀ w2:World,(binOp .eql 26 (.agg #[.int .i64 0,.bool false,.int .i32 (-3),.string ⟨#[51,51,51]⟩]) (.agg #[.int .i64 0,.bool false,.int .i32 (-3),.string ⟨#[51,51,51]⟩])).run Tryz.prog w2=.ok (.bool true) w2:=fun _=>by kernel_rfl
 clear hW hE
 go_enter Tryz.func9, Tryz.ntmps9
 go_wp2_with fail
 refine (HP5.out _).mono ?_
 rintro r w1 ⟨rfl,hB⟩
 have HB1:=Lh hB
 clear hB
 go_wp2_with fail
 refine (HA.out _ HB1.out).mono ?_
 rintro r w2 ⟨rfl,hB⟩
 have HB2:=Lh (Qd HB1.out hB)
 clear hB HB1
 go_wp2_with fail
 obtain ⟨w3,hw3⟩:∃ w3,w3=w2.alloc (.cells #[.int .i64 0,.bool false,.int .i32 0,.string ⟨#[51]⟩] 26):=⟨_,rfl⟩
 have HG:Hid (w3.heap[w2.heap.size]?=some (.cells #[.int .i64 0,.bool false,.int .i32 0,.string ⟨#[51]⟩] 26 (0,0))):=Lh (by rw [hw3];exact gal _ _)
 have HB3:Hid (Below w.heap.size w w3):=Lh (by rw [hw3];exact bal HB2.out _)
 rw [← hw3]
 clear hw3 HB2
 generalize w2.heap.size=bd at HG ⊢
 refine (HP3.out _).mono ?_
 rintro r w4 ⟨rfl,hB⟩
 have HG4:=Lh (Qb HG.out hB);have HB4:=Lh (Qd HB3.out hB)
 clear hB HG HB3
 go_wp2_with fail
 refine (HQ.out _ HB4.out).mono ?_
 rintro r w5 ⟨rfl,hB⟩
 have HG5:=Lh (Qb HG4.out hB);have HB5:=Lh (Qd HB4.out hB)
 clear hB HG4 HB4
 go_upto_region 3 with (fail)
 obtain ⟨w6,hw6⟩:∃ w6,w6=w5.alloc (.cells #[.int .i64 0,.bool false,.int .i32 (-3),.string ⟨#[51,51,51]⟩] 26):=⟨_,rfl⟩
 have HH:Hid (w6.heap[w5.heap.size]?=some (.cells #[.int .i64 0,.bool false,.int .i32 (-3),.string ⟨#[51,51,51]⟩] 26 (0,0))):=Lh (by rw [hw6];exact gal _ _)
 have HG6:Hid (w6.heap[bd]?=some (.cells #[.int .i64 0,.bool false,.int .i32 0,.string ⟨#[51]⟩] 26 (0,0))):=Lh (by rw [hw6];exact Qb HG5.out (Qm _ _))
 have HB6:Hid (Below w.heap.size w w6):=Lh (by rw [hw6];exact bal HB5.out _)
 rw [← hw6]
 clear hw6 HB5 HG5
 generalize w5.heap.size=bq at HH ⊢
 have d3:w6.cell? ⟨bd,3,none⟩=some (.string ⟨#[51]⟩):=Qc HG6.out 3 rfl
 have q0:w6.cell? ⟨bq,0,none⟩=some (.int .i64 0):=Qc HH.out 0 rfl
 have q1:w6.cell? ⟨bq,1,none⟩=some (.bool false):=Qc HH.out 1 rfl
 have q2:w6.cell? ⟨bq,2,none⟩=some (.int .i32 (-3)):=Qc HH.out 2 rfl
 have q3:w6.cell? ⟨bq,3,none⟩=some (.string ⟨#[51,51,51]⟩):=Qc HH.out 3 rfl
 go_wp2_with fail
 go_ret
 exact ⟨rfl,HB6.out⟩
theorem QbE {w:World}(hW:GW w){Tv:TypeId}{av:Value}(hE:EOFv w Tv av)(op:Int){al al':Nat}(hoc:((op == 11)=false∧(op == 12)=false∧al'=al)∨((op == 11)=true∧al'=0)∨((op == 11)=false∧(op == 12)=true∧al'=0))(p md tr:Nat)(mx mn:Int)(htr:tr<4294967296)(f fy:Nat)(n ny:Bool)(e ey:Int)(s sy:ByteArray)(A:Value)
  (HAr:∀ w2,Calls Tryz.prog 33 #[.int .i64 op,CV p mx mn tr md,DV f n e s,DV fy ny ey sy] w2 fun r w'=>r=.returned A∧Below w2.heap.size w2 w')
  (hA:(∃ f' n' e' s' k' v' o',A=RsV f' n' e' s' k' false v' o')∨∃ (D:DR) (k:Nat),(∃ f' n' e' s' k' v' o',A=RsV f' n' e' s' k' true v' o')∧k<4096∧(∀ w2,Below w.heap.size w w2→Calls Tryz.prog 17 #[.int .i64 op,CV p mx mn tr md,DV f n e s,DV fy ny ey sy,.int .i64 (al':Int)] w2 fun r w'=>r=.returned (.tuple #[DV D.f D.n D.e (decS D.c),.int .u32 (k:Int),.bool (decide (k &&& tr≠0))])∧Below w2.heap.size w2 w') ∧
   ∀ w2,Calls Tryz.prog 34 #[CV p mx mn tr md,A,DV D.f D.n D.e (decS D.c),.int .u32 (k:Int)] w2 fun r w'=>r=.returned (.bool true)∧Below w2.heap.size w2 w') :
  Calls Tryz.prog 14 #[.int .i64 op,CV p mx mn tr md,DV f n e s,DV fy ny ey sy,.int .i64 (al:Int)] w fun r w'=>r=.returned (.bool true)∧Below w.heap.size w w':=by
 have HS:=Lh (BS.start w #[.int .u32 (p:Int),.int .i32 mx,.int .i32 mn,.int .u32 (tr:Int),.int .i64 (md:Int)] #[.int .i64 (f:Int),.bool n,.int .i32 e,.string s] #[.int .i64 (fy:Int),.bool ny,.int .i32 ey,.string sy])
 have HAl:Hid (∀ w2,Below w.heap.size w w2→Calls Tryz.prog 9 #[] w2 fun r w'=>r=.returned (.bool true)∧Below w2.heap.size w2 w'):=Lh (fun w2 h=>Q8F (hW.later h) (hE.next h))
 obtain ⟨wA,hwA⟩:∃ wA,wA=((w.alloc (.cells #[.int .u32 (p:Int),.int .i32 mx,.int .i32 mn,.int .u32 (tr:Int),.int .i64 (md:Int)] 24)).alloc (.cells #[.int .i64 (f:Int),.bool n,.int .i32 e,.string s] 26)).alloc (.cells #[.int .i64 (fy:Int),.bool ny,.int .i32 ey,.string sy] 26):=⟨_,rfl⟩
 rw [← hwA] at HS
 have HARo:=Lh HAr
 have HAo:=Lh hA
 clear HAr hA hW hE
 unfold CV DV at HARo HAo
 unfold CV DV
 have c0:=Qc HS.out.cb 0 rfl;have c1:=Qc HS.out.cb 1 rfl;have c2:=Qc HS.out.cb 2 rfl;have c3:=Qc HS.out.cb 3 rfl;have c4:=Qc HS.out.cb 4 rfl
 have x0:=Qc HS.out.xb 0 rfl;have x1:=Qc HS.out.xb 1 rfl;have x2:=Qc HS.out.xb 2 rfl;have x3:=Qc HS.out.xb 3 rfl
 have y0:=Qc HS.out.yb 0 rfl;have y1:=Qc HS.out.yb 1 rfl;have y2:=Qc HS.out.yb 2 rfl;have y3:=Qc HS.out.yb 3 rfl
 go_enter Tryz.func14, Tryz.ntmps14
 go_upto_region 1 with (fail)
 rw [← hwA]
 clear hwA
 go_wp2_with fail
 refine (HARo.out _).mono ?_
 rintro r w1 ⟨rfl,hB⟩
 have HS1:=Lh (HS.out.later hB)
 clear hB c0 c1 c2 c3 c4 x0 x1 x2 x3 y0 y1 y2 y3
 rcases HAo.out with ⟨f',n',e',s',k',v',o',hA⟩ | ⟨D,k,⟨f',n',e',s',k',v',o',hA⟩,hk,hDo,hSm⟩
 ·unfold RsV at hA
  subst hA
  clear HAo HARo
  go_upto_region 2 with (fail)
  obtain ⟨w2,hw2⟩:∃ w2,w2=w1.alloc (.cells #[.int .i64 f',.bool n',.int .i32 e',.string s',.int .u32 (k':Int),.bool false,.bool v',.bool o'] 33):=⟨_,rfl⟩
  have hr:w2.heap[w1.heap.size]?=some (.cells #[.int .i64 f',.bool n',.int .i32 e',.string s',.int .u32 (k':Int),.bool false,.bool v',.bool o'] 33 (0,0)):=by rw [hw2];exact gal _ _
  have HB2:Hid (Below w.heap.size w w2):=Lh (by rw [hw2];exact bal HS1.out.bw _)
  have r5:w2.cell? ⟨w1.heap.size,5,none⟩=some (.bool false):=Qc hr 5 rfl
  rw [← hw2]
  clear hw2 hr
  go_wp2_with fail
  refine (HAl.out _ HB2.out).mono ?_
  rintro r w3 ⟨rfl,hB⟩
  have HB3:=Lh (Qd HB2.out hB)
  clear hB r5
  go_wp2_with fail
  go_ret
  exact ⟨rfl,HB3.out⟩
 ·unfold RsV at hA
  subst hA
  have HDo:=Lh hDo;have HSm:=Lh hSm;have HK:=Lh hk
  clear HAo HARo hDo hSm hk
  generalize decS D.c=ds at HDo HSm
  generalize D.f=df at HDo HSm
  generalize D.n=dn at HDo HSm
  generalize D.e=de at HDo HSm
  go_upto_region 2 with (fail)
  obtain ⟨w2,hw2⟩:∃ w2,w2=w1.alloc (.cells #[.int .i64 f',.bool n',.int .i32 e',.string s',.int .u32 (k':Int),.bool true,.bool v',.bool o'] 33):=⟨_,rfl⟩
  have hr:w2.heap[w1.heap.size]?=some (.cells #[.int .i64 f',.bool n',.int .i32 e',.string s',.int .u32 (k':Int),.bool true,.bool v',.bool o'] 33 (0,0)):=by rw [hw2];exact gal _ _
  have HR2:=Lh hr
  have HS2:Hid (BS w _ _ _ w2):=Lh (by rw [hw2];exact HS1.out.later (Qm _ _))
  have r5:w2.cell? ⟨w1.heap.size,5,none⟩=some (.bool true):=Qc hr 5 rfl
  rw [← hw2]
  clear hw2 hr HS1
  generalize w1.heap.size=br at HR2 r5 ⊢
  have c0:=Qc HS2.out.cb 0 rfl;have c1:=Qc HS2.out.cb 1 rfl;have c2:=Qc HS2.out.cb 2 rfl;have c3:=Qc HS2.out.cb 3 rfl;have c4:=Qc HS2.out.cb 4 rfl
  have x0:=Qc HS2.out.xb 0 rfl;have x1:=Qc HS2.out.xb 1 rfl;have x2:=Qc HS2.out.xb 2 rfl;have x3:=Qc HS2.out.xb 3 rfl
  have y0:=Qc HS2.out.yb 0 rfl;have y1:=Qc HS2.out.yb 1 rfl;have y2:=Qc HS2.out.yb 2 rfl;have y3:=Qc HS2.out.yb 3 rfl
  rcases hoc with ⟨o11,o12,rfl⟩ | ⟨o11,rfl⟩ | ⟨o11,o12,rfl⟩
  all_goals
   go_wp2_with fail
   refine (HDo.out _ HS2.out.bw).mono ?_
   rintro r w3 ⟨rfl,hB⟩
   have HR3:=Lh (Qb HR2.out hB)
   have HS3:=Lh (HS2.out.later hB)
   clear hB c0 c1 c2 c3 c4 x0 x1 x2 x3 y0 y1 y2 y3 r5 HR2 HS2
   go_upto_region 7 with (fail)
   obtain ⟨w4,hw4⟩:∃ w4,w4=w3.alloc (.cells #[.int .i64 df,.bool dn,.int .i32 de,.string ds] 26):=⟨_,rfl⟩
   have HD4:Hid (w4.heap[w3.heap.size]?=some (.cells #[.int .i64 df,.bool dn,.int .i32 de,.string ds] 26 (0,0))):=Lh (by rw [hw4];exact gal _ _)
   have HR4:Hid (w4.heap[br]?=some (.cells #[.int .i64 f',.bool n',.int .i32 e',.string s',.int .u32 (k':Int),.bool true,.bool v',.bool o'] 33 (0,0))):=Lh (by rw [hw4];exact Qb HR3.out (Qm _ _))
   have HS4:Hid (BS w _ _ _ w4):=Lh (by rw [hw4];exact HS3.out.later (Qm _ _))
   rw [← hw4]
   clear hw4 HR3 HS3
   generalize w3.heap.size=bd at HD4 ⊢
   go_wp2_with fail
   refine (HAl.out _ HS4.out.bw).mono ?_
   rintro r w5 ⟨rfl,hB⟩
   have HR5:=Lh (Qb HR4.out hB)
   have HD5:=Lh (Qb HD4.out hB)
   have HS5:=Lh (HS4.out.later hB)
   clear hB HR4 HD4 HS4
   have c0:=Qc HS5.out.cb 0 rfl;have c1:=Qc HS5.out.cb 1 rfl;have c2:=Qc HS5.out.cb 2 rfl;have c3:=Qc HS5.out.cb 3 rfl;have c4:=Qc HS5.out.cb 4 rfl
   have r0:=Qc HR5.out 0 rfl;have r1:=Qc HR5.out 1 rfl;have r2:=Qc HR5.out 2 rfl;have r3:=Qc HR5.out 3 rfl;have r4:=Qc HR5.out 4 rfl;have r5:=Qc HR5.out 5 rfl;have r6:=Qc HR5.out 6 rfl;have r7:=Qc HR5.out 7 rfl
   have d0:=Qc HD5.out 0 rfl;have d1:=Qc HD5.out 1 rfl;have d2:=Qc HD5.out 2 rfl;have d3:=Qc HD5.out 3 rfl
   go_wp2_with fail
   refine (HSm.out _).mono ?_
   rintro r w6 ⟨rfl,hB⟩
   have HS6:=Lh (HS5.out.later hB)
   clear hB HR5 HD5 HS5 c0 c1 c2 c3 c4 r0 r1 r2 r3 r4 r5 r6 r7 d0 d1 d2 d3
   have c3:=Qc HS6.out.cb 3 rfl
   have hA:bits .and .u32 (k:Int) (tr:Int)=((k &&& tr:Nat):Int):=u32_and_nat k tr (by have:=HK.out;omega) (by omega)
   generalize k &&& tr=z at hA ⊢
   by_cases hz:z=0
   ·subst hz
    go_wp2_with fail
    go_ret
    exact ⟨rfl,HS6.out.bw⟩
   ·have hz1:((z:Int) == 0)=false:=by simp;omega
    have hz2:((z:Int) != 0)=true:=by simp;omega
    have hz3:((z:Int)=0)=False:=by simp;omega
    go_wp2_with fail
    go_ret
    exact ⟨rfl,HS6.out.bw⟩
theorem ArOk.other {E f e:Int}{s:ByteArray}(h:ArOk E f e s)(hf:f≠0):vl (sdL s 0)=0∧e=0:=by
 unfold ArOk at h
 rw [if_neg hf] at h
 exact ⟨(Q5J h.2.2.2).2.2,h.2.2.1⟩
theorem QaO {p:Nat}{mx mn:Int}{md:Nat}{n:Bool}{e:Int}{c:Nat}(h:(finS p mx mn md n e c).over=true):(finS p mx mn md n e c).d.k=4:=by
 revert h
 unfold finS endS srNo
 (repeat' split) <;> intro h <;> first | rfl | cases h
theorem Qaz (p:Nat)(mx:Int)(md:Nat)(n:Bool)(ex ey:Int)(cx cy:Nat):(quoF p mx md n ex ey cx cy).n=n∧(quoF p mx md n ex ey cx cy).e=quoE p ex ey cx cy∧(quoF p mx md n ex ey cx cy).c=quoC p md n cx cy∧(quoF p mx md n ex ey cx cy).k<4096∧(quoF p mx md n ex ey cx cy).k &&& 3=0∧∃ rf:Nat,rf<4∧(quoF p mx md n ex ey cx cy).f=(rf:Int):=by
 have hkk:quoK p cx cy=0∨quoK p cx cy=80:=by unfold quoK;split <;> simp
 unfold quoF
 split
 ·refine ⟨rfl,rfl,rfl,?_,?_,1,by decide,rfl⟩
  ·rcases hkk with h | h <;> simp only [] <;> rw [h] <;> decide
  ·rcases hkk with h | h <;> simp only [] <;> rw [h] <;> decide
 ·refine ⟨rfl,rfl,rfl,?_,?_,0,by decide,rfl⟩
  ·rcases hkk with h | h <;> simp only [] <;> rw [h] <;> decide
  ·rcases hkk with h | h <;> simp only [] <;> rw [h] <;> decide
theorem QaY {p md:Nat}{n:Bool}{cx cy:Nat}(hp:0<p∧p≤60)(hx:0<cx)(hy:0<cy):quoC p md n cx cy<10^61:=by
 have hqd:=Qah (p:=p) hp.1 hx hy
 have h1:=Q0m (qD p cx cy / qV cx cy)
 rw [hqd] at h1
 have h2:10^p≤10^60:=Nat.pow_le_pow_right (by decide) hp.2
 have h3:10^60+1<10^61:=by decide
 unfold quoC rq
 split
 ·omega
 ·split <;> omega
theorem Qbu {w:World}(hW:GW w){Tv:TypeId}{av:Value}(hE:EOFv w Tv av)(p md tr:Nat)(mx mn:Int)(hp:p≤60)(hmx:0≤mx∧mx≤500)(hmn:mn≤0 ∧ -500≤mn)(hmd:md<8)(htr:tr<4294967296)(f fy al:Nat)(hal:al<3)(hf:f<4)(hfy:fy<4)(n ny:Bool)(e ey:Int)(s sy:ByteArray)
  (hs:Canon s∧s.size≤40) (hsy:Canon sy∧sy.size≤40) (rf:Nat) (rn:Bool) (re:Int) (rc rk:Nat) (hrf:rf<4) (hrc:rc<BB^8) (hrk:rk<4096) (hk3:rk &&& 3=0)
  (hrun:RunOp 39 (fun bk bz bx bu=>#[.pointer (some ⟨bk,0,none⟩),.pointer (some ⟨bz,0,none⟩),.pointer (some ⟨bx,0,none⟩),.pointer (some ⟨bu,0,none⟩)]) w p mx mn (tr % 4096) md al f n e (vl (sdL s 0)) fy ny ey (vl (sdL sy 0)) rf rn re rc rk) :
  Calls Tryz.prog 17 #[.int .i64 3,CV p mx mn tr md,DV f n e s,DV fy ny ey sy,.int .i64 (al:Int)] w fun r w'=>r=.returned (.tuple #[DV (rf:Int) rn re (decS rc),.int .u32 (rk:Int),.bool (decide (rk &&& tr≠0))])∧Below w.heap.size w w':=by
 rw [← Qbn _ _ hrk hk3]
 exact Q9E 3 al p mx mn tr md f n e s fy ny ey sy rf _ _ _ _ _ (fun σ w1 bC bX bY bA bO bD bK bF h B=>Q8s hW h hE 3 p md tr mx mn hmd htr (by omega) f fy al hf hfy n ny e ey s sy (hs.1.digs hs.2) (hsy.1.digs hsy.2) hal B rf _ _ _ _ hrf hrc hrk (.inr (.inl ⟨rfl,by rw [Q8t,Q8t];exact hrun⟩)))
theorem Qbv {w:World}(hW:GW w){Tv:TypeId}{av:Value}(hE:EOFv w Tv av)(p md tr:Nat)(mx mn:Int)(hp:p≤60)(hmx:0≤mx∧mx≤500)(hmn:mn≤0 ∧ -500≤mn)(hmd:md<8)(htr:tr<4294967296)(f fy al:Nat)(hal:al<3)(n ny:Bool)(e ey:Int)(s sy:ByteArray)(hx:ArOk 200 f e s)(hy:ArOk 200 fy ey sy) :
  Calls Tryz.prog 14 #[.int .i64 3,CV p mx mn tr md,DV f n e s,DV fy ny ey sy,.int .i64 (al:Int)] w fun r w'=>r=.returned (.bool true)∧Below w.heap.size w w' :=
 QbE hW hE 3 (.inl ⟨rfl,rfl,rfl⟩) p md tr mx mn htr f fy n ny e ey s sy (arQ p mx mn md s (f:Int) n e (vl (sdL s 0)) (fy:Int) ny ey (vl (sdL sy 0))) (fun w2=>Qb5 p md tr mx mn hp hmx hmn hmd (E:=200) (by decide) f n e s fy ny ey sy hx hy w2) (by
  obtain ⟨hs,h40,he1,he2,hf0,hf3⟩:=hx.canon (by decide)
  obtain ⟨hsy,h40y,hey1,hey2,hf0y,hf3y⟩:=hy.canon (by decide)
  have h0:f≠0→vl (sdL s 0)=0∧e=0:=fun h=>hx.other (by omega)
  have h0y:fy≠0→vl (sdL sy 0)=0∧ey=0:=fun h=>hy.other (by omega)
  have hv:=hs.val_lt h40
  have hvy:=hsy.val_lt h40y
  have hB8:10^40<BB^8:=by unfold BB;decide
  have hB100:10^40<BB^100:=Nat.lt_trans hB8 (Nat.pow_lt_pow_right (by unfold BB;decide) (by decide))
  have hB0:0<BB^8:=by unfold BB;decide
  have hdo:=fun w2 h2=>@Qbu w2 (hW.later h2) Tv av (hE.next h2) p md tr mx mn hp hmx hmn hmd htr f fy al hal (by omega) (by omega) n ny e ey s sy ⟨hs,h40⟩ ⟨hsy,h40y⟩
  by_cases hN:(f:Int)=2∨(f:Int)=3∨(fy:Int)=2∨(fy:Int)=3
  ·have hA:arQ p mx mn md s (f:Int) n e (vl (sdL s 0)) (fy:Int) ny ey (vl (sdL sy 0))=RsV 3 false 0 ⟨#[]⟩ (if (f:Int)=2∨(fy:Int)=2 then 1024 else 0) true false false:=by
    unfold arQ
    by_cases h2:(f:Int)=2∨(fy:Int)=2
    ·rw [if_pos h2,if_pos h2]
    ·rw [if_neg h2,if_neg h2,if_pos (by omega)]
   rw [hA]
   have hk:(if (f:Int)=2∨(fy:Int)=2 then 1024 else 0:Nat)<4096∧(if (f:Int)=2∨(fy:Int)=2 then 1024 else 0:Nat) &&& 3=0:=by split <;> decide
   refine .inr ⟨⟨((3:Nat):Int),bif nanP f fy then n else ny,bif nanP f fy then e else ey,bif nanP f fy then vl (sdL s 0) else vl (sdL sy 0),0⟩,_,⟨_,_,_,_,_,_,_,rfl⟩,hk.1,fun w2 h2=>?_,fun w2=>Qam p md tr mx mn _ _ _ _ _ _ _ w2⟩
   refine hdo w2 h2 3 _ _ _ _ (by decide) (by cases nanP f fy <;> simp only [cond_true,cond_false] <;> omega) hk.1 hk.2 ?_
   intro τ w1 bk bz bx bu f' n' e' c' h hkk hb hx hu _
   have q:=Qaj (QbC h hkk (Nat.mod_lt _ (by decide)) hb hx hu (by rw [Int.natAbs_natCast];omega) (by rw [Int.natAbs_natCast];omega) hN true)
   rw [show (bif nanP f fy then ((vl (sdL s 0):Nat):Int) else ((vl (sdL sy 0):Nat):Int))=((bif nanP f fy then vl (sdL s 0) else vl (sdL sy 0):Nat):Int) by cases nanP f fy <;> rfl] at q
   exact q
  ·have hA:arQ p mx mn md s (f:Int) n e (vl (sdL s 0)) (fy:Int) ny ey (vl (sdL sy 0))=dvQ p mx mn md (f:Int) n e s (vl (sdL s 0)) (fy:Int) ny ey (vl (sdL sy 0)):=by
    unfold arQ
    rw [if_neg (by omega),if_neg (by omega)]
   rw [hA]
   clear hA
   unfold dvQ
   by_cases hp0:p=0
   ·rw [if_pos hp0];exact .inl ⟨_,_,_,_,_,_,_,rfl⟩
   rw [if_neg hp0]
   by_cases hf1:f=1
   ·subst hf1
    rw [if_pos (show ((1:Nat):Int)=1 from rfl)]
    by_cases hg1:fy=1
    ·subst hg1
     rw [if_pos (show ((1:Nat):Int)=1 from rfl)]
     refine .inr ⟨⟨((3:Nat):Int),false,0,0,0⟩,1024,⟨_,_,_,_,_,_,_,rfl⟩,by decide,fun w2 h2=>?_,fun w2=>Qam p md tr mx mn _ _ _ _ _ _ _ w2⟩
     refine hdo w2 h2 3 _ _ _ _ (by decide) hB0 (by decide) (by decide) ?_
     intro τ w1 bk bz bx bu f' n' e' c' h hkk hb hx hu _
     exact Qaj (Qbs h hkk (Nat.mod_lt _ (by decide)) hb hx hu true)
    ·rw [if_neg (show ¬ (fy:Int)=1 by omega)]
     obtain rfl:fy=0:=by omega
     refine .inr ⟨⟨((1:Nat):Int),n != ny,0,0,0⟩,0,⟨_,_,_,_,_,_,_,rfl⟩,by decide,fun w2 h2=>?_,fun w2=>QaG p md tr mx mn _ _ _ _ _ _ w2⟩
     refine hdo w2 h2 1 _ _ _ _ (by decide) hB0 (by decide) (by decide) ?_
     intro τ w1 bk bz bx bu f' n' e' c' h hkk hb hx hu _
     exact Qaj (Qbt h hkk (Nat.mod_lt _ (by decide)) hb hx hu true)
   rw [if_neg (show ¬ (f:Int)=1 by omega)]
   obtain rfl:f=0:=by omega
   by_cases hg1:fy=1
   ·subst hg1
    rw [if_pos (show ((1:Nat):Int)=1 from rfl)]
    refine .inr ⟨⟨((0:Nat):Int),n != ny,mn - (p:Int)+1,0,0⟩,2048,⟨_,_,_,_,_,_,_,rfl⟩,by decide,fun w2 h2=>?_,fun w2=>QaF p md tr mx mn _ _ _ _ w2⟩
    refine hdo w2 h2 0 _ _ _ _ (by decide) hB0 (by decide) (by decide) ?_
    intro τ w1 bk bz bx bu f' n' e' c' h hkk hb hx hu _
    exact Qaj (Qbh h hkk (Nat.mod_lt _ (by decide)) hb hx hu)
   rw [if_neg (show ¬ (fy:Int)=1 by omega)]
   obtain rfl:fy=0:=by omega
   generalize hcx:vl (sdL s 0)=cx at hv hdo ⊢
   generalize hcy:vl (sdL sy 0)=cy at hvy hdo ⊢
   by_cases hy0:cy=0
   ·subst hy0
    rw [if_pos rfl]
    by_cases hx0:cx=0
    ·rw [if_pos hx0]
     refine .inr ⟨⟨((3:Nat):Int),false,0,0,0⟩,128,⟨_,_,_,_,_,_,_,rfl⟩,by decide,fun w2 h2=>?_,fun w2=>Qam p md tr mx mn _ _ _ _ _ _ _ w2⟩
     refine hdo w2 h2 3 _ _ _ _ (by decide) hB0 (by decide) (by decide) ?_
     intro τ w1 bk bz bx bu f' n' e' c' h hkk hb hx hu _
     exact Qaj (QbH (c2:=0) h hkk (Nat.mod_lt _ (by decide)) hb hx hu hx0 true)
    ·rw [if_neg hx0]
     refine .inr ⟨⟨((1:Nat):Int),n != ny,0,0,0⟩,256,⟨_,_,_,_,_,_,_,rfl⟩,by decide,fun w2 h2=>?_,fun w2=>QaG p md tr mx mn _ _ _ _ _ _ w2⟩
     refine hdo w2 h2 1 _ _ _ _ (by decide) hB0 (by decide) (by decide) ?_
     intro τ w1 bk bz bx bu f' n' e' c' h hkk hb hx hu _
     exact Qaj (QbI (c2:=0) h hkk (Nat.mod_lt _ (by decide)) hb hx hu hx0 true)
   rw [if_neg hy0]
   by_cases hx0:cx=0
   ·subst hx0
    rw [if_pos rfl]
    unfold finS
    rw [if_pos rfl]
    by_cases hz:e - ey<mn - (p:Int)+1∨mx<e - ey
    ·rw [if_pos hz];exact .inl ⟨_,_,_,_,_,_,_,rfl⟩
    ·rw [if_neg hz]
     refine .inr ⟨⟨((0:Nat):Int),n != ny,e - ey,0,0⟩,0,⟨_,_,_,_,_,_,_,rfl⟩,by decide,fun w2 h2=>?_,fun w2=>QaF p md tr mx mn _ _ _ _ w2⟩
     refine hdo w2 h2 0 _ _ _ _ (by decide) hB0 (by decide) (by decide) ?_
     intro τ w1 bk bz bx bu f' n' e' c' h hkk hb hx hu _
     exact Qbr (hW.later h2) h hkk (Nat.mod_lt _ (by decide)) ⟨by omega,hp⟩ hb hx hu (by omega) (by omega) (by omega) ⟨fun _=>by omega,by omega⟩
   rw [if_neg hx0]
   have hx1:0<cx:=by omega
   have hy1:0<cy:=by omega
   by_cases hk:(finS p mx mn md (n != ny) (quoS p e ey cx cy).1 (quoS p e ey cx cy).2).known=true
   ·by_cases ho:(finS p mx mn md (n != ny) (quoS p e ey cx cy).1 (quoS p e ey cx cy).2).over=true
    ·have h4:=QaO ho
     obtain ⟨l1,_,l3⟩:=QaV (p:=p) (mx:=mx) (mn:=mn) (md:=md) (n:=n != ny) (ex:=e) (ey:=ey) (by omega) hx1 hy1 hk (by rw [h4];decide)
     obtain ⟨g1,g2,g3⟩:=l3 ho
     obtain ⟨b1,b2,b3,b4,b5,rf,hrf,b6⟩:=Qaz p mx md (n != ny) e ey cx cy
     have hc61:=QaY (md:=md) (n:=n != ny) (p:=p) ⟨by omega,hp⟩ hx1 hy1
     have hA:SRVv (finS p mx mn md (n != ny) (quoS p e ey cx cy).1 (quoS p e ey cx cy).2)=RsV 1 (n != ny) 0 ⟨#[]⟩ 4 true true true:=by
      unfold SRVv;rw [if_pos hk,if_pos ho,g1]
     rw [hA]
     refine .inr ⟨quoF p mx md (n != ny) e ey cx cy,_,⟨_,_,_,_,_,_,_,rfl⟩,b4,fun w2 h2=>?_,fun w2=>by rw [g2,b1];exact QaT p md tr mx mn hmd _ _ b4 g3 _ _ w2⟩
     rw [b6]
     refine hdo w2 h2 rf _ _ _ _ hrf (by rw [b3];exact Nat.lt_trans hc61 (Qae Qbq (by decide))) b4 b5 ?_
     intro τ w1 bk bz bx bu f' n' e' c' h hkk hb hx hu _
     have q:=Qbf (hW.later h2) h hkk (Nat.mod_lt _ (by decide)) ⟨by omega,hp⟩ hb hx hu ⟨hx1,hv⟩ ⟨hy1,hvy⟩ (by omega) (by omega) l1
     unfold DR.ob at q
     rw [b6] at q
     exact q
    ·by_cases h32:(finS p mx mn md (n != ny) (quoS p e ey cx cy).1 (quoS p e ey cx cy).2).d.k &&& 32=0
     ·obtain ⟨l1,l2,_⟩:=QaV (p:=p) (mx:=mx) (mn:=mn) (md:=md) (n:=n != ny) (ex:=e) (ey:=ey) (by omega) hx1 hy1 hk h32
      obtain ⟨E,C,K,g1,g2,g3,g4,g5,g6,g7,g8⟩:=l2 (by simpa using ho)
      obtain ⟨b1,b2,b3,b4,b5,rf,hrf,b6⟩:=Qaz p mx md (n != ny) e ey cx cy
      have hc61:=QaY (md:=md) (n:=n != ny) (p:=p) ⟨by omega,hp⟩ hx1 hy1
      have hd61:=Q09 (k:=61) (by decide) hc61
      have hq : -1000≤quoE p e ey cx cy∧quoE p e ey cx cy≤1000:=by
       have h1:=Q09 (k:=40) (by decide) hv
       have h2:=Q09 (k:=40) (by decide) hvy
       have h3:=QaA cx cy
       unfold quoE;omega
      have hA:SRVv (finS p mx mn md (n != ny) (quoS p e ey cx cy).1 (quoS p e ey cx cy).2)=RsV 0 (n != ny) E (txS C) K true true false:=by
       unfold SRVv;rw [if_pos hk,if_neg ho,if_neg (not_not_intro h32),g1]
      rw [hA]
      refine .inr ⟨quoF p mx md (n != ny) e ey cx cy,_,⟨_,_,_,_,_,_,_,rfl⟩,b4,fun w2 h2=>?_,fun w2=>by rw [g2,b1,b2,b3,Qbd];exact Qbc p md tr mx mn _ _ _ _ _ _ _ g3 g4 g5 b4 (by omega) (by omega) (by omega) (by omega) w2⟩
      rw [b6]
      refine hdo w2 h2 rf _ _ _ _ hrf (by rw [b3];exact Nat.lt_trans hc61 (Qae Qbq (by decide))) b4 b5 ?_
      intro τ w1 bk bz bx bu f' n' e' c' h hkk hb hx hu _
      have q:=Qbf (hW.later h2) h hkk (Nat.mod_lt _ (by decide)) ⟨by omega,hp⟩ hb hx hu ⟨hx1,hv⟩ ⟨hy1,hvy⟩ (by omega) (by omega) l1
      unfold DR.ob at q
      rw [b6] at q
      exact q
     ·refine .inl ⟨0,false,0,⟨#[]⟩,0,false,false,?_⟩
      unfold SRVv;rw [if_pos hk,if_neg ho,if_pos h32]
   ·refine .inl ⟨0,false,0,⟨#[]⟩,0,true,false,?_⟩
    unfold SRVv;rw [if_neg hk])
theorem fn_quo {w:World}(hW:GW w){Tv:TypeId}{av:Value}(hE:EOFv w Tv av)(p mx mn tr md fx:Int)(nx:Bool)(ex:Int)(sx:ByteArray)(fy:Int)(ny:Bool)(ey:Int)(sy:ByteArray)(a:Nat)(ha:a<256)
  (hp:0≤p) (htr:0≤tr∧tr<4294967296) (hex : -2147483648≤ex∧ex≤2147483647) (hey : -2147483648≤ey∧ey≤2147483647) :
  Calls Tryz.prog 4 #[CV p mx mn tr md,DV fx nx ex sx,DV fy ny ey sy,.int .u8 (a:Int)] w fun r w'=>r=.returned (.bool true)∧Below w.heap.size w w':=by
 have HS:=Lh (BS.start w #[.int .u32 p,.int .i32 mx,.int .i32 mn,.int .u32 tr,.int .i64 md] #[.int .i64 fx,.bool nx,.int .i32 ex,.string sx] #[.int .i64 fy,.bool ny,.int .i32 ey,.string sy])
 have HAl:Hid (∀ w2,Below w.heap.size w w2→Calls Tryz.prog 9 #[] w2 fun r w'=>r=.returned (.bool true)∧Below w2.heap.size w2 w'):=Lh (fun w2 h=>Q8F (hW.later h) (hE.next h))
 have HFX:Hid (∀ w2,Calls Tryz.prog 7 #[.agg #[.int .i64 fx,.bool nx,.int .i32 ex,.string sx]] w2 (Says (sx.size≤2147483647) w2)):=Lh (fun w2=>Q8C fx nx ex sx w2)
 have HFY:Hid (∀ w2,Calls Tryz.prog 7 #[.agg #[.int .i64 fy,.bool ny,.int .i32 ey,.string sy]] w2 (Says (sy.size≤2147483647) w2)):=Lh (fun w2=>Q8C fy ny ey sy w2)
 have HO:Hid (sx.size≤2147483647→sy.size≤2147483647→∀ w2,Calls Tryz.prog 8 #[.agg #[.int .u32 p,.int .i32 mx,.int .i32 mn,.int .u32 tr,.int .i64 md],.agg #[.int .i64 fx,.bool nx,.int .i32 ex,.string sx],.agg #[.int .i64 fy,.bool ny,.int .i32 ey,.string sy]] w2 (Says (CtxOk p mx mn md∧ArOk 200 fx ex sx∧ArOk 200 fy ey sy) w2)):=Lh (fun h1 h2 w2=>Q58 p mx mn tr md fx nx ex sx fy ny ey sy hex h1 hey h2 w2)
 have HDid:Hid (CtxOk p mx mn md∧ArOk 200 fx ex sx∧ArOk 200 fy ey sy→∀ w2,Below w.heap.size w w2→Calls Tryz.prog 14 #[.int .i64 3,.agg #[.int .u32 p,.int .i32 mx,.int .i32 mn,.int .u32 tr,.int .i64 md],.agg #[.int .i64 fx,.bool nx,.int .i32 ex,.string sx],.agg #[.int .i64 fy,.bool ny,.int .i32 ey,.string sy],.int .i64 ((a % 3:Nat):Int)] w2 fun r w'=>r=.returned (.bool true)∧Below w2.heap.size w2 w'):=Lh (fun h w2 h2=>by
  obtain ⟨⟨k1,k2,k3,k4,k5,k6,k7⟩,hx,hy⟩:=h
  obtain ⟨_,_,_,_,hf0,_⟩:=hx.canon (by decide)
  obtain ⟨_,_,_,_,hf0y,_⟩:=hy.canon (by decide)
  obtain ⟨p',rfl⟩:=Int.eq_ofNat_of_zero_le hp
  obtain ⟨tr',rfl⟩:=Int.eq_ofNat_of_zero_le htr.1
  obtain ⟨md',rfl⟩:=Int.eq_ofNat_of_zero_le k6
  obtain ⟨fx',rfl⟩:=Int.eq_ofNat_of_zero_le hf0
  obtain ⟨fy',rfl⟩:=Int.eq_ofNat_of_zero_le hf0y
  exact Qbv (hW.later h2) (hE.next h2) p' md' tr' mx mn (by omega) ⟨k2,k3⟩ ⟨k4,k5⟩ (by omega) (by omega) fx' fy' (a % 3) (Nat.mod_lt _ (by decide)) nx ny ex ey sx sy hx hy)
 have hm3:((a:Int)).tmod 3=((a % 3:Nat):Int):=by rw [Int.tmod_eq_emod_of_nonneg (by omega)];rfl
 obtain ⟨wA,hwA⟩:∃ wA,wA=((w.alloc (.cells #[.int .u32 p,.int .i32 mx,.int .i32 mn,.int .u32 tr,.int .i64 md] 24)).alloc (.cells #[.int .i64 fx,.bool nx,.int .i32 ex,.string sx] 26)).alloc (.cells #[.int .i64 fy,.bool ny,.int .i32 ey,.string sy] 26):=⟨_,rfl⟩
 rw [← hwA] at HS
 unfold CV DV
 clear hW hE hp htr hex hey
 have x0:=Qc HS.out.xb 0 rfl;have x1:=Qc HS.out.xb 1 rfl;have x2:=Qc HS.out.xb 2 rfl;have x3:=Qc HS.out.xb 3 rfl
 go_enter Tryz.func4, Tryz.ntmps4
 go_upto_region 1 with (fail)
 rw [← hwA]
 clear hwA
 go_wp2_with fail
 refine (HFX.out _).mono ?_
 rintro r w1 ⟨b1,rfl,hb1,hB⟩
 have HS1:=Lh (HS.out.later hB)
 have HB1:=Lh hb1
 clear hB hb1 x0 x1 x2 x3 HS
 cases b1
 ·go_wp2_with fail
  go_ret
  exact ⟨rfl,HS1.out.bw⟩
 ·have y0:=Qc HS1.out.yb 0 rfl;have y1:=Qc HS1.out.yb 1 rfl;have y2:=Qc HS1.out.yb 2 rfl;have y3:=Qc HS1.out.yb 3 rfl
  go_wp2_with fail
  refine (HFY.out _).mono ?_
  rintro r w2 ⟨b2,rfl,hb2,hB⟩
  have HS2:=Lh (HS1.out.later hB)
  have HB2:=Lh hb2
  clear hB hb2 y0 y1 y2 y3 HS1
  cases b2
  ·go_wp2_with fail
   go_ret
   exact ⟨rfl,HS2.out.bw⟩
  ·have c0:=Qc HS2.out.cb 0 rfl;have c1:=Qc HS2.out.cb 1 rfl;have c2:=Qc HS2.out.cb 2 rfl;have c3:=Qc HS2.out.cb 3 rfl;have c4:=Qc HS2.out.cb 4 rfl
   have x0:=Qc HS2.out.xb 0 rfl;have x1:=Qc HS2.out.xb 1 rfl;have x2:=Qc HS2.out.xb 2 rfl;have x3:=Qc HS2.out.xb 3 rfl
   have y0:=Qc HS2.out.yb 0 rfl;have y1:=Qc HS2.out.yb 1 rfl;have y2:=Qc HS2.out.yb 2 rfl;have y3:=Qc HS2.out.yb 3 rfl
   go_wp2_with fail
   refine (HO.out (HB1.out.1 trivial) (HB2.out.1 trivial) _).mono ?_
   rintro r w3 ⟨b3,rfl,hb3,hB⟩
   have HS3:=Lh (HS2.out.later hB)
   have HB3:=Lh hb3
   clear hB hb3 c0 c1 c2 c3 c4 x0 x1 x2 x3 y0 y1 y2 y3 HS2
   cases b3
   ·go_wp2_with fail
    refine (HAl.out _ HS3.out.bw).mono ?_
    rintro r w4 ⟨rfl,hB⟩
    have HS4:=Lh (HS3.out.later hB)
    clear hB HS3
    go_wp2_with fail
    go_ret
    exact ⟨rfl,HS4.out.bw⟩
   ·have c0:=Qc HS3.out.cb 0 rfl;have c1:=Qc HS3.out.cb 1 rfl;have c2:=Qc HS3.out.cb 2 rfl;have c3:=Qc HS3.out.cb 3 rfl;have c4:=Qc HS3.out.cb 4 rfl
    have x0:=Qc HS3.out.xb 0 rfl;have x1:=Qc HS3.out.xb 1 rfl;have x2:=Qc HS3.out.xb 2 rfl;have x3:=Qc HS3.out.xb 3 rfl
    have y0:=Qc HS3.out.yb 0 rfl;have y1:=Qc HS3.out.yb 1 rfl;have y2:=Qc HS3.out.yb 2 rfl;have y3:=Qc HS3.out.yb 3 rfl
    go_wp2_with fail
    refine (HDid.out (HB3.out.1 trivial) _ HS3.out.bw).mono ?_
    rintro r w4 ⟨rfl,hB⟩
    have HS4:=Lh (HS3.out.later hB)
    clear hB HS3 c0 c1 c2 c3 c4 x0 x1 x2 x3 y0 y1 y2 y3
    go_wp2_with fail
    go_ret
    exact ⟨rfl,HS4.out.bw⟩
end Go.Proofs.YtpebcmfpehdafaaGreatDoor
