/- a part of the proof -/
import Derived.Test.YtpebcmfpehdafaaGreatDoorZ41
set_option linter.all false
set_option maxRecDepth 100000
set_option maxHeartbeats 16000000
namespace Go.Proofs.YtpebcmfpehdafaaGreatDoor
open Go Go.RowKit
theorem Qac {A B:Prop}(a:A)(h:A→B):B:=h a
def arQ (p:Nat)(mx mn:Int)(md:Nat)(s:ByteArray)(f:Int)(n:Bool)(e:Int)(c:Nat)(f':Int)(n':Bool)(e':Int)(c':Nat):Value :=
 if f=2∨f'=2 then RsV 3 false 0 ⟨#[]⟩ 1024 true false false else if f=3∨f'=3 then RsV 3 false 0 ⟨#[]⟩ 0 true false false
 else dvQ p mx mn md f n e s c f' n' e' c'
theorem Qbj (r:SR):∃ f n e s k a b c,SRVv r=RsV f n e s k a b c:=by
 unfold SRVv
 (repeat' split) <;> exact ⟨_,_,_,_,_,_,_,_,rfl⟩
theorem Qbk (p:Nat)(mx mn:Int)(md:Nat)(f:Int)(n:Bool)(e:Int)(s:ByteArray)(c:Nat)(f':Int)(n':Bool)(e':Int)(c':Nat):∃ f1 n1 e1 s1 k1 a1 b1 c1,dvQ p mx mn md f n e s c f' n' e' c'=RsV f1 n1 e1 s1 k1 a1 b1 c1:=by
 unfold dvQ
 (repeat' split) <;> first | exact ⟨_,_,_,_,_,_,_,_,rfl⟩ | exact Q8e _ | exact Qbj _
theorem Qb5 (p md tr:Nat)(mx mn:Int)(hp:p≤60)(hmx:0≤mx∧mx≤500)(hmn:mn≤0 ∧ -500≤mn)(hmd:md<8){E:Int}(hE:0≤E∧E≤1000)(fx:Int)(nx:Bool)(ex:Int)(sx:ByteArray)(fy:Int)(ny:Bool)(ey:Int)(sy:ByteArray)(hx:ArOk E fx ex sx)(hy:ArOk E fy ey sy)(w:World) :
  Calls Tryz.prog 33 #[.int .i64 3,CV p mx mn tr md,DV fx nx ex sx,DV fy ny ey sy] w fun r w'=>r=.returned (arQ p mx mn md sx fx nx ex (vl (sdL sx 0)) fy ny ey (vl (sdL sy 0)))∧Below w.heap.size w w':=by
 obtain ⟨hx1,hx2,hx3,hx4,hx5,hx6⟩:=hx.canon hE.1
 obtain ⟨hy1,hy2,hy3,hy4,hy5,hy6⟩:=hy.canon hE.1
 have hxl:=hx1.len
 have hyl:=hy1.len
 have HX:Hid (∀ w2,Calls Tryz.prog 12 #[.agg #[.int .i64 fx,.bool nx,.int .i32 ex,.string sx]] w2 fun r w'=>∃ v',r=.returned v'∧FinV w' v' nx (vl (sdL sx 0)) ex∧Below w2.heap.size w2 w'):=Lh (fun w2=>Q1S fx nx ex sx (by omega) hx1 (by omega) w2)
 have HY:Hid (∀ w2,Calls Tryz.prog 12 #[.agg #[.int .i64 fy,.bool ny,.int .i32 ey,.string sy]] w2 fun r w'=>∃ v',r=.returned v'∧FinV w' v' ny (vl (sdL sy 0)) ey∧Below w2.heap.size w2 w'):=Lh (fun w2=>Q1S fy ny ey sy (by omega) hy1 (by omega) w2)
 generalize vl (sdL sx 0)=cx at HX hxl ⊢
 generalize vl (sdL sy 0)=cy at HY hyl ⊢
 have HDv:Hid (∀ w2 p1 l1 c1 p2 l2 c2,FinV w2 (.agg #[.bool nx,.bool false,.slice p1 l1 c1,.int .i64 ex]) nx cx ex→FinV w2 (.agg #[.bool ny,.bool false,.slice p2 l2 c2,.int .i64 ey]) ny cy ey→(fx=0∨fx=1)→(fy=0∨fy=1)→Calls Tryz.prog 76 #[.int .i64 3,.agg #[.int .u32 (p:Int),.int .i32 mx,.int .i32 mn,.int .u32 (tr:Int),.int .i64 (md:Int)],.int .i64 (p:Int),.agg #[.int .i64 fx,.bool nx,.int .i32 ex,.string sx],.agg #[.int .i64 fy,.bool ny,.int .i32 ey,.string sy],.agg #[.bool nx,.bool false,.slice p1 l1 c1,.int .i64 ex],.agg #[.bool ny,.bool false,.slice p2 l2 c2,.int .i64 ey]] w2 fun r w'=>r=.returned (dvQ p mx mn md fx nx ex sx cx fy ny ey cy)∧Below w2.heap.size w2 w'):=Lh (fun w2 p1 l1 c1 p2 l2 c2 h h' q q'=>Qb4 p md tr mx mn hp hmx hmn hmd fx nx ex sx fy ny ey sy q q' h h' (by omega) (by omega) (by omega) (by omega))
 have HPb:=Lh (And.intro hp hmx)
 clear hp hmx hmn hmd
 have HN1:Hid (∀ w2,Calls Tryz.prog 72 #[.int .u32 1024] w2 fun r w'=>r=.returned (.agg #[.int .i64 3,.bool false,.int .i32 0,.string ⟨#[]⟩,.int .u32 1024,.bool true,.bool false,.bool false])∧Below w2.heap.size w2 w'):=Lh (fun w2=>QaP 1024 w2)
 have HN0:Hid (∀ w2,Calls Tryz.prog 72 #[.int .u32 0] w2 fun r w'=>r=.returned (.agg #[.int .i64 3,.bool false,.int .i32 0,.string ⟨#[]⟩,.int .u32 0,.bool true,.bool false,.bool false])∧Below w2.heap.size w2 w'):=Lh (fun w2=>QaP 0 w2)
 obtain ⟨A,hA⟩:∃ A,A=arQ p mx mn md sx fx nx ex cx fy ny ey cy:=⟨_,rfl⟩
 rw [← hA]
 have HAV:=Lh hA
 have HA0:=Lh (AS.start (w:=w) (C:=#[.int .u32 (p:Int),.int .i32 mx,.int .i32 mn,.int .u32 (tr:Int),.int .i64 (md:Int)]) (X:=#[.int .i64 fx,.bool nx,.int .i32 ex,.string sx]) (Y:=#[.int .i64 fy,.bool ny,.int .i32 ey,.string sy]))
 obtain ⟨wA,hwA⟩:∃ wA,wA=(((w.alloc (.cells #[.int .u32 (p:Int),.int .i32 mx,.int .i32 mn,.int .u32 (tr:Int),.int .i64 (md:Int)] 24)).alloc (.cells #[.int .i64 fx,.bool nx,.int .i32 ex,.string sx] 26)).alloc (.cells #[.int .i64 fy,.bool ny,.int .i32 ey,.string sy] 26)).alloc (.cells #[.int .i64 0,.bool false,.int .i32 0,.string ⟨#[]⟩,.int .u32 0,.bool false,.bool false,.bool false] 33):=⟨_,rfl⟩
 rw [← hwA] at HA0
 have hX01:¬ fx=2→¬ fx=3→fx=0∨fx=1:=by omega
 have hY01:¬ fy=2→¬ fy=3→fy=0∨fy=1:=by omega
 have HX01:=Lh hX01;have HY01:=Lh hY01
 unfold CV DV
 clear hx hy hA hE hx1 hx2 hx3 hx4 hx5 hx6 hy1 hy2 hy3 hy4 hy5 hy6 hxl hyl hX01 hY01
 have cb:=(Qe HA0.out.cb).1
 have c0:=Qc HA0.out.cb 0 rfl;have c1':=Qc HA0.out.cb 1 rfl;have c2':=Qc HA0.out.cb 2 rfl;have c3':=Qc HA0.out.cb 3 rfl;have c4':=Qc HA0.out.cb 4 rfl
 clear cb
 have x0:=Qc HA0.out.xb 0 rfl;have x1:=Qc HA0.out.xb 1 rfl;have x2:=Qc HA0.out.xb 2 rfl;have x3:=Qc HA0.out.xb 3 rfl
 have y0:=Qc HA0.out.yb 0 rfl;have y1:=Qc HA0.out.yb 1 rfl;have y2:=Qc HA0.out.yb 2 rfl;have y3:=Qc HA0.out.yb 3 rfl
 have HC:Hid (∀ w2,Below wA.heap.size wA w2→w2.cell? ⟨w.heap.size+1,0,none⟩=some (.int .i64 fx)∧w2.cell? ⟨w.heap.size+1,1,none⟩=some (.bool nx)∧w2.cell? ⟨w.heap.size+1,2,none⟩=some (.int .i32 ex)∧w2.cell? ⟨w.heap.size+1,3,none⟩=some (.string sx)∧w2.cell? ⟨w.heap.size+1+1,0,none⟩=some (.int .i64 fy)∧w2.cell? ⟨w.heap.size+1+1,1,none⟩=some (.bool ny)∧w2.cell? ⟨w.heap.size+1+1,2,none⟩=some (.int .i32 ey)∧w2.cell? ⟨w.heap.size+1+1,3,none⟩=some (.string sy)):=Lh (fun w2 h=>by
  have k:=HA0.out.later h
  exact ⟨Qc k.xb 0 rfl,Qc k.xb 1 rfl,Qc k.xb 2 rfl,Qc k.xb 3 rfl,Qc k.yb 0 rfl,Qc k.yb 1 rfl,Qc k.yb 2 rfl,Qc k.yb 3 rfl⟩)
 by_cases h2:fx=2
 ·have HV:Hid (A=RsV 3 false 0 ⟨#[]⟩ 1024 true false false):=Lh (by rw [HAV.out];unfold arQ;rw [if_pos (.inl h2)])
  subst h2
  go_enter Tryz.func33, Tryz.ntmps33
  go_wp2_with fail
  rw [← hwA]
  clear hwA
  go_wp2_with fail
  refine (HN1.out _).mono ?_
  rintro r w1 ⟨rfl,hB⟩
  have HA1:=Lh (HA0.out.later hB)
  clear hB HA0 c0 c1' c2' c3' c4' x0 x1 x2 x3 y0 y1 y2 y3
  obtain ⟨r0,r1,r2,r3,r4,r5,r6,r7⟩:=HA1.out.rc
  have rf:=HA1.out.rf
  have f0:=rf 0;have f1:=rf 1;have f2:=rf 2;have f3:=rf 3;have f4:=rf 4;have f5:=rf 5;have f6:=rf 6;have f7:=rf 7
  clear rf
  go_wp2_with fail
  have h8:=QD HA1.out.rb (.int .i64 3) (.bool false) (.int .i32 0) (.string ⟨#[]⟩) (.int .u32 1024) (.bool true) (.bool false) (.bool false)
  have hb:=HA1.out.done (.int .i64 3) (.bool false) (.int .i32 0) (.string ⟨#[]⟩) (.int .u32 1024) (.bool true) (.bool false) (.bool false)
  unfold set8 at h8 hb
  exact bodyPost_ret (v:=.agg #[.int .i64 3,.bool false,.int .i32 0,.string ⟨#[]⟩,.int .u32 1024,.bool true,.bool false,.bool false]) (by simp [results,Tryz.results33,go_sem,h8]) rfl ⟨Qz (by rw [HV.out];rfl),hb⟩
 have b2:(fx == 2)=false:=by simpa using h2
 by_cases g2:fy=2
 ·have HV:Hid (A=RsV 3 false 0 ⟨#[]⟩ 1024 true false false):=Lh (by rw [HAV.out];unfold arQ;rw [if_pos (.inr g2)])
  subst g2
  clear h2
  go_enter Tryz.func33, Tryz.ntmps33
  go_wp2_with fail
  rw [← hwA]
  clear hwA
  go_wp2_with fail
  refine (HN1.out _).mono ?_
  rintro r w1 ⟨rfl,hB⟩
  have HA1:=Lh (HA0.out.later hB)
  clear hB HA0 c0 c1' c2' c3' c4' x0 x1 x2 x3 y0 y1 y2 y3
  obtain ⟨r0,r1,r2,r3,r4,r5,r6,r7⟩:=HA1.out.rc
  have rf:=HA1.out.rf
  have f0:=rf 0;have f1:=rf 1;have f2:=rf 2;have f3:=rf 3;have f4:=rf 4;have f5:=rf 5;have f6:=rf 6;have f7:=rf 7
  clear rf
  go_wp2_with fail
  have h8:=QD HA1.out.rb (.int .i64 3) (.bool false) (.int .i32 0) (.string ⟨#[]⟩) (.int .u32 1024) (.bool true) (.bool false) (.bool false)
  have hb:=HA1.out.done (.int .i64 3) (.bool false) (.int .i32 0) (.string ⟨#[]⟩) (.int .u32 1024) (.bool true) (.bool false) (.bool false)
  unfold set8 at h8 hb
  exact bodyPost_ret (v:=.agg #[.int .i64 3,.bool false,.int .i32 0,.string ⟨#[]⟩,.int .u32 1024,.bool true,.bool false,.bool false]) (by simp [results,Tryz.results33,go_sem,h8]) rfl ⟨Qz (by rw [HV.out];rfl),hb⟩
 have d2:(fy == 2)=false:=by simpa using g2
 by_cases h3:fx=3
 ·have HV:Hid (A=RsV 3 false 0 ⟨#[]⟩ 0 true false false):=Lh (by rw [HAV.out];unfold arQ;rw [if_neg (by omega),if_pos (.inl h3)])
  subst h3
  clear h2 g2 b2
  go_enter Tryz.func33, Tryz.ntmps33
  go_wp2_with fail
  rw [← hwA]
  clear hwA
  go_wp2_with fail
  refine (HN0.out _).mono ?_
  rintro r w1 ⟨rfl,hB⟩
  have HA1:=Lh (HA0.out.later hB)
  clear hB HA0 c0 c1' c2' c3' c4' x0 x1 x2 x3 y0 y1 y2 y3
  obtain ⟨r0,r1,r2,r3,r4,r5,r6,r7⟩:=HA1.out.rc
  have rf:=HA1.out.rf
  have f0:=rf 0;have f1:=rf 1;have f2:=rf 2;have f3:=rf 3;have f4:=rf 4;have f5:=rf 5;have f6:=rf 6;have f7:=rf 7
  clear rf
  go_wp2_with fail
  have h8:=QD HA1.out.rb (.int .i64 3) (.bool false) (.int .i32 0) (.string ⟨#[]⟩) (.int .u32 0) (.bool true) (.bool false) (.bool false)
  have hb:=HA1.out.done (.int .i64 3) (.bool false) (.int .i32 0) (.string ⟨#[]⟩) (.int .u32 0) (.bool true) (.bool false) (.bool false)
  unfold set8 at h8 hb
  exact bodyPost_ret (v:=.agg #[.int .i64 3,.bool false,.int .i32 0,.string ⟨#[]⟩,.int .u32 0,.bool true,.bool false,.bool false]) (by simp [results,Tryz.results33,go_sem,h8]) rfl ⟨Qz (by rw [HV.out];rfl),hb⟩
 have b3:(fx == 3)=false:=by simpa using h3
 by_cases g3:fy=3
 ·have HV:Hid (A=RsV 3 false 0 ⟨#[]⟩ 0 true false false):=Lh (by rw [HAV.out];unfold arQ;rw [if_neg (by omega),if_pos (.inr g3)])
  subst g3
  clear h2 g2 h3 d2
  go_enter Tryz.func33, Tryz.ntmps33
  go_wp2_with fail
  rw [← hwA]
  clear hwA
  go_wp2_with fail
  refine (HN0.out _).mono ?_
  rintro r w1 ⟨rfl,hB⟩
  have HA1:=Lh (HA0.out.later hB)
  clear hB HA0 c0 c1' c2' c3' c4' x0 x1 x2 x3 y0 y1 y2 y3
  obtain ⟨r0,r1,r2,r3,r4,r5,r6,r7⟩:=HA1.out.rc
  have rf:=HA1.out.rf
  have f0:=rf 0;have f1:=rf 1;have f2:=rf 2;have f3:=rf 3;have f4:=rf 4;have f5:=rf 5;have f6:=rf 6;have f7:=rf 7
  clear rf
  go_wp2_with fail
  have h8:=QD HA1.out.rb (.int .i64 3) (.bool false) (.int .i32 0) (.string ⟨#[]⟩) (.int .u32 0) (.bool true) (.bool false) (.bool false)
  have hb:=HA1.out.done (.int .i64 3) (.bool false) (.int .i32 0) (.string ⟨#[]⟩) (.int .u32 0) (.bool true) (.bool false) (.bool false)
  unfold set8 at h8 hb
  exact bodyPost_ret (v:=.agg #[.int .i64 3,.bool false,.int .i32 0,.string ⟨#[]⟩,.int .u32 0,.bool true,.bool false,.bool false]) (by simp [results,Tryz.results33,go_sem,h8]) rfl ⟨Qz (by rw [HV.out];rfl),hb⟩
 have d3:(fy == 3)=false:=by simpa using g3
 have HV:Hid (A=dvQ p mx mn md fx nx ex sx cx fy ny ey cy):=Lh (by rw [HAV.out];unfold arQ;rw [if_neg (by omega),if_neg (by omega)])
 have hX:=HX01.out h2 h3
 have hY:=HY01.out g2 g3
 have HX2:=Lh hX;have HY2:=Lh hY
 clear h2 h3 g2 g3 hX hY HX01 HY01 HAV
 go_enter Tryz.func33, Tryz.ntmps33
 go_wp2_with fail
 rw [← hwA]
 have HwA:=Lh hwA
 clear hwA
 go_upto_region 8 with (fail)
 clear b2 b3 d2 d3
 go_cut [10,11] from 60 to 63 (fun tq tr wx=>TwoF wA nx cx ex ny cy ey tq tr wx)
 case first =>
  refine AH.start (fun x=>x.cell? ⟨w.heap.size+1,0,none⟩=some (.int .i64 fx)∧x.cell? ⟨w.heap.size+1,1,none⟩=some (.bool nx)∧x.cell? ⟨w.heap.size+1,2,none⟩=some (.int .i32 ex)∧x.cell? ⟨w.heap.size+1,3,none⟩=some (.string sx)∧x.cell? ⟨w.heap.size+1+1,0,none⟩=some (.int .i64 fy)∧x.cell? ⟨w.heap.size+1+1,1,none⟩=some (.bool ny)∧x.cell? ⟨w.heap.size+1+1,2,none⟩=some (.int .i32 ey)∧x.cell? ⟨w.heap.size+1+1,3,none⟩=some (.string sy)) (by kernel_rfl) ?_
  generalize hw0:wA.drew=wq
  have HB:Hid (Below wA.heap.size wA wq):=by rw [← hw0];exact Lh ((Below.refl _ _).drew)
  clear hw0 HN0 HN1 HDv HPb c0 c1' c2' c3' c4' x0 x1 x2 x3 y0 y1 y2 y3
  have s0:=HC.out _ HB.out
  refine AH.z 0 s0 ?_
  refine AH.z 2 s0 ?_
  clear s0
  revert HB
  revert wq
  refine' Qac ?st211 (fun hst211=>Qac ?st210 (fun hst210=>Qac ?st201 (fun hst201=>Qac ?st111 (fun hst111=>Qac ?st200 (fun hst200=>Qac ?st110 (fun hst110=>Qac ?st101 (fun hst101=>Qac ?st011 (fun hst011=>Qac ?st100 (fun hst100=>Qac ?st010 (fun hst010=>Qac ?st001 (fun hst001=>?st000)))))))))))
  case st000 =>
   intro wq HB
   refine AH.three (i:=1) (j:=4) (k:=5) (by kernel_rfl) rfl rfl rfl (by kernel_rfl) (by kernel_rfl) (by kernel_rfl) (fun K hK=>?d1X) (fun K hK=>?d1A) (fun K hK=>?d1B)
   case d1X =>
    go_simp
    refine (HX.out wq).mono ?_
    rintro r wn ⟨v1,rfl,⟨s1,rfl,k1⟩,hB⟩
    have HBn:=Lh (Qd HB.out hB)
    have k1':=k1
    obtain ⟨p1,c1,rfl,k1x⟩:=k1'
    have FXn:Hid (FinV wn (.agg #[.bool nx,.bool false,.slice p1 (dgs cx).length c1,.int .i64 ex]) nx cx ex):=Lh ⟨_,rfl,k1⟩
    refine hK _ _ (HC.out _ HBn.out) ?_
    clear hK K hB k1 k1x
    try simp only [Act.put,Zp_]
    clear HB
    revert FXn
    revert HBn
    revert c1
    revert p1
    revert wn
    exact hst100
   case d1A =>
    go_simp
    have HBn:=Lh (bal HB.out (.cells #[.bool false,.bool false,.slice none 0 0,.int .i64 0] 39))
    have FAn:=Lh (gal wq (.cells #[.bool false,.bool false,.slice none 0 0,.int .i64 0] 39))
    have LAn:=HB.out.size
    refine hK _ _ (HC.out _ HBn.out) ?_
    clear hK K
    try simp only [Act.put,Zp_]
    generalize hg:wq.heap.size=gA at FAn LAn ⊢
    generalize hw:wq.alloc (.cells #[.bool false,.bool false,.slice none 0 0,.int .i64 0] 39)=wn at HBn FAn ⊢
    clear hg hw
    clear HB
    revert LAn
    revert FAn
    revert HBn
    revert gA
    revert wn
    exact hst010
   case d1B =>
    go_simp
    have HBn:=Lh (bal HB.out (.cells #[.bool false,.bool false,.slice none 0 0,.int .i64 0] 39))
    have FBn:=Lh (gal wq (.cells #[.bool false,.bool false,.slice none 0 0,.int .i64 0] 39))
    have LBn:=HB.out.size
    refine hK _ _ (HC.out _ HBn.out) ?_
    clear hK K
    try simp only [Act.put,Zp_]
    generalize hg:wq.heap.size=gB at FBn LBn ⊢
    generalize hw:wq.alloc (.cells #[.bool false,.bool false,.slice none 0 0,.int .i64 0] 39)=wn at HBn FBn ⊢
    clear hg hw
    clear HB
    revert LBn
    revert FBn
    revert HBn
    revert gB
    revert wn
    exact hst001
  case st001 =>
   intro wq gB HB FB LB
   refine AH.t 1 4 (fun K hK=>?d2X) (fun K hK=>?d2A)
   case d2X =>
    go_simp
    refine (HX.out wq).mono ?_
    rintro r wn ⟨v1,rfl,⟨s1,rfl,k1⟩,hB⟩
    have HBn:=Lh (Qd HB.out hB)
    have k1':=k1
    obtain ⟨p1,c1,rfl,k1x⟩:=k1'
    have FXn:Hid (FinV wn (.agg #[.bool nx,.bool false,.slice p1 (dgs cx).length c1,.int .i64 ex]) nx cx ex):=Lh ⟨_,rfl,k1⟩
    have FBn:=Lh (Qb FB.out hB)
    have LBn:=LB
    refine hK _ _ (HC.out _ HBn.out) ?_
    clear hK K hB k1 k1x
    try simp only [Act.put,Zp_]
    clear HB FB LB
    revert FXn
    revert LBn
    revert FBn
    revert HBn
    revert c1
    revert p1
    revert gB
    revert wn
    exact hst101
   case d2A =>
    go_simp
    have HBn:=Lh (bal HB.out (.cells #[.bool false,.bool false,.slice none 0 0,.int .i64 0] 39))
    have FAn:=Lh (gal wq (.cells #[.bool false,.bool false,.slice none 0 0,.int .i64 0] 39))
    have LAn:=HB.out.size
    have FBn:=Lh (Qb FB.out (Qm wq (.cells #[.bool false,.bool false,.slice none 0 0,.int .i64 0] 39)))
    have LBn:=LB
    have NEn:wq.heap.size≠gB:=by have:=(Array.getElem?_eq_some_iff.1 FB.out).1;omega
    refine hK _ _ (HC.out _ HBn.out) ?_
    clear hK K
    try simp only [Act.put,Zp_]
    generalize hg:wq.heap.size=gA at FAn LAn NEn ⊢
    generalize hw:wq.alloc (.cells #[.bool false,.bool false,.slice none 0 0,.int .i64 0] 39)=wn at HBn FAn FBn ⊢
    clear hg hw
    clear HB FB LB
    revert NEn
    revert LBn
    revert FBn
    revert LAn
    revert FAn
    revert HBn
    revert gB
    revert gA
    revert wn
    exact hst011
  case st010 =>
   intro wq gA HB FA LA
   refine AH.t 1 5 (fun K hK=>?d3X) (fun K hK=>?d3B)
   case d3X =>
    go_simp
    refine (HX.out wq).mono ?_
    rintro r wn ⟨v1,rfl,⟨s1,rfl,k1⟩,hB⟩
    have HBn:=Lh (Qd HB.out hB)
    have k1':=k1
    obtain ⟨p1,c1,rfl,k1x⟩:=k1'
    have FXn:Hid (FinV wn (.agg #[.bool nx,.bool false,.slice p1 (dgs cx).length c1,.int .i64 ex]) nx cx ex):=Lh ⟨_,rfl,k1⟩
    have FAn:=Lh (Qb FA.out hB)
    have LAn:=LA
    refine hK _ _ (HC.out _ HBn.out) ?_
    clear hK K hB k1 k1x
    try simp only [Act.put,Zp_]
    clear HB FA LA
    revert FXn
    revert LAn
    revert FAn
    revert HBn
    revert c1
    revert p1
    revert gA
    revert wn
    exact hst110
   case d3B =>
    go_simp
    have HBn:=Lh (bal HB.out (.cells #[.bool false,.bool false,.slice none 0 0,.int .i64 0] 39))
    have FBn:=Lh (gal wq (.cells #[.bool false,.bool false,.slice none 0 0,.int .i64 0] 39))
    have LBn:=HB.out.size
    have FAn:=Lh (Qb FA.out (Qm wq (.cells #[.bool false,.bool false,.slice none 0 0,.int .i64 0] 39)))
    have LAn:=LA
    have NEn:gA≠wq.heap.size:=by have:=(Array.getElem?_eq_some_iff.1 FA.out).1;omega
    refine hK _ _ (HC.out _ HBn.out) ?_
    clear hK K
    try simp only [Act.put,Zp_]
    generalize hg:wq.heap.size=gB at FBn LBn NEn ⊢
    generalize hw:wq.alloc (.cells #[.bool false,.bool false,.slice none 0 0,.int .i64 0] 39)=wn at HBn FAn FBn ⊢
    clear hg hw
    clear HB FA LA
    revert NEn
    revert LBn
    revert FBn
    revert LAn
    revert FAn
    revert HBn
    revert gB
    revert gA
    revert wn
    exact hst011
  case st100 =>
   intro wq p1 c1 HB FX
   refine AH.three (i:=3) (j:=4) (k:=5) (by kernel_rfl) rfl rfl rfl (by kernel_rfl) (by kernel_rfl) (by kernel_rfl) (fun K hK=>?d4Y) (fun K hK=>?d4A) (fun K hK=>?d4B)
   case d4Y =>
    go_simp
    refine (HY.out wq).mono ?_
    rintro r wn ⟨v2,rfl,⟨s2,rfl,k2⟩,hB⟩
    have HBn:=Lh (Qd HB.out hB)
    have k2':=k2
    obtain ⟨p2,c2,rfl,k2x⟩:=k2'
    have FYn:Hid (FinV wn (.agg #[.bool ny,.bool false,.slice p2 (dgs cy).length c2,.int .i64 ey]) ny cy ey):=Lh ⟨_,rfl,k2⟩
    have FXn:=Lh (FX.out.later hB)
    refine hK _ _ (HC.out _ HBn.out) ?_
    clear hK K hB k2 k2x
    try simp only [Act.put,Zp_]
    clear HB FX
    revert FYn
    revert FXn
    revert HBn
    revert c2
    revert p2
    revert c1
    revert p1
    revert wn
    exact hst200
   case d4A =>
    go_simp
    have HBn:=Lh (bal HB.out (.cells #[.bool false,.bool false,.slice none 0 0,.int .i64 0] 39))
    have FAn:=Lh (gal wq (.cells #[.bool false,.bool false,.slice none 0 0,.int .i64 0] 39))
    have LAn:=HB.out.size
    have FXn:=Lh (FX.out.later (Qm wq (.cells #[.bool false,.bool false,.slice none 0 0,.int .i64 0] 39)))
    refine hK _ _ (HC.out _ HBn.out) ?_
    clear hK K
    try simp only [Act.put,Zp_]
    generalize hg:wq.heap.size=gA at FAn LAn ⊢
    generalize hw:wq.alloc (.cells #[.bool false,.bool false,.slice none 0 0,.int .i64 0] 39)=wn at HBn FAn FXn ⊢
    clear hg hw
    clear HB FX
    revert FXn
    revert LAn
    revert FAn
    revert HBn
    revert c1
    revert p1
    revert gA
    revert wn
    exact hst110
   case d4B =>
    go_simp
    have HBn:=Lh (bal HB.out (.cells #[.bool false,.bool false,.slice none 0 0,.int .i64 0] 39))
    have FBn:=Lh (gal wq (.cells #[.bool false,.bool false,.slice none 0 0,.int .i64 0] 39))
    have LBn:=HB.out.size
    have FXn:=Lh (FX.out.later (Qm wq (.cells #[.bool false,.bool false,.slice none 0 0,.int .i64 0] 39)))
    refine hK _ _ (HC.out _ HBn.out) ?_
    clear hK K
    try simp only [Act.put,Zp_]
    generalize hg:wq.heap.size=gB at FBn LBn ⊢
    generalize hw:wq.alloc (.cells #[.bool false,.bool false,.slice none 0 0,.int .i64 0] 39)=wn at HBn FBn FXn ⊢
    clear hg hw
    clear HB FX
    revert FXn
    revert LBn
    revert FBn
    revert HBn
    revert c1
    revert p1
    revert gB
    revert wn
    exact hst101
  case st011 =>
   intro wq gA gB HB FA LA FB LB NE
   refine AH.o 1 (fun K hK=>?_)
   go_simp
   refine (HX.out wq).mono ?_
   rintro r wn ⟨v1,rfl,⟨s1,rfl,k1⟩,hB⟩
   have HBn:=Lh (Qd HB.out hB)
   have k1':=k1
   obtain ⟨p1,c1,rfl,k1x⟩:=k1'
   have FXn:Hid (FinV wn (.agg #[.bool nx,.bool false,.slice p1 (dgs cx).length c1,.int .i64 ex]) nx cx ex):=Lh ⟨_,rfl,k1⟩
   have FAn:=Lh (Qb FA.out hB)
   have LAn:=LA
   have FBn:=Lh (Qb FB.out hB)
   have LBn:=LB
   have NEn:=NE
   refine hK _ _ (HC.out _ HBn.out) ?_
   clear hK K hB k1 k1x
   try simp only [Act.put,Zp_]
   clear HB FA LA FB LB NE
   revert FXn
   revert NEn
   revert LBn
   revert FBn
   revert LAn
   revert FAn
   revert HBn
   revert c1
   revert p1
   revert gB
   revert gA
   revert wn
   exact hst111
  case st101 =>
   intro wq gB p1 c1 HB FB LB FX
   refine AH.t 3 4 (fun K hK=>?d5Y) (fun K hK=>?d5A)
   case d5Y =>
    go_simp
    refine (HY.out wq).mono ?_
    rintro r wn ⟨v2,rfl,⟨s2,rfl,k2⟩,hB⟩
    have HBn:=Lh (Qd HB.out hB)
    have k2':=k2
    obtain ⟨p2,c2,rfl,k2x⟩:=k2'
    have FYn:Hid (FinV wn (.agg #[.bool ny,.bool false,.slice p2 (dgs cy).length c2,.int .i64 ey]) ny cy ey):=Lh ⟨_,rfl,k2⟩
    have FBn:=Lh (Qb FB.out hB)
    have LBn:=LB
    have FXn:=Lh (FX.out.later hB)
    refine hK _ _ (HC.out _ HBn.out) ?_
    clear hK K hB k2 k2x
    try simp only [Act.put,Zp_]
    clear HB FB LB FX
    revert FYn
    revert FXn
    revert LBn
    revert FBn
    revert HBn
    revert c2
    revert p2
    revert c1
    revert p1
    revert gB
    revert wn
    exact hst201
   case d5A =>
    go_simp
    have HBn:=Lh (bal HB.out (.cells #[.bool false,.bool false,.slice none 0 0,.int .i64 0] 39))
    have FAn:=Lh (gal wq (.cells #[.bool false,.bool false,.slice none 0 0,.int .i64 0] 39))
    have LAn:=HB.out.size
    have FBn:=Lh (Qb FB.out (Qm wq (.cells #[.bool false,.bool false,.slice none 0 0,.int .i64 0] 39)))
    have LBn:=LB
    have FXn:=Lh (FX.out.later (Qm wq (.cells #[.bool false,.bool false,.slice none 0 0,.int .i64 0] 39)))
    have NEn:wq.heap.size≠gB:=by have:=(Array.getElem?_eq_some_iff.1 FB.out).1;omega
    refine hK _ _ (HC.out _ HBn.out) ?_
    clear hK K
    try simp only [Act.put,Zp_]
    generalize hg:wq.heap.size=gA at FAn LAn NEn ⊢
    generalize hw:wq.alloc (.cells #[.bool false,.bool false,.slice none 0 0,.int .i64 0] 39)=wn at HBn FAn FBn FXn ⊢
    clear hg hw
    clear HB FB LB FX
    revert FXn
    revert NEn
    revert LBn
    revert FBn
    revert LAn
    revert FAn
    revert HBn
    revert c1
    revert p1
    revert gB
    revert gA
    revert wn
    exact hst111
  case st110 =>
   intro wq gA p1 c1 HB FA LA FX
   refine AH.t 3 5 (fun K hK=>?d6Y) (fun K hK=>?d6B)
   case d6Y =>
    go_simp
    refine (HY.out wq).mono ?_
    rintro r wn ⟨v2,rfl,⟨s2,rfl,k2⟩,hB⟩
    have HBn:=Lh (Qd HB.out hB)
    have k2':=k2
    obtain ⟨p2,c2,rfl,k2x⟩:=k2'
    have FYn:Hid (FinV wn (.agg #[.bool ny,.bool false,.slice p2 (dgs cy).length c2,.int .i64 ey]) ny cy ey):=Lh ⟨_,rfl,k2⟩
    have FAn:=Lh (Qb FA.out hB)
    have LAn:=LA
    have FXn:=Lh (FX.out.later hB)
    refine hK _ _ (HC.out _ HBn.out) ?_
    clear hK K hB k2 k2x
    try simp only [Act.put,Zp_]
    clear HB FA LA FX
    revert FYn
    revert FXn
    revert LAn
    revert FAn
    revert HBn
    revert c2
    revert p2
    revert c1
    revert p1
    revert gA
    revert wn
    exact hst210
   case d6B =>
    go_simp
    have HBn:=Lh (bal HB.out (.cells #[.bool false,.bool false,.slice none 0 0,.int .i64 0] 39))
    have FBn:=Lh (gal wq (.cells #[.bool false,.bool false,.slice none 0 0,.int .i64 0] 39))
    have LBn:=HB.out.size
    have FAn:=Lh (Qb FA.out (Qm wq (.cells #[.bool false,.bool false,.slice none 0 0,.int .i64 0] 39)))
    have LAn:=LA
    have FXn:=Lh (FX.out.later (Qm wq (.cells #[.bool false,.bool false,.slice none 0 0,.int .i64 0] 39)))
    have NEn:gA≠wq.heap.size:=by have:=(Array.getElem?_eq_some_iff.1 FA.out).1;omega
    refine hK _ _ (HC.out _ HBn.out) ?_
    clear hK K
    try simp only [Act.put,Zp_]
    generalize hg:wq.heap.size=gB at FBn LBn NEn ⊢
    generalize hw:wq.alloc (.cells #[.bool false,.bool false,.slice none 0 0,.int .i64 0] 39)=wn at HBn FAn FBn FXn ⊢
    clear hg hw
    clear HB FA LA FX
    revert FXn
    revert NEn
    revert LBn
    revert FBn
    revert LAn
    revert FAn
    revert HBn
    revert c1
    revert p1
    revert gB
    revert gA
    revert wn
    exact hst111
  case st200 =>
   intro wq p1 c1 p2 c2 HB FX FY
   refine AH.t 4 5 (fun K hK=>?d7A) (fun K hK=>?d7B)
   case d7A =>
    go_simp
    have HBn:=Lh (bal HB.out (.cells #[.bool false,.bool false,.slice none 0 0,.int .i64 0] 39))
    have FAn:=Lh (gal wq (.cells #[.bool false,.bool false,.slice none 0 0,.int .i64 0] 39))
    have LAn:=HB.out.size
    have FXn:=Lh (FX.out.later (Qm wq (.cells #[.bool false,.bool false,.slice none 0 0,.int .i64 0] 39)))
    have FYn:=Lh (FY.out.later (Qm wq (.cells #[.bool false,.bool false,.slice none 0 0,.int .i64 0] 39)))
    refine hK _ _ (HC.out _ HBn.out) ?_
    clear hK K
    try simp only [Act.put,Zp_]
    generalize hg:wq.heap.size=gA at FAn LAn ⊢
    generalize hw:wq.alloc (.cells #[.bool false,.bool false,.slice none 0 0,.int .i64 0] 39)=wn at HBn FAn FXn FYn ⊢
    clear hg hw
    clear HB FX FY
    revert FYn
    revert FXn
    revert LAn
    revert FAn
    revert HBn
    revert c2
    revert p2
    revert c1
    revert p1
    revert gA
    revert wn
    exact hst210
   case d7B =>
    go_simp
    have HBn:=Lh (bal HB.out (.cells #[.bool false,.bool false,.slice none 0 0,.int .i64 0] 39))
    have FBn:=Lh (gal wq (.cells #[.bool false,.bool false,.slice none 0 0,.int .i64 0] 39))
    have LBn:=HB.out.size
    have FXn:=Lh (FX.out.later (Qm wq (.cells #[.bool false,.bool false,.slice none 0 0,.int .i64 0] 39)))
    have FYn:=Lh (FY.out.later (Qm wq (.cells #[.bool false,.bool false,.slice none 0 0,.int .i64 0] 39)))
    refine hK _ _ (HC.out _ HBn.out) ?_
    clear hK K
    try simp only [Act.put,Zp_]
    generalize hg:wq.heap.size=gB at FBn LBn ⊢
    generalize hw:wq.alloc (.cells #[.bool false,.bool false,.slice none 0 0,.int .i64 0] 39)=wn at HBn FBn FXn FYn ⊢
    clear hg hw
    clear HB FX FY
    revert FYn
    revert FXn
    revert LBn
    revert FBn
    revert HBn
    revert c2
    revert p2
    revert c1
    revert p1
    revert gB
    revert wn
    exact hst201
  case st111 =>
   intro wq gA gB p1 c1 HB FA LA FB LB NE FX
   refine AH.o 3 (fun K hK=>?_)
   go_simp
   refine (HY.out wq).mono ?_
   rintro r wn ⟨v2,rfl,⟨s2,rfl,k2⟩,hB⟩
   have HBn:=Lh (Qd HB.out hB)
   have k2':=k2
   obtain ⟨p2,c2,rfl,k2x⟩:=k2'
   have FYn:Hid (FinV wn (.agg #[.bool ny,.bool false,.slice p2 (dgs cy).length c2,.int .i64 ey]) ny cy ey):=Lh ⟨_,rfl,k2⟩
   have FAn:=Lh (Qb FA.out hB)
   have LAn:=LA
   have FBn:=Lh (Qb FB.out hB)
   have LBn:=LB
   have NEn:=NE
   have FXn:=Lh (FX.out.later hB)
   refine hK _ _ (HC.out _ HBn.out) ?_
   clear hK K hB k2 k2x
   try simp only [Act.put,Zp_]
   clear HB FA LA FB LB NE FX
   revert FYn
   revert FXn
   revert NEn
   revert LBn
   revert FBn
   revert LAn
   revert FAn
   revert HBn
   revert c2
   revert p2
   revert c1
   revert p1
   revert gB
   revert gA
   revert wn
   exact hst211
  case st201 =>
   intro wq gB p1 c1 p2 c2 HB FB LB FX FY
   refine AH.o 4 (fun K hK=>?_)
   go_simp
   have HBn:=Lh (bal HB.out (.cells #[.bool false,.bool false,.slice none 0 0,.int .i64 0] 39))
   have FAn:=Lh (gal wq (.cells #[.bool false,.bool false,.slice none 0 0,.int .i64 0] 39))
   have LAn:=HB.out.size
   have FBn:=Lh (Qb FB.out (Qm wq (.cells #[.bool false,.bool false,.slice none 0 0,.int .i64 0] 39)))
   have LBn:=LB
   have FXn:=Lh (FX.out.later (Qm wq (.cells #[.bool false,.bool false,.slice none 0 0,.int .i64 0] 39)))
   have FYn:=Lh (FY.out.later (Qm wq (.cells #[.bool false,.bool false,.slice none 0 0,.int .i64 0] 39)))
   have NEn:wq.heap.size≠gB:=by have:=(Array.getElem?_eq_some_iff.1 FB.out).1;omega
   refine hK _ _ (HC.out _ HBn.out) ?_
   clear hK K
   try simp only [Act.put,Zp_]
   generalize hg:wq.heap.size=gA at FAn LAn NEn ⊢
   generalize hw:wq.alloc (.cells #[.bool false,.bool false,.slice none 0 0,.int .i64 0] 39)=wn at HBn FAn FBn FXn FYn ⊢
   clear hg hw
   clear HB FB LB FX FY
   revert FYn
   revert FXn
   revert NEn
   revert LBn
   revert FBn
   revert LAn
   revert FAn
   revert HBn
   revert c2
   revert p2
   revert c1
   revert p1
   revert gB
   revert gA
   revert wn
   exact hst211
  case st210 =>
   intro wq gA p1 c1 p2 c2 HB FA LA FX FY
   refine AH.o 5 (fun K hK=>?_)
   go_simp
   have HBn:=Lh (bal HB.out (.cells #[.bool false,.bool false,.slice none 0 0,.int .i64 0] 39))
   have FBn:=Lh (gal wq (.cells #[.bool false,.bool false,.slice none 0 0,.int .i64 0] 39))
   have LBn:=HB.out.size
   have FAn:=Lh (Qb FA.out (Qm wq (.cells #[.bool false,.bool false,.slice none 0 0,.int .i64 0] 39)))
   have LAn:=LA
   have FXn:=Lh (FX.out.later (Qm wq (.cells #[.bool false,.bool false,.slice none 0 0,.int .i64 0] 39)))
   have FYn:=Lh (FY.out.later (Qm wq (.cells #[.bool false,.bool false,.slice none 0 0,.int .i64 0] 39)))
   have NEn:gA≠wq.heap.size:=by have:=(Array.getElem?_eq_some_iff.1 FA.out).1;omega
   refine hK _ _ (HC.out _ HBn.out) ?_
   clear hK K
   try simp only [Act.put,Zp_]
   generalize hg:wq.heap.size=gB at FBn LBn NEn ⊢
   generalize hw:wq.alloc (.cells #[.bool false,.bool false,.slice none 0 0,.int .i64 0] 39)=wn at HBn FAn FBn FXn FYn ⊢
   clear hg hw
   clear HB FA LA FX FY
   revert FYn
   revert FXn
   revert NEn
   revert LBn
   revert FBn
   revert LAn
   revert FAn
   revert HBn
   revert c2
   revert p2
   revert c1
   revert p1
   revert gB
   revert gA
   revert wn
   exact hst211
  case st211 =>
   intro wq gA gB p1 c1 p2 c2 HB FA LA FB LB NE FX FY
   obtain ⟨hBs,hb5,hBt,hT2⟩:=QaZ HB.out FA.out FB.out LA LB NE FX.out FY.out
   have a0:=Qc FA.out 0 rfl;have a1:=Qc FA.out 1 rfl;have a2:=Qc FA.out 2 rfl;have a3:=Qc FA.out 3 rfl
   have fa:=(Qe FA.out).2
   have fa0:=fa 0;have fa1:=fa 1;have fa2:=fa 2;have fa3:=fa 3
   have HT2:=Lh hT2;have HBs:=Lh hBs;have HBt:=Lh hBt;have Hb5:=Lh hb5
   unfold set4 at HT2 HBs HBt Hb5
   clear hT2 hBs hBt hb5 fa
   refine AH.o 6 (fun K hK=>?_)
   go_simp
   refine hK _ _ (HC.out _ HBs.out) ?_
   clear hK K a0 a1 a2 a3 fa0 fa1 fa2 fa3
   try simp only [Act.put,Zp_]
   generalize (((wq.setCell ⟨gA,0,none⟩ (.bool nx)).setCell ⟨gA,1,none⟩ (.bool false)).setCell ⟨gA,2,none⟩ (.slice p1 (dgs cx).length c1)).setCell ⟨gA,3,none⟩ (.int .i64 ex)=ws at HT2 HBs HBt Hb5 ⊢
   have b0:=Qc Hb5.out 0 rfl;have b1:=Qc Hb5.out 1 rfl;have b2:=Qc Hb5.out 2 rfl;have b3:=Qc Hb5.out 3 rfl
   have fb:=(Qe Hb5.out).2
   have fb0:=fb 0;have fb1:=fb 1;have fb2:=fb 2;have fb3:=fb 3
   clear fb
   refine AH.o 7 (fun K hK=>?_)
   go_simp
   refine hK _ _ (HC.out _ HBt.out) ?_
   clear hK K
   try simp only [Act.put,Zp_]
   refine AH.done (by kernel_rfl) ?_
   go_wp2_with fail
   go_meet
   exact HT2.out
 case rest =>
  obtain ⟨gA,gB,p1,l1,c1,p2,l2,c2,rfl,rfl,⟨hA,hB⟩,n1,n2,lA,lB,ne,hBx⟩:=hcut
  have HAc:=Lh (HA0.out.later hBx)
  have FX:Hid (FinV wc _ nx cx ex):=Lh n1
  have FY:Hid (FinV wc _ ny cy ey):=Lh n2
  have a0:=Qc hA 0 rfl;have a1:=Qc hA 1 rfl;have a2:=Qc hA 2 rfl;have a3:=Qc hA 3 rfl
  have b0:=Qc hB 0 rfl;have b1:=Qc hB 1 rfl;have b2:=Qc hB 2 rfl;have b3:=Qc hB 3 rfl
  clear n1 n2 lA lB ne hBx HC HwA HA0 HX HY HN0 HN1 c0 c1' c2' c3' c4' x0 x1 x2 x3 y0 y1 y2 y3
  have cb:=(Qe HAc.out.cb).1
  have c0:=Qc HAc.out.cb 0 rfl;have c1':=Qc HAc.out.cb 1 rfl;have c2':=Qc HAc.out.cb 2 rfl;have c3':=Qc HAc.out.cb 3 rfl;have c4':=Qc HAc.out.cb 4 rfl
  clear cb
  have x0:=Qc HAc.out.xb 0 rfl;have x1:=Qc HAc.out.xb 1 rfl;have x2:=Qc HAc.out.xb 2 rfl;have x3:=Qc HAc.out.xb 3 rfl
  have y0:=Qc HAc.out.yb 0 rfl;have y1:=Qc HAc.out.yb 1 rfl;have y2:=Qc HAc.out.yb 2 rfl;have y3:=Qc HAc.out.yb 3 rfl
  obtain ⟨f',n',e',s',k',a',b',c',hR⟩:=Qbk p mx mn md fx nx ex sx cx fy ny ey cy
  rw [hR] at HDv HV
  unfold RsV at HDv
  clear hR
  have j1:IntKind.i64.wrap (p:Int)=(p:Int):=IntWalk.i64_in _ (by have:=HPb.out;omega)
  go_wp2_with fail
  go_quiet (fail)
  have HAq:=Lh (HAc.out.drewN nq)
  have FXq:Hid (FinV (wc.drewN nq) _ nx cx ex):=Lh (FX.out.later ⟨rfl,rfl,rfl,Nat.le_refl _,fun _ _=>rfl⟩)
  have FYq:Hid (FinV (wc.drewN nq) _ ny cy ey):=Lh (FY.out.later ⟨rfl,rfl,rfl,Nat.le_refl _,fun _ _=>rfl⟩)
  have HGA:Hid ((wc.drewN nq).heap[gA]?=_):=Lh hA
  have HGB:Hid ((wc.drewN nq).heap[gB]?=_):=Lh hB
  clear HAc FX FY hA hB a0 a1 a2 a3 b0 b1 b2 b3 c0 c1' c2' c3' c4' x0 x1 x2 x3 y0 y1 y2 y3
  generalize wc.drewN nq=w1 at *
  have a0:=Qc HGA.out 0 rfl;have a1:=Qc HGA.out 1 rfl;have a2:=Qc HGA.out 2 rfl;have a3:=Qc HGA.out 3 rfl
  have b0:=Qc HGB.out 0 rfl;have b1:=Qc HGB.out 1 rfl;have b2:=Qc HGB.out 2 rfl;have b3:=Qc HGB.out 3 rfl
  have cb:=(Qe HAq.out.cb).1
  have c0:=Qc HAq.out.cb 0 rfl;have c1':=Qc HAq.out.cb 1 rfl;have c2':=Qc HAq.out.cb 2 rfl;have c3':=Qc HAq.out.cb 3 rfl;have c4':=Qc HAq.out.cb 4 rfl
  clear cb
  have x0:=Qc HAq.out.xb 0 rfl;have x1:=Qc HAq.out.xb 1 rfl;have x2:=Qc HAq.out.xb 2 rfl;have x3:=Qc HAq.out.xb 3 rfl
  have y0:=Qc HAq.out.yb 0 rfl;have y1:=Qc HAq.out.yb 1 rfl;have y2:=Qc HAq.out.yb 2 rfl;have y3:=Qc HAq.out.yb 3 rfl
  go_wp2_with fail
  refine (HDv.out _ _ _ _ _ _ _ FXq.out FYq.out HX2.out HY2.out).mono ?_
  rintro r w9 ⟨rfl,hB⟩
  have HA9:=Lh (HAq.out.later hB)
  clear hB a0 a1 a2 a3 b0 b1 b2 b3 c0 c1' c2' c3' c4' x0 x1 x2 x3 y0 y1 y2 y3
  obtain ⟨r0,r1,r2,r3,r4,r5,r6,r7⟩:=HA9.out.rc
  have rf:=HA9.out.rf
  have f0:=rf 0;have f1:=rf 1;have f2:=rf 2;have f3:=rf 3;have f4:=rf 4;have f5:=rf 5;have f6:=rf 6;have f7:=rf 7
  clear rf
  go_wp2_with fail
  have h8:=QD HA9.out.rb (.int .i64 f') (.bool n') (.int .i32 e') (.string s') (.int .u32 (k':Int)) (.bool a') (.bool b') (.bool c')
  have hb:=HA9.out.done (.int .i64 f') (.bool n') (.int .i32 e') (.string s') (.int .u32 (k':Int)) (.bool a') (.bool b') (.bool c')
  unfold set8 at h8 hb
  exact bodyPost_ret (v:=.agg #[.int .i64 f',.bool n',.int .i32 e',.string s',.int .u32 (k':Int),.bool a',.bool b',.bool c']) (by simp [results,Tryz.results33,go_sem,h8]) rfl ⟨Qz (by rw [HV.out];rfl),hb⟩
end Go.Proofs.YtpebcmfpehdafaaGreatDoor
