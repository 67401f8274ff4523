/- a part of the proof -/
import Derived.Deep.CutBlock
import Derived.Test.YtpfjmeadikdddaaGreatDoorZ32
set_option linter.all false
set_option maxRecDepth 100000
set_option maxHeartbeats 16000000
namespace Go.Proofs.YtpfjmeadikdddaaGreatDoor
open Go Go.RowKit
theorem both_of5 {A B:Prop}(a:A)(h:A→B):B:=h a
def arC (f:Int)(n:Bool)(e:Int)(c:Nat)(f':Int)(n':Bool)(e':Int)(c':Nat):Value :=
 if f=2∨f'=2 then RsV 3 false 0 ⟨#[]⟩ 1024 true false false else if f=3∨f'=3 then RsV 3 false 0 ⟨#[]⟩ 0 true false false
 else RsV 0 (decide (spS f n e c f' n' e' c'<0)) 0 (txS (spS f n e c f' n' e' c').natAbs) 0 true false false
theorem Qah (n:Bool)(a:Nat)(m:Bool)(b:Nat) : -1≤cmZ n a m b∧cmZ n a m b≤1:=by
 unfold cmZ cm
 (repeat' split) <;> omega
theorem Q8G (w:World):Calls Tryz.prog 53 #[.bool true] w fun r w'=>r=.returned (.int .i64 1)∧w'=w:=by
 go_enter Tryz.func53, Tryz.ntmps53
 go_wp2_with fail
 go_ret
 exact ⟨rfl,rfl⟩
theorem Q8H (w:World):Calls Tryz.prog 53 #[.bool false] w fun r w'=>r=.returned (.int .i64 (-1))∧w'=w:=by
 go_enter Tryz.func53, Tryz.ntmps53
 go_wp2_with fail
 go_ret
 exact ⟨rfl,rfl⟩
theorem Q9S (n:Bool)(w:World):Calls Tryz.prog 53 #[.bool n] w fun r w'=>r=.returned (.int .i64 (if n then 1 else -1))∧w'=w:=by
 cases n <;>
 ·go_enter Tryz.func53, Tryz.ntmps53
  go_wp2_with fail
  go_ret
  exact ⟨rfl,rfl⟩
theorem Q7v (p md tr:Nat)(mx mn:Int){E:Int}(hE:0≤E∧E≤1000)(fx:Int)(nx:Bool)(ex:Int)(sx:ByteArray)(fy:Int)(ny:Bool)(ey:Int)(sy:ByteArray)(hx:ArOk E fx ex sx)(hy:ArOk E fy ey sy)(w:World) :
  Calls Tryz.prog 22 #[.int .i64 13,CV p mx mn tr md,DV fx nx ex sx,DV fy ny ey sy] w fun r w'=>r=.returned (arC fx nx ex (vl (sdL sx 0)) fy ny ey (vl (sdL sy 0)))∧Below w.heap.size w w':=by
 obtain ⟨hx1,hx2,hx3,hx4,hx5,hx6⟩:=hx.canon hE.1
 obtain ⟨hy1,hy2,hy3,hy4,hy5,hy6⟩:=hy.canon hE.1
 have hxl:=hx1.len
 have hyl:=hy1.len
 have HX:Hid (∀ w2,Calls Tryz.prog 19 #[.agg #[.int .i64 fx,.bool nx,.int .i32 ex,.string sx]] w2 fun r w'=>∃ v',r=.returned v'∧FinV w' v' nx (vl (sdL sx 0)) ex∧Below w2.heap.size w2 w'):=Lh (fun w2=>Q2e fx nx ex sx (by omega) hx1 (by omega) w2)
 have HY:Hid (∀ w2,Calls Tryz.prog 19 #[.agg #[.int .i64 fy,.bool ny,.int .i32 ey,.string sy]] w2 fun r w'=>∃ v',r=.returned v'∧FinV w' v' ny (vl (sdL sy 0)) ey∧Below w2.heap.size w2 w'):=Lh (fun w2=>Q2e fy ny ey sy (by omega) hy1 (by omega) w2)
 generalize vl (sdL sx 0)=cx at HX hxl ⊢
 generalize vl (sdL sy 0)=cy at HY hyl ⊢
 have HOr:Hid (∀ w2 u v,FinV w2 u nx cx ex→FinV w2 v ny cy ey→Calls Tryz.prog 18 #[u,v] w2 fun r w'=>r=.returned (.int .i64 (cmZ (ngZ nx (cx*10^(ex - min ex ey).toNat)) (cx*10^(ex - min ex ey).toNat) (ngZ ny (cy*10^(ey - min ex ey).toNat)) (cy*10^(ey - min ex ey).toNat)))∧Below w2.heap.size w2 w'):=Lh (fun w2 u v h h'=>Q8C h h' (by omega) (by omega) (by omega) (by omega))
 have HN1:Hid (∀ w2,Calls Tryz.prog 30 #[.int .u32 1024] w2 fun r w'=>r=.returned (.agg #[.int .i64 3,.bool false,.int .i32 0,.string ⟨#[]⟩,.int .u32 1024,.bool true,.bool false,.bool false])∧Below w2.heap.size w2 w'):=Lh (fun w2=>Q4E 1024 w2)
 have HN0:Hid (∀ w2,Calls Tryz.prog 30 #[.int .u32 0] w2 fun r w'=>r=.returned (.agg #[.int .i64 3,.bool false,.int .i32 0,.string ⟨#[]⟩,.int .u32 0,.bool true,.bool false,.bool false])∧Below w2.heap.size w2 w'):=Lh (fun w2=>Q4E 0 w2)
 obtain ⟨A,hA⟩:∃ A,A=arC fx nx ex cx fy ny ey cy:=⟨_,rfl⟩
 rw [← hA]
 have HAV:=Lh hA
 have HA0:=Lh (AS.start (w:=w) (C:=#[.int .u32 (p:Int),.int .i32 mx,.int .i32 mn,.int .u32 (tr:Int),.int .i64 (md:Int)]) (X:=#[.int .i64 fx,.bool nx,.int .i32 ex,.string sx]) (Y:=#[.int .i64 fy,.bool ny,.int .i32 ey,.string sy]))
 obtain ⟨wA,hwA⟩:∃ wA,wA=(((w.alloc (.cells #[.int .u32 (p:Int),.int .i32 mx,.int .i32 mn,.int .u32 (tr:Int),.int .i64 (md:Int)] 24)).alloc (.cells #[.int .i64 fx,.bool nx,.int .i32 ex,.string sx] 26)).alloc (.cells #[.int .i64 fy,.bool ny,.int .i32 ey,.string sy] 26)).alloc (.cells #[.int .i64 0,.bool false,.int .i32 0,.string ⟨#[]⟩,.int .u32 0,.bool false,.bool false,.bool false] 34):=⟨_,rfl⟩
 rw [← hwA] at HA0
 have hX01:¬ fx=2→¬ fx=3→fx=0∨fx=1:=by omega
 have hY01:¬ fy=2→¬ fy=3→fy=0∨fy=1:=by omega
 have HX01:=Lh hX01;have HY01:=Lh hY01
 unfold CV DV
 clear hx hy hA hE hx1 hx2 hx3 hx4 hx5 hx6 hy1 hy2 hy3 hy4 hy5 hy6 hxl hyl hX01 hY01
 have cb:=(Qd HA0.out.cb).1
 have c0:=Q1 HA0.out.cb 0 rfl;have c1':=Q1 HA0.out.cb 1 rfl;have c2':=Q1 HA0.out.cb 2 rfl;have c3':=Q1 HA0.out.cb 3 rfl;have c4':=Q1 HA0.out.cb 4 rfl
 clear cb
 have x0:=Q1 HA0.out.xb 0 rfl;have x1:=Q1 HA0.out.xb 1 rfl;have x2:=Q1 HA0.out.xb 2 rfl;have x3:=Q1 HA0.out.xb 3 rfl
 have y0:=Q1 HA0.out.yb 0 rfl;have y1:=Q1 HA0.out.yb 1 rfl;have y2:=Q1 HA0.out.yb 2 rfl;have y3:=Q1 HA0.out.yb 3 rfl
 have HC:Hid (∀ w2,Below wA.heap.size wA w2→w2.cell? ⟨w.heap.size+1,0,none⟩=some (.int .i64 fx)∧w2.cell? ⟨w.heap.size+1,1,none⟩=some (.bool nx)∧w2.cell? ⟨w.heap.size+1,2,none⟩=some (.int .i32 ex)∧w2.cell? ⟨w.heap.size+1,3,none⟩=some (.string sx)∧w2.cell? ⟨w.heap.size+1+1,0,none⟩=some (.int .i64 fy)∧w2.cell? ⟨w.heap.size+1+1,1,none⟩=some (.bool ny)∧w2.cell? ⟨w.heap.size+1+1,2,none⟩=some (.int .i32 ey)∧w2.cell? ⟨w.heap.size+1+1,3,none⟩=some (.string sy)):=Lh (fun w2 h=>by
  have k:=HA0.out.later h
  exact ⟨Q1 k.xb 0 rfl,Q1 k.xb 1 rfl,Q1 k.xb 2 rfl,Q1 k.xb 3 rfl,Q1 k.yb 0 rfl,Q1 k.yb 1 rfl,Q1 k.yb 2 rfl,Q1 k.yb 3 rfl⟩)
 by_cases h2:fx=2
 ·have HV:Hid (A=RsV 3 false 0 ⟨#[]⟩ 1024 true false false):=Lh (by rw [HAV.out];unfold arC;rw [if_pos (.inl h2)])
  subst h2
  go_enter Tryz.func22, Tryz.ntmps22
  go_wp2_with fail
  rw [← hwA]
  clear hwA
  go_wp2_with fail
  refine (HN1.out _).mono ?_
  rintro r w1 ⟨rfl,hB⟩
  have HA1:=Lh (HA0.out.later hB)
  clear hB HA0 c0 c1' c2' c3' c4' x0 x1 x2 x3 y0 y1 y2 y3
  obtain ⟨r0,r1,r2,r3,r4,r5,r6,r7⟩:=HA1.out.rc
  have rf:=HA1.out.rf
  have f0:=rf 0;have f1:=rf 1;have f2:=rf 2;have f3:=rf 3;have f4:=rf 4;have f5:=rf 5;have f6:=rf 6;have f7:=rf 7
  clear rf
  go_wp2_with fail
  have h8:=Qw HA1.out.rb (.int .i64 3) (.bool false) (.int .i32 0) (.string ⟨#[]⟩) (.int .u32 1024) (.bool true) (.bool false) (.bool false)
  have hb:=HA1.out.done (.int .i64 3) (.bool false) (.int .i32 0) (.string ⟨#[]⟩) (.int .u32 1024) (.bool true) (.bool false) (.bool false)
  unfold set8 at h8 hb
  exact bodyPost_ret (v:=.agg #[.int .i64 3,.bool false,.int .i32 0,.string ⟨#[]⟩,.int .u32 1024,.bool true,.bool false,.bool false]) (by simp [results,Tryz.results22,go_sem,h8]) rfl ⟨Qu (by rw [HV.out];rfl),hb⟩
 have b2:(fx == 2)=false:=by simpa using h2
 by_cases g2:fy=2
 ·have HV:Hid (A=RsV 3 false 0 ⟨#[]⟩ 1024 true false false):=Lh (by rw [HAV.out];unfold arC;rw [if_pos (.inr g2)])
  subst g2
  clear h2
  go_enter Tryz.func22, Tryz.ntmps22
  go_wp2_with fail
  rw [← hwA]
  clear hwA
  go_wp2_with fail
  refine (HN1.out _).mono ?_
  rintro r w1 ⟨rfl,hB⟩
  have HA1:=Lh (HA0.out.later hB)
  clear hB HA0 c0 c1' c2' c3' c4' x0 x1 x2 x3 y0 y1 y2 y3
  obtain ⟨r0,r1,r2,r3,r4,r5,r6,r7⟩:=HA1.out.rc
  have rf:=HA1.out.rf
  have f0:=rf 0;have f1:=rf 1;have f2:=rf 2;have f3:=rf 3;have f4:=rf 4;have f5:=rf 5;have f6:=rf 6;have f7:=rf 7
  clear rf
  go_wp2_with fail
  have h8:=Qw HA1.out.rb (.int .i64 3) (.bool false) (.int .i32 0) (.string ⟨#[]⟩) (.int .u32 1024) (.bool true) (.bool false) (.bool false)
  have hb:=HA1.out.done (.int .i64 3) (.bool false) (.int .i32 0) (.string ⟨#[]⟩) (.int .u32 1024) (.bool true) (.bool false) (.bool false)
  unfold set8 at h8 hb
  exact bodyPost_ret (v:=.agg #[.int .i64 3,.bool false,.int .i32 0,.string ⟨#[]⟩,.int .u32 1024,.bool true,.bool false,.bool false]) (by simp [results,Tryz.results22,go_sem,h8]) rfl ⟨Qu (by rw [HV.out];rfl),hb⟩
 have d2:(fy == 2)=false:=by simpa using g2
 by_cases h3:fx=3
 ·have HV:Hid (A=RsV 3 false 0 ⟨#[]⟩ 0 true false false):=Lh (by rw [HAV.out];unfold arC;rw [if_neg (by omega),if_pos (.inl h3)])
  subst h3
  clear h2 g2 b2
  go_enter Tryz.func22, Tryz.ntmps22
  go_wp2_with fail
  rw [← hwA]
  clear hwA
  go_wp2_with fail
  refine (HN0.out _).mono ?_
  rintro r w1 ⟨rfl,hB⟩
  have HA1:=Lh (HA0.out.later hB)
  clear hB HA0 c0 c1' c2' c3' c4' x0 x1 x2 x3 y0 y1 y2 y3
  obtain ⟨r0,r1,r2,r3,r4,r5,r6,r7⟩:=HA1.out.rc
  have rf:=HA1.out.rf
  have f0:=rf 0;have f1:=rf 1;have f2:=rf 2;have f3:=rf 3;have f4:=rf 4;have f5:=rf 5;have f6:=rf 6;have f7:=rf 7
  clear rf
  go_wp2_with fail
  have h8:=Qw HA1.out.rb (.int .i64 3) (.bool false) (.int .i32 0) (.string ⟨#[]⟩) (.int .u32 0) (.bool true) (.bool false) (.bool false)
  have hb:=HA1.out.done (.int .i64 3) (.bool false) (.int .i32 0) (.string ⟨#[]⟩) (.int .u32 0) (.bool true) (.bool false) (.bool false)
  unfold set8 at h8 hb
  exact bodyPost_ret (v:=.agg #[.int .i64 3,.bool false,.int .i32 0,.string ⟨#[]⟩,.int .u32 0,.bool true,.bool false,.bool false]) (by simp [results,Tryz.results22,go_sem,h8]) rfl ⟨Qu (by rw [HV.out];rfl),hb⟩
 have b3:(fx == 3)=false:=by simpa using h3
 by_cases g3:fy=3
 ·have HV:Hid (A=RsV 3 false 0 ⟨#[]⟩ 0 true false false):=Lh (by rw [HAV.out];unfold arC;rw [if_neg (by omega),if_pos (.inr g3)])
  subst g3
  clear h2 g2 h3 d2
  go_enter Tryz.func22, Tryz.ntmps22
  go_wp2_with fail
  rw [← hwA]
  clear hwA
  go_wp2_with fail
  refine (HN0.out _).mono ?_
  rintro r w1 ⟨rfl,hB⟩
  have HA1:=Lh (HA0.out.later hB)
  clear hB HA0 c0 c1' c2' c3' c4' x0 x1 x2 x3 y0 y1 y2 y3
  obtain ⟨r0,r1,r2,r3,r4,r5,r6,r7⟩:=HA1.out.rc
  have rf:=HA1.out.rf
  have f0:=rf 0;have f1:=rf 1;have f2:=rf 2;have f3:=rf 3;have f4:=rf 4;have f5:=rf 5;have f6:=rf 6;have f7:=rf 7
  clear rf
  go_wp2_with fail
  have h8:=Qw HA1.out.rb (.int .i64 3) (.bool false) (.int .i32 0) (.string ⟨#[]⟩) (.int .u32 0) (.bool true) (.bool false) (.bool false)
  have hb:=HA1.out.done (.int .i64 3) (.bool false) (.int .i32 0) (.string ⟨#[]⟩) (.int .u32 0) (.bool true) (.bool false) (.bool false)
  unfold set8 at h8 hb
  exact bodyPost_ret (v:=.agg #[.int .i64 3,.bool false,.int .i32 0,.string ⟨#[]⟩,.int .u32 0,.bool true,.bool false,.bool false]) (by simp [results,Tryz.results22,go_sem,h8]) rfl ⟨Qu (by rw [HV.out];rfl),hb⟩
 have d3:(fy == 3)=false:=by simpa using g3
 have HV:Hid (A=RsV 0 (decide (spS fx nx ex cx fy ny ey cy<0)) 0 (txS (spS fx nx ex cx fy ny ey cy).natAbs) 0 true false false):=Lh (by rw [HAV.out];unfold arC;rw [if_neg (by omega),if_neg (by omega)])
 have hX:=HX01.out h2 h3
 have hY:=HY01.out g2 g3
 have HX2:=Lh hX;have HY2:=Lh hY
 clear h2 h3 g2 g3 hX hY HX01 HY01 HAV
 go_enter Tryz.func22, Tryz.ntmps22
 go_wp2_with fail
 rw [← hwA]
 have HwA:=Lh hwA
 clear hwA
 go_upto_region 8 with (fail)
 clear b2 b3 d2 d3
 go_cut [10,11] from 60 to 63 (fun tq tr wx=>TwoF wA nx cx ex ny cy ey tq tr wx)
 case first =>
  refine AH.start (fun x=>x.cell? ⟨w.heap.size+1,0,none⟩=some (.int .i64 fx)∧x.cell? ⟨w.heap.size+1,1,none⟩=some (.bool nx)∧x.cell? ⟨w.heap.size+1,2,none⟩=some (.int .i32 ex)∧x.cell? ⟨w.heap.size+1,3,none⟩=some (.string sx)∧x.cell? ⟨w.heap.size+1+1,0,none⟩=some (.int .i64 fy)∧x.cell? ⟨w.heap.size+1+1,1,none⟩=some (.bool ny)∧x.cell? ⟨w.heap.size+1+1,2,none⟩=some (.int .i32 ey)∧x.cell? ⟨w.heap.size+1+1,3,none⟩=some (.string sy)) (by kernel_rfl) ?_
  generalize hw0:wA.drew=wq
  have HB:Hid (Below wA.heap.size wA wq):=by rw [← hw0];exact Lh ((Below.refl _ _).drew)
  clear hw0 HN0 HN1 HOr c0 c1' c2' c3' c4' x0 x1 x2 x3 y0 y1 y2 y3
  have s0:=HC.out _ HB.out
  refine AH.z 0 s0 ?_
  refine AH.z 2 s0 ?_
  clear s0
  revert HB
  revert wq
  refine' both_of5 ?st211 (fun hst211=>both_of5 ?st210 (fun hst210=>both_of5 ?st201 (fun hst201=>both_of5 ?st111 (fun hst111=>both_of5 ?st200 (fun hst200=>both_of5 ?st110 (fun hst110=>both_of5 ?st101 (fun hst101=>both_of5 ?st011 (fun hst011=>both_of5 ?st100 (fun hst100=>both_of5 ?st010 (fun hst010=>both_of5 ?st001 (fun hst001=>?st000)))))))))))
  case st000 =>
   intro wq HB
   refine AH.three (i:=1) (j:=4) (k:=5) (by kernel_rfl) rfl rfl rfl (by kernel_rfl) (by kernel_rfl) (by kernel_rfl) (fun K hK=>?d1X) (fun K hK=>?d1A) (fun K hK=>?d1B)
   case d1X =>
    go_simp
    refine (HX.out wq).mono ?_
    rintro r wn ⟨v1,rfl,⟨s1,rfl,k1⟩,hB⟩
    have HBn:=Lh (Qe HB.out hB)
    have k1':=k1
    obtain ⟨p1,c1,rfl,k1x⟩:=k1'
    have FXn:Hid (FinV wn (.agg #[.bool nx,.bool false,.slice p1 (dgs cx).length c1,.int .i64 ex]) nx cx ex):=Lh ⟨_,rfl,k1⟩
    refine hK _ _ (HC.out _ HBn.out) ?_
    clear hK K hB k1 k1x
    try simp only [Act.put,Zp_]
    clear HB
    revert FXn
    revert HBn
    revert c1
    revert p1
    revert wn
    exact hst100
   case d1A =>
    go_simp
    have HBn:=Lh (bal HB.out (.cells #[.bool false,.bool false,.slice none 0 0,.int .i64 0] 46))
    have FAn:=Lh (gal wq (.cells #[.bool false,.bool false,.slice none 0 0,.int .i64 0] 46))
    have LAn:=HB.out.size
    refine hK _ _ (HC.out _ HBn.out) ?_
    clear hK K
    try simp only [Act.put,Zp_]
    generalize hg:wq.heap.size=gA at FAn LAn ⊢
    generalize hw:wq.alloc (.cells #[.bool false,.bool false,.slice none 0 0,.int .i64 0] 46)=wn at HBn FAn ⊢
    clear hg hw
    clear HB
    revert LAn
    revert FAn
    revert HBn
    revert gA
    revert wn
    exact hst010
   case d1B =>
    go_simp
    have HBn:=Lh (bal HB.out (.cells #[.bool false,.bool false,.slice none 0 0,.int .i64 0] 46))
    have FBn:=Lh (gal wq (.cells #[.bool false,.bool false,.slice none 0 0,.int .i64 0] 46))
    have LBn:=HB.out.size
    refine hK _ _ (HC.out _ HBn.out) ?_
    clear hK K
    try simp only [Act.put,Zp_]
    generalize hg:wq.heap.size=gB at FBn LBn ⊢
    generalize hw:wq.alloc (.cells #[.bool false,.bool false,.slice none 0 0,.int .i64 0] 46)=wn at HBn FBn ⊢
    clear hg hw
    clear HB
    revert LBn
    revert FBn
    revert HBn
    revert gB
    revert wn
    exact hst001
  case st001 =>
   intro wq gB HB FB LB
   refine AH.t 1 4 (fun K hK=>?d2X) (fun K hK=>?d2A)
   case d2X =>
    go_simp
    refine (HX.out wq).mono ?_
    rintro r wn ⟨v1,rfl,⟨s1,rfl,k1⟩,hB⟩
    have HBn:=Lh (Qe HB.out hB)
    have k1':=k1
    obtain ⟨p1,c1,rfl,k1x⟩:=k1'
    have FXn:Hid (FinV wn (.agg #[.bool nx,.bool false,.slice p1 (dgs cx).length c1,.int .i64 ex]) nx cx ex):=Lh ⟨_,rfl,k1⟩
    have FBn:=Lh (Qb FB.out hB)
    have LBn:=LB
    refine hK _ _ (HC.out _ HBn.out) ?_
    clear hK K hB k1 k1x
    try simp only [Act.put,Zp_]
    clear HB FB LB
    revert FXn
    revert LBn
    revert FBn
    revert HBn
    revert c1
    revert p1
    revert gB
    revert wn
    exact hst101
   case d2A =>
    go_simp
    have HBn:=Lh (bal HB.out (.cells #[.bool false,.bool false,.slice none 0 0,.int .i64 0] 46))
    have FAn:=Lh (gal wq (.cells #[.bool false,.bool false,.slice none 0 0,.int .i64 0] 46))
    have LAn:=HB.out.size
    have FBn:=Lh (Qb FB.out (Qf wq (.cells #[.bool false,.bool false,.slice none 0 0,.int .i64 0] 46)))
    have LBn:=LB
    have NEn:wq.heap.size≠gB:=by have:=(Array.getElem?_eq_some_iff.1 FB.out).1;omega
    refine hK _ _ (HC.out _ HBn.out) ?_
    clear hK K
    try simp only [Act.put,Zp_]
    generalize hg:wq.heap.size=gA at FAn LAn NEn ⊢
    generalize hw:wq.alloc (.cells #[.bool false,.bool false,.slice none 0 0,.int .i64 0] 46)=wn at HBn FAn FBn ⊢
    clear hg hw
    clear HB FB LB
    revert NEn
    revert LBn
    revert FBn
    revert LAn
    revert FAn
    revert HBn
    revert gB
    revert gA
    revert wn
    exact hst011
  case st010 =>
   intro wq gA HB FA LA
   refine AH.t 1 5 (fun K hK=>?d3X) (fun K hK=>?d3B)
   case d3X =>
    go_simp
    refine (HX.out wq).mono ?_
    rintro r wn ⟨v1,rfl,⟨s1,rfl,k1⟩,hB⟩
    have HBn:=Lh (Qe HB.out hB)
    have k1':=k1
    obtain ⟨p1,c1,rfl,k1x⟩:=k1'
    have FXn:Hid (FinV wn (.agg #[.bool nx,.bool false,.slice p1 (dgs cx).length c1,.int .i64 ex]) nx cx ex):=Lh ⟨_,rfl,k1⟩
    have FAn:=Lh (Qb FA.out hB)
    have LAn:=LA
    refine hK _ _ (HC.out _ HBn.out) ?_
    clear hK K hB k1 k1x
    try simp only [Act.put,Zp_]
    clear HB FA LA
    revert FXn
    revert LAn
    revert FAn
    revert HBn
    revert c1
    revert p1
    revert gA
    revert wn
    exact hst110
   case d3B =>
    go_simp
    have HBn:=Lh (bal HB.out (.cells #[.bool false,.bool false,.slice none 0 0,.int .i64 0] 46))
    have FBn:=Lh (gal wq (.cells #[.bool false,.bool false,.slice none 0 0,.int .i64 0] 46))
    have LBn:=HB.out.size
    have FAn:=Lh (Qb FA.out (Qf wq (.cells #[.bool false,.bool false,.slice none 0 0,.int .i64 0] 46)))
    have LAn:=LA
    have NEn:gA≠wq.heap.size:=by have:=(Array.getElem?_eq_some_iff.1 FA.out).1;omega
    refine hK _ _ (HC.out _ HBn.out) ?_
    clear hK K
    try simp only [Act.put,Zp_]
    generalize hg:wq.heap.size=gB at FBn LBn NEn ⊢
    generalize hw:wq.alloc (.cells #[.bool false,.bool false,.slice none 0 0,.int .i64 0] 46)=wn at HBn FAn FBn ⊢
    clear hg hw
    clear HB FA LA
    revert NEn
    revert LBn
    revert FBn
    revert LAn
    revert FAn
    revert HBn
    revert gB
    revert gA
    revert wn
    exact hst011
  case st100 =>
   intro wq p1 c1 HB FX
   refine AH.three (i:=3) (j:=4) (k:=5) (by kernel_rfl) rfl rfl rfl (by kernel_rfl) (by kernel_rfl) (by kernel_rfl) (fun K hK=>?d4Y) (fun K hK=>?d4A) (fun K hK=>?d4B)
   case d4Y =>
    go_simp
    refine (HY.out wq).mono ?_
    rintro r wn ⟨v2,rfl,⟨s2,rfl,k2⟩,hB⟩
    have HBn:=Lh (Qe HB.out hB)
    have k2':=k2
    obtain ⟨p2,c2,rfl,k2x⟩:=k2'
    have FYn:Hid (FinV wn (.agg #[.bool ny,.bool false,.slice p2 (dgs cy).length c2,.int .i64 ey]) ny cy ey):=Lh ⟨_,rfl,k2⟩
    have FXn:=Lh (FX.out.later hB)
    refine hK _ _ (HC.out _ HBn.out) ?_
    clear hK K hB k2 k2x
    try simp only [Act.put,Zp_]
    clear HB FX
    revert FYn
    revert FXn
    revert HBn
    revert c2
    revert p2
    revert c1
    revert p1
    revert wn
    exact hst200
   case d4A =>
    go_simp
    have HBn:=Lh (bal HB.out (.cells #[.bool false,.bool false,.slice none 0 0,.int .i64 0] 46))
    have FAn:=Lh (gal wq (.cells #[.bool false,.bool false,.slice none 0 0,.int .i64 0] 46))
    have LAn:=HB.out.size
    have FXn:=Lh (FX.out.later (Qf wq (.cells #[.bool false,.bool false,.slice none 0 0,.int .i64 0] 46)))
    refine hK _ _ (HC.out _ HBn.out) ?_
    clear hK K
    try simp only [Act.put,Zp_]
    generalize hg:wq.heap.size=gA at FAn LAn ⊢
    generalize hw:wq.alloc (.cells #[.bool false,.bool false,.slice none 0 0,.int .i64 0] 46)=wn at HBn FAn FXn ⊢
    clear hg hw
    clear HB FX
    revert FXn
    revert LAn
    revert FAn
    revert HBn
    revert c1
    revert p1
    revert gA
    revert wn
    exact hst110
   case d4B =>
    go_simp
    have HBn:=Lh (bal HB.out (.cells #[.bool false,.bool false,.slice none 0 0,.int .i64 0] 46))
    have FBn:=Lh (gal wq (.cells #[.bool false,.bool false,.slice none 0 0,.int .i64 0] 46))
    have LBn:=HB.out.size
    have FXn:=Lh (FX.out.later (Qf wq (.cells #[.bool false,.bool false,.slice none 0 0,.int .i64 0] 46)))
    refine hK _ _ (HC.out _ HBn.out) ?_
    clear hK K
    try simp only [Act.put,Zp_]
    generalize hg:wq.heap.size=gB at FBn LBn ⊢
    generalize hw:wq.alloc (.cells #[.bool false,.bool false,.slice none 0 0,.int .i64 0] 46)=wn at HBn FBn FXn ⊢
    clear hg hw
    clear HB FX
    revert FXn
    revert LBn
    revert FBn
    revert HBn
    revert c1
    revert p1
    revert gB
    revert wn
    exact hst101
  case st011 =>
   intro wq gA gB HB FA LA FB LB NE
   refine AH.o 1 (fun K hK=>?_)
   go_simp
   refine (HX.out wq).mono ?_
   rintro r wn ⟨v1,rfl,⟨s1,rfl,k1⟩,hB⟩
   have HBn:=Lh (Qe HB.out hB)
   have k1':=k1
   obtain ⟨p1,c1,rfl,k1x⟩:=k1'
   have FXn:Hid (FinV wn (.agg #[.bool nx,.bool false,.slice p1 (dgs cx).length c1,.int .i64 ex]) nx cx ex):=Lh ⟨_,rfl,k1⟩
   have FAn:=Lh (Qb FA.out hB)
   have LAn:=LA
   have FBn:=Lh (Qb FB.out hB)
   have LBn:=LB
   have NEn:=NE
   refine hK _ _ (HC.out _ HBn.out) ?_
   clear hK K hB k1 k1x
   try simp only [Act.put,Zp_]
   clear HB FA LA FB LB NE
   revert FXn
   revert NEn
   revert LBn
   revert FBn
   revert LAn
   revert FAn
   revert HBn
   revert c1
   revert p1
   revert gB
   revert gA
   revert wn
   exact hst111
  case st101 =>
   intro wq gB p1 c1 HB FB LB FX
   refine AH.t 3 4 (fun K hK=>?d5Y) (fun K hK=>?d5A)
   case d5Y =>
    go_simp
    refine (HY.out wq).mono ?_
    rintro r wn ⟨v2,rfl,⟨s2,rfl,k2⟩,hB⟩
    have HBn:=Lh (Qe HB.out hB)
    have k2':=k2
    obtain ⟨p2,c2,rfl,k2x⟩:=k2'
    have FYn:Hid (FinV wn (.agg #[.bool ny,.bool false,.slice p2 (dgs cy).length c2,.int .i64 ey]) ny cy ey):=Lh ⟨_,rfl,k2⟩
    have FBn:=Lh (Qb FB.out hB)
    have LBn:=LB
    have FXn:=Lh (FX.out.later hB)
    refine hK _ _ (HC.out _ HBn.out) ?_
    clear hK K hB k2 k2x
    try simp only [Act.put,Zp_]
    clear HB FB LB FX
    revert FYn
    revert FXn
    revert LBn
    revert FBn
    revert HBn
    revert c2
    revert p2
    revert c1
    revert p1
    revert gB
    revert wn
    exact hst201
   case d5A =>
    go_simp
    have HBn:=Lh (bal HB.out (.cells #[.bool false,.bool false,.slice none 0 0,.int .i64 0] 46))
    have FAn:=Lh (gal wq (.cells #[.bool false,.bool false,.slice none 0 0,.int .i64 0] 46))
    have LAn:=HB.out.size
    have FBn:=Lh (Qb FB.out (Qf wq (.cells #[.bool false,.bool false,.slice none 0 0,.int .i64 0] 46)))
    have LBn:=LB
    have FXn:=Lh (FX.out.later (Qf wq (.cells #[.bool false,.bool false,.slice none 0 0,.int .i64 0] 46)))
    have NEn:wq.heap.size≠gB:=by have:=(Array.getElem?_eq_some_iff.1 FB.out).1;omega
    refine hK _ _ (HC.out _ HBn.out) ?_
    clear hK K
    try simp only [Act.put,Zp_]
    generalize hg:wq.heap.size=gA at FAn LAn NEn ⊢
    generalize hw:wq.alloc (.cells #[.bool false,.bool false,.slice none 0 0,.int .i64 0] 46)=wn at HBn FAn FBn FXn ⊢
    clear hg hw
    clear HB FB LB FX
    revert FXn
    revert NEn
    revert LBn
    revert FBn
    revert LAn
    revert FAn
    revert HBn
    revert c1
    revert p1
    revert gB
    revert gA
    revert wn
    exact hst111
  case st110 =>
   intro wq gA p1 c1 HB FA LA FX
   refine AH.t 3 5 (fun K hK=>?d6Y) (fun K hK=>?d6B)
   case d6Y =>
    go_simp
    refine (HY.out wq).mono ?_
    rintro r wn ⟨v2,rfl,⟨s2,rfl,k2⟩,hB⟩
    have HBn:=Lh (Qe HB.out hB)
    have k2':=k2
    obtain ⟨p2,c2,rfl,k2x⟩:=k2'
    have FYn:Hid (FinV wn (.agg #[.bool ny,.bool false,.slice p2 (dgs cy).length c2,.int .i64 ey]) ny cy ey):=Lh ⟨_,rfl,k2⟩
    have FAn:=Lh (Qb FA.out hB)
    have LAn:=LA
    have FXn:=Lh (FX.out.later hB)
    refine hK _ _ (HC.out _ HBn.out) ?_
    clear hK K hB k2 k2x
    try simp only [Act.put,Zp_]
    clear HB FA LA FX
    revert FYn
    revert FXn
    revert LAn
    revert FAn
    revert HBn
    revert c2
    revert p2
    revert c1
    revert p1
    revert gA
    revert wn
    exact hst210
   case d6B =>
    go_simp
    have HBn:=Lh (bal HB.out (.cells #[.bool false,.bool false,.slice none 0 0,.int .i64 0] 46))
    have FBn:=Lh (gal wq (.cells #[.bool false,.bool false,.slice none 0 0,.int .i64 0] 46))
    have LBn:=HB.out.size
    have FAn:=Lh (Qb FA.out (Qf wq (.cells #[.bool false,.bool false,.slice none 0 0,.int .i64 0] 46)))
    have LAn:=LA
    have FXn:=Lh (FX.out.later (Qf wq (.cells #[.bool false,.bool false,.slice none 0 0,.int .i64 0] 46)))
    have NEn:gA≠wq.heap.size:=by have:=(Array.getElem?_eq_some_iff.1 FA.out).1;omega
    refine hK _ _ (HC.out _ HBn.out) ?_
    clear hK K
    try simp only [Act.put,Zp_]
    generalize hg:wq.heap.size=gB at FBn LBn NEn ⊢
    generalize hw:wq.alloc (.cells #[.bool false,.bool false,.slice none 0 0,.int .i64 0] 46)=wn at HBn FAn FBn FXn ⊢
    clear hg hw
    clear HB FA LA FX
    revert FXn
    revert NEn
    revert LBn
    revert FBn
    revert LAn
    revert FAn
    revert HBn
    revert c1
    revert p1
    revert gB
    revert gA
    revert wn
    exact hst111
  case st200 =>
   intro wq p1 c1 p2 c2 HB FX FY
   refine AH.t 4 5 (fun K hK=>?d7A) (fun K hK=>?d7B)
   case d7A =>
    go_simp
    have HBn:=Lh (bal HB.out (.cells #[.bool false,.bool false,.slice none 0 0,.int .i64 0] 46))
    have FAn:=Lh (gal wq (.cells #[.bool false,.bool false,.slice none 0 0,.int .i64 0] 46))
    have LAn:=HB.out.size
    have FXn:=Lh (FX.out.later (Qf wq (.cells #[.bool false,.bool false,.slice none 0 0,.int .i64 0] 46)))
    have FYn:=Lh (FY.out.later (Qf wq (.cells #[.bool false,.bool false,.slice none 0 0,.int .i64 0] 46)))
    refine hK _ _ (HC.out _ HBn.out) ?_
    clear hK K
    try simp only [Act.put,Zp_]
    generalize hg:wq.heap.size=gA at FAn LAn ⊢
    generalize hw:wq.alloc (.cells #[.bool false,.bool false,.slice none 0 0,.int .i64 0] 46)=wn at HBn FAn FXn FYn ⊢
    clear hg hw
    clear HB FX FY
    revert FYn
    revert FXn
    revert LAn
    revert FAn
    revert HBn
    revert c2
    revert p2
    revert c1
    revert p1
    revert gA
    revert wn
    exact hst210
   case d7B =>
    go_simp
    have HBn:=Lh (bal HB.out (.cells #[.bool false,.bool false,.slice none 0 0,.int .i64 0] 46))
    have FBn:=Lh (gal wq (.cells #[.bool false,.bool false,.slice none 0 0,.int .i64 0] 46))
    have LBn:=HB.out.size
    have FXn:=Lh (FX.out.later (Qf wq (.cells #[.bool false,.bool false,.slice none 0 0,.int .i64 0] 46)))
    have FYn:=Lh (FY.out.later (Qf wq (.cells #[.bool false,.bool false,.slice none 0 0,.int .i64 0] 46)))
    refine hK _ _ (HC.out _ HBn.out) ?_
    clear hK K
    try simp only [Act.put,Zp_]
    generalize hg:wq.heap.size=gB at FBn LBn ⊢
    generalize hw:wq.alloc (.cells #[.bool false,.bool false,.slice none 0 0,.int .i64 0] 46)=wn at HBn FBn FXn FYn ⊢
    clear hg hw
    clear HB FX FY
    revert FYn
    revert FXn
    revert LBn
    revert FBn
    revert HBn
    revert c2
    revert p2
    revert c1
    revert p1
    revert gB
    revert wn
    exact hst201
  case st111 =>
   intro wq gA gB p1 c1 HB FA LA FB LB NE FX
   refine AH.o 3 (fun K hK=>?_)
   go_simp
   refine (HY.out wq).mono ?_
   rintro r wn ⟨v2,rfl,⟨s2,rfl,k2⟩,hB⟩
   have HBn:=Lh (Qe HB.out hB)
   have k2':=k2
   obtain ⟨p2,c2,rfl,k2x⟩:=k2'
   have FYn:Hid (FinV wn (.agg #[.bool ny,.bool false,.slice p2 (dgs cy).length c2,.int .i64 ey]) ny cy ey):=Lh ⟨_,rfl,k2⟩
   have FAn:=Lh (Qb FA.out hB)
   have LAn:=LA
   have FBn:=Lh (Qb FB.out hB)
   have LBn:=LB
   have NEn:=NE
   have FXn:=Lh (FX.out.later hB)
   refine hK _ _ (HC.out _ HBn.out) ?_
   clear hK K hB k2 k2x
   try simp only [Act.put,Zp_]
   clear HB FA LA FB LB NE FX
   revert FYn
   revert FXn
   revert NEn
   revert LBn
   revert FBn
   revert LAn
   revert FAn
   revert HBn
   revert c2
   revert p2
   revert c1
   revert p1
   revert gB
   revert gA
   revert wn
   exact hst211
  case st201 =>
   intro wq gB p1 c1 p2 c2 HB FB LB FX FY
   refine AH.o 4 (fun K hK=>?_)
   go_simp
   have HBn:=Lh (bal HB.out (.cells #[.bool false,.bool false,.slice none 0 0,.int .i64 0] 46))
   have FAn:=Lh (gal wq (.cells #[.bool false,.bool false,.slice none 0 0,.int .i64 0] 46))
   have LAn:=HB.out.size
   have FBn:=Lh (Qb FB.out (Qf wq (.cells #[.bool false,.bool false,.slice none 0 0,.int .i64 0] 46)))
   have LBn:=LB
   have FXn:=Lh (FX.out.later (Qf wq (.cells #[.bool false,.bool false,.slice none 0 0,.int .i64 0] 46)))
   have FYn:=Lh (FY.out.later (Qf wq (.cells #[.bool false,.bool false,.slice none 0 0,.int .i64 0] 46)))
   have NEn:wq.heap.size≠gB:=by have:=(Array.getElem?_eq_some_iff.1 FB.out).1;omega
   refine hK _ _ (HC.out _ HBn.out) ?_
   clear hK K
   try simp only [Act.put,Zp_]
   generalize hg:wq.heap.size=gA at FAn LAn NEn ⊢
   generalize hw:wq.alloc (.cells #[.bool false,.bool false,.slice none 0 0,.int .i64 0] 46)=wn at HBn FAn FBn FXn FYn ⊢
   clear hg hw
   clear HB FB LB FX FY
   revert FYn
   revert FXn
   revert NEn
   revert LBn
   revert FBn
   revert LAn
   revert FAn
   revert HBn
   revert c2
   revert p2
   revert c1
   revert p1
   revert gB
   revert gA
   revert wn
   exact hst211
  case st210 =>
   intro wq gA p1 c1 p2 c2 HB FA LA FX FY
   refine AH.o 5 (fun K hK=>?_)
   go_simp
   have HBn:=Lh (bal HB.out (.cells #[.bool false,.bool false,.slice none 0 0,.int .i64 0] 46))
   have FBn:=Lh (gal wq (.cells #[.bool false,.bool false,.slice none 0 0,.int .i64 0] 46))
   have LBn:=HB.out.size
   have FAn:=Lh (Qb FA.out (Qf wq (.cells #[.bool false,.bool false,.slice none 0 0,.int .i64 0] 46)))
   have LAn:=LA
   have FXn:=Lh (FX.out.later (Qf wq (.cells #[.bool false,.bool false,.slice none 0 0,.int .i64 0] 46)))
   have FYn:=Lh (FY.out.later (Qf wq (.cells #[.bool false,.bool false,.slice none 0 0,.int .i64 0] 46)))
   have NEn:gA≠wq.heap.size:=by have:=(Array.getElem?_eq_some_iff.1 FA.out).1;omega
   refine hK _ _ (HC.out _ HBn.out) ?_
   clear hK K
   try simp only [Act.put,Zp_]
   generalize hg:wq.heap.size=gB at FBn LBn NEn ⊢
   generalize hw:wq.alloc (.cells #[.bool false,.bool false,.slice none 0 0,.int .i64 0] 46)=wn at HBn FAn FBn FXn FYn ⊢
   clear hg hw
   clear HB FA LA FX FY
   revert FYn
   revert FXn
   revert NEn
   revert LBn
   revert FBn
   revert LAn
   revert FAn
   revert HBn
   revert c2
   revert p2
   revert c1
   revert p1
   revert gB
   revert gA
   revert wn
   exact hst211
  case st211 =>
   intro wq gA gB p1 c1 p2 c2 HB FA LA FB LB NE FX FY
   obtain ⟨hBs,hb5,hBt,hT2⟩:=Q46 HB.out FA.out FB.out LA LB NE FX.out FY.out
   have a0:=Q1 FA.out 0 rfl;have a1:=Q1 FA.out 1 rfl;have a2:=Q1 FA.out 2 rfl;have a3:=Q1 FA.out 3 rfl
   have fa:=(Qd FA.out).2
   have fa0:=fa 0;have fa1:=fa 1;have fa2:=fa 2;have fa3:=fa 3
   have HT2:=Lh hT2;have HBs:=Lh hBs;have HBt:=Lh hBt;have Hb5:=Lh hb5
   unfold set4 at HT2 HBs HBt Hb5
   clear hT2 hBs hBt hb5 fa
   refine AH.o 6 (fun K hK=>?_)
   go_simp
   refine hK _ _ (HC.out _ HBs.out) ?_
   clear hK K a0 a1 a2 a3 fa0 fa1 fa2 fa3
   try simp only [Act.put,Zp_]
   generalize (((wq.setCell ⟨gA,0,none⟩ (.bool nx)).setCell ⟨gA,1,none⟩ (.bool false)).setCell ⟨gA,2,none⟩ (.slice p1 (dgs cx).length c1)).setCell ⟨gA,3,none⟩ (.int .i64 ex)=ws at HT2 HBs HBt Hb5 ⊢
   have b0:=Q1 Hb5.out 0 rfl;have b1:=Q1 Hb5.out 1 rfl;have b2:=Q1 Hb5.out 2 rfl;have b3:=Q1 Hb5.out 3 rfl
   have fb:=(Qd Hb5.out).2
   have fb0:=fb 0;have fb1:=fb 1;have fb2:=fb 2;have fb3:=fb 3
   clear fb
   refine AH.o 7 (fun K hK=>?_)
   go_simp
   refine hK _ _ (HC.out _ HBt.out) ?_
   clear hK K
   try simp only [Act.put,Zp_]
   refine AH.done (by kernel_rfl) ?_
   go_wp2_with fail
   go_meet
   exact HT2.out
 case rest =>
  obtain ⟨gA,gB,p1,l1,c1,p2,l2,c2,rfl,rfl,⟨hA,hB⟩,n1,n2,lA,lB,ne,hBx⟩:=hcut
  have HAc:=Lh (HA0.out.later hBx)
  have FX:Hid (FinV wc _ nx cx ex):=Lh n1
  have FY:Hid (FinV wc _ ny cy ey):=Lh n2
  have a0:=Q1 hA 0 rfl;have a1:=Q1 hA 1 rfl;have a2:=Q1 hA 2 rfl;have a3:=Q1 hA 3 rfl
  have b0:=Q1 hB 0 rfl;have b1:=Q1 hB 1 rfl;have b2:=Q1 hB 2 rfl;have b3:=Q1 hB 3 rfl
  clear hA hB n1 n2 lA lB ne hBx HC HwA HA0 HX HY HN0 HN1 c0 c1' c2' c3' c4' x0 x1 x2 x3 y0 y1 y2 y3
  have cb:=(Qd HAc.out.cb).1
  have c0:=Q1 HAc.out.cb 0 rfl;have c1':=Q1 HAc.out.cb 1 rfl;have c2':=Q1 HAc.out.cb 2 rfl;have c3':=Q1 HAc.out.cb 3 rfl;have c4':=Q1 HAc.out.cb 4 rfl
  clear cb
  have x0:=Q1 HAc.out.xb 0 rfl;have x1:=Q1 HAc.out.xb 1 rfl;have x2:=Q1 HAc.out.xb 2 rfl;have x3:=Q1 HAc.out.xb 3 rfl
  have y0:=Q1 HAc.out.yb 0 rfl;have y1:=Q1 HAc.out.yb 1 rfl;have y2:=Q1 HAc.out.yb 2 rfl;have y3:=Q1 HAc.out.yb 3 rfl
  obtain ⟨bw,hbw⟩:∃ b,(fx == 1)=b:=⟨_,rfl⟩
  obtain ⟨bo,hbo⟩:∃ b,(fy == 1)=b:=⟨_,rfl⟩
  have Hbw:=Lh hbw;have Hbo:=Lh hbo
  obtain ⟨V,hV⟩:∃ V,V=spS fx nx ex cx fy ny ey cy:=⟨_,rfl⟩
  rw [← hV] at HV
  have HV3:=Lh hV
  clear hV
  go_wp2_with fail
  go_quiet (fail)
  clear hbw hbo
  go_upto_block 3 with (fail)
  clear c0 c1' c2' c3' c4' x0 x1 x2 x3 y0 y1 y2 y3
  have HAq:=Lh (HAc.out.drewN nq)
  have FXq:Hid (FinV (wc.drewN nq) _ nx cx ex):=Lh (FX.out.later ⟨rfl,rfl,rfl,Nat.le_refl _,fun _ _=>rfl⟩)
  have FYq:Hid (FinV (wc.drewN nq) _ ny cy ey):=Lh (FY.out.later ⟨rfl,rfl,rfl,Nat.le_refl _,fun _ _=>rfl⟩)
  have a0:(wc.drewN nq).cell? ⟨gA,0,none⟩=some (.bool nx):=a0;have a1:(wc.drewN nq).cell? ⟨gA,1,none⟩=some (.bool false):=a1;have a2:(wc.drewN nq).cell? ⟨gA,2,none⟩=some (.slice p1 l1 c1):=a2;have a3:(wc.drewN nq).cell? ⟨gA,3,none⟩=some (.int .i64 ex):=a3
  have b0:(wc.drewN nq).cell? ⟨gB,0,none⟩=some (.bool ny):=b0;have b1:(wc.drewN nq).cell? ⟨gB,1,none⟩=some (.bool false):=b1;have b2:(wc.drewN nq).cell? ⟨gB,2,none⟩=some (.slice p2 l2 c2):=b2;have b3:(wc.drewN nq).cell? ⟨gB,3,none⟩=some (.int .i64 ey):=b3
  clear HAc FX FY
  generalize wc.drewN nq=w1 at *
  go_cut [16] from 233 to 258 (fun z wx=>∃ s,z=.int .i64 s∧min (max s (-1)) 1=V∧AS w #[.int .u32 (p:Int),.int .i32 mx,.int .i32 mn,.int .u32 (tr:Int),.int .i64 (md:Int)] #[.int .i64 fx,.bool nx,.int .i32 ex,.string sx] #[.int .i64 fy,.bool ny,.int .i32 ey,.string sy] wx)
  case first =>
   rcases HX2.out with hfx | hfx <;> rcases HY2.out with hfy | hfy
   ·obtain rfl:bw=false:=by rw [← Hbw.out,hfx];rfl
    obtain rfl:bo=false:=by rw [← Hbo.out,hfy];rfl
    have hV:=HV3.out
    unfold spS at hV
    rw [if_neg (by omega),if_neg (by omega)] at hV
    have hb:=Qah (ngZ nx (cx*10^(ex - min ex ey).toNat)) (cx*10^(ex - min ex ey).toNat) (ngZ ny (cy*10^(ey - min ex ey).toNat)) (cy*10^(ey - min ex ey).toNat)
    rw [← hV] at HOr hb
    have hm:min (max V (-1)) 1=V:=by omega
    have HM:=Lh hm
    clear hV hb hm HV3 hfx hfy Hbw Hbo
    go_wp2_with fail
    refine (HOr.out _ _ _ FXq.out FYq.out).mono ?_
    rintro r w2 ⟨rfl,hB⟩
    have HA2:=Lh (HAq.out.later hB)
    clear hB a0 a1 a2 a3 b0 b1 b2 b3
    go_wp2_with fail
    go_meet
    exact ⟨_,rfl,HM.out,HA2.out⟩
   ·obtain rfl:bw=false:=by rw [← Hbw.out,hfx];rfl
    obtain rfl:bo=true:=by rw [← Hbo.out,hfy];rfl
    have hm:min (max (if ny then 1 else -1) (-1)) 1=V:=by
     rw [HV3.out,hfx,hfy];cases ny <;> rfl
    have HM:=Lh hm
    clear hm HV3 hfx hfy Hbw Hbo HOr
    have HS:=Lh (fun w2=>Q9S ny w2)
    generalize (if ny then (1:Int) else -1)=s at HS HM
    go_wp2_with fail
    refine (HS.out _).mono ?_
    rintro r w_ ⟨rfl,hw_⟩
    subst hw_
    go_wp2_with fail
    go_meet
    exact ⟨_,rfl,HM.out,HAq.out⟩
   ·obtain rfl:bw=true:=by rw [← Hbw.out,hfx];rfl
    obtain rfl:bo=false:=by rw [← Hbo.out,hfy];rfl
    have hm:min (max (if nx then -1 else 1) (-1)) 1=V:=by
     rw [HV3.out,hfx,hfy];cases nx <;> rfl
    have HM:=Lh hm
    clear hm HV3 hfx hfy Hbw Hbo HOr
    cases nx
    ·go_wp2_with fail
     refine (Q8H _).mono ?_
     rintro r w_ ⟨rfl,hw_⟩
     subst hw_
     go_wp2_with fail
     go_meet
     exact ⟨_,rfl,HM.out,HAq.out⟩
    ·go_wp2_with fail
     refine (Q8G _).mono ?_
     rintro r w_ ⟨rfl,hw_⟩
     subst hw_
     go_wp2_with fail
     go_meet
     exact ⟨_,rfl,HM.out,HAq.out⟩
   ·obtain rfl:bw=true:=by rw [← Hbw.out,hfx];rfl
    obtain rfl:bo=true:=by rw [← Hbo.out,hfy];rfl
    have hm:min (max ((if ny then 1 else -1) - (if nx then 1 else -1)) (-1)) 1=V:=by
     rw [HV3.out,hfx,hfy];cases nx <;> cases ny <;> rfl
    have HM:=Lh hm
    clear hm HV3 hfx hfy Hbw Hbo HOr
    cases nx <;> cases ny
    all_goals
     go_wp2_with fail
     go_quiet ((go_at_call 53;first | exact Calls.quiet_of_same (Q8G _) | exact Calls.quiet_of_same (Q8H _)))
     go_wp2_with fail
     go_meet
     exact ⟨_,rfl,HM.out,HAq.out.drewN _⟩
  case rest =>
   obtain ⟨s,rfl,hm,hAr⟩:=hcut
   have HAr:=Lh hAr
   have hvb:V = -1∨V=0∨V=1:=by
    rw [HV3.out];unfold spS
    have hb:=Qah (ngZ nx (cx*10^(ex - min ex ey).toNat)) (cx*10^(ex - min ex ey).toNat) (ngZ ny (cy*10^(ey - min ex ey).toNat)) (cy*10^(ey - min ex ey).toNat)
    (repeat' split) <;> omega
   clear hAr HAq FXq FYq a0 a1 a2 a3 b0 b1 b2 b3 HV3 HX2 HY2 Hbw Hbo HOr
   rcases hvb with rfl | rfl | rfl
   ·go_wp2_with fail
    refine (Q1I 1 (by decide) _).mono ?_
    rintro r w2 ⟨v1,rfl,⟨sl,rfl,hd⟩,hB⟩
    have HA2:=Lh (HAr.out.later hB)
    have HD2:=Lh hd
    obtain ⟨q,cap,rfl,hdx⟩:=hd
    clear hB hdx
    have hL1:(dgs 1).length=1:=by rw [Qy _ (by decide),Qi (by decide)]
    rw [hL1] at HD2
    rw [hL1]
    go_upto_region 58 with (fail)
    obtain ⟨w3,hw3⟩:∃ w3,w3=w2.alloc (.cells #[.bool true,.bool false,.slice q 1 cap,.int .i64 0] 46):=⟨_,rfl⟩
    have HG3:Hid (w3.heap[w2.heap.size]?=some (.cells #[.bool true,.bool false,.slice q 1 cap,.int .i64 0] 46 (0,0))):=Lh (by rw [hw3];exact gal _ _)
    have HA3:Hid (AS w #[.int .u32 (p:Int),.int .i32 mx,.int .i32 mn,.int .u32 (tr:Int),.int .i64 (md:Int)] #[.int .i64 fx,.bool nx,.int .i32 ex,.string sx] #[.int .i64 fy,.bool ny,.int .i32 ey,.string sy] w3):=Lh (by rw [hw3];exact HA2.out.later (Qf _ _))
    have HD3:Hid (Dg w3 (.slice q 1 cap) (dgs 1)):=Lh (by rw [hw3];exact HD2.out.later (Qf _ _))
    have HGL:=Lh HA2.out.size
    rw [← hw3]
    clear hw3 HA2 HD2
    generalize w2.heap.size=g at HG3 HGL ⊢
    have o0:=Q1 HG3.out 0 rfl;have o1:=Q1 HG3.out 1 rfl;have o2:=Q1 HG3.out 2 rfl;have o3:=Q1 HG3.out 3 rfl
    have HT:=Lh (Q0n (w:=w3) (v:=.agg #[.bool true,.bool false,.slice q 1 cap,.int .i64 0]) (n:=true) (c:=1) (e:=0) ⟨_,rfl,HD3.out⟩ (by decide) (by rw [hL1];decide))
    have HV':Hid (A=RsV 0 true 0 (txS 1) 0 true false false):=Lh HV.out
    unfold DV at HT
    generalize txS 1=tx at HT HV'
    go_wp2_with fail
    refine HT.out.mono ?_
    rintro r w9 ⟨rfl,hB⟩
    have HA9:=Lh (HA3.out.later hB)
    clear hB o0 o1 o2 o3 HT HG3 HD3 HA3 HV
    obtain ⟨r0,r1,r2,r3,r4,r5,r6,r7⟩:=HA9.out.rc
    have rf:=HA9.out.rf
    have f0:=rf 0;have f1:=rf 1;have f2:=rf 2;have f3:=rf 3;have f4:=rf 4;have f5:=rf 5;have f6:=rf 6;have f7:=rf 7
    clear rf
    go_wp2_with fail
    have h8:=Qw HA9.out.rb (.int .i64 0) (.bool true) (.int .i32 0) (.string tx) (.int .u32 0) (.bool true) (.bool false) (.bool false)
    have hb:=HA9.out.done (.int .i64 0) (.bool true) (.int .i32 0) (.string tx) (.int .u32 0) (.bool true) (.bool false) (.bool false)
    unfold set8 at h8 hb
    exact bodyPost_ret (v:=.agg #[.int .i64 0,.bool true,.int .i32 0,.string tx,.int .u32 0,.bool true,.bool false,.bool false]) (by simp [results,Tryz.results22,go_sem,h8]) rfl ⟨Qu (by rw [HV'.out];rfl),hb⟩
   ·go_wp2_with fail
    refine (Q1I 1 (by decide) _).mono ?_
    rintro r w2 ⟨v1,rfl,⟨sl,rfl,hd⟩,hB⟩
    have HA2:=Lh (HAr.out.later hB)
    have HD2:=Lh hd
    obtain ⟨q,cap,rfl,hdx⟩:=hd
    clear hB hdx
    have hL1:(dgs 1).length=1:=by rw [Qy _ (by decide),Qi (by decide)]
    rw [hL1] at HD2
    rw [hL1]
    go_upto_region 58 with (fail)
    obtain ⟨w3,hw3⟩:∃ w3,w3=w2.alloc (.cells #[.bool false,.bool false,.slice q 1 cap,.int .i64 0] 46):=⟨_,rfl⟩
    have HG3:Hid (w3.heap[w2.heap.size]?=some (.cells #[.bool false,.bool false,.slice q 1 cap,.int .i64 0] 46 (0,0))):=Lh (by rw [hw3];exact gal _ _)
    have HA3:Hid (AS w #[.int .u32 (p:Int),.int .i32 mx,.int .i32 mn,.int .u32 (tr:Int),.int .i64 (md:Int)] #[.int .i64 fx,.bool nx,.int .i32 ex,.string sx] #[.int .i64 fy,.bool ny,.int .i32 ey,.string sy] w3):=Lh (by rw [hw3];exact HA2.out.later (Qf _ _))
    have HD3:Hid (Dg w3 (.slice q 1 cap) (dgs 1)):=Lh (by rw [hw3];exact HD2.out.later (Qf _ _))
    have HGL:=Lh HA2.out.size
    rw [← hw3]
    clear hw3 HA2 HD2
    generalize w2.heap.size=g at HG3 HGL ⊢
    go_wp2_with fail
    refine (Q1I 0 (by decide) _).mono ?_
    rintro r w4 ⟨v2,rfl,⟨sl2,rfl,hd2⟩,hB⟩
    have HA4:=Lh (HA3.out.later hB)
    have HG4:=Lh (Qb HG3.out hB)
    have HD4:=Lh hd2
    obtain ⟨q2,cap2,rfl,hdx⟩:=hd2
    clear hB hdx HA3 HG3 HD3 hL1
    have hL0:(dgs 0).length=0:=by rw [Qv];rfl
    rw [hL0] at HD4
    rw [hL0]
    have o1:=Q1 HG4.out 1 rfl;have o2:=Q1 HG4.out 2 rfl
    have gf:=(Qd HG4.out).2
    have g1:=gf 1;have g2:=gf 2
    clear gf
    go_upto_region 60 with (fail)
    have HG5:Hid (((w4.setCell ⟨g,1,none⟩ (.bool false)).setCell ⟨g,2,none⟩ (.slice q2 0 cap2)).heap[g]?=some (.cells #[.bool false,.bool false,.slice q2 0 cap2,.int .i64 0] 46 (0,0))):=Lh (by
     have:=Qx (Qx HG4.out 1 (.bool false)) 2 (.slice q2 0 cap2)
     simpa using this)
    have ho:Only g w4 ((w4.setCell ⟨g,1,none⟩ (.bool false)).setCell ⟨g,2,none⟩ (.slice q2 0 cap2)):=((Only.refl g w4).set 1 _).set 2 _
    have HA5:Hid (AS w #[.int .u32 (p:Int),.int .i32 mx,.int .i32 mn,.int .u32 (tr:Int),.int .i64 (md:Int)] #[.int .i64 fx,.bool nx,.int .i32 ex,.string sx] #[.int .i64 fy,.bool ny,.int .i32 ey,.string sy] ((w4.setCell ⟨g,1,none⟩ (.bool false)).setCell ⟨g,2,none⟩ (.slice q2 0 cap2))):=Lh (HA4.out.far HGL.out ho (((Below.refl _ _).setCell (by exact Nat.le_refl _) _).setCell (by exact Nat.le_refl _) _))
    have HD5:Hid (Dg ((w4.setCell ⟨g,1,none⟩ (.bool false)).setCell ⟨g,2,none⟩ (.slice q2 0 cap2)) (.slice q2 0 cap2) (dgs 0)):=Lh (HD4.out.keep HG4.out (by rfl) ho)
    clear ho o1 o2 g1 g2 HA4 HG4 HD4 HGL
    generalize (w4.setCell ⟨g,1,none⟩ (.bool false)).setCell ⟨g,2,none⟩ (.slice q2 0 cap2)=w5 at HG5 HA5 HD5 ⊢
    have o0:=Q1 HG5.out 0 rfl;have o1:=Q1 HG5.out 1 rfl;have o2:=Q1 HG5.out 2 rfl;have o3:=Q1 HG5.out 3 rfl
    have HT:=Lh (Q0n (w:=w5) (v:=.agg #[.bool false,.bool false,.slice q2 0 cap2,.int .i64 0]) (n:=false) (c:=0) (e:=0) ⟨_,rfl,HD5.out⟩ (by decide) (by rw [hL0];decide))
    have HV':Hid (A=RsV 0 false 0 (txS 0) 0 true false false):=Lh HV.out
    unfold DV at HT
    generalize txS 0=tx at HT HV'
    go_wp2_with fail
    refine HT.out.mono ?_
    rintro r w9 ⟨rfl,hB⟩
    have HA9:=Lh (HA5.out.later hB)
    clear hB o0 o1 o2 o3 HT HG5 HD5 HA5 HV
    obtain ⟨r0,r1,r2,r3,r4,r5,r6,r7⟩:=HA9.out.rc
    have rf:=HA9.out.rf
    have f0:=rf 0;have f1:=rf 1;have f2:=rf 2;have f3:=rf 3;have f4:=rf 4;have f5:=rf 5;have f6:=rf 6;have f7:=rf 7
    clear rf
    go_wp2_with fail
    have h8:=Qw HA9.out.rb (.int .i64 0) (.bool false) (.int .i32 0) (.string tx) (.int .u32 0) (.bool true) (.bool false) (.bool false)
    have hb:=HA9.out.done (.int .i64 0) (.bool false) (.int .i32 0) (.string tx) (.int .u32 0) (.bool true) (.bool false) (.bool false)
    unfold set8 at h8 hb
    exact bodyPost_ret (v:=.agg #[.int .i64 0,.bool false,.int .i32 0,.string tx,.int .u32 0,.bool true,.bool false,.bool false]) (by simp [results,Tryz.results22,go_sem,h8]) rfl ⟨Qu (by rw [HV'.out];rfl),hb⟩
   ·go_wp2_with fail
    refine (Q1I 1 (by decide) _).mono ?_
    rintro r w2 ⟨v1,rfl,⟨sl,rfl,hd⟩,hB⟩
    have HA2:=Lh (HAr.out.later hB)
    have HD2:=Lh hd
    obtain ⟨q,cap,rfl,hdx⟩:=hd
    clear hB hdx
    have hL1:(dgs 1).length=1:=by rw [Qy _ (by decide),Qi (by decide)]
    rw [hL1] at HD2
    rw [hL1]
    go_upto_region 58 with (fail)
    obtain ⟨w3,hw3⟩:∃ w3,w3=w2.alloc (.cells #[.bool false,.bool false,.slice q 1 cap,.int .i64 0] 46):=⟨_,rfl⟩
    have HG3:Hid (w3.heap[w2.heap.size]?=some (.cells #[.bool false,.bool false,.slice q 1 cap,.int .i64 0] 46 (0,0))):=Lh (by rw [hw3];exact gal _ _)
    have HA3:Hid (AS w #[.int .u32 (p:Int),.int .i32 mx,.int .i32 mn,.int .u32 (tr:Int),.int .i64 (md:Int)] #[.int .i64 fx,.bool nx,.int .i32 ex,.string sx] #[.int .i64 fy,.bool ny,.int .i32 ey,.string sy] w3):=Lh (by rw [hw3];exact HA2.out.later (Qf _ _))
    have HD3:Hid (Dg w3 (.slice q 1 cap) (dgs 1)):=Lh (by rw [hw3];exact HD2.out.later (Qf _ _))
    have HGL:=Lh HA2.out.size
    rw [← hw3]
    clear hw3 HA2 HD2
    generalize w2.heap.size=g at HG3 HGL ⊢
    have o0:=Q1 HG3.out 0 rfl;have o1:=Q1 HG3.out 1 rfl;have o2:=Q1 HG3.out 2 rfl;have o3:=Q1 HG3.out 3 rfl
    have HT:=Lh (Q0n (w:=w3) (v:=.agg #[.bool false,.bool false,.slice q 1 cap,.int .i64 0]) (n:=false) (c:=1) (e:=0) ⟨_,rfl,HD3.out⟩ (by decide) (by rw [hL1];decide))
    have HV':Hid (A=RsV 0 false 0 (txS 1) 0 true false false):=Lh HV.out
    unfold DV at HT
    generalize txS 1=tx at HT HV'
    go_wp2_with fail
    refine HT.out.mono ?_
    rintro r w9 ⟨rfl,hB⟩
    have HA9:=Lh (HA3.out.later hB)
    clear hB o0 o1 o2 o3 HT HG3 HD3 HA3 HV
    obtain ⟨r0,r1,r2,r3,r4,r5,r6,r7⟩:=HA9.out.rc
    have rf:=HA9.out.rf
    have f0:=rf 0;have f1:=rf 1;have f2:=rf 2;have f3:=rf 3;have f4:=rf 4;have f5:=rf 5;have f6:=rf 6;have f7:=rf 7
    clear rf
    go_wp2_with fail
    have h8:=Qw HA9.out.rb (.int .i64 0) (.bool false) (.int .i32 0) (.string tx) (.int .u32 0) (.bool true) (.bool false) (.bool false)
    have hb:=HA9.out.done (.int .i64 0) (.bool false) (.int .i32 0) (.string tx) (.int .u32 0) (.bool true) (.bool false) (.bool false)
    unfold set8 at h8 hb
    exact bodyPost_ret (v:=.agg #[.int .i64 0,.bool false,.int .i32 0,.string tx,.int .u32 0,.bool true,.bool false,.bool false]) (by simp [results,Tryz.results22,go_sem,h8]) rfl ⟨Qu (by rw [HV'.out];rfl),hb⟩
end Go.Proofs.YtpfjmeadikdddaaGreatDoor
