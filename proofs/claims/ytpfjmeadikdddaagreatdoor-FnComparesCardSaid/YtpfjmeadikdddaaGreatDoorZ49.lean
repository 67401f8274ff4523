/- a part of the proof -/
import Derived.Deep.CutBlock
import Derived.Test.YtpfjmeadikdddaaGreatDoorZ27
import Derived.Test.YtpfjmeadikdddaaGreatDoorZ48
set_option linter.all false
set_option maxRecDepth 100000
set_option maxHeartbeats 16000000
namespace Go.Proofs.YtpfjmeadikdddaaGreatDoor
open Go Go.RowKit
theorem QaT {A B:Prop}(a:A)(h:A→B):B:=h a
theorem QaX (f:Int)(hf:0≤f∧f<4)(n:Bool)(e:Int)(s:ByteArray)(w:World):Calls Tryz.prog 49 #[.agg #[.int .i64 f,.bool n,.int .i32 e,.string s]] w fun r w'=>r=.returned (.int .i64 (ordI f n))∧Below w.heap.size w w':=by
 have HB:=Lh (fun o=>Qf w o)
 have hix:∀ (k v:Int) (w:World),(Instr.index 92 (.agg #[.int .i64 1,.int .i64 2,.int .i64 3,.int .i64 4]) (.int .i64 k)).run Tryz.prog w=.ok (.int .i64 v) w→(Instr.index 92 (.agg #[.int .i64 1,.int .i64 2,.int .i64 3,.int .i64 4]) (.int .i64 k)).run Tryz.prog w=.ok (.int .i64 v) w:=fun _ _ _ h=>h
 have i0:∀ w,_:=fun w=>hix 0 1 w (by kernel_rfl)
 have i1:∀ w,_:=fun w=>hix 1 2 w (by kernel_rfl)
 have i2:∀ w,_:=fun w=>hix 2 3 w (by kernel_rfl)
 have i3:∀ w,_:=fun w=>hix 3 4 w (by kernel_rfl)
 clear hix
 rcases (show f=0∨f=1∨f=2∨f=3 by omega) with rfl | rfl | rfl | rfl <;> cases n
 all_goals
  clear hf
  go_enter Tryz.func49, Tryz.ntmps49
  go_wp2_with fail
  go_ret
  exact ⟨rfl,HB.out _⟩
def totS (f:Int)(n:Bool)(e:Int)(c:Nat)(f':Int)(n':Bool)(e':Int)(c':Nat):Int :=
 if ordI f n<ordI f' n' then -1 else if ordI f' n'<ordI f n then 1
 else if f=0 then (if cmZ (ngZ n (c*10^(e - min e e').toNat)) (c*10^(e - min e e').toNat) (ngZ n' (c'*10^(e' - min e e').toNat)) (c'*10^(e' - min e e').toNat)=0 then (if e<e' then (if n then 1 else -1) else if e'<e then (if n then -1 else 1) else 0) else cmZ (ngZ n (c*10^(e - min e e').toNat)) (c*10^(e - min e e').toNat) (ngZ n' (c'*10^(e' - min e e').toNat)) (c'*10^(e' - min e e').toNat))
 else 0
theorem Qb2 (fx:Int)(nx:Bool)(ex:Int)(sx:ByteArray)(fy:Int)(ny:Bool)(ey:Int)(sy:ByteArray)(hx:ArOk 200 fx ex sx)(hy:ArOk 200 fy ey sy)(w:World) :
  Calls Tryz.prog 21 #[DV fx nx ex sx,DV fy ny ey sy] w fun r w'=>r=.returned (.int .i64 (totS fx nx ex (vl (sdL sx 0)) fy ny ey (vl (sdL sy 0))))∧Below w.heap.size w w':=by
 obtain ⟨hx1,hx2,hx3,hx4,hx5,hx6⟩:=hx.canon (by decide)
 obtain ⟨hy1,hy2,hy3,hy4,hy5,hy6⟩:=hy.canon (by decide)
 have hxl:=hx1.len
 have hyl:=hy1.len
 have HX:Hid (∀ w2,Calls Tryz.prog 19 #[.agg #[.int .i64 fx,.bool nx,.int .i32 ex,.string sx]] w2 fun r w'=>∃ v',r=.returned v'∧FinV w' v' nx (vl (sdL sx 0)) ex∧Below w2.heap.size w2 w'):=Lh (fun w2=>Q2e fx nx ex sx (by omega) hx1 (by omega) w2)
 have HY:Hid (∀ w2,Calls Tryz.prog 19 #[.agg #[.int .i64 fy,.bool ny,.int .i32 ey,.string sy]] w2 fun r w'=>∃ v',r=.returned v'∧FinV w' v' ny (vl (sdL sy 0)) ey∧Below w2.heap.size w2 w'):=Lh (fun w2=>Q2e fy ny ey sy (by omega) hy1 (by omega) w2)
 generalize vl (sdL sx 0)=cx at HX hxl ⊢
 generalize vl (sdL sy 0)=cy at HY hyl ⊢
 have HRx:=Lh (fun w2=>QaX fx (by omega) nx ex sx w2)
 have HRy:=Lh (fun w2=>QaX fy (by omega) ny ey sy w2)
 have HOr:Hid (∀ w2 u v,FinV w2 u nx cx ex→FinV w2 v ny cy ey→Calls Tryz.prog 18 #[u,v] w2 fun r w'=>r=.returned (.int .i64 (cmZ (ngZ nx (cx*10^(ex - min ex ey).toNat)) (cx*10^(ex - min ex ey).toNat) (ngZ ny (cy*10^(ey - min ex ey).toNat)) (cy*10^(ey - min ex ey).toNat)))∧Below w2.heap.size w2 w'):=Lh (fun w2 u v h h'=>Q8C h h' (by omega) (by omega) (by omega) (by omega))
 have hq:=fun q=>QaW (f:=fx) (f':=fy) (n:=nx) (n':=ny) hx5 hy5 q
 unfold totS DV
 generalize ordI fx nx=A at HRx hq ⊢
 generalize ordI fy ny=B at HRy hq ⊢
 obtain ⟨wA,hwA⟩:∃ wA,wA=(w.alloc (.cells #[.int .i64 fx,.bool nx,.int .i32 ex,.string sx] 26)).alloc (.cells #[.int .i64 fy,.bool ny,.int .i32 ey,.string sy] 26):=⟨_,rfl⟩
 have hBA:Below w.heap.size w wA:=by rw [hwA];exact bal (Qf w _) _
 have g1:wA.heap[w.heap.size]?=some (.cells #[.int .i64 fx,.bool nx,.int .i32 ex,.string sx] 26 (0,0)):=by rw [hwA];exact Qb (gal w _) (Qf _ _)
 have g2:wA.heap[w.heap.size+1]?=some (.cells #[.int .i64 fy,.bool ny,.int .i32 ey,.string sy] 26 (0,0)):=by
  have e:(w.alloc (.cells #[.int .i64 fx,.bool nx,.int .i32 ex,.string sx] 26)).heap.size=w.heap.size+1:=by simp
  rw [hwA,← e];exact gal _ _
 have HC:Hid (∀ w2,Below wA.heap.size wA w2→w2.cell? ⟨w.heap.size,0,none⟩=some (.int .i64 fx)∧w2.cell? ⟨w.heap.size,1,none⟩=some (.bool nx)∧w2.cell? ⟨w.heap.size,2,none⟩=some (.int .i32 ex)∧w2.cell? ⟨w.heap.size,3,none⟩=some (.string sx)∧w2.cell? ⟨w.heap.size+1,0,none⟩=some (.int .i64 fy)∧w2.cell? ⟨w.heap.size+1,1,none⟩=some (.bool ny)∧w2.cell? ⟨w.heap.size+1,2,none⟩=some (.int .i32 ey)∧w2.cell? ⟨w.heap.size+1,3,none⟩=some (.string sy)):=Lh (fun w2 h=>by
  have k1:=Qb g1 h;have k2:=Qb g2 h
  exact ⟨(Qd k1).1 0,(Qd k1).1 1,(Qd k1).1 2,(Qd k1).1 3,(Qd k2).1 0,(Qd k2).1 1,(Qd k2).1 2,(Qd k2).1 3⟩)
 have HBA:=Lh hBA
 obtain ⟨x0,x1,x2,x3,y0,y1,y2,y3⟩:=HC.out _ (Below.refl _ _)
 clear hx hy hx1 hx2 hx3 hx4 hx5 hx6 hy1 hy2 hy3 hy4 hy5 hy6 hxl hyl g1 g2 hBA
 by_cases h1:A<B
 ·rw [if_pos h1]
  go_enter Tryz.func21, Tryz.ntmps21
  go_upto_region 2 with (fail)
  rw [← hwA]
  have HwA:=Lh hwA
  clear hwA
  refine AH.start (fun x=>x.cell? ⟨w.heap.size,0,none⟩=some (.int .i64 fx)∧x.cell? ⟨w.heap.size,1,none⟩=some (.bool nx)∧x.cell? ⟨w.heap.size,2,none⟩=some (.int .i32 ex)∧x.cell? ⟨w.heap.size,3,none⟩=some (.string sx)∧x.cell? ⟨w.heap.size+1,0,none⟩=some (.int .i64 fy)∧x.cell? ⟨w.heap.size+1,1,none⟩=some (.bool ny)∧x.cell? ⟨w.heap.size+1,2,none⟩=some (.int .i32 ey)∧x.cell? ⟨w.heap.size+1,3,none⟩=some (.string sy)) (by kernel_rfl) ?_
  generalize hw0:wA.drew=w0
  have HB0:Hid (Below wA.heap.size wA w0):=by rw [← hw0];exact Lh ((Below.refl _ _).drew)
  clear hw0 x0 x1 x2 x3 y0 y1 y2 y3
  have s0:=HC.out _ HB0.out
  refine AH.z 0 s0 ?_
  refine AH.z 1 s0 ?_
  refine AH.z 3 s0 ?_
  refine AH.z 4 s0 ?_
  clear s0
  refine AH.o 2 (fun K hK=>?_)
  go_simp
  refine (HRx.out w0).mono ?_
  rintro r w1 ⟨rfl,hB⟩
  have HB1:=Lh (Qe HB0.out hB)
  refine hK _ _ (HC.out _ HB1.out) ?_
  clear hK K hB HB0
  try simp only [Act.put,Zp_]
  refine AH.o 5 (fun K hK=>?_)
  go_simp
  refine (HRy.out w1).mono ?_
  rintro r w2 ⟨rfl,hB⟩
  have HB2:=Lh (Qe HB1.out hB)
  refine hK _ _ (HC.out _ HB2.out) ?_
  clear hK K hB HB1
  try simp only [Act.put,Zp_]
  have s2:=HC.out _ HB2.out
  refine AH.z 6 s2 ?_
  refine AH.z 7 s2 ?_
  clear s2
  refine AH.done (by kernel_rfl) ?_
  have HB9:=Lh (Qe HBA.out HB2.out)
  go_wp2_with fail
  go_ret
  exact ⟨rfl,HB9.out⟩
 ·rw [if_neg h1]
  by_cases h2:B<A
  ·rw [if_pos h2]
   go_enter Tryz.func21, Tryz.ntmps21
   go_upto_region 2 with (fail)
   rw [← hwA]
   have HwA:=Lh hwA
   clear hwA
   refine AH.start (fun x=>x.cell? ⟨w.heap.size,0,none⟩=some (.int .i64 fx)∧x.cell? ⟨w.heap.size,1,none⟩=some (.bool nx)∧x.cell? ⟨w.heap.size,2,none⟩=some (.int .i32 ex)∧x.cell? ⟨w.heap.size,3,none⟩=some (.string sx)∧x.cell? ⟨w.heap.size+1,0,none⟩=some (.int .i64 fy)∧x.cell? ⟨w.heap.size+1,1,none⟩=some (.bool ny)∧x.cell? ⟨w.heap.size+1,2,none⟩=some (.int .i32 ey)∧x.cell? ⟨w.heap.size+1,3,none⟩=some (.string sy)) (by kernel_rfl) ?_
   generalize hw0:wA.drew=w0
   have HB0:Hid (Below wA.heap.size wA w0):=by rw [← hw0];exact Lh ((Below.refl _ _).drew)
   clear hw0 x0 x1 x2 x3 y0 y1 y2 y3
   have s0:=HC.out _ HB0.out
   refine AH.z 0 s0 ?_
   refine AH.z 1 s0 ?_
   refine AH.z 3 s0 ?_
   refine AH.z 4 s0 ?_
   clear s0
   refine AH.o 2 (fun K hK=>?_)
   go_simp
   refine (HRx.out w0).mono ?_
   rintro r w1 ⟨rfl,hB⟩
   have HB1:=Lh (Qe HB0.out hB)
   refine hK _ _ (HC.out _ HB1.out) ?_
   clear hK K hB HB0
   try simp only [Act.put,Zp_]
   refine AH.o 5 (fun K hK=>?_)
   go_simp
   refine (HRy.out w1).mono ?_
   rintro r w2 ⟨rfl,hB⟩
   have HB2:=Lh (Qe HB1.out hB)
   refine hK _ _ (HC.out _ HB2.out) ?_
   clear hK K hB HB1
   try simp only [Act.put,Zp_]
   have s2:=HC.out _ HB2.out
   refine AH.z 6 s2 ?_
   refine AH.z 7 s2 ?_
   clear s2
   refine AH.done (by kernel_rfl) ?_
   have HB9:=Lh (Qe HBA.out HB2.out)
   go_wp2_with fail
   go_ret
   exact ⟨rfl,HB9.out⟩
  ·rw [if_neg h2]
   obtain ⟨rfl,rfl⟩:=hq (by omega)
   obtain rfl:A=B:=by omega
   clear hq h1 h2
   by_cases h3:fx=0
   rotate_left
   ·rw [if_neg h3]
    have b3:(fx != 0)=true:=by simpa using h3
    go_enter Tryz.func21, Tryz.ntmps21
    go_upto_region 2 with (fail)
    rw [← hwA]
    have HwA:=Lh hwA
    clear hwA
    refine AH.start (fun x=>x.cell? ⟨w.heap.size,0,none⟩=some (.int .i64 fx)∧x.cell? ⟨w.heap.size,1,none⟩=some (.bool nx)∧x.cell? ⟨w.heap.size,2,none⟩=some (.int .i32 ex)∧x.cell? ⟨w.heap.size,3,none⟩=some (.string sx)∧x.cell? ⟨w.heap.size+1,0,none⟩=some (.int .i64 fx)∧x.cell? ⟨w.heap.size+1,1,none⟩=some (.bool nx)∧x.cell? ⟨w.heap.size+1,2,none⟩=some (.int .i32 ey)∧x.cell? ⟨w.heap.size+1,3,none⟩=some (.string sy)) (by kernel_rfl) ?_
    generalize hw0:wA.drew=w0
    have HB0:Hid (Below wA.heap.size wA w0):=by rw [← hw0];exact Lh ((Below.refl _ _).drew)
    clear hw0 x0 x1 x2 x3 y0 y1 y2 y3
    have s0:=HC.out _ HB0.out
    refine AH.z 0 s0 ?_
    refine AH.z 1 s0 ?_
    refine AH.z 3 s0 ?_
    refine AH.z 4 s0 ?_
    clear s0
    refine AH.o 2 (fun K hK=>?_)
    go_simp
    refine (HRx.out w0).mono ?_
    rintro r w1 ⟨rfl,hB⟩
    have HB1:=Lh (Qe HB0.out hB)
    refine hK _ _ (HC.out _ HB1.out) ?_
    clear hK K hB HB0
    try simp only [Act.put,Zp_]
    refine AH.o 5 (fun K hK=>?_)
    go_simp
    refine (HRy.out w1).mono ?_
    rintro r w2 ⟨rfl,hB⟩
    have HB2:=Lh (Qe HB1.out hB)
    refine hK _ _ (HC.out _ HB2.out) ?_
    clear hK K hB HB1
    try simp only [Act.put,Zp_]
    have s2:=HC.out _ HB2.out
    refine AH.z 6 s2 ?_
    refine AH.z 7 s2 ?_
    clear s2
    refine AH.done (by kernel_rfl) ?_
    have HB9:=Lh (Qe HBA.out HB2.out)
    obtain ⟨x0,x1,x2,x3,y0,y1,y2,y3⟩:=HC.out _ HB2.out
    go_wp2_with fail
    go_ret
    exact ⟨rfl,HB9.out⟩
   ·rw [if_pos h3]
    subst h3
    generalize (cmZ (ngZ nx (cx*10^(ex - min ex ey).toNat)) (cx*10^(ex - min ex ey).toNat) (ngZ nx (cy*10^(ey - min ex ey).toNat)) (cy*10^(ey - min ex ey).toNat))=V at HOr ⊢
    obtain ⟨R,hR⟩:∃ R:Int,R=(if V=0 then (if ex<ey then (if nx then 1 else -1) else if ey<ex then (if nx then -1 else 1) else 0) else V):=⟨_,rfl⟩
    rw [← hR]
    have HRR:=Lh hR
    clear hR
    go_enter Tryz.func21, Tryz.ntmps21
    go_upto_region 2 with (fail)
    rw [← hwA]
    have HwA:=Lh hwA
    clear hwA
    refine AH.start (fun x=>x.cell? ⟨w.heap.size,0,none⟩=some (.int .i64 0)∧x.cell? ⟨w.heap.size,1,none⟩=some (.bool nx)∧x.cell? ⟨w.heap.size,2,none⟩=some (.int .i32 ex)∧x.cell? ⟨w.heap.size,3,none⟩=some (.string sx)∧x.cell? ⟨w.heap.size+1,0,none⟩=some (.int .i64 0)∧x.cell? ⟨w.heap.size+1,1,none⟩=some (.bool nx)∧x.cell? ⟨w.heap.size+1,2,none⟩=some (.int .i32 ey)∧x.cell? ⟨w.heap.size+1,3,none⟩=some (.string sy)) (by kernel_rfl) ?_
    generalize hw0:wA.drew=w0
    have HB0:Hid (Below wA.heap.size wA w0):=by rw [← hw0];exact Lh ((Below.refl _ _).drew)
    clear hw0 x0 x1 x2 x3 y0 y1 y2 y3
    have s0:=HC.out _ HB0.out
    refine AH.z 0 s0 ?_
    refine AH.z 1 s0 ?_
    refine AH.z 3 s0 ?_
    refine AH.z 4 s0 ?_
    clear s0
    refine AH.o 2 (fun K hK=>?_)
    go_simp
    refine (HRx.out w0).mono ?_
    rintro r w1 ⟨rfl,hB⟩
    have HB1:=Lh (Qe HB0.out hB)
    refine hK _ _ (HC.out _ HB1.out) ?_
    clear hK K hB HB0
    try simp only [Act.put,Zp_]
    refine AH.o 5 (fun K hK=>?_)
    go_simp
    refine (HRy.out w1).mono ?_
    rintro r w2 ⟨rfl,hB⟩
    have HB2:=Lh (Qe HB1.out hB)
    refine hK _ _ (HC.out _ HB2.out) ?_
    clear hK K hB HB1
    try simp only [Act.put,Zp_]
    have s2:=HC.out _ HB2.out
    refine AH.z 6 s2 ?_
    refine AH.z 7 s2 ?_
    clear s2
    refine AH.done (by kernel_rfl) ?_
    obtain ⟨x0,x1,x2,x3,y0,y1,y2,y3⟩:=HC.out _ HB2.out
    go_upto_region 9 with (fail)
    go_cut [8,9] from 30 to 33 (fun tq tr wx=>TwoF wA nx cx ex nx cy ey tq tr wx)
    case first =>
     refine AH.start (fun x=>x.cell? ⟨w.heap.size,0,none⟩=some (.int .i64 0)∧x.cell? ⟨w.heap.size,1,none⟩=some (.bool nx)∧x.cell? ⟨w.heap.size,2,none⟩=some (.int .i32 ex)∧x.cell? ⟨w.heap.size,3,none⟩=some (.string sx)∧x.cell? ⟨w.heap.size+1,0,none⟩=some (.int .i64 0)∧x.cell? ⟨w.heap.size+1,1,none⟩=some (.bool nx)∧x.cell? ⟨w.heap.size+1,2,none⟩=some (.int .i32 ey)∧x.cell? ⟨w.heap.size+1,3,none⟩=some (.string sy)) (by kernel_rfl) ?_
     generalize hw0:w2.drew=wq
     have HB:Hid (Below wA.heap.size wA wq):=by rw [← hw0];exact Lh (HB2.out.drew)
     clear hw0 HOr HB2 HRx HRy x0 x1 x2 x3 y0 y1 y2 y3
     have s0:=HC.out _ HB.out
     refine AH.z 0 s0 ?_
     refine AH.z 2 s0 ?_
     clear s0
     revert HB
     revert wq
     refine' QaT ?st211 (fun hst211=>QaT ?st210 (fun hst210=>QaT ?st201 (fun hst201=>QaT ?st111 (fun hst111=>QaT ?st200 (fun hst200=>QaT ?st110 (fun hst110=>QaT ?st101 (fun hst101=>QaT ?st011 (fun hst011=>QaT ?st100 (fun hst100=>QaT ?st010 (fun hst010=>QaT ?st001 (fun hst001=>?st000)))))))))))
     case st000 =>
      intro wq HB
      refine AH.three (i:=1) (j:=4) (k:=5) (by kernel_rfl) rfl rfl rfl (by kernel_rfl) (by kernel_rfl) (by kernel_rfl) (fun K hK=>?d1X) (fun K hK=>?d1A) (fun K hK=>?d1B)
      case d1X =>
       go_simp
       refine (HX.out wq).mono ?_
       rintro r wn ⟨v1,rfl,⟨s1,rfl,k1⟩,hB⟩
       have HBn:=Lh (Qe HB.out hB)
       have k1':=k1
       obtain ⟨p1,c1,rfl,k1x⟩:=k1'
       have FXn:Hid (FinV wn (.agg #[.bool nx,.bool false,.slice p1 (dgs cx).length c1,.int .i64 ex]) nx cx ex):=Lh ⟨_,rfl,k1⟩
       refine hK _ _ (HC.out _ HBn.out) ?_
       clear hK K hB k1 k1x
       try simp only [Act.put,Zp_]
       clear HB
       revert FXn
       revert HBn
       revert c1
       revert p1
       revert wn
       exact hst100
      case d1A =>
       go_simp
       have HBn:=Lh (bal HB.out (.cells #[.bool false,.bool false,.slice none 0 0,.int .i64 0] 46))
       have FAn:=Lh (gal wq (.cells #[.bool false,.bool false,.slice none 0 0,.int .i64 0] 46))
       have LAn:=HB.out.size
       refine hK _ _ (HC.out _ HBn.out) ?_
       clear hK K
       try simp only [Act.put,Zp_]
       generalize hg:wq.heap.size=gA at FAn LAn ⊢
       generalize hw:wq.alloc (.cells #[.bool false,.bool false,.slice none 0 0,.int .i64 0] 46)=wn at HBn FAn ⊢
       clear hg hw
       clear HB
       revert LAn
       revert FAn
       revert HBn
       revert gA
       revert wn
       exact hst010
      case d1B =>
       go_simp
       have HBn:=Lh (bal HB.out (.cells #[.bool false,.bool false,.slice none 0 0,.int .i64 0] 46))
       have FBn:=Lh (gal wq (.cells #[.bool false,.bool false,.slice none 0 0,.int .i64 0] 46))
       have LBn:=HB.out.size
       refine hK _ _ (HC.out _ HBn.out) ?_
       clear hK K
       try simp only [Act.put,Zp_]
       generalize hg:wq.heap.size=gB at FBn LBn ⊢
       generalize hw:wq.alloc (.cells #[.bool false,.bool false,.slice none 0 0,.int .i64 0] 46)=wn at HBn FBn ⊢
       clear hg hw
       clear HB
       revert LBn
       revert FBn
       revert HBn
       revert gB
       revert wn
       exact hst001
     case st001 =>
      intro wq gB HB FB LB
      refine AH.t 1 4 (fun K hK=>?d2X) (fun K hK=>?d2A)
      case d2X =>
       go_simp
       refine (HX.out wq).mono ?_
       rintro r wn ⟨v1,rfl,⟨s1,rfl,k1⟩,hB⟩
       have HBn:=Lh (Qe HB.out hB)
       have k1':=k1
       obtain ⟨p1,c1,rfl,k1x⟩:=k1'
       have FXn:Hid (FinV wn (.agg #[.bool nx,.bool false,.slice p1 (dgs cx).length c1,.int .i64 ex]) nx cx ex):=Lh ⟨_,rfl,k1⟩
       have FBn:=Lh (Qb FB.out hB)
       have LBn:=LB
       refine hK _ _ (HC.out _ HBn.out) ?_
       clear hK K hB k1 k1x
       try simp only [Act.put,Zp_]
       clear HB FB LB
       revert FXn
       revert LBn
       revert FBn
       revert HBn
       revert c1
       revert p1
       revert gB
       revert wn
       exact hst101
      case d2A =>
       go_simp
       have HBn:=Lh (bal HB.out (.cells #[.bool false,.bool false,.slice none 0 0,.int .i64 0] 46))
       have FAn:=Lh (gal wq (.cells #[.bool false,.bool false,.slice none 0 0,.int .i64 0] 46))
       have LAn:=HB.out.size
       have FBn:=Lh (Qb FB.out (Qf wq (.cells #[.bool false,.bool false,.slice none 0 0,.int .i64 0] 46)))
       have LBn:=LB
       have NEn:wq.heap.size≠gB:=by have:=(Array.getElem?_eq_some_iff.1 FB.out).1;omega
       refine hK _ _ (HC.out _ HBn.out) ?_
       clear hK K
       try simp only [Act.put,Zp_]
       generalize hg:wq.heap.size=gA at FAn LAn NEn ⊢
       generalize hw:wq.alloc (.cells #[.bool false,.bool false,.slice none 0 0,.int .i64 0] 46)=wn at HBn FAn FBn ⊢
       clear hg hw
       clear HB FB LB
       revert NEn
       revert LBn
       revert FBn
       revert LAn
       revert FAn
       revert HBn
       revert gB
       revert gA
       revert wn
       exact hst011
     case st010 =>
      intro wq gA HB FA LA
      refine AH.t 1 5 (fun K hK=>?d3X) (fun K hK=>?d3B)
      case d3X =>
       go_simp
       refine (HX.out wq).mono ?_
       rintro r wn ⟨v1,rfl,⟨s1,rfl,k1⟩,hB⟩
       have HBn:=Lh (Qe HB.out hB)
       have k1':=k1
       obtain ⟨p1,c1,rfl,k1x⟩:=k1'
       have FXn:Hid (FinV wn (.agg #[.bool nx,.bool false,.slice p1 (dgs cx).length c1,.int .i64 ex]) nx cx ex):=Lh ⟨_,rfl,k1⟩
       have FAn:=Lh (Qb FA.out hB)
       have LAn:=LA
       refine hK _ _ (HC.out _ HBn.out) ?_
       clear hK K hB k1 k1x
       try simp only [Act.put,Zp_]
       clear HB FA LA
       revert FXn
       revert LAn
       revert FAn
       revert HBn
       revert c1
       revert p1
       revert gA
       revert wn
       exact hst110
      case d3B =>
       go_simp
       have HBn:=Lh (bal HB.out (.cells #[.bool false,.bool false,.slice none 0 0,.int .i64 0] 46))
       have FBn:=Lh (gal wq (.cells #[.bool false,.bool false,.slice none 0 0,.int .i64 0] 46))
       have LBn:=HB.out.size
       have FAn:=Lh (Qb FA.out (Qf wq (.cells #[.bool false,.bool false,.slice none 0 0,.int .i64 0] 46)))
       have LAn:=LA
       have NEn:gA≠wq.heap.size:=by have:=(Array.getElem?_eq_some_iff.1 FA.out).1;omega
       refine hK _ _ (HC.out _ HBn.out) ?_
       clear hK K
       try simp only [Act.put,Zp_]
       generalize hg:wq.heap.size=gB at FBn LBn NEn ⊢
       generalize hw:wq.alloc (.cells #[.bool false,.bool false,.slice none 0 0,.int .i64 0] 46)=wn at HBn FAn FBn ⊢
       clear hg hw
       clear HB FA LA
       revert NEn
       revert LBn
       revert FBn
       revert LAn
       revert FAn
       revert HBn
       revert gB
       revert gA
       revert wn
       exact hst011
     case st100 =>
      intro wq p1 c1 HB FX
      refine AH.three (i:=3) (j:=4) (k:=5) (by kernel_rfl) rfl rfl rfl (by kernel_rfl) (by kernel_rfl) (by kernel_rfl) (fun K hK=>?d4Y) (fun K hK=>?d4A) (fun K hK=>?d4B)
      case d4Y =>
       go_simp
       refine (HY.out wq).mono ?_
       rintro r wn ⟨v2,rfl,⟨s2,rfl,k2⟩,hB⟩
       have HBn:=Lh (Qe HB.out hB)
       have k2':=k2
       obtain ⟨p2,c2,rfl,k2x⟩:=k2'
       have FYn:Hid (FinV wn (.agg #[.bool nx,.bool false,.slice p2 (dgs cy).length c2,.int .i64 ey]) nx cy ey):=Lh ⟨_,rfl,k2⟩
       have FXn:=Lh (FX.out.later hB)
       refine hK _ _ (HC.out _ HBn.out) ?_
       clear hK K hB k2 k2x
       try simp only [Act.put,Zp_]
       clear HB FX
       revert FYn
       revert FXn
       revert HBn
       revert c2
       revert p2
       revert c1
       revert p1
       revert wn
       exact hst200
      case d4A =>
       go_simp
       have HBn:=Lh (bal HB.out (.cells #[.bool false,.bool false,.slice none 0 0,.int .i64 0] 46))
       have FAn:=Lh (gal wq (.cells #[.bool false,.bool false,.slice none 0 0,.int .i64 0] 46))
       have LAn:=HB.out.size
       have FXn:=Lh (FX.out.later (Qf wq (.cells #[.bool false,.bool false,.slice none 0 0,.int .i64 0] 46)))
       refine hK _ _ (HC.out _ HBn.out) ?_
       clear hK K
       try simp only [Act.put,Zp_]
       generalize hg:wq.heap.size=gA at FAn LAn ⊢
       generalize hw:wq.alloc (.cells #[.bool false,.bool false,.slice none 0 0,.int .i64 0] 46)=wn at HBn FAn FXn ⊢
       clear hg hw
       clear HB FX
       revert FXn
       revert LAn
       revert FAn
       revert HBn
       revert c1
       revert p1
       revert gA
       revert wn
       exact hst110
      case d4B =>
       go_simp
       have HBn:=Lh (bal HB.out (.cells #[.bool false,.bool false,.slice none 0 0,.int .i64 0] 46))
       have FBn:=Lh (gal wq (.cells #[.bool false,.bool false,.slice none 0 0,.int .i64 0] 46))
       have LBn:=HB.out.size
       have FXn:=Lh (FX.out.later (Qf wq (.cells #[.bool false,.bool false,.slice none 0 0,.int .i64 0] 46)))
       refine hK _ _ (HC.out _ HBn.out) ?_
       clear hK K
       try simp only [Act.put,Zp_]
       generalize hg:wq.heap.size=gB at FBn LBn ⊢
       generalize hw:wq.alloc (.cells #[.bool false,.bool false,.slice none 0 0,.int .i64 0] 46)=wn at HBn FBn FXn ⊢
       clear hg hw
       clear HB FX
       revert FXn
       revert LBn
       revert FBn
       revert HBn
       revert c1
       revert p1
       revert gB
       revert wn
       exact hst101
     case st011 =>
      intro wq gA gB HB FA LA FB LB NE
      refine AH.o 1 (fun K hK=>?_)
      go_simp
      refine (HX.out wq).mono ?_
      rintro r wn ⟨v1,rfl,⟨s1,rfl,k1⟩,hB⟩
      have HBn:=Lh (Qe HB.out hB)
      have k1':=k1
      obtain ⟨p1,c1,rfl,k1x⟩:=k1'
      have FXn:Hid (FinV wn (.agg #[.bool nx,.bool false,.slice p1 (dgs cx).length c1,.int .i64 ex]) nx cx ex):=Lh ⟨_,rfl,k1⟩
      have FAn:=Lh (Qb FA.out hB)
      have LAn:=LA
      have FBn:=Lh (Qb FB.out hB)
      have LBn:=LB
      have NEn:=NE
      refine hK _ _ (HC.out _ HBn.out) ?_
      clear hK K hB k1 k1x
      try simp only [Act.put,Zp_]
      clear HB FA LA FB LB NE
      revert FXn
      revert NEn
      revert LBn
      revert FBn
      revert LAn
      revert FAn
      revert HBn
      revert c1
      revert p1
      revert gB
      revert gA
      revert wn
      exact hst111
     case st101 =>
      intro wq gB p1 c1 HB FB LB FX
      refine AH.t 3 4 (fun K hK=>?d5Y) (fun K hK=>?d5A)
      case d5Y =>
       go_simp
       refine (HY.out wq).mono ?_
       rintro r wn ⟨v2,rfl,⟨s2,rfl,k2⟩,hB⟩
       have HBn:=Lh (Qe HB.out hB)
       have k2':=k2
       obtain ⟨p2,c2,rfl,k2x⟩:=k2'
       have FYn:Hid (FinV wn (.agg #[.bool nx,.bool false,.slice p2 (dgs cy).length c2,.int .i64 ey]) nx cy ey):=Lh ⟨_,rfl,k2⟩
       have FBn:=Lh (Qb FB.out hB)
       have LBn:=LB
       have FXn:=Lh (FX.out.later hB)
       refine hK _ _ (HC.out _ HBn.out) ?_
       clear hK K hB k2 k2x
       try simp only [Act.put,Zp_]
       clear HB FB LB FX
       revert FYn
       revert FXn
       revert LBn
       revert FBn
       revert HBn
       revert c2
       revert p2
       revert c1
       revert p1
       revert gB
       revert wn
       exact hst201
      case d5A =>
       go_simp
       have HBn:=Lh (bal HB.out (.cells #[.bool false,.bool false,.slice none 0 0,.int .i64 0] 46))
       have FAn:=Lh (gal wq (.cells #[.bool false,.bool false,.slice none 0 0,.int .i64 0] 46))
       have LAn:=HB.out.size
       have FBn:=Lh (Qb FB.out (Qf wq (.cells #[.bool false,.bool false,.slice none 0 0,.int .i64 0] 46)))
       have LBn:=LB
       have FXn:=Lh (FX.out.later (Qf wq (.cells #[.bool false,.bool false,.slice none 0 0,.int .i64 0] 46)))
       have NEn:wq.heap.size≠gB:=by have:=(Array.getElem?_eq_some_iff.1 FB.out).1;omega
       refine hK _ _ (HC.out _ HBn.out) ?_
       clear hK K
       try simp only [Act.put,Zp_]
       generalize hg:wq.heap.size=gA at FAn LAn NEn ⊢
       generalize hw:wq.alloc (.cells #[.bool false,.bool false,.slice none 0 0,.int .i64 0] 46)=wn at HBn FAn FBn FXn ⊢
       clear hg hw
       clear HB FB LB FX
       revert FXn
       revert NEn
       revert LBn
       revert FBn
       revert LAn
       revert FAn
       revert HBn
       revert c1
       revert p1
       revert gB
       revert gA
       revert wn
       exact hst111
     case st110 =>
      intro wq gA p1 c1 HB FA LA FX
      refine AH.t 3 5 (fun K hK=>?d6Y) (fun K hK=>?d6B)
      case d6Y =>
       go_simp
       refine (HY.out wq).mono ?_
       rintro r wn ⟨v2,rfl,⟨s2,rfl,k2⟩,hB⟩
       have HBn:=Lh (Qe HB.out hB)
       have k2':=k2
       obtain ⟨p2,c2,rfl,k2x⟩:=k2'
       have FYn:Hid (FinV wn (.agg #[.bool nx,.bool false,.slice p2 (dgs cy).length c2,.int .i64 ey]) nx cy ey):=Lh ⟨_,rfl,k2⟩
       have FAn:=Lh (Qb FA.out hB)
       have LAn:=LA
       have FXn:=Lh (FX.out.later hB)
       refine hK _ _ (HC.out _ HBn.out) ?_
       clear hK K hB k2 k2x
       try simp only [Act.put,Zp_]
       clear HB FA LA FX
       revert FYn
       revert FXn
       revert LAn
       revert FAn
       revert HBn
       revert c2
       revert p2
       revert c1
       revert p1
       revert gA
       revert wn
       exact hst210
      case d6B =>
       go_simp
       have HBn:=Lh (bal HB.out (.cells #[.bool false,.bool false,.slice none 0 0,.int .i64 0] 46))
       have FBn:=Lh (gal wq (.cells #[.bool false,.bool false,.slice none 0 0,.int .i64 0] 46))
       have LBn:=HB.out.size
       have FAn:=Lh (Qb FA.out (Qf wq (.cells #[.bool false,.bool false,.slice none 0 0,.int .i64 0] 46)))
       have LAn:=LA
       have FXn:=Lh (FX.out.later (Qf wq (.cells #[.bool false,.bool false,.slice none 0 0,.int .i64 0] 46)))
       have NEn:gA≠wq.heap.size:=by have:=(Array.getElem?_eq_some_iff.1 FA.out).1;omega
       refine hK _ _ (HC.out _ HBn.out) ?_
       clear hK K
       try simp only [Act.put,Zp_]
       generalize hg:wq.heap.size=gB at FBn LBn NEn ⊢
       generalize hw:wq.alloc (.cells #[.bool false,.bool false,.slice none 0 0,.int .i64 0] 46)=wn at HBn FAn FBn FXn ⊢
       clear hg hw
       clear HB FA LA FX
       revert FXn
       revert NEn
       revert LBn
       revert FBn
       revert LAn
       revert FAn
       revert HBn
       revert c1
       revert p1
       revert gB
       revert gA
       revert wn
       exact hst111
     case st200 =>
      intro wq p1 c1 p2 c2 HB FX FY
      refine AH.t 4 5 (fun K hK=>?d7A) (fun K hK=>?d7B)
      case d7A =>
       go_simp
       have HBn:=Lh (bal HB.out (.cells #[.bool false,.bool false,.slice none 0 0,.int .i64 0] 46))
       have FAn:=Lh (gal wq (.cells #[.bool false,.bool false,.slice none 0 0,.int .i64 0] 46))
       have LAn:=HB.out.size
       have FXn:=Lh (FX.out.later (Qf wq (.cells #[.bool false,.bool false,.slice none 0 0,.int .i64 0] 46)))
       have FYn:=Lh (FY.out.later (Qf wq (.cells #[.bool false,.bool false,.slice none 0 0,.int .i64 0] 46)))
       refine hK _ _ (HC.out _ HBn.out) ?_
       clear hK K
       try simp only [Act.put,Zp_]
       generalize hg:wq.heap.size=gA at FAn LAn ⊢
       generalize hw:wq.alloc (.cells #[.bool false,.bool false,.slice none 0 0,.int .i64 0] 46)=wn at HBn FAn FXn FYn ⊢
       clear hg hw
       clear HB FX FY
       revert FYn
       revert FXn
       revert LAn
       revert FAn
       revert HBn
       revert c2
       revert p2
       revert c1
       revert p1
       revert gA
       revert wn
       exact hst210
      case d7B =>
       go_simp
       have HBn:=Lh (bal HB.out (.cells #[.bool false,.bool false,.slice none 0 0,.int .i64 0] 46))
       have FBn:=Lh (gal wq (.cells #[.bool false,.bool false,.slice none 0 0,.int .i64 0] 46))
       have LBn:=HB.out.size
       have FXn:=Lh (FX.out.later (Qf wq (.cells #[.bool false,.bool false,.slice none 0 0,.int .i64 0] 46)))
       have FYn:=Lh (FY.out.later (Qf wq (.cells #[.bool false,.bool false,.slice none 0 0,.int .i64 0] 46)))
       refine hK _ _ (HC.out _ HBn.out) ?_
       clear hK K
       try simp only [Act.put,Zp_]
       generalize hg:wq.heap.size=gB at FBn LBn ⊢
       generalize hw:wq.alloc (.cells #[.bool false,.bool false,.slice none 0 0,.int .i64 0] 46)=wn at HBn FBn FXn FYn ⊢
       clear hg hw
       clear HB FX FY
       revert FYn
       revert FXn
       revert LBn
       revert FBn
       revert HBn
       revert c2
       revert p2
       revert c1
       revert p1
       revert gB
       revert wn
       exact hst201
     case st111 =>
      intro wq gA gB p1 c1 HB FA LA FB LB NE FX
      refine AH.o 3 (fun K hK=>?_)
      go_simp
      refine (HY.out wq).mono ?_
      rintro r wn ⟨v2,rfl,⟨s2,rfl,k2⟩,hB⟩
      have HBn:=Lh (Qe HB.out hB)
      have k2':=k2
      obtain ⟨p2,c2,rfl,k2x⟩:=k2'
      have FYn:Hid (FinV wn (.agg #[.bool nx,.bool false,.slice p2 (dgs cy).length c2,.int .i64 ey]) nx cy ey):=Lh ⟨_,rfl,k2⟩
      have FAn:=Lh (Qb FA.out hB)
      have LAn:=LA
      have FBn:=Lh (Qb FB.out hB)
      have LBn:=LB
      have NEn:=NE
      have FXn:=Lh (FX.out.later hB)
      refine hK _ _ (HC.out _ HBn.out) ?_
      clear hK K hB k2 k2x
      try simp only [Act.put,Zp_]
      clear HB FA LA FB LB NE FX
      revert FYn
      revert FXn
      revert NEn
      revert LBn
      revert FBn
      revert LAn
      revert FAn
      revert HBn
      revert c2
      revert p2
      revert c1
      revert p1
      revert gB
      revert gA
      revert wn
      exact hst211
     case st201 =>
      intro wq gB p1 c1 p2 c2 HB FB LB FX FY
      refine AH.o 4 (fun K hK=>?_)
      go_simp
      have HBn:=Lh (bal HB.out (.cells #[.bool false,.bool false,.slice none 0 0,.int .i64 0] 46))
      have FAn:=Lh (gal wq (.cells #[.bool false,.bool false,.slice none 0 0,.int .i64 0] 46))
      have LAn:=HB.out.size
      have FBn:=Lh (Qb FB.out (Qf wq (.cells #[.bool false,.bool false,.slice none 0 0,.int .i64 0] 46)))
      have LBn:=LB
      have FXn:=Lh (FX.out.later (Qf wq (.cells #[.bool false,.bool false,.slice none 0 0,.int .i64 0] 46)))
      have FYn:=Lh (FY.out.later (Qf wq (.cells #[.bool false,.bool false,.slice none 0 0,.int .i64 0] 46)))
      have NEn:wq.heap.size≠gB:=by have:=(Array.getElem?_eq_some_iff.1 FB.out).1;omega
      refine hK _ _ (HC.out _ HBn.out) ?_
      clear hK K
      try simp only [Act.put,Zp_]
      generalize hg:wq.heap.size=gA at FAn LAn NEn ⊢
      generalize hw:wq.alloc (.cells #[.bool false,.bool false,.slice none 0 0,.int .i64 0] 46)=wn at HBn FAn FBn FXn FYn ⊢
      clear hg hw
      clear HB FB LB FX FY
      revert FYn
      revert FXn
      revert NEn
      revert LBn
      revert FBn
      revert LAn
      revert FAn
      revert HBn
      revert c2
      revert p2
      revert c1
      revert p1
      revert gB
      revert gA
      revert wn
      exact hst211
     case st210 =>
      intro wq gA p1 c1 p2 c2 HB FA LA FX FY
      refine AH.o 5 (fun K hK=>?_)
      go_simp
      have HBn:=Lh (bal HB.out (.cells #[.bool false,.bool false,.slice none 0 0,.int .i64 0] 46))
      have FBn:=Lh (gal wq (.cells #[.bool false,.bool false,.slice none 0 0,.int .i64 0] 46))
      have LBn:=HB.out.size
      have FAn:=Lh (Qb FA.out (Qf wq (.cells #[.bool false,.bool false,.slice none 0 0,.int .i64 0] 46)))
      have LAn:=LA
      have FXn:=Lh (FX.out.later (Qf wq (.cells #[.bool false,.bool false,.slice none 0 0,.int .i64 0] 46)))
      have FYn:=Lh (FY.out.later (Qf wq (.cells #[.bool false,.bool false,.slice none 0 0,.int .i64 0] 46)))
      have NEn:gA≠wq.heap.size:=by have:=(Array.getElem?_eq_some_iff.1 FA.out).1;omega
      refine hK _ _ (HC.out _ HBn.out) ?_
      clear hK K
      try simp only [Act.put,Zp_]
      generalize hg:wq.heap.size=gB at FBn LBn NEn ⊢
      generalize hw:wq.alloc (.cells #[.bool false,.bool false,.slice none 0 0,.int .i64 0] 46)=wn at HBn FAn FBn FXn FYn ⊢
      clear hg hw
      clear HB FA LA FX FY
      revert FYn
      revert FXn
      revert NEn
      revert LBn
      revert FBn
      revert LAn
      revert FAn
      revert HBn
      revert c2
      revert p2
      revert c1
      revert p1
      revert gB
      revert gA
      revert wn
      exact hst211
     case st211 =>
      intro wq gA gB p1 c1 p2 c2 HB FA LA FB LB NE FX FY
      obtain ⟨hBs,hb5,hBt,hT2⟩:=Q46 HB.out FA.out FB.out LA LB NE FX.out FY.out
      have a0:=Q1 FA.out 0 rfl;have a1:=Q1 FA.out 1 rfl;have a2:=Q1 FA.out 2 rfl;have a3:=Q1 FA.out 3 rfl
      have fa:=(Qd FA.out).2
      have fa0:=fa 0;have fa1:=fa 1;have fa2:=fa 2;have fa3:=fa 3
      have HT2:=Lh hT2;have HBs:=Lh hBs;have HBt:=Lh hBt;have Hb5:=Lh hb5
      unfold set4 at HT2 HBs HBt Hb5
      clear hT2 hBs hBt hb5 fa
      refine AH.o 6 (fun K hK=>?_)
      go_simp
      refine hK _ _ (HC.out _ HBs.out) ?_
      clear hK K a0 a1 a2 a3 fa0 fa1 fa2 fa3
      try simp only [Act.put,Zp_]
      generalize (((wq.setCell ⟨gA,0,none⟩ (.bool nx)).setCell ⟨gA,1,none⟩ (.bool false)).setCell ⟨gA,2,none⟩ (.slice p1 (dgs cx).length c1)).setCell ⟨gA,3,none⟩ (.int .i64 ex)=ws at HT2 HBs HBt Hb5 ⊢
      have b0:=Q1 Hb5.out 0 rfl;have b1:=Q1 Hb5.out 1 rfl;have b2:=Q1 Hb5.out 2 rfl;have b3:=Q1 Hb5.out 3 rfl
      have fb:=(Qd Hb5.out).2
      have fb0:=fb 0;have fb1:=fb 1;have fb2:=fb 2;have fb3:=fb 3
      clear fb
      refine AH.o 7 (fun K hK=>?_)
      go_simp
      refine hK _ _ (HC.out _ HBt.out) ?_
      clear hK K
      try simp only [Act.put,Zp_]
      refine AH.done (by kernel_rfl) ?_
      go_wp2_with fail
      go_meet
      exact HT2.out
    case rest =>
     obtain ⟨gA,gB,p1,l1,c1,p2,l2,c2,rfl,rfl,⟨hA,hB⟩,n1,n2,lA,lB,ne,hBx⟩:=hcut
     have FX:=Lh n1
     have FY:=Lh n2
     have HGA:=Lh hA;have HGB:=Lh hB
     have a0:=Q1 hA 0 rfl;have a1:=Q1 hA 1 rfl;have a2:=Q1 hA 2 rfl;have a3:=Q1 hA 3 rfl
     have b0:=Q1 hB 0 rfl;have b1:=Q1 hB 1 rfl;have b2:=Q1 hB 2 rfl;have b3:=Q1 hB 3 rfl
     have HBx:=Lh hBx
     clear hA hB n1 n2 lA lB ne hBx HwA HX HY HRx HRy HB2 x0 x1 x2 x3 y0 y1 y2 y3
     go_wp2_with fail
     refine (HOr.out _ _ _ FX.out FY.out).mono ?_
     rintro r w3 ⟨rfl,hB⟩
     have HB3:=Lh (Qe HBx.out hB)
     have ga:=Qb HGA.out hB;have gb:=Qb HGB.out hB
     obtain ⟨x0,x1,x2,x3,y0,y1,y2,y3⟩:=HC.out _ HB3.out
     have HB9:=Lh (Qe HBA.out HB3.out)
     clear hB a0 a1 a2 a3 b0 b1 b2 b3 HGA HGB FX FY HBx HOr
     have a2:=Q1 ga 3 rfl
     have b2:=Q1 gb 3 rfl
     clear ga gb
     by_cases hv:V=0
     ·subst hv
      have htri:ex<ey∨ey<ex∨ex=ey:=by omega
      rcases htri with t1 | t1 | t1
      ·have hr:Hid (R=if nx then 1 else -1):=Lh (by rw [HRR.out,if_pos rfl,if_pos t1])
       clear HRR
       cases nx
       all_goals
        go_wp2_with fail
        go_ret
        exact ⟨by rw [hr.out];rfl,HB9.out⟩
      ·have t2:¬ (ex<ey):=by omega
       have hr:Hid (R=if nx then -1 else 1):=Lh (by rw [HRR.out,if_pos rfl,if_neg t2,if_pos t1])
       clear HRR
       cases nx
       all_goals
        go_wp2_with fail
        go_ret
        exact ⟨by rw [hr.out];rfl,HB9.out⟩
      ·have hr:Hid (R=0):=Lh (by rw [HRR.out,if_pos rfl,if_neg (by omega),if_neg (by omega)])
       clear HRR
       subst t1
       cases nx
       all_goals
        go_wp2_with fail
        go_ret
        exact ⟨by rw [hr.out];rfl,HB9.out⟩
     ·have hr:Hid (R=V):=Lh (by rw [HRR.out,if_neg hv])
      clear HRR
      have hv1:(V == 0)=false:=by simpa using hv
      have hv2:(V != 0)=true:=by simpa using hv
      go_wp2_with fail
      go_ret
      exact ⟨by rw [hr.out];rfl,HB9.out⟩
end Go.Proofs.YtpfjmeadikdddaaGreatDoor
