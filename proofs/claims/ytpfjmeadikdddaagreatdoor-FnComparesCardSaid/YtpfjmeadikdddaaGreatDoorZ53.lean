/- a part of the proof -/
import Derived.Test.YtpfjmeadikdddaaGreatDoorZ33
import Derived.Test.YtpfjmeadikdddaaGreatDoorZ51
import Derived.Test.YtpfjmeadikdddaaGreatDoorZ52
set_option linter.all false
set_option maxRecDepth 100000
set_option maxHeartbeats 16000000
namespace Go.Proofs.YtpfjmeadikdddaaGreatDoor
open Go Go.RowKit
structure CB (w:World) (X Y:Array Value) (w2:World):Prop where
 xb:w2.heap[w.heap.size]?=some (.cells X 26 (0,0))
 yb:w2.heap[w.heap.size+1]?=some (.cells Y 26 (0,0))
 bw:Below w.heap.size w w2
theorem CB.start (w:World)(X Y:Array Value):CB w X Y ((w.alloc (.cells X 26)).alloc (.cells Y 26)):=by
 have e:(w.alloc (.cells X 26)).heap.size=w.heap.size+1:=by simp
 refine ⟨Qb (gal w _) (Qf _ _),?_,bal (Qf w _) _⟩
 rw [← e];exact gal _ _
theorem CB.later {w:World}{X Y:Array Value}{w2 w3:World}(h:CB w X Y w2)(hB:Below w2.heap.size w2 w3):CB w X Y w3 :=
 ⟨Qb h.xb hB,Qb h.yb hB,Qe h.bw hB⟩
theorem CB.set8 {w:World}{X Y:Array Value}{w2:World}(h:CB w X Y w2){g:Nat}(hg:w.heap.size+1<g)(u0 u1 u2 u3 u4 u5 u6 u7:Value):CB w X Y (Go.Proofs.YtpfjmeadikdddaaGreatDoor.set8 w2 g u0 u1 u2 u3 u4 u5 u6 u7):=by
 have o:Only g w2 (Go.Proofs.YtpfjmeadikdddaaGreatDoor.set8 w2 g u0 u1 u2 u3 u4 u5 u6 u7):=(((((((((Only.refl g w2).set 0 u0).set 1 u1).set 2 u2).set 3 u3).set 4 u4).set 5 u5).set 6 u6).set 7 u7)
 have b:Below w.heap.size w (Go.Proofs.YtpfjmeadikdddaaGreatDoor.set8 w2 g u0 u1 u2 u3 u4 u5 u6 u7):=((((((((h.bw.setCell (by simp only;omega) _).setCell (by simp only;omega) _).setCell (by simp only;omega) _).setCell (by simp only;omega) _).setCell (by simp only;omega) _).setCell (by simp only;omega) _).setCell (by simp only;omega) _).setCell (by simp only;omega) _)
 exact ⟨(o.1 _ (by omega)).trans h.xb,(o.1 _ (by omega)).trans h.yb,b⟩
theorem Qb8 (f:Int)(n:Bool)(e:Int)(c:Nat)(f':Int)(n':Bool)(e':Int)(c':Nat) : -1≤totS f n e c f' n' e' c'∧totS f n e c f' n' e' c'≤1:=by
 have hb:=Qah (ngZ n (c*10^(e - min e e').toNat)) (c*10^(e - min e e').toNat) (ngZ n' (c'*10^(e' - min e e').toNat)) (c'*10^(e' - min e e').toNat)
 unfold totS
 (repeat' split) <;> omega
theorem fn_compares {w:World}(hW:GW w){Tv:TypeId}{av:Value}(hE:EOFv w Tv av)(fx:Int)(nx:Bool)(ex:Int)(sx:ByteArray)(fy:Int)(ny:Bool)(ey:Int)(sy:ByteArray)
  (hex : -2147483648≤ex∧ex≤2147483647) (hey : -2147483648≤ey∧ey≤2147483647) :
  Calls Tryz.prog 5 #[DV fx nx ex sx,DV fy ny ey sy] w fun r w'=>r=.returned (.bool true)∧Below w.heap.size w w':=by
 have HS:=Lh (CB.start w #[.int .i64 fx,.bool nx,.int .i32 ex,.string sx] #[.int .i64 fy,.bool ny,.int .i32 ey,.string sy])
 have HAl:Hid (∀ w2,Below w.heap.size w w2→Calls Tryz.prog 12 #[] w2 fun r w'=>r=.returned (.bool true)∧Below w2.heap.size w2 w'):=Lh (fun w2 h=>Q3u (hW.later h) (hE.next h))
 have HFX:Hid (∀ w2,Calls Tryz.prog 10 #[.agg #[.int .i64 fx,.bool nx,.int .i32 ex,.string sx]] w2 (Says (sx.size≤2147483647) w2)):=Lh (fun w2=>Q2f fx nx ex sx w2)
 have HFY:Hid (∀ w2,Calls Tryz.prog 10 #[.agg #[.int .i64 fy,.bool ny,.int .i32 ey,.string sy]] w2 (Says (sy.size≤2147483647) w2)):=Lh (fun w2=>Q2f fy ny ey sy w2)
 have HP:Hid (∀ (p:Int) w2,Calls Tryz.prog 17 #[.int .u32 p] w2 fun r w'=>r=.returned (.agg #[.int .u32 p,.int .i32 500,.int .i32 (-500),.int .u32 0,.int .i64 2])∧Below w2.heap.size w2 w'):=Lh (fun p w2=>Q1h p w2)
 have HO:Hid (sx.size≤2147483647→sy.size≤2147483647→∀ w2,Calls Tryz.prog 11 #[.agg #[.int .u32 1,.int .i32 500,.int .i32 (-500),.int .u32 0,.int .i64 2],.agg #[.int .i64 fx,.bool nx,.int .i32 ex,.string sx],.agg #[.int .i64 fy,.bool ny,.int .i32 ey,.string sy]] w2 (Says (CtxOk 1 500 (-500) 2∧ArOk 200 fx ex sx∧ArOk 200 fy ey sy) w2)):=Lh (fun h1 h2 w2=>Q2E 1 500 (-500) 0 2 fx nx ex sx fy ny ey sy hex h1 hey h2 w2)
 have HWE:=Lh (fun w2 (h:Below w.heap.size w w2)=>(And.intro (hW.later h) (hE.next h):GW w2∧EOFv w2 Tv av))
 have HC:Hid (∀ w2,CB w #[.int .i64 fx,.bool nx,.int .i32 ex,.string sx] #[.int .i64 fy,.bool ny,.int .i32 ey,.string sy] w2→w2.cell? ⟨w.heap.size,0,none⟩=some (.int .i64 fx)∧w2.cell? ⟨w.heap.size,1,none⟩=some (.bool nx)∧w2.cell? ⟨w.heap.size,2,none⟩=some (.int .i32 ex)∧w2.cell? ⟨w.heap.size,3,none⟩=some (.string sx)∧w2.cell? ⟨w.heap.size+1,0,none⟩=some (.int .i64 fy)∧w2.cell? ⟨w.heap.size+1,1,none⟩=some (.bool ny)∧w2.cell? ⟨w.heap.size+1,2,none⟩=some (.int .i32 ey)∧w2.cell? ⟨w.heap.size+1,3,none⟩=some (.string sy)):=Lh (fun w2 h=>⟨Q1 h.xb 0 rfl,Q1 h.xb 1 rfl,Q1 h.xb 2 rfl,Q1 h.xb 3 rfl,Q1 h.yb 0 rfl,Q1 h.yb 1 rfl,Q1 h.yb 2 rfl,Q1 h.yb 3 rfl⟩)
 obtain ⟨wA,hwA⟩:∃ wA,wA=(w.alloc (.cells #[.int .i64 fx,.bool nx,.int .i32 ex,.string sx] 26)).alloc (.cells #[.int .i64 fy,.bool ny,.int .i32 ey,.string sy] 26):=⟨_,rfl⟩
 rw [← hwA] at HS
 unfold DV
 clear hW hE hex hey
 obtain ⟨x0,x1,x2,x3,y0,y1,y2,y3⟩:=HC.out _ HS.out
 go_enter Tryz.func5, Tryz.ntmps5
 go_upto_region 1 with (fail)
 rw [← hwA]
 clear hwA
 go_wp2_with fail
 refine (HFX.out _).mono ?_
 rintro r w1 ⟨b1,rfl,hb1,hB⟩
 have HS1:=Lh (HS.out.later hB)
 have HB1:=Lh hb1
 clear hB hb1 x0 x1 x2 x3 y0 y1 y2 y3 HS
 cases b1
 ·go_wp2_with fail
  go_ret
  exact ⟨rfl,HS1.out.bw⟩
 ·obtain ⟨x0,x1,x2,x3,y0,y1,y2,y3⟩:=HC.out _ HS1.out
  go_wp2_with fail
  refine (HFY.out _).mono ?_
  rintro r w2 ⟨b2,rfl,hb2,hB⟩
  have HS2:=Lh (HS1.out.later hB)
  have HB2:=Lh hb2
  clear hB hb2 x0 x1 x2 x3 y0 y1 y2 y3 HS1
  cases b2
  ·go_wp2_with fail
   go_ret
   exact ⟨rfl,HS2.out.bw⟩
  ·obtain ⟨x0,x1,x2,x3,y0,y1,y2,y3⟩:=HC.out _ HS2.out
   have HO2:=Lh (HO.out (HB1.out.1 trivial) (HB2.out.1 rfl))
   clear HO HFX HFY HB1 HB2
   go_wp2_with fail
   refine AH.start (fun x=>x.cell? ⟨w.heap.size,0,none⟩=some (.int .i64 fx)∧x.cell? ⟨w.heap.size,1,none⟩=some (.bool nx)∧x.cell? ⟨w.heap.size,2,none⟩=some (.int .i32 ex)∧x.cell? ⟨w.heap.size,3,none⟩=some (.string sx)∧x.cell? ⟨w.heap.size+1,0,none⟩=some (.int .i64 fy)∧x.cell? ⟨w.heap.size+1,1,none⟩=some (.bool ny)∧x.cell? ⟨w.heap.size+1,2,none⟩=some (.int .i32 ey)∧x.cell? ⟨w.heap.size+1,3,none⟩=some (.string sy)) (by kernel_rfl) ?_
   have HS3:=Lh (HS2.out.later ((Below.refl _ _).drew))
   clear x0 x1 x2 x3 y0 y1 y2 y3 HS2
   generalize w2.drew=w3 at HS3 ⊢
   have s0:=HC.out _ HS3.out
   refine AH.z 1 s0 ?_
   refine AH.z 2 s0 ?_
   clear s0
   refine AH.o 0 (fun K hK=>?_)
   go_simp
   refine (HP.out 1 w3).mono ?_
   rintro r w4 ⟨rfl,hB⟩
   have HS4:=Lh (HS3.out.later hB)
   refine hK _ _ (HC.out _ HS4.out) ?_
   clear hK K hB
   try simp only [Act.put,Zp_]
   refine AH.o 3 (fun K hK=>?_)
   go_simp
   refine (HO2.out w4).mono ?_
   rintro r w5 ⟨b3,rfl,hb3,hB⟩
   have HS5:=Lh (HS4.out.later hB)
   have HB3:=Lh hb3
   clear hb3
   refine hK _ _ (HC.out _ HS5.out) ?_
   clear hK K hB
   try simp only [Act.put,Zp_]
   have s5:=HC.out _ HS5.out
   refine AH.z 4 s5 ?_
   clear s5 HO2 HS3 HS4
   refine AH.done (by kernel_rfl) ?_
   cases b3
   ·go_wp2_with fail
    refine (HAl.out _ HS5.out.bw).mono ?_
    rintro r wz ⟨rfl,hB⟩
    have HSz:=Lh (HS5.out.later hB)
    clear hB
    go_wp2_with fail
    go_ret
    exact ⟨rfl,HSz.out.bw⟩
   ·obtain ⟨_,hx,hy⟩:=HB3.out.1 rfl
    clear HB3
    obtain ⟨hcx,h40,he1,he2,hf0,hf3⟩:=hx.canon (by decide)
    obtain ⟨hcy,h40y,hy1,hy2,hg0,hg3⟩:=hy.canon (by decide)
    have h0:fx≠0→vl (sdL sx 0)=0:=fun h=>(hx.other h).1
    have h0y:fy≠0→vl (sdL sy 0)=0:=fun h=>(hy.other h).1
    have hvx:=hcx.val_lt h40
    have hvy:=hcy.val_lt h40y
    have hB21:10^40<BB^21:=by unfold BB;decide
    obtain ⟨gx,rfl⟩:=Int.eq_ofNat_of_zero_le hf0
    obtain ⟨gy,rfl⟩:=Int.eq_ofNat_of_zero_le hg0
    have HXf:Hid (∀ w2,Calls Tryz.prog 19 #[.agg #[.int .i64 (gx:Int),.bool nx,.int .i32 ex,.string sx]] w2 fun r w'=>∃ v',r=.returned v'∧FinV w' v' nx (vl (sdL sx 0)) ex∧Below w2.heap.size w2 w'):=Lh (fun w2=>Q2e _ nx ex sx (by omega) hcx (by omega) w2)
    have HYf:Hid (∀ w2,Calls Tryz.prog 19 #[.agg #[.int .i64 (gy:Int),.bool ny,.int .i32 ey,.string sy]] w2 fun r w'=>∃ v',r=.returned v'∧FinV w' v' ny (vl (sdL sy 0)) ey∧Below w2.heap.size w2 w'):=Lh (fun w2=>Q2e _ ny ey sy (by omega) hcy (by omega) w2)
    have hlx:=hcx.len
    have hly:=hcy.len
    have HOr:Hid (∀ w2 u v,FinV w2 u nx (vl (sdL sx 0)) ex→FinV w2 v ny (vl (sdL sy 0)) ey→Calls Tryz.prog 18 #[u,v] w2 fun r w'=>r=.returned (.int .i64 (cmZ (ngZ nx (vl (sdL sx 0)*10^(ex - min ex ey).toNat)) (vl (sdL sx 0)*10^(ex - min ex ey).toNat) (ngZ ny (vl (sdL sy 0)*10^(ey - min ex ey).toNat)) (vl (sdL sy 0)*10^(ey - min ex ey).toNat)))∧Below w2.heap.size w2 w'):=Lh (fun w2 u v h h'=>Q8C h h' (by omega) (by omega) (by omega) (by omega))
    have HTs:Hid (∀ w2,Calls Tryz.prog 21 #[.agg #[.int .i64 (gx:Int),.bool nx,.int .i32 ex,.string sx],.agg #[.int .i64 (gy:Int),.bool ny,.int .i32 ey,.string sy]] w2 fun r w'=>r=.returned (.int .i64 (totS gx nx ex (vl (sdL sx 0)) gy ny ey (vl (sdL sy 0))))∧Below w2.heap.size w2 w'):=Lh (fun w2=>Qb2 _ nx ex sx _ ny ey sy hx hy w2)
    have HAr:Hid (∀ w2,Calls Tryz.prog 22 #[.int .i64 13,.agg #[.int .u32 9,.int .i32 500,.int .i32 (-500),.int .u32 0,.int .i64 2],.agg #[.int .i64 (gx:Int),.bool nx,.int .i32 ex,.string sx],.agg #[.int .i64 (gy:Int),.bool ny,.int .i32 ey,.string sy]] w2 fun r w'=>r=.returned (arC gx nx ex (vl (sdL sx 0)) gy ny ey (vl (sdL sy 0)))∧Below w2.heap.size w2 w'):=Lh (fun w2=>Q7v 9 2 0 500 (-500) (E:=200) (by decide) _ nx ex sx _ ny ey sy hx hy w2)
    have HT1:Hid (∀ w2,Below w.heap.size w w2→Calls Tryz.prog 20 #[.agg #[.int .i64 (gx:Int),.bool nx,.int .i32 ex,.string sx],.agg #[.int .i64 (gy:Int),.bool ny,.int .i32 ey,.string sy]] w2 fun r w'=>r=.returned (.int .i64 (totS gx nx ex (vl (sdL sx 0)) gy ny ey (vl (sdL sy 0))))∧Below w2.heap.size w2 w'):=Lh (fun w2 hB=>QaY (HWE.out _ hB).2 gx gy (by omega) (by omega) nx ny ex ey sx sy (hcx.digs h40) (hcy.digs h40y) _ (fun τ w3 ba bb q hb hb' hne=>by
     rw [Q2g] at hb hb'
     rw [← Qb4 (by omega) (by omega)]
     exact QaV (HWE.out _ hB).1 q hb hb' hne (by omega) (by omega) h0 h0y (by omega) (by omega) (by omega) (by omega)))
    have HT2:Hid (∀ w2,Below w.heap.size w w2→Calls Tryz.prog 20 #[.agg #[.int .i64 (gy:Int),.bool ny,.int .i32 ey,.string sy],.agg #[.int .i64 (gx:Int),.bool nx,.int .i32 ex,.string sx]] w2 fun r w'=>r=.returned (.int .i64 (-(totS gx nx ex (vl (sdL sx 0)) gy ny ey (vl (sdL sy 0)))))∧Below w2.heap.size w2 w'):=Lh (fun w2 hB=>QaY (HWE.out _ hB).2 gy gx (by omega) (by omega) ny nx ey ex sy sx (hcy.digs h40y) (hcx.digs h40) _ (fun τ w3 ba bb q hb hb' hne=>by
     rw [Q2g] at hb hb'
     rw [← QaZ (by omega) (by omega),← Qb4 (by omega) (by omega)]
     exact QaV (HWE.out _ hB).1 q hb hb' hne (by omega) (by omega) h0y h0 (by omega) (by omega) (by omega) (by omega)))
    have HCp:Hid ((gx:Int)=0∨(gx:Int)=1→(gy:Int)=0∨(gy:Int)=1→∀ w2,Below w.heap.size w w2→Calls Tryz.prog 23 #[.agg #[.int .i64 (gx:Int),.bool nx,.int .i32 ex,.string sx],.agg #[.int .i64 (gy:Int),.bool ny,.int .i32 ey,.string sy]] w2 fun r w'=>r=.returned (.int .i64 (spS gx nx ex (vl (sdL sx 0)) gy ny ey (vl (sdL sy 0))))∧Below w2.heap.size w2 w'):=Lh (fun k1 k2 w2 hB=>Qb7 (HWE.out _ hB).2 gx gy (by omega) (by omega) nx ny ex ey sx sy (hcx.digs h40) (hcy.digs h40y) _ (fun τ w3 ba bb q hb hb' hne=>by
     rw [Q2g] at hb hb'
     rw [← QaA k1 k2]
     exact Q5d (HWE.out _ hB).1 q hb hb' hne k1 k2 (by omega) (by omega) (by omega) (by omega) (by omega)))
    have hvb:spS gx nx ex (vl (sdL sx 0)) gy ny ey (vl (sdL sy 0)) = -1∨spS gx nx ex (vl (sdL sx 0)) gy ny ey (vl (sdL sy 0))=0∨spS gx nx ex (vl (sdL sx 0)) gy ny ey (vl (sdL sy 0))=1:=by
     unfold spS
     have hb:=Qah (ngZ nx (vl (sdL sx 0)*10^(ex - min ex ey).toNat)) (vl (sdL sx 0)*10^(ex - min ex ey).toNat) (ngZ ny (vl (sdL sy 0)*10^(ey - min ex ey).toNat)) (vl (sdL sy 0)*10^(ey - min ex ey).toNat)
     (repeat' split) <;> omega
    have htv : -1≤totS gx nx ex (vl (sdL sx 0)) gy ny ey (vl (sdL sy 0))∧totS gx nx ex (vl (sdL sx 0)) gy ny ey (vl (sdL sy 0))≤1:=Qb8 _ _ _ _ _ _ _ _
    unfold arC at HAr
    generalize spS gx nx ex (vl (sdL sx 0)) gy ny ey (vl (sdL sy 0))=V at HAr HCp hvb
    generalize (cmZ (ngZ nx (vl (sdL sx 0)*10^(ex - min ex ey).toNat)) (vl (sdL sx 0)*10^(ex - min ex ey).toNat) (ngZ ny (vl (sdL sy 0)*10^(ey - min ex ey).toNat)) (vl (sdL sy 0)*10^(ey - min ex ey).toNat))=OV at HOr
    generalize totS gx nx ex (vl (sdL sx 0)) gy ny ey (vl (sdL sy 0))=TV at HTs HT1 HT2 htv
    generalize vl (sdL sx 0)=cx at HXf HOr
    generalize vl (sdL sy 0)=cy at HYf HOr
    have HVB:=Lh hvb
    have hg4:(0≤(gx:Int)∧(gx:Int)<4)∧0≤(gy:Int)∧(gy:Int)<4:=by omega
    have HG4:=Lh hg4
    clear hx hy hcx h40 he1 he2 hf0 hf3 hcy h40y hy1 hy2 hg0 hg3 h0 h0y hvx hvy hB21 hlx hly hvb hg4 HWE
    have hwt:wrap64 (-TV) = -TV:=by unfold wrap64;omega
    clear htv
    generalize (gx:Int)=fx at *
    generalize (gy:Int)=fy at *
    obtain ⟨x0,x1,x2,x3,y0,y1,y2,y3⟩:=HC.out _ HS5.out
    go_upto_region 5 with (fail)
    go_cut [52] from 22 to 51 (fun z wx=>∃ g,z=.bool g∧CB w #[.int .i64 fx,.bool nx,.int .i32 ex,.string sx] #[.int .i64 fy,.bool ny,.int .i32 ey,.string sy] wx)
    case first =>
     by_cases a1:fx=0
     rotate_left
     ·have b1:(fx == 0)=false:=by simpa using a1
      clear a1
      go_quiet (fail)
      go_wp2_with fail
      go_meet
      exact ⟨_,rfl,HS5.out.later ⟨rfl,rfl,rfl,Nat.le_refl _,fun _ _=>rfl⟩⟩
     ·subst a1
      by_cases a2:fy=0
      rotate_left
      ·have b2:(fy == 0)=false:=by simpa using a2
       clear a2
       go_quiet (fail)
       go_wp2_with fail
       go_meet
       exact ⟨_,rfl,HS5.out.later ⟨rfl,rfl,rfl,Nat.le_refl _,fun _ _=>rfl⟩⟩
      ·subst a2
       cases nx
       ·go_quiet (fail)
        go_wp2_with fail
        go_meet
        exact ⟨_,rfl,HS5.out.later ⟨rfl,rfl,rfl,Nat.le_refl _,fun _ _=>rfl⟩⟩
       ·cases ny
        ·go_quiet (fail)
         go_wp2_with fail
         go_meet
         exact ⟨_,rfl,HS5.out.later ⟨rfl,rfl,rfl,Nat.le_refl _,fun _ _=>rfl⟩⟩
        ·by_cases a3:ex=ey
         ·have b3:(ex != ey)=false:=by simpa using a3
          clear a3
          go_quiet (fail)
          go_wp2_with fail
          go_meet
          exact ⟨_,rfl,HS5.out.later ⟨rfl,rfl,rfl,Nat.le_refl _,fun _ _=>rfl⟩⟩
         ·have b3:(ex != ey)=true:=by simpa using a3
          clear a3
          refine AH.start (fun x=>x.cell? ⟨w.heap.size,0,none⟩=some (.int .i64 0)∧x.cell? ⟨w.heap.size,1,none⟩=some (.bool true)∧x.cell? ⟨w.heap.size,2,none⟩=some (.int .i32 ex)∧x.cell? ⟨w.heap.size,3,none⟩=some (.string sx)∧x.cell? ⟨w.heap.size+1,0,none⟩=some (.int .i64 0)∧x.cell? ⟨w.heap.size+1,1,none⟩=some (.bool true)∧x.cell? ⟨w.heap.size+1,2,none⟩=some (.int .i32 ey)∧x.cell? ⟨w.heap.size+1,3,none⟩=some (.string sy)) (by kernel_rfl) ?_
          have HS6:=Lh (HS5.out.later ((Below.refl _ _).drew))
          clear x0 x1 x2 x3 y0 y1 y2 y3
          generalize w5.drew=w6 at HS6 ⊢
          have s0:=HC.out _ HS6.out
          refine AH.z 0 s0 ?_
          refine AH.z 1 s0 ?_
          refine AH.z 2 s0 ?_
          refine AH.z 3 s0 ?_
          refine AH.z 4 s0 ?_
          refine AH.z 5 s0 ?_
          refine AH.z 6 s0 ?_
          refine AH.z 7 s0 ?_
          refine AH.z 8 s0 ?_
          refine AH.z 9 s0 ?_
          refine AH.z 10 s0 ?_
          refine AH.z 11 s0 ?_
          refine AH.z 12 s0 ?_
          refine AH.z 13 s0 ?_
          refine AH.z 14 s0 ?_
          refine AH.z 15 s0 ?_
          refine AH.z 16 s0 ?_
          refine AH.z 17 s0 ?_
          refine AH.z 18 s0 ?_
          refine AH.z 19 s0 ?_
          refine AH.z 20 s0 ?_
          refine AH.z 21 s0 ?_
          refine AH.z 22 s0 ?_
          refine AH.z 23 s0 ?_
          refine AH.z 24 s0 ?_
          refine AH.z 26 s0 ?_
          clear s0
          refine AH.o 25 (fun K hK=>?_)
          go_simp
          refine (HXf.out w6).mono ?_
          rintro r w7 ⟨v1,rfl,k1,hB⟩
          have HS7:=Lh (HS6.out.later hB)
          have HF7:=Lh k1
          clear k1
          refine hK _ _ (HC.out _ HS7.out) ?_
          clear hK K hB
          try simp only [Act.put,Zp_]
          refine AH.o 27 (fun K hK=>?_)
          go_simp
          refine (HYf.out w7).mono ?_
          rintro r w8 ⟨v2,rfl,k2,hB⟩
          have HS8:=Lh (HS7.out.later hB)
          have HF8:=Lh (HF7.out.later hB)
          have HG8:=Lh k2
          clear k2
          refine hK _ _ (HC.out _ HS8.out) ?_
          clear hK K hB
          try simp only [Act.put,Zp_]
          refine AH.o 28 (fun K hK=>?_)
          go_simp
          refine (HOr.out w8 _ _ HF8.out HG8.out).mono ?_
          rintro r w9 ⟨rfl,hB⟩
          have HS9:=Lh (HS8.out.later hB)
          refine hK _ _ (HC.out _ HS9.out) ?_
          clear hK K hB
          try simp only [Act.put,Zp_]
          have s9:=HC.out _ HS9.out
          refine AH.z 29 s9 ?_
          refine AH.z 30 s9 ?_
          clear s9
          refine AH.done (by kernel_rfl) ?_
          go_wp2_with fail
          go_meet
          exact ⟨_,rfl,HS9.out⟩
    case rest =>
     obtain ⟨gg,rfl,hS⟩:=hcut
     have HS10:=Lh hS
     clear hS HXf HYf HOr
     cases gg
     rotate_left
     ·go_wp2_with fail
      refine (HAl.out _ HS10.out.bw).mono ?_
      rintro r wz ⟨rfl,hB⟩
      have HSz:=Lh (HS10.out.later hB)
      clear hB
      go_wp2_with fail
      go_ret
      exact ⟨rfl,HSz.out.bw⟩
     ·obtain ⟨x0,x1,x2,x3,y0,y1,y2,y3⟩:=HC.out _ HS10.out
      go_wp2_with fail
      refine (HT1.out _ HS10.out.bw).mono ?_
      rintro r w11 ⟨rfl,hB⟩
      have HS11:=Lh (HS10.out.later hB)
      clear hB HS10 HT1 x0 x1 x2 x3 y0 y1 y2 y3
      obtain ⟨x0,x1,x2,x3,y0,y1,y2,y3⟩:=HC.out _ HS11.out
      go_wp2_with fail
      refine (HTs.out _).mono ?_
      rintro r w12 ⟨rfl,hB⟩
      have HS12:=Lh (HS11.out.later hB)
      clear hB HS11 HTs x0 x1 x2 x3 y0 y1 y2 y3
      obtain ⟨x0,x1,x2,x3,y0,y1,y2,y3⟩:=HC.out _ HS12.out
      go_wp2_with fail
      refine (HT2.out _ HS12.out.bw).mono ?_
      rintro r w14 ⟨rfl,hB⟩
      have HS14:=Lh (HS12.out.later hB)
      clear hB HS12 HT2 x0 x1 x2 x3 y0 y1 y2 y3
      obtain ⟨x0,x1,x2,x3,y0,y1,y2,y3⟩:=HC.out _ HS14.out
      rcases (show 2≤fx∨(fx<2∧2≤fy)∨(fx<2∧fy<2) by omega) with k | ⟨k,k'⟩ | ⟨k,k'⟩
      ·go_wp2_with fail
       refine (HAl.out _ HS14.out.bw).mono ?_
       rintro r wz ⟨rfl,hB⟩
       have HSz:=Lh (HS14.out.later hB)
       clear hB
       go_wp2_with fail
       go_ret
       exact ⟨rfl,HSz.out.bw⟩
      ·go_wp2_with fail
       refine (HAl.out _ HS14.out.bw).mono ?_
       rintro r wz ⟨rfl,hB⟩
       have HSz:=Lh (HS14.out.later hB)
       clear hB
       go_wp2_with fail
       go_ret
       exact ⟨rfl,HSz.out.bw⟩
      ·have hR:=HAr.out
       have HCq:=Lh (HCp.out (by have:=HG4.out;omega) (by have:=HG4.out;omega))
       rw [if_neg (by omega),if_neg (by omega)] at hR
       replace HAr:=Lh hR
       clear hR HCp
       unfold RsV at HAr
       go_upto_region 12 with (fail)
       rcases HVB.out with rfl | rfl | rfl
       ·have htx:txS ((-1:Int).natAbs)=⟨#[49]⟩:=Qb9
        rw [htx,show decide ((-1:Int)<0)=true from rfl] at HAr
        clear htx k k' HVB
        go_cut [6] from 79 to 82 (fun z wx=>∃ g,z=.pointer (some ⟨g,0,none⟩)∧wx.cell? ⟨g,1,none⟩=some (.bool true)∧wx.cell? ⟨g,3,none⟩=some (.string ⟨#[49]⟩)∧CB w #[.int .i64 fx,.bool nx,.int .i32 ex,.string sx] #[.int .i64 fy,.bool ny,.int .i32 ey,.string sy] wx)
        case first =>
         refine AH.start (fun x=>x.cell? ⟨w.heap.size,0,none⟩=some (.int .i64 fx)∧x.cell? ⟨w.heap.size,1,none⟩=some (.bool nx)∧x.cell? ⟨w.heap.size,2,none⟩=some (.int .i32 ex)∧x.cell? ⟨w.heap.size,3,none⟩=some (.string sx)∧x.cell? ⟨w.heap.size+1,0,none⟩=some (.int .i64 fy)∧x.cell? ⟨w.heap.size+1,1,none⟩=some (.bool ny)∧x.cell? ⟨w.heap.size+1,2,none⟩=some (.int .i32 ey)∧x.cell? ⟨w.heap.size+1,3,none⟩=some (.string sy)) (by kernel_rfl) ?_
         have HS30:=Lh (HS14.out.later ((Below.refl _ _).drew))
         clear x0 x1 x2 x3 y0 y1 y2 y3
         generalize w14.drew=w30 at HS30 ⊢
         have s0:=HC.out _ HS30.out
         refine AH.z 1 s0 ?_
         refine AH.z 2 s0 ?_
         clear s0
         refine AH.t 0 4 (fun K hK=>?q0) (fun K hK=>?q1)
         case q0 =>
          go_simp
          refine (HP.out 9 w30).mono ?_
          rintro r w31 ⟨rfl,hB⟩
          have HS31:=Lh (HS30.out.later hB)
          refine hK _ _ (HC.out _ HS31.out) ?_
          clear hK K hB
          try simp only [Act.put,Zp_]
          refine AH.t 3 4 (fun K hK=>?q3) (fun K hK=>?q4)
          case q3 =>
           go_simp
           refine (HAr.out w31).mono ?_
           rintro r w32 ⟨rfl,hB⟩
           have HS32:=Lh (HS31.out.later hB)
           refine hK _ _ (HC.out _ HS32.out) ?_
           clear hK K hB
           try simp only [Act.put,Zp_]
           refine AH.o 4 (fun K hK=>?_)
           go_simp
           have HS33:=Lh (HS32.out.later (Qf w32 (.cells #[.int .i64 0,.bool false,.int .i32 0,.string ⟨#[]⟩,.int .u32 0,.bool false,.bool false,.bool false] 34)))
           have HG33:=Lh (gal w32 (.cells #[.int .i64 0,.bool false,.int .i32 0,.string ⟨#[]⟩,.int .u32 0,.bool false,.bool false,.bool false] 34))
           have HL33:=Lh (Array.getElem?_eq_some_iff.1 HS32.out.yb).1
           refine hK _ _ (HC.out _ HS33.out) ?_
           clear hK K
           try simp only [Act.put,Zp_]
           generalize hg:w32.heap.size=g at HG33 HL33 ⊢
           generalize hw:w32.alloc (.cells #[.int .i64 0,.bool false,.int .i32 0,.string ⟨#[]⟩,.int .u32 0,.bool false,.bool false,.bool false] 34)=w33 at HS33 HG33 ⊢
           clear hg hw
           have gc:=Qd HG33.out
           have r0:=gc.1 0;have r1:=gc.1 1;have r2:=gc.1 2;have r3:=gc.1 3;have r4:=gc.1 4;have r5:=gc.1 5;have r6:=gc.1 6;have r7:=gc.1 7
           have f0:=gc.2 0;have f1:=gc.2 1;have f2:=gc.2 2;have f3:=gc.2 3;have f4:=gc.2 4;have f5:=gc.2 5;have f6:=gc.2 6;have f7:=gc.2 7
           have c8:=Qw HG33.out (.int .i64 0) (.bool true) (.int .i32 0) (.string ⟨#[49]⟩) (.int .u32 0) (.bool true) (.bool false) (.bool false)
           have k8:=CB.set8 HS33.out HL33.out (.int .i64 0) (.bool true) (.int .i32 0) (.string ⟨#[49]⟩) (.int .u32 0) (.bool true) (.bool false) (.bool false)
           unfold set8 at c8 k8
           clear gc
           refine AH.o 5 (fun K hK=>?_)
           go_simp
           refine hK _ _ (HC.out _ k8) ?_
           clear hK K r0 r1 r2 r3 r4 r5 r6 r7 f0 f1 f2 f3 f4 f5 f6 f7
           try simp only [Act.put,Zp_]
           refine AH.done (by kernel_rfl) ?_
           go_wp2_with fail
           go_meet
           exact ⟨_,rfl,c8.2.1,c8.2.2.2.1,k8⟩
          case q4 =>
           go_simp
           have HS32:=Lh (HS31.out.later (Qf w31 (.cells #[.int .i64 0,.bool false,.int .i32 0,.string ⟨#[]⟩,.int .u32 0,.bool false,.bool false,.bool false] 34)))
           have HG32:=Lh (gal w31 (.cells #[.int .i64 0,.bool false,.int .i32 0,.string ⟨#[]⟩,.int .u32 0,.bool false,.bool false,.bool false] 34))
           have HL32:=Lh (Array.getElem?_eq_some_iff.1 HS31.out.yb).1
           refine hK _ _ (HC.out _ HS32.out) ?_
           clear hK K
           try simp only [Act.put,Zp_]
           generalize hg:w31.heap.size=g at HG32 HL32 ⊢
           generalize hw:w31.alloc (.cells #[.int .i64 0,.bool false,.int .i32 0,.string ⟨#[]⟩,.int .u32 0,.bool false,.bool false,.bool false] 34)=w32 at HS32 HG32 ⊢
           clear hg hw
           refine AH.o 3 (fun K hK=>?_)
           go_simp
           refine (HAr.out w32).mono ?_
           rintro r w33 ⟨rfl,hB⟩
           have HS33:=Lh (HS32.out.later hB)
           have HG33:=Lh (Qb HG32.out hB)
           have HL33:=HL32
           refine hK _ _ (HC.out _ HS33.out) ?_
           clear hK K hB
           try simp only [Act.put,Zp_]
           have gc:=Qd HG33.out
           have r0:=gc.1 0;have r1:=gc.1 1;have r2:=gc.1 2;have r3:=gc.1 3;have r4:=gc.1 4;have r5:=gc.1 5;have r6:=gc.1 6;have r7:=gc.1 7
           have f0:=gc.2 0;have f1:=gc.2 1;have f2:=gc.2 2;have f3:=gc.2 3;have f4:=gc.2 4;have f5:=gc.2 5;have f6:=gc.2 6;have f7:=gc.2 7
           have c8:=Qw HG33.out (.int .i64 0) (.bool true) (.int .i32 0) (.string ⟨#[49]⟩) (.int .u32 0) (.bool true) (.bool false) (.bool false)
           have k8:=CB.set8 HS33.out HL33.out (.int .i64 0) (.bool true) (.int .i32 0) (.string ⟨#[49]⟩) (.int .u32 0) (.bool true) (.bool false) (.bool false)
           unfold set8 at c8 k8
           clear gc
           refine AH.o 5 (fun K hK=>?_)
           go_simp
           refine hK _ _ (HC.out _ k8) ?_
           clear hK K r0 r1 r2 r3 r4 r5 r6 r7 f0 f1 f2 f3 f4 f5 f6 f7
           try simp only [Act.put,Zp_]
           refine AH.done (by kernel_rfl) ?_
           go_wp2_with fail
           go_meet
           exact ⟨_,rfl,c8.2.1,c8.2.2.2.1,k8⟩
         case q1 =>
          go_simp
          have HS31:=Lh (HS30.out.later (Qf w30 (.cells #[.int .i64 0,.bool false,.int .i32 0,.string ⟨#[]⟩,.int .u32 0,.bool false,.bool false,.bool false] 34)))
          have HG31:=Lh (gal w30 (.cells #[.int .i64 0,.bool false,.int .i32 0,.string ⟨#[]⟩,.int .u32 0,.bool false,.bool false,.bool false] 34))
          have HL31:=Lh (Array.getElem?_eq_some_iff.1 HS30.out.yb).1
          refine hK _ _ (HC.out _ HS31.out) ?_
          clear hK K
          try simp only [Act.put,Zp_]
          generalize hg:w30.heap.size=g at HG31 HL31 ⊢
          generalize hw:w30.alloc (.cells #[.int .i64 0,.bool false,.int .i32 0,.string ⟨#[]⟩,.int .u32 0,.bool false,.bool false,.bool false] 34)=w31 at HS31 HG31 ⊢
          clear hg hw
          refine AH.o 0 (fun K hK=>?_)
          go_simp
          refine (HP.out 9 w31).mono ?_
          rintro r w32 ⟨rfl,hB⟩
          have HS32:=Lh (HS31.out.later hB)
          have HG32:=Lh (Qb HG31.out hB)
          have HL32:=HL31
          refine hK _ _ (HC.out _ HS32.out) ?_
          clear hK K hB
          try simp only [Act.put,Zp_]
          refine AH.o 3 (fun K hK=>?_)
          go_simp
          refine (HAr.out w32).mono ?_
          rintro r w33 ⟨rfl,hB⟩
          have HS33:=Lh (HS32.out.later hB)
          have HG33:=Lh (Qb HG32.out hB)
          have HL33:=HL32
          refine hK _ _ (HC.out _ HS33.out) ?_
          clear hK K hB
          try simp only [Act.put,Zp_]
          have gc:=Qd HG33.out
          have r0:=gc.1 0;have r1:=gc.1 1;have r2:=gc.1 2;have r3:=gc.1 3;have r4:=gc.1 4;have r5:=gc.1 5;have r6:=gc.1 6;have r7:=gc.1 7
          have f0:=gc.2 0;have f1:=gc.2 1;have f2:=gc.2 2;have f3:=gc.2 3;have f4:=gc.2 4;have f5:=gc.2 5;have f6:=gc.2 6;have f7:=gc.2 7
          have c8:=Qw HG33.out (.int .i64 0) (.bool true) (.int .i32 0) (.string ⟨#[49]⟩) (.int .u32 0) (.bool true) (.bool false) (.bool false)
          have k8:=CB.set8 HS33.out HL33.out (.int .i64 0) (.bool true) (.int .i32 0) (.string ⟨#[49]⟩) (.int .u32 0) (.bool true) (.bool false) (.bool false)
          unfold set8 at c8 k8
          clear gc
          refine AH.o 5 (fun K hK=>?_)
          go_simp
          refine hK _ _ (HC.out _ k8) ?_
          clear hK K r0 r1 r2 r3 r4 r5 r6 r7 f0 f1 f2 f3 f4 f5 f6 f7
          try simp only [Act.put,Zp_]
          refine AH.done (by kernel_rfl) ?_
          go_wp2_with fail
          go_meet
          exact ⟨_,rfl,c8.2.1,c8.2.2.2.1,k8⟩
        case rest =>
         obtain ⟨g,rfl,r1,r3,hS⟩:=hcut
         have HS15:=Lh hS
         clear hS
         go_wp2_with fail
         refine (HAl.out _ HS15.out.bw).mono ?_
         rintro r w16 ⟨rfl,hB⟩
         have HS16:=Lh (HS15.out.later hB)
         clear hB r1 r3
         obtain ⟨x0,x1,x2,x3,y0,y1,y2,y3⟩:=HC.out _ HS16.out
         go_wp2_with fail
         refine (HCq.out _ HS16.out.bw).mono ?_
         rintro r w17 ⟨rfl,hB⟩
         have HS17:=Lh (HS16.out.later hB)
         clear hB
         go_wp2_with fail
         go_ret
         exact ⟨rfl,HS17.out.bw⟩
       ·have htx:txS ((0:Int).natAbs)=⟨#[48]⟩:=Qba
        rw [htx,show decide ((0:Int)<0)=false from rfl] at HAr
        clear htx k k' HVB
        go_cut [6] from 79 to 82 (fun z wx=>∃ g,z=.pointer (some ⟨g,0,none⟩)∧wx.cell? ⟨g,1,none⟩=some (.bool false)∧wx.cell? ⟨g,3,none⟩=some (.string ⟨#[48]⟩)∧CB w #[.int .i64 fx,.bool nx,.int .i32 ex,.string sx] #[.int .i64 fy,.bool ny,.int .i32 ey,.string sy] wx)
        case first =>
         refine AH.start (fun x=>x.cell? ⟨w.heap.size,0,none⟩=some (.int .i64 fx)∧x.cell? ⟨w.heap.size,1,none⟩=some (.bool nx)∧x.cell? ⟨w.heap.size,2,none⟩=some (.int .i32 ex)∧x.cell? ⟨w.heap.size,3,none⟩=some (.string sx)∧x.cell? ⟨w.heap.size+1,0,none⟩=some (.int .i64 fy)∧x.cell? ⟨w.heap.size+1,1,none⟩=some (.bool ny)∧x.cell? ⟨w.heap.size+1,2,none⟩=some (.int .i32 ey)∧x.cell? ⟨w.heap.size+1,3,none⟩=some (.string sy)) (by kernel_rfl) ?_
         have HS30:=Lh (HS14.out.later ((Below.refl _ _).drew))
         clear x0 x1 x2 x3 y0 y1 y2 y3
         generalize w14.drew=w30 at HS30 ⊢
         have s0:=HC.out _ HS30.out
         refine AH.z 1 s0 ?_
         refine AH.z 2 s0 ?_
         clear s0
         refine AH.t 0 4 (fun K hK=>?q0) (fun K hK=>?q1)
         case q0 =>
          go_simp
          refine (HP.out 9 w30).mono ?_
          rintro r w31 ⟨rfl,hB⟩
          have HS31:=Lh (HS30.out.later hB)
          refine hK _ _ (HC.out _ HS31.out) ?_
          clear hK K hB
          try simp only [Act.put,Zp_]
          refine AH.t 3 4 (fun K hK=>?q3) (fun K hK=>?q4)
          case q3 =>
           go_simp
           refine (HAr.out w31).mono ?_
           rintro r w32 ⟨rfl,hB⟩
           have HS32:=Lh (HS31.out.later hB)
           refine hK _ _ (HC.out _ HS32.out) ?_
           clear hK K hB
           try simp only [Act.put,Zp_]
           refine AH.o 4 (fun K hK=>?_)
           go_simp
           have HS33:=Lh (HS32.out.later (Qf w32 (.cells #[.int .i64 0,.bool false,.int .i32 0,.string ⟨#[]⟩,.int .u32 0,.bool false,.bool false,.bool false] 34)))
           have HG33:=Lh (gal w32 (.cells #[.int .i64 0,.bool false,.int .i32 0,.string ⟨#[]⟩,.int .u32 0,.bool false,.bool false,.bool false] 34))
           have HL33:=Lh (Array.getElem?_eq_some_iff.1 HS32.out.yb).1
           refine hK _ _ (HC.out _ HS33.out) ?_
           clear hK K
           try simp only [Act.put,Zp_]
           generalize hg:w32.heap.size=g at HG33 HL33 ⊢
           generalize hw:w32.alloc (.cells #[.int .i64 0,.bool false,.int .i32 0,.string ⟨#[]⟩,.int .u32 0,.bool false,.bool false,.bool false] 34)=w33 at HS33 HG33 ⊢
           clear hg hw
           have gc:=Qd HG33.out
           have r0:=gc.1 0;have r1:=gc.1 1;have r2:=gc.1 2;have r3:=gc.1 3;have r4:=gc.1 4;have r5:=gc.1 5;have r6:=gc.1 6;have r7:=gc.1 7
           have f0:=gc.2 0;have f1:=gc.2 1;have f2:=gc.2 2;have f3:=gc.2 3;have f4:=gc.2 4;have f5:=gc.2 5;have f6:=gc.2 6;have f7:=gc.2 7
           have c8:=Qw HG33.out (.int .i64 0) (.bool false) (.int .i32 0) (.string ⟨#[48]⟩) (.int .u32 0) (.bool true) (.bool false) (.bool false)
           have k8:=CB.set8 HS33.out HL33.out (.int .i64 0) (.bool false) (.int .i32 0) (.string ⟨#[48]⟩) (.int .u32 0) (.bool true) (.bool false) (.bool false)
           unfold set8 at c8 k8
           clear gc
           refine AH.o 5 (fun K hK=>?_)
           go_simp
           refine hK _ _ (HC.out _ k8) ?_
           clear hK K r0 r1 r2 r3 r4 r5 r6 r7 f0 f1 f2 f3 f4 f5 f6 f7
           try simp only [Act.put,Zp_]
           refine AH.done (by kernel_rfl) ?_
           go_wp2_with fail
           go_meet
           exact ⟨_,rfl,c8.2.1,c8.2.2.2.1,k8⟩
          case q4 =>
           go_simp
           have HS32:=Lh (HS31.out.later (Qf w31 (.cells #[.int .i64 0,.bool false,.int .i32 0,.string ⟨#[]⟩,.int .u32 0,.bool false,.bool false,.bool false] 34)))
           have HG32:=Lh (gal w31 (.cells #[.int .i64 0,.bool false,.int .i32 0,.string ⟨#[]⟩,.int .u32 0,.bool false,.bool false,.bool false] 34))
           have HL32:=Lh (Array.getElem?_eq_some_iff.1 HS31.out.yb).1
           refine hK _ _ (HC.out _ HS32.out) ?_
           clear hK K
           try simp only [Act.put,Zp_]
           generalize hg:w31.heap.size=g at HG32 HL32 ⊢
           generalize hw:w31.alloc (.cells #[.int .i64 0,.bool false,.int .i32 0,.string ⟨#[]⟩,.int .u32 0,.bool false,.bool false,.bool false] 34)=w32 at HS32 HG32 ⊢
           clear hg hw
           refine AH.o 3 (fun K hK=>?_)
           go_simp
           refine (HAr.out w32).mono ?_
           rintro r w33 ⟨rfl,hB⟩
           have HS33:=Lh (HS32.out.later hB)
           have HG33:=Lh (Qb HG32.out hB)
           have HL33:=HL32
           refine hK _ _ (HC.out _ HS33.out) ?_
           clear hK K hB
           try simp only [Act.put,Zp_]
           have gc:=Qd HG33.out
           have r0:=gc.1 0;have r1:=gc.1 1;have r2:=gc.1 2;have r3:=gc.1 3;have r4:=gc.1 4;have r5:=gc.1 5;have r6:=gc.1 6;have r7:=gc.1 7
           have f0:=gc.2 0;have f1:=gc.2 1;have f2:=gc.2 2;have f3:=gc.2 3;have f4:=gc.2 4;have f5:=gc.2 5;have f6:=gc.2 6;have f7:=gc.2 7
           have c8:=Qw HG33.out (.int .i64 0) (.bool false) (.int .i32 0) (.string ⟨#[48]⟩) (.int .u32 0) (.bool true) (.bool false) (.bool false)
           have k8:=CB.set8 HS33.out HL33.out (.int .i64 0) (.bool false) (.int .i32 0) (.string ⟨#[48]⟩) (.int .u32 0) (.bool true) (.bool false) (.bool false)
           unfold set8 at c8 k8
           clear gc
           refine AH.o 5 (fun K hK=>?_)
           go_simp
           refine hK _ _ (HC.out _ k8) ?_
           clear hK K r0 r1 r2 r3 r4 r5 r6 r7 f0 f1 f2 f3 f4 f5 f6 f7
           try simp only [Act.put,Zp_]
           refine AH.done (by kernel_rfl) ?_
           go_wp2_with fail
           go_meet
           exact ⟨_,rfl,c8.2.1,c8.2.2.2.1,k8⟩
         case q1 =>
          go_simp
          have HS31:=Lh (HS30.out.later (Qf w30 (.cells #[.int .i64 0,.bool false,.int .i32 0,.string ⟨#[]⟩,.int .u32 0,.bool false,.bool false,.bool false] 34)))
          have HG31:=Lh (gal w30 (.cells #[.int .i64 0,.bool false,.int .i32 0,.string ⟨#[]⟩,.int .u32 0,.bool false,.bool false,.bool false] 34))
          have HL31:=Lh (Array.getElem?_eq_some_iff.1 HS30.out.yb).1
          refine hK _ _ (HC.out _ HS31.out) ?_
          clear hK K
          try simp only [Act.put,Zp_]
          generalize hg:w30.heap.size=g at HG31 HL31 ⊢
          generalize hw:w30.alloc (.cells #[.int .i64 0,.bool false,.int .i32 0,.string ⟨#[]⟩,.int .u32 0,.bool false,.bool false,.bool false] 34)=w31 at HS31 HG31 ⊢
          clear hg hw
          refine AH.o 0 (fun K hK=>?_)
          go_simp
          refine (HP.out 9 w31).mono ?_
          rintro r w32 ⟨rfl,hB⟩
          have HS32:=Lh (HS31.out.later hB)
          have HG32:=Lh (Qb HG31.out hB)
          have HL32:=HL31
          refine hK _ _ (HC.out _ HS32.out) ?_
          clear hK K hB
          try simp only [Act.put,Zp_]
          refine AH.o 3 (fun K hK=>?_)
          go_simp
          refine (HAr.out w32).mono ?_
          rintro r w33 ⟨rfl,hB⟩
          have HS33:=Lh (HS32.out.later hB)
          have HG33:=Lh (Qb HG32.out hB)
          have HL33:=HL32
          refine hK _ _ (HC.out _ HS33.out) ?_
          clear hK K hB
          try simp only [Act.put,Zp_]
          have gc:=Qd HG33.out
          have r0:=gc.1 0;have r1:=gc.1 1;have r2:=gc.1 2;have r3:=gc.1 3;have r4:=gc.1 4;have r5:=gc.1 5;have r6:=gc.1 6;have r7:=gc.1 7
          have f0:=gc.2 0;have f1:=gc.2 1;have f2:=gc.2 2;have f3:=gc.2 3;have f4:=gc.2 4;have f5:=gc.2 5;have f6:=gc.2 6;have f7:=gc.2 7
          have c8:=Qw HG33.out (.int .i64 0) (.bool false) (.int .i32 0) (.string ⟨#[48]⟩) (.int .u32 0) (.bool true) (.bool false) (.bool false)
          have k8:=CB.set8 HS33.out HL33.out (.int .i64 0) (.bool false) (.int .i32 0) (.string ⟨#[48]⟩) (.int .u32 0) (.bool true) (.bool false) (.bool false)
          unfold set8 at c8 k8
          clear gc
          refine AH.o 5 (fun K hK=>?_)
          go_simp
          refine hK _ _ (HC.out _ k8) ?_
          clear hK K r0 r1 r2 r3 r4 r5 r6 r7 f0 f1 f2 f3 f4 f5 f6 f7
          try simp only [Act.put,Zp_]
          refine AH.done (by kernel_rfl) ?_
          go_wp2_with fail
          go_meet
          exact ⟨_,rfl,c8.2.1,c8.2.2.2.1,k8⟩
        case rest =>
         obtain ⟨g,rfl,r1,r3,hS⟩:=hcut
         have HS15:=Lh hS
         clear hS
         go_wp2_with fail
         refine (HAl.out _ HS15.out.bw).mono ?_
         rintro r w16 ⟨rfl,hB⟩
         have HS16:=Lh (HS15.out.later hB)
         clear hB r1 r3
         obtain ⟨x0,x1,x2,x3,y0,y1,y2,y3⟩:=HC.out _ HS16.out
         go_wp2_with fail
         refine (HCq.out _ HS16.out.bw).mono ?_
         rintro r w17 ⟨rfl,hB⟩
         have HS17:=Lh (HS16.out.later hB)
         clear hB
         go_wp2_with fail
         go_ret
         exact ⟨rfl,HS17.out.bw⟩
       ·have htx:txS ((1:Int).natAbs)=⟨#[49]⟩:=Qb9
        rw [htx,show decide ((1:Int)<0)=false from rfl] at HAr
        clear htx k k' HVB
        go_cut [6] from 79 to 82 (fun z wx=>∃ g,z=.pointer (some ⟨g,0,none⟩)∧wx.cell? ⟨g,1,none⟩=some (.bool false)∧wx.cell? ⟨g,3,none⟩=some (.string ⟨#[49]⟩)∧CB w #[.int .i64 fx,.bool nx,.int .i32 ex,.string sx] #[.int .i64 fy,.bool ny,.int .i32 ey,.string sy] wx)
        case first =>
         refine AH.start (fun x=>x.cell? ⟨w.heap.size,0,none⟩=some (.int .i64 fx)∧x.cell? ⟨w.heap.size,1,none⟩=some (.bool nx)∧x.cell? ⟨w.heap.size,2,none⟩=some (.int .i32 ex)∧x.cell? ⟨w.heap.size,3,none⟩=some (.string sx)∧x.cell? ⟨w.heap.size+1,0,none⟩=some (.int .i64 fy)∧x.cell? ⟨w.heap.size+1,1,none⟩=some (.bool ny)∧x.cell? ⟨w.heap.size+1,2,none⟩=some (.int .i32 ey)∧x.cell? ⟨w.heap.size+1,3,none⟩=some (.string sy)) (by kernel_rfl) ?_
         have HS30:=Lh (HS14.out.later ((Below.refl _ _).drew))
         clear x0 x1 x2 x3 y0 y1 y2 y3
         generalize w14.drew=w30 at HS30 ⊢
         have s0:=HC.out _ HS30.out
         refine AH.z 1 s0 ?_
         refine AH.z 2 s0 ?_
         clear s0
         refine AH.t 0 4 (fun K hK=>?q0) (fun K hK=>?q1)
         case q0 =>
          go_simp
          refine (HP.out 9 w30).mono ?_
          rintro r w31 ⟨rfl,hB⟩
          have HS31:=Lh (HS30.out.later hB)
          refine hK _ _ (HC.out _ HS31.out) ?_
          clear hK K hB
          try simp only [Act.put,Zp_]
          refine AH.t 3 4 (fun K hK=>?q3) (fun K hK=>?q4)
          case q3 =>
           go_simp
           refine (HAr.out w31).mono ?_
           rintro r w32 ⟨rfl,hB⟩
           have HS32:=Lh (HS31.out.later hB)
           refine hK _ _ (HC.out _ HS32.out) ?_
           clear hK K hB
           try simp only [Act.put,Zp_]
           refine AH.o 4 (fun K hK=>?_)
           go_simp
           have HS33:=Lh (HS32.out.later (Qf w32 (.cells #[.int .i64 0,.bool false,.int .i32 0,.string ⟨#[]⟩,.int .u32 0,.bool false,.bool false,.bool false] 34)))
           have HG33:=Lh (gal w32 (.cells #[.int .i64 0,.bool false,.int .i32 0,.string ⟨#[]⟩,.int .u32 0,.bool false,.bool false,.bool false] 34))
           have HL33:=Lh (Array.getElem?_eq_some_iff.1 HS32.out.yb).1
           refine hK _ _ (HC.out _ HS33.out) ?_
           clear hK K
           try simp only [Act.put,Zp_]
           generalize hg:w32.heap.size=g at HG33 HL33 ⊢
           generalize hw:w32.alloc (.cells #[.int .i64 0,.bool false,.int .i32 0,.string ⟨#[]⟩,.int .u32 0,.bool false,.bool false,.bool false] 34)=w33 at HS33 HG33 ⊢
           clear hg hw
           have gc:=Qd HG33.out
           have r0:=gc.1 0;have r1:=gc.1 1;have r2:=gc.1 2;have r3:=gc.1 3;have r4:=gc.1 4;have r5:=gc.1 5;have r6:=gc.1 6;have r7:=gc.1 7
           have f0:=gc.2 0;have f1:=gc.2 1;have f2:=gc.2 2;have f3:=gc.2 3;have f4:=gc.2 4;have f5:=gc.2 5;have f6:=gc.2 6;have f7:=gc.2 7
           have c8:=Qw HG33.out (.int .i64 0) (.bool false) (.int .i32 0) (.string ⟨#[49]⟩) (.int .u32 0) (.bool true) (.bool false) (.bool false)
           have k8:=CB.set8 HS33.out HL33.out (.int .i64 0) (.bool false) (.int .i32 0) (.string ⟨#[49]⟩) (.int .u32 0) (.bool true) (.bool false) (.bool false)
           unfold set8 at c8 k8
           clear gc
           refine AH.o 5 (fun K hK=>?_)
           go_simp
           refine hK _ _ (HC.out _ k8) ?_
           clear hK K r0 r1 r2 r3 r4 r5 r6 r7 f0 f1 f2 f3 f4 f5 f6 f7
           try simp only [Act.put,Zp_]
           refine AH.done (by kernel_rfl) ?_
           go_wp2_with fail
           go_meet
           exact ⟨_,rfl,c8.2.1,c8.2.2.2.1,k8⟩
          case q4 =>
           go_simp
           have HS32:=Lh (HS31.out.later (Qf w31 (.cells #[.int .i64 0,.bool false,.int .i32 0,.string ⟨#[]⟩,.int .u32 0,.bool false,.bool false,.bool false] 34)))
           have HG32:=Lh (gal w31 (.cells #[.int .i64 0,.bool false,.int .i32 0,.string ⟨#[]⟩,.int .u32 0,.bool false,.bool false,.bool false] 34))
           have HL32:=Lh (Array.getElem?_eq_some_iff.1 HS31.out.yb).1
           refine hK _ _ (HC.out _ HS32.out) ?_
           clear hK K
           try simp only [Act.put,Zp_]
           generalize hg:w31.heap.size=g at HG32 HL32 ⊢
           generalize hw:w31.alloc (.cells #[.int .i64 0,.bool false,.int .i32 0,.string ⟨#[]⟩,.int .u32 0,.bool false,.bool false,.bool false] 34)=w32 at HS32 HG32 ⊢
           clear hg hw
           refine AH.o 3 (fun K hK=>?_)
           go_simp
           refine (HAr.out w32).mono ?_
           rintro r w33 ⟨rfl,hB⟩
           have HS33:=Lh (HS32.out.later hB)
           have HG33:=Lh (Qb HG32.out hB)
           have HL33:=HL32
           refine hK _ _ (HC.out _ HS33.out) ?_
           clear hK K hB
           try simp only [Act.put,Zp_]
           have gc:=Qd HG33.out
           have r0:=gc.1 0;have r1:=gc.1 1;have r2:=gc.1 2;have r3:=gc.1 3;have r4:=gc.1 4;have r5:=gc.1 5;have r6:=gc.1 6;have r7:=gc.1 7
           have f0:=gc.2 0;have f1:=gc.2 1;have f2:=gc.2 2;have f3:=gc.2 3;have f4:=gc.2 4;have f5:=gc.2 5;have f6:=gc.2 6;have f7:=gc.2 7
           have c8:=Qw HG33.out (.int .i64 0) (.bool false) (.int .i32 0) (.string ⟨#[49]⟩) (.int .u32 0) (.bool true) (.bool false) (.bool false)
           have k8:=CB.set8 HS33.out HL33.out (.int .i64 0) (.bool false) (.int .i32 0) (.string ⟨#[49]⟩) (.int .u32 0) (.bool true) (.bool false) (.bool false)
           unfold set8 at c8 k8
           clear gc
           refine AH.o 5 (fun K hK=>?_)
           go_simp
           refine hK _ _ (HC.out _ k8) ?_
           clear hK K r0 r1 r2 r3 r4 r5 r6 r7 f0 f1 f2 f3 f4 f5 f6 f7
           try simp only [Act.put,Zp_]
           refine AH.done (by kernel_rfl) ?_
           go_wp2_with fail
           go_meet
           exact ⟨_,rfl,c8.2.1,c8.2.2.2.1,k8⟩
         case q1 =>
          go_simp
          have HS31:=Lh (HS30.out.later (Qf w30 (.cells #[.int .i64 0,.bool false,.int .i32 0,.string ⟨#[]⟩,.int .u32 0,.bool false,.bool false,.bool false] 34)))
          have HG31:=Lh (gal w30 (.cells #[.int .i64 0,.bool false,.int .i32 0,.string ⟨#[]⟩,.int .u32 0,.bool false,.bool false,.bool false] 34))
          have HL31:=Lh (Array.getElem?_eq_some_iff.1 HS30.out.yb).1
          refine hK _ _ (HC.out _ HS31.out) ?_
          clear hK K
          try simp only [Act.put,Zp_]
          generalize hg:w30.heap.size=g at HG31 HL31 ⊢
          generalize hw:w30.alloc (.cells #[.int .i64 0,.bool false,.int .i32 0,.string ⟨#[]⟩,.int .u32 0,.bool false,.bool false,.bool false] 34)=w31 at HS31 HG31 ⊢
          clear hg hw
          refine AH.o 0 (fun K hK=>?_)
          go_simp
          refine (HP.out 9 w31).mono ?_
          rintro r w32 ⟨rfl,hB⟩
          have HS32:=Lh (HS31.out.later hB)
          have HG32:=Lh (Qb HG31.out hB)
          have HL32:=HL31
          refine hK _ _ (HC.out _ HS32.out) ?_
          clear hK K hB
          try simp only [Act.put,Zp_]
          refine AH.o 3 (fun K hK=>?_)
          go_simp
          refine (HAr.out w32).mono ?_
          rintro r w33 ⟨rfl,hB⟩
          have HS33:=Lh (HS32.out.later hB)
          have HG33:=Lh (Qb HG32.out hB)
          have HL33:=HL32
          refine hK _ _ (HC.out _ HS33.out) ?_
          clear hK K hB
          try simp only [Act.put,Zp_]
          have gc:=Qd HG33.out
          have r0:=gc.1 0;have r1:=gc.1 1;have r2:=gc.1 2;have r3:=gc.1 3;have r4:=gc.1 4;have r5:=gc.1 5;have r6:=gc.1 6;have r7:=gc.1 7
          have f0:=gc.2 0;have f1:=gc.2 1;have f2:=gc.2 2;have f3:=gc.2 3;have f4:=gc.2 4;have f5:=gc.2 5;have f6:=gc.2 6;have f7:=gc.2 7
          have c8:=Qw HG33.out (.int .i64 0) (.bool false) (.int .i32 0) (.string ⟨#[49]⟩) (.int .u32 0) (.bool true) (.bool false) (.bool false)
          have k8:=CB.set8 HS33.out HL33.out (.int .i64 0) (.bool false) (.int .i32 0) (.string ⟨#[49]⟩) (.int .u32 0) (.bool true) (.bool false) (.bool false)
          unfold set8 at c8 k8
          clear gc
          refine AH.o 5 (fun K hK=>?_)
          go_simp
          refine hK _ _ (HC.out _ k8) ?_
          clear hK K r0 r1 r2 r3 r4 r5 r6 r7 f0 f1 f2 f3 f4 f5 f6 f7
          try simp only [Act.put,Zp_]
          refine AH.done (by kernel_rfl) ?_
          go_wp2_with fail
          go_meet
          exact ⟨_,rfl,c8.2.1,c8.2.2.2.1,k8⟩
        case rest =>
         obtain ⟨g,rfl,r1,r3,hS⟩:=hcut
         have HS15:=Lh hS
         clear hS
         go_wp2_with fail
         refine (HAl.out _ HS15.out.bw).mono ?_
         rintro r w16 ⟨rfl,hB⟩
         have HS16:=Lh (HS15.out.later hB)
         clear hB r1 r3
         obtain ⟨x0,x1,x2,x3,y0,y1,y2,y3⟩:=HC.out _ HS16.out
         go_wp2_with fail
         refine (HCq.out _ HS16.out.bw).mono ?_
         rintro r w17 ⟨rfl,hB⟩
         have HS17:=Lh (HS16.out.later hB)
         clear hB
         go_wp2_with fail
         go_ret
         exact ⟨rfl,HS17.out.bw⟩
end Go.Proofs.YtpfjmeadikdddaaGreatDoor
