/- a part of the proof -/
import Derived.Test.YtpfjmeadikdddaaGreatDoorZ35
import Derived.Test.YtpfjmeadikdddaaGreatDoorZ44
import Derived.Test.YtpfjmeadikdddaaGreatDoorZ46
set_option linter.all false
set_option maxRecDepth 100000
set_option maxHeartbeats 16000000
namespace Go.Proofs.YtpfjmeadikdddaaGreatDoor
open Go Go.RowKit
theorem Qad {w:World}(hW:GW w){Tv:TypeId}{av:Value}(hE:EOFv w Tv av)(p md tr:Nat)(mx mn:Int)(hp:p≤60)(hmx:0≤mx∧mx≤500)(hmn:mn≤0 ∧ -500≤mn)(hmd:md<8)(htr:tr<4294967296)(f fy al:Nat)(hal:al<3)(hf:f<4)(hfy:fy<4)(n ny:Bool)(e ey:Int)(s sy:ByteArray)
  (hs:Canon s∧s.size≤40) (hsy:Canon sy∧sy.size≤40) (rf:Nat) (rn:Bool) (re:Int) (rc rk:Nat) (hrf:rf<4) (hrc:rc<BB^8) (hrk:rk<4096) (hk3:rk &&& 3=0)
  (hrun:RunOp 64 (fun bk bz bx bu=>#[.pointer (some ⟨bk,0,none⟩),.pointer (some ⟨bz,0,none⟩),.pointer (some ⟨bx,0,none⟩),.pointer (some ⟨bu,0,none⟩)]) w p mx mn (tr % 4096) md al f n e (vl (sdL s 0)) fy ny ey (vl (sdL sy 0)) rf rn re rc rk) :
  Calls Tryz.prog 29 #[.int .i64 2,CV p mx mn tr md,DV f n e s,DV fy ny ey sy,.int .i64 (al:Int)] w fun r w'=>r=.returned (.tuple #[DV (rf:Int) rn re (decS rc),.int .u32 (rk:Int),.bool (decide (rk &&& tr≠0))])∧Below w.heap.size w w':=by
 rw [← Q6J _ _ hrk hk3]
 exact Q6I 2 al p mx mn tr md f n e s fy ny ey sy rf _ _ _ _ _ (fun σ w1 bC bX bY bA bO bD bK bF h B=>Q4K hW h hE 2 p md tr mx mn hmd htr (by omega) f fy al hf hfy n ny e ey s sy (hs.1.digs hs.2) (hsy.1.digs hsy.2) hal B rf _ _ _ _ hrf hrc hrk (.inr (.inr (.inr (.inr (.inr (.inr (.inr (.inr (.inr (.inr (.inr ⟨rfl,by rw [Q2g,Q2g];exact hrun⟩))))))))))))
theorem Qae {w:World}(hW:GW w){Tv:TypeId}{av:Value}(hE:EOFv w Tv av)(p md tr:Nat)(mx mn:Int)(hp:p≤60)(hmx:0≤mx∧mx≤500)(hmn:mn≤0 ∧ -500≤mn)(hmd:md<8)(htr:tr<4294967296)(f fy al:Nat)(hal:al<3)(n ny:Bool)(e ey:Int)(s sy:ByteArray)(hx:ArOk 200 f e s)(hy:ArOk 200 fy ey sy) :
  Calls Tryz.prog 13 #[.int .i64 2,CV p mx mn tr md,DV f n e s,DV fy ny ey sy,.int .i64 (al:Int)] w fun r w'=>r=.returned (.bool true)∧Below w.heap.size w w' :=
 Q92 hW hE 2 (.inl ⟨rfl,rfl,rfl⟩) p md tr mx mn htr f fy n ny e ey s sy (arM p mx mn md (f:Int) n e (vl (sdL s 0)) (fy:Int) ny ey (vl (sdL sy 0))) (fun w2=>Q7K p md tr mx mn hp hmx hmn hmd (E:=200) (by decide) f n e s fy ny ey sy hx hy w2) (by
  obtain ⟨hs,h40,he1,he2,hf0,hf3⟩:=hx.canon (by decide)
  obtain ⟨hsy,h40y,hey1,hey2,hf0y,hf3y⟩:=hy.canon (by decide)
  have h0:f≠0→vl (sdL s 0)=0∧e=0:=fun h=>hx.other (by omega)
  have h0y:fy≠0→vl (sdL sy 0)=0∧ey=0:=fun h=>hy.other (by omega)
  have hv:=hs.val_lt h40
  have hvy:=hsy.val_lt h40y
  have hB9:10^40<BB^9:=by unfold BB;decide
  have hB8:10^40<BB^8:=by unfold BB;decide
  have hB100:10^40<BB^100:=Nat.lt_trans hB8 (Nat.pow_lt_pow_right (by unfold BB;decide) (by decide))
  have hdo:=fun w2 h2=>@Qad w2 (hW.later h2) Tv av (hE.next h2) p md tr mx mn hp hmx hmn hmd htr f fy al hal (by omega) (by omega) n ny e ey s sy ⟨hs,h40⟩ ⟨hsy,h40y⟩
  by_cases hN:(f:Int)=2∨(f:Int)=3∨(fy:Int)=2∨(fy:Int)=3
  ·have hA:arM p mx mn md (f:Int) n e (vl (sdL s 0)) (fy:Int) ny ey (vl (sdL sy 0))=RsV 3 false 0 ⟨#[]⟩ (if (f:Int)=2∨(fy:Int)=2 then 1024 else 0) true false false:=by
    unfold arM
    by_cases h2:(f:Int)=2∨(fy:Int)=2
    ·rw [if_pos h2,if_pos h2]
    ·rw [if_neg h2,if_neg h2,if_pos (by omega)]
   rw [hA]
   have hk:(if (f:Int)=2∨(fy:Int)=2 then 1024 else 0:Nat)<4096∧(if (f:Int)=2∨(fy:Int)=2 then 1024 else 0:Nat) &&& 3=0:=by split <;> decide
   refine .inr ⟨⟨((3:Nat):Int),bif nanP f fy then n else ny,bif nanP f fy then e else ey,bif nanP f fy then vl (sdL s 0) else vl (sdL sy 0),0⟩,_,⟨_,_,_,_,_,_,_,rfl⟩,hk.1,fun w2 h2=>?_,fun w2=>Q3r p md tr mx mn _ _ _ _ _ _ _ w2⟩
   refine hdo w2 h2 3 _ _ _ _ (by decide) (by cases nanP f fy <;> simp only [cond_true,cond_false] <;> omega) hk.1 hk.2 ?_
   intro τ w1 bk bz bx bu f' n' e' c' h hkk hb hx hu _
   have q:=Q7H h hkk (Nat.mod_lt _ (by decide)) hb hx hu (by rw [Int.natAbs_natCast];omega) (by rw [Int.natAbs_natCast];omega) hN
   rw [show (bif nanP f fy then ((vl (sdL s 0):Nat):Int) else ((vl (sdL sy 0):Nat):Int))=((bif nanP f fy then vl (sdL s 0) else vl (sdL sy 0):Nat):Int) by cases nanP f fy <;> rfl] at q
   exact q
  ·by_cases hI:(f:Int)=1∨(fy:Int)=1
   ·by_cases hz:((f:Int)=0∧vl (sdL s 0)=0)∨((fy:Int)=0∧vl (sdL sy 0)=0)
    ·have hA:arM p mx mn md (f:Int) n e (vl (sdL s 0)) (fy:Int) ny ey (vl (sdL sy 0))=RsV 3 false 0 ⟨#[]⟩ 1024 true false false:=by
      unfold arM
      rw [if_neg (by omega),if_neg (by omega),if_pos hI,if_pos hz]
     rw [hA]
     refine .inr ⟨⟨((3:Nat):Int),false,0,0,0⟩,1024,⟨_,_,_,_,_,_,_,rfl⟩,by decide,fun w2 h2=>?_,fun w2=>Q3r p md tr mx mn _ _ _ _ _ _ _ w2⟩
     refine hdo w2 h2 3 _ _ _ _ (by decide) (by show 0<BB^8;unfold BB;decide) (by decide) (by decide) ?_
     intro τ w1 bk bz bx bu f' n' e' c' h hkk hb hx hu hn
     exact Q7I h hkk (Nat.mod_lt _ (by decide)) hb hx hu (by omega) (by omega) hI (by omega)
    ·have hA:arM p mx mn md (f:Int) n e (vl (sdL s 0)) (fy:Int) ny ey (vl (sdL sy 0))=RsV 1 (n != ny) 0 ⟨#[]⟩ 0 true false false:=by
      unfold arM
      rw [if_neg (by omega),if_neg (by omega),if_pos hI,if_neg hz]
     rw [hA]
     refine .inr ⟨⟨((1:Nat):Int),n != ny,0,0,0⟩,0,⟨_,_,_,_,_,_,_,rfl⟩,by decide,fun w2 h2=>?_,fun w2=>Q8I p md tr mx mn _ _ _ _ _ _ w2⟩
     refine hdo w2 h2 1 _ _ _ _ (by decide) (by show 0<BB^8;unfold BB;decide) (by decide) (by decide) ?_
     intro τ w1 bk bz bx bu f' n' e' c' h hkk hb hx hu hn
     exact Q7J h hb hx hu (by omega) (by omega) hI (by omega)
   ·obtain rfl:f=0:=by omega
    obtain rfl:fy=0:=by omega
    have hA:arM p mx mn md ((0:Nat):Int) n e (vl (sdL s 0)) ((0:Nat):Int) ny ey (vl (sdL sy 0))=SRV (finS p mx mn md (n != ny) (e+ey) (vl (sdL s 0)*vl (sdL sy 0))):=by
     unfold arM
     rw [if_neg (by omega),if_neg (by omega),if_neg hI]
    rw [hA]
    generalize hcx:vl (sdL s 0)=cx at hv hdo ⊢
    generalize hcy:vl (sdL sy 0)=cy at hvy hdo ⊢
    by_cases hk:(finS p mx mn md (n != ny) (e+ey) (cx*cy)).known=true
    ·obtain ⟨k1,k2,k3,k4⟩:=Qa9 p md tr mx mn hmd hmx.1 hmn.1 (n != ny) (e+ey) (cx*cy) hk
     obtain ⟨b1,b2⟩:=Q94 p mx mn md (n != ny) (e+ey) (cx*cy)
     obtain ⟨⟨rf,hrf,hf⟩,hc⟩:=Q7F p mx mn md (n != ny) (e+ey) (cx*cy)
     have hc8:(prdF p mx mn md (n != ny) (e+ey) (cx*cy)).c<BB^8:=by
      have h1:cx*cy≤10^40*10^40:=Nat.mul_le_mul (by omega) (by omega)
      have h2:10^40*10^40+3<BB^8:=by unfold BB;decide
      omega
     refine .inr ⟨prdF p mx mn md (n != ny) (e+ey) (cx*cy),_,k1,b1,fun w2 h2=>?_,k4⟩
     rw [hf]
     refine hdo w2 h2 rf _ _ _ _ hrf hc8 b1 b2 ?_
     intro τ w1 bk bz bx bu f' n' e' c' h hkk hb hx hu hn
     have q:=QaF (hW.later h2) h hkk (Nat.mod_lt _ (by decide)) hb hx hu hn.1 (by omega) (by omega) (by omega) (by omega) k2 k3
     unfold DR.ob at q
     rw [hf] at q
     exact q
    ·exact .inl ⟨_,_,_,_,_,_,_,Q5w hk⟩)
theorem fn_mul {w:World}(hW:GW w){Tv:TypeId}{av:Value}(hE:EOFv w Tv av)(p mx mn tr md fx:Int)(nx:Bool)(ex:Int)(sx:ByteArray)(fy:Int)(ny:Bool)(ey:Int)(sy:ByteArray)(a:Nat)(ha:a<256)
  (hp:0≤p) (htr:0≤tr∧tr<4294967296) (hex : -2147483648≤ex∧ex≤2147483647) (hey : -2147483648≤ey∧ey≤2147483647) :
  Calls Tryz.prog 8 #[CV p mx mn tr md,DV fx nx ex sx,DV fy ny ey sy,.int .u8 (a:Int)] w fun r w'=>r=.returned (.bool true)∧Below w.heap.size w w':=by
 have HS:=Lh (BS.start w #[.int .u32 p,.int .i32 mx,.int .i32 mn,.int .u32 tr,.int .i64 md] #[.int .i64 fx,.bool nx,.int .i32 ex,.string sx] #[.int .i64 fy,.bool ny,.int .i32 ey,.string sy])
 have HAl:Hid (∀ w2,Below w.heap.size w w2→Calls Tryz.prog 12 #[] w2 fun r w'=>r=.returned (.bool true)∧Below w2.heap.size w2 w'):=Lh (fun w2 h=>Q3u (hW.later h) (hE.next h))
 have HFX:Hid (∀ w2,Calls Tryz.prog 10 #[.agg #[.int .i64 fx,.bool nx,.int .i32 ex,.string sx]] w2 (Says (sx.size≤2147483647) w2)):=Lh (fun w2=>Q2f fx nx ex sx w2)
 have HFY:Hid (∀ w2,Calls Tryz.prog 10 #[.agg #[.int .i64 fy,.bool ny,.int .i32 ey,.string sy]] w2 (Says (sy.size≤2147483647) w2)):=Lh (fun w2=>Q2f fy ny ey sy w2)
 have HO:Hid (sx.size≤2147483647→sy.size≤2147483647→∀ w2,Calls Tryz.prog 11 #[.agg #[.int .u32 p,.int .i32 mx,.int .i32 mn,.int .u32 tr,.int .i64 md],.agg #[.int .i64 fx,.bool nx,.int .i32 ex,.string sx],.agg #[.int .i64 fy,.bool ny,.int .i32 ey,.string sy]] w2 (Says (CtxOk p mx mn md∧ArOk 200 fx ex sx∧ArOk 200 fy ey sy) w2)):=Lh (fun h1 h2 w2=>Q2E p mx mn tr md fx nx ex sx fy ny ey sy hex h1 hey h2 w2)
 have HDid:Hid (CtxOk p mx mn md∧ArOk 200 fx ex sx∧ArOk 200 fy ey sy→∀ w2,Below w.heap.size w w2→Calls Tryz.prog 13 #[.int .i64 2,.agg #[.int .u32 p,.int .i32 mx,.int .i32 mn,.int .u32 tr,.int .i64 md],.agg #[.int .i64 fx,.bool nx,.int .i32 ex,.string sx],.agg #[.int .i64 fy,.bool ny,.int .i32 ey,.string sy],.int .i64 ((a % 3:Nat):Int)] w2 fun r w'=>r=.returned (.bool true)∧Below w2.heap.size w2 w'):=Lh (fun h w2 h2=>by
  obtain ⟨⟨k1,k2,k3,k4,k5,k6,k7⟩,hx,hy⟩:=h
  obtain ⟨_,_,_,_,hf0,_⟩:=hx.canon (by decide)
  obtain ⟨_,_,_,_,hf0y,_⟩:=hy.canon (by decide)
  obtain ⟨p',rfl⟩:=Int.eq_ofNat_of_zero_le hp
  obtain ⟨tr',rfl⟩:=Int.eq_ofNat_of_zero_le htr.1
  obtain ⟨md',rfl⟩:=Int.eq_ofNat_of_zero_le k6
  obtain ⟨fx',rfl⟩:=Int.eq_ofNat_of_zero_le hf0
  obtain ⟨fy',rfl⟩:=Int.eq_ofNat_of_zero_le hf0y
  exact Qae (hW.later h2) (hE.next h2) p' md' tr' mx mn (by omega) ⟨k2,k3⟩ ⟨k4,k5⟩ (by omega) (by omega) fx' fy' (a % 3) (Nat.mod_lt _ (by decide)) nx ny ex ey sx sy hx hy)
 have hm3:((a:Int)).tmod 3=((a % 3:Nat):Int):=by rw [Int.tmod_eq_emod_of_nonneg (by omega)];rfl
 obtain ⟨wA,hwA⟩:∃ wA,wA=((w.alloc (.cells #[.int .u32 p,.int .i32 mx,.int .i32 mn,.int .u32 tr,.int .i64 md] 24)).alloc (.cells #[.int .i64 fx,.bool nx,.int .i32 ex,.string sx] 26)).alloc (.cells #[.int .i64 fy,.bool ny,.int .i32 ey,.string sy] 26):=⟨_,rfl⟩
 rw [← hwA] at HS
 unfold CV DV
 clear hW hE hp htr hex hey
 have x0:=Q1 HS.out.xb 0 rfl;have x1:=Q1 HS.out.xb 1 rfl;have x2:=Q1 HS.out.xb 2 rfl;have x3:=Q1 HS.out.xb 3 rfl
 go_enter Tryz.func8, Tryz.ntmps8
 go_upto_region 1 with (fail)
 rw [← hwA]
 clear hwA
 go_wp2_with fail
 refine (HFX.out _).mono ?_
 rintro r w1 ⟨b1,rfl,hb1,hB⟩
 have HS1:=Lh (HS.out.later hB)
 have HB1:=Lh hb1
 clear hB hb1 x0 x1 x2 x3 HS
 cases b1
 ·go_wp2_with fail
  go_ret
  exact ⟨rfl,HS1.out.bw⟩
 ·have y0:=Q1 HS1.out.yb 0 rfl;have y1:=Q1 HS1.out.yb 1 rfl;have y2:=Q1 HS1.out.yb 2 rfl;have y3:=Q1 HS1.out.yb 3 rfl
  go_wp2_with fail
  refine (HFY.out _).mono ?_
  rintro r w2 ⟨b2,rfl,hb2,hB⟩
  have HS2:=Lh (HS1.out.later hB)
  have HB2:=Lh hb2
  clear hB hb2 y0 y1 y2 y3 HS1
  cases b2
  ·go_wp2_with fail
   go_ret
   exact ⟨rfl,HS2.out.bw⟩
  ·have c0:=Q1 HS2.out.cb 0 rfl;have c1:=Q1 HS2.out.cb 1 rfl;have c2:=Q1 HS2.out.cb 2 rfl;have c3:=Q1 HS2.out.cb 3 rfl;have c4:=Q1 HS2.out.cb 4 rfl
   have x0:=Q1 HS2.out.xb 0 rfl;have x1:=Q1 HS2.out.xb 1 rfl;have x2:=Q1 HS2.out.xb 2 rfl;have x3:=Q1 HS2.out.xb 3 rfl
   have y0:=Q1 HS2.out.yb 0 rfl;have y1:=Q1 HS2.out.yb 1 rfl;have y2:=Q1 HS2.out.yb 2 rfl;have y3:=Q1 HS2.out.yb 3 rfl
   go_wp2_with fail
   refine (HO.out (HB1.out.1 trivial) (HB2.out.1 trivial) _).mono ?_
   rintro r w3 ⟨b3,rfl,hb3,hB⟩
   have HS3:=Lh (HS2.out.later hB)
   have HB3:=Lh hb3
   clear hB hb3 c0 c1 c2 c3 c4 x0 x1 x2 x3 y0 y1 y2 y3 HS2
   cases b3
   ·go_wp2_with fail
    refine (HAl.out _ HS3.out.bw).mono ?_
    rintro r w4 ⟨rfl,hB⟩
    have HS4:=Lh (HS3.out.later hB)
    clear hB HS3
    go_wp2_with fail
    go_ret
    exact ⟨rfl,HS4.out.bw⟩
   ·have c0:=Q1 HS3.out.cb 0 rfl;have c1:=Q1 HS3.out.cb 1 rfl;have c2:=Q1 HS3.out.cb 2 rfl;have c3:=Q1 HS3.out.cb 3 rfl;have c4:=Q1 HS3.out.cb 4 rfl
    have x0:=Q1 HS3.out.xb 0 rfl;have x1:=Q1 HS3.out.xb 1 rfl;have x2:=Q1 HS3.out.xb 2 rfl;have x3:=Q1 HS3.out.xb 3 rfl
    have y0:=Q1 HS3.out.yb 0 rfl;have y1:=Q1 HS3.out.yb 1 rfl;have y2:=Q1 HS3.out.yb 2 rfl;have y3:=Q1 HS3.out.yb 3 rfl
    go_wp2_with fail
    refine (HDid.out (HB3.out.1 trivial) _ HS3.out.bw).mono ?_
    rintro r w4 ⟨rfl,hB⟩
    have HS4:=Lh (HS3.out.later hB)
    clear hB HS3 c0 c1 c2 c3 c4 x0 x1 x2 x3 y0 y1 y2 y3
    go_wp2_with fail
    go_ret
    exact ⟨rfl,HS4.out.bw⟩
end Go.Proofs.YtpfjmeadikdddaaGreatDoor
