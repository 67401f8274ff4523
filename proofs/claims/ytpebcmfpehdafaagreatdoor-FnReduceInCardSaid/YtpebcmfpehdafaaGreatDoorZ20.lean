/- a part of the proof -/
import Derived.Test.YtpebcmfpehdafaaGreatDoorZ19
set_option linter.all false
set_option maxRecDepth 100000
set_option maxHeartbeats 16000000
namespace Go.Proofs.YtpebcmfpehdafaaGreatDoor
open Go Go.RowKit
theorem Q38 {W:World}{σ:Sg}{w:World}(hW:GW W){b bx bk:Nat}{f:Int}{n:Bool}{e:Int}{c p md k d:Nat}{mx mn tr:Int}{D:Ob}(hS:Calls Tryz.prog 82 #[.pointer (some ⟨b,0,none⟩),.pointer (some ⟨bx,0,none⟩)] w fun r w'=>r=.returned (.pointer (some ⟨b,0,none⟩))∧St W σ w')(hb:σ b=some (.dec f n e (c:Int)))(hx:σ bx=some (.dec f n e (c:Int)))(hk:Ctx σ bk p mx mn tr md)(hcl:c<BB^20)(he:e.natAbs≤40000){fl:Bool}(hp:fl=true→p≠0)(hz:¬ (f=0∧c=0))(ha:mn≤e+ndg c - 1)(hd:ndg c=p+d)(hd0:0<d)(hR:c % 10^d≠0)(hU:upR md n (c / 10^d) (cmpN (2*(c % 10^d)) (10^d))=false)(hkl:k<4096)(hX:SX W (upd σ b (.dec f n e ((c / 10^d:Nat):Int))) b bk (-1) 80 [e,((d:Nat):Int)] k D) :
  Calls Tryz.prog 120 #[.string (rndS md),.pointer (some ⟨bk,0,none⟩),.pointer (some ⟨b,0,none⟩),.pointer (some ⟨bx,0,none⟩),.bool fl] w fun r w'=>r=.returned (.int .u32 ((orN 80 k:Nat):Int))∧St W (upd σ b D) w':=by
 have hcl0:=hcl
 replace hcl:c<BB^21:=Nat.lt_of_lt_of_le hcl (Nat.pow_le_pow_right (by unfold BB;decide) (by decide))
 have HV:=Lh (Qr 80 k (by decide) hkl)
 obtain ⟨K,hKe⟩:∃ K:Nat,orN 80 k=K:=⟨_,rfl⟩
 rw [hKe] at HV ⊢
 clear hKe
 have hsg:decSgn f n c≠0:=by unfold decSgn;rw [if_neg hz];cases n <;> simp
 have hn1':=QG hcl
 have hT0:10^d≠0:=Nat.pos_iff_ne_zero.1 (Nat.pow_pos (by decide))
 have hT2:10^d<BB^22:=Q27 (by omega)
 have hQ1:c / 10^d+1<BB^21:=by
  have:=Nat.div_le_self c (10^d)
  exact Nat.lt_of_le_of_lt (show c / 10^d+1≤BB^20 by omega) (by unfold BB;decide)
 have hR1:c % 10^d<BB^21:=Nat.lt_of_le_of_lt (Nat.mod_le _ _) hcl
 have HTen:=Lh (fun w1 τ ty td tm Q R (hC:RC σ τ ty td tm Q d R) (q1:St W τ w1)=>Q5B hW hC q1 (k:=d) (by omega))
 have HQuo:=Lh (fun w1 τ ty td tm R (hC:RC σ τ ty td tm (10^d) d R) (q1:St W τ w1)=>Q5C hW hC hb q1 hT0 hT2 hcl)
 have HHf:=Lh (fun w1 τ ty td tm t bh (hC:RD σ τ ty td tm (c / 10^d) d (c % 10^d) t) (hh:τ bh=none) (q1:St W (upd τ bh (.dec 0 false (-1) 5)) w1)=>Q6g hW hC hR1 hd0 (by omega) hh q1)
 have HUp:=Lh (fun w1 τ ty td tm R (hC:RC σ τ ty td tm (c / 10^d) d R) (q1:St W τ w1)=>Q4V hW hC (by omega) (md:=md) (by obtain ⟨_,_,_,_,_,_,_,q⟩:=hk;exact q) q1 n (cmpN (2*(c % 10^d)) (10^d)))
 rw [hU] at HUp
 generalize cmpN (2*(c % 10^d)) (10^d)=u at HHf HUp hU
 have hq1l:c / 10^d<BB^22:=Nat.lt_trans (by omega) (show BB^21<BB^22 by unfold BB;decide)
 have hR22:c % 10^d<BB^22:=Nat.lt_trans hR1 (by unfold BB;decide)
 generalize c / 10^d=Q at HQuo hQ1 HHf HUp hU hX hq1l
 generalize c % 10^d=R at HQuo hR1 hR22 hR HHf
 generalize 10^d=T at HTen HQuo hT0 hT2
 clear hT0 hT2 hR1 hQ1 hU
 replace hR22:=Lh hR22;replace hq1l:=Lh hq1l
 have HBb:=Lh hb;have HBx:=Lh hx
 have HS:=Lh hS
 have HD:=Lh (fun w1 (q1:St W σ w1)=>Qs hW q1 hx hcl)
 have HG:Hid (∀ w1,St W σ w1→(Calls Tryz.prog 109 #[.pointer (some ⟨bx,0,none⟩)] w1 fun r w'=>r=.returned (.int .i64 (decSgn f n c))∧w'=w1)∧w1.cell? ⟨b,2,none⟩=some (.int .i32 e)∧w1.cell? ⟨bx,2,none⟩=some (.int .i32 e)∧w1.cell? ⟨bk,0,none⟩=some (.int .u32 (p:Int))∧w1.cell? ⟨bk,2,none⟩=some (.int .i32 mn)):=fun w1 q1=>⟨QK q1 hx,(q1.dec hb).2.2.1,(q1.dec hx).2.2.1,(q1.ctx hk).1,(q1.ctx hk).2.2.1⟩
 have HE:Hid (∀ w1,St W σ w1→w1.cell? ⟨b,2,none⟩=some (.int .i32 e)):=fun w1 q1=>(q1.dec hb).2.2.1
 have HXX:=Lh hX
 have hn1:=QG hcl
 have hn2:=Qi c
 have hp0:p≤1000:=by obtain ⟨_,_,q,_⟩:=hk;exact q
 have hm0 : -90000≤mn∧mn≤0:=by obtain ⟨_,_,_,_,_,q,q',_⟩:=hk;exact ⟨q',q⟩
 generalize ndg c=nd at HD HXX hn1 hn2 ha hd
 generalize decSgn f n c=sg at HG hsg
 clear hS hb hx hk hcl hX hcl0 hn1'
 have hpp:fl=true→¬ ((p:Int)=0):=fun h=>by have:=hp h;omega
 clear hp
 cases fl
 all_goals
  try have hp1:=hpp rfl
  clear hpp
  have hdd:(nd:Int) - (p:Int)=(d:Int):=by omega
  have hlt:p<nd:=by omega
  clear hd
  go_enter Tryz.func120, Tryz.ntmps120
  go_wp2_with fail
  refine HS.out.mono ?_
  rintro r w0 ⟨rfl,q0⟩
  have H0:=Lh q0;clear q0 HS
  go_wp2_with fail
  refine (HD.out _ H0.out).mono ?_
  rintro r w1 ⟨rfl,q1⟩
  obtain ⟨hs,x2,x2',x0,y2⟩:=HG.out _ q1
  have H1:=Lh q1;replace hs:=Lh hs;clear q1 H0 HD HG
  go_wp2_with fail
  refine hs.out.mono ?_
  rintro r w_ ⟨rfl,hw_⟩
  subst hw_
  clear hs
  obtain ⟨td,ty,tm,htd,hty,htm,τ1,hC1,q2⟩:=Q37 H1.out d
  have H2:=Lh q2;have C1:=Lh hC1
  have a0:(((w_.alloc (.cells #[.int .i64 (d:Int)] 2)).alloc (.cells #[.bool false,.slice none 0 0] 69)).alloc (.cells #[.bool false,.slice none 0 0] 69)).cell? ⟨td,0,none⟩=some (.int .i64 (d:Int)):=by
   have hr:=q2.raw hC1.2.1
   unfold World.cell?;rw [hr];rfl
  clear q2 hC1
  go_wp2_with fail
  rw [← htd,← hty,← htm]
  clear htd hty htm
  generalize ((w_.alloc (.cells #[.int .i64 (d:Int)] 2)).alloc (.cells #[.bool false,.slice none 0 0] 69)).alloc (.cells #[.bool false,.slice none 0 0] 69)=w2 at H2 a0 ⊢
  refine (HTen.out _ _ _ _ _ _ _ C1.out H2.out).mono ?_
  rintro r w3 ⟨rfl,τ2,hC2,q3⟩
  have H3:=Lh q3;have C2:=Lh hC2;clear q3 hC2 H2 C1 HTen
  go_wp2_with fail
  refine (HQuo.out _ _ _ _ _ _ C2.out H3.out).mono ?_
  rintro r w4 ⟨rfl,τ3,hC3,q4⟩
  have H4:=Lh q4;have C3:=Lh hC3;clear q4 hC3 H3 C2 HQuo
  go_wp2_with fail
  refine (Q4f C3.out H4.out).mono ?_
  rintro r w5 ⟨rfl,q5⟩
  have H5:=Lh q5;clear q5 H4
  rw [if_neg hR]
  obtain ⟨t,ht,q6⟩:=Q82 C3.out H5.out hR22.out
  have H6:=Lh q6;clear q6 a0
  go_wp2_with fail
  rw [← ht]
  clear ht
  refine H6.out.mono ?_
  rintro r w6 ⟨rfl,⟨x6,y6⟩,a6,τ4,hD,q6⟩
  have H7:=Lh q6;have D4:=Lh hD;clear q6 hD H6 H5
  go_wp2_with fail
  have g1:=(H7.out.dec (D4.out.1.2.2.2.1 _ _ HBx.out)).2.1
  clear x6 y6 a6
  generalize w6.setCell ⟨t,2,none⟩ (.int .i32 (-(d:Int)))=w7 at H7 g1 ⊢
  go_region_held3 (fun x=>x.cell? ⟨bx,1,none⟩=some (.bool n)) (first | exact g1 | exact g2 | exact g3 | exact g4) (first | (go_at_call 131;refine (Q03 (by exact H7.out.sm ⟨rfl,rfl,rfl,rfl⟩)).mono ?_;rintro r w8 ⟨bh,rfl,hbh,q8⟩;have H8:=Lh q8;have HBH:=Lh hbh;have g2:=(q8.dec (Ext.new hbh _ _ _ (D4.out.1.2.2.2.1 _ _ HBx.out))).2.1;clear q8 hbh) | (go_at_call 111;refine (HHf.out _ _ _ _ _ _ _ D4.out HBH.out (by exact H8.out.sm ⟨rfl,rfl,rfl,rfl⟩)).mono ?_;rintro r w9 ⟨rfl,q9⟩;have H9:=Lh q9;have g3:=(q9.dec (D4.out.1.2.2.2.1 _ _ HBx.out)).2.1;clear q9) | (go_at_call 97;refine (HUp.out _ _ _ _ _ _ D4.out.1 (by exact H9.out.sm ⟨rfl,rfl,rfl,rfl⟩)).mono ?_;rintro r w10 ⟨rfl,q10⟩;have H10:=Lh q10;have g4:=(q10.dec (D4.out.1.2.2.2.1 _ _ HBx.out)).2.1;clear q10))
  have D4X:=Lh D4.out.1
  go_wp2_with fail
  refine (Q5D D4X.out hq1l.out HBb.out H10.out).mono ?_
  rintro r w12 ⟨rfl,x12,a12,q12⟩
  have H12:=Lh q12;clear q12
  go_wp2_with fail
  have HWe:=Lh (IntWalk.i64_in e (by omega))
  go_region_with (first | (go_at_call 86;rw [HWe.out];refine (HXX.out _ _ 2 H12.out.none_new (H12.out.alloc _).drew).mono ?_;rintro r w13 ⟨rfl,q13⟩;have H13:=Lh q13;clear q13))
  all_goals (clear HXX;go_wp2_with fail;go_ret;exact ⟨congrArg (fun v=>Ending.returned (Value.int .u32 v)) HV.out,H13.out.upd2⟩)
end Go.Proofs.YtpebcmfpehdafaaGreatDoor
