/- a part of the proof -/
import Derived.Test.YtpfjmeadikdddaaGreatDoorZ14
set_option linter.all false
set_option maxRecDepth 100000
set_option maxHeartbeats 16000000
namespace Go.Proofs.YtpfjmeadikdddaaGreatDoor
open Go Go.RowKit
theorem Q1U {W:World}{σ:Sg}{w:World}(hW:GW W)(h:St W σ w){b bk ba:Nat}{n:Bool}{e0:Int}{c p md res:Nat}{mx mn tr:Int}{s1 s2:Int}{Ta:TypeId}{nd:Nat}(hb:σ b=some (.dec 0 n e0 (c:Int)))(hk:Ctx σ bk p mx mn tr md)(ha:σ ba=some (.raw (.cells #[.int .i64 s1,.int .i64 s2] Ta)))
  (hs1:s1.natAbs≤40000) (hs2:s2.natAbs≤40000) (hnd:nd=ndg c) (hres:res<4096) (hcl:c<BB^21) (c0:0<c) (c1:(s1+s2)+nd - 1<mn) (c2:(s1+s2)<mn - ((p:Int) - 1)) (kk:Nat) (hkk:(s1+s2) - (mn - ((p:Int) - 1)) = -(kk:Int)) (hk4:kk≤423) (hR:c % 10^kk=0) (hz:c / 10^kk≠0) :
  Calls Tryz.prog 115 #[.pointer (some ⟨b,0,none⟩),.pointer (some ⟨bk,0,none⟩),.int .i64 (-1),.int .u32 (res:Int),.slice (some ⟨ba,0,none⟩) 2 2] w fun r w'=>r=.returned (.int .u32 ((finK (orN (orN res 32) 64):Nat):Int))∧St W (upd σ b (.dec 0 n (mn - ((p:Int) - 1)) ((c / 10^kk:Nat):Int))) w':=by
 have hr:=h.raw ha
 have a0:w.cell? ⟨ba,0,none⟩=some (.int .i64 s1):=by unfold World.cell?;rw [hr];rfl
 have a1:w.cell? ⟨ba,1,none⟩=some (.int .i64 s2):=by unfold World.cell?;rw [hr];rfl
 obtain ⟨k0,k1,k2,k3,k4⟩:=h.ctx hk
 have HK:=Lh hk
 obtain ⟨_,HCX,p1,m1,m2,m3,m4,m5⟩:=hk
 obtain ⟨d0,_,d2,f0,_,f2⟩:=h.dec hb
 have hnp:=Qh c
 have HD:Hid (Calls Tryz.prog 91 #[.pointer (some ⟨b,0,none⟩)] w fun r w'=>r=.returned (.int .i64 (nd:Int))∧St W σ w'):=by rw [hnd];exact Qo hW h hb hcl
 have hnd':nd≤405:=by rw [hnd];exact QA hcl
 have HC:Hid (∀ w1,St W σ w1→((w1.cell? ⟨bk,0,none⟩=some (.int .u32 (p:Int))∧w1.cell? ⟨bk,1,none⟩=some (.int .i32 mx)∧w1.cell? ⟨bk,2,none⟩=some (.int .i32 mn))∧(w1.cell? ⟨b,0,none⟩=some (.int .i8 0)∧w1.frozen? ⟨b,0,none⟩=false)∧(w1.cell? ⟨b,2,none⟩=some (.int .i32 e0)∧w1.frozen? ⟨b,2,none⟩=false))):=fun w1 q1=>by
  obtain ⟨x0,_,x2,y0,_,y2⟩:=q1.dec hb
  have hr1:=q1.raw HCX
  refine ⟨⟨?_,?_,?_⟩,⟨x0,y0⟩,⟨x2,y2⟩⟩ <;> (unfold World.cell?;rw [hr1];rfl)
 clear hnd
 have H0:=Lh h
 have HB:=Lh hb
 have HZ:Hid (∀ w1,St W σ w1→Calls Tryz.prog 113 #[.pointer (some ⟨b,0,none⟩)] w1 fun r w'=>r=.returned (.bool false)∧w'=w1):=fun w1 q1=>by
  have:=Qt q1 hb
  rw [decide_eq_false (by omega)] at this
  exact this
 have HT:=Lh (fun w1 (q1:St W σ w1)=>Q0N q1 hb hcl)
 have HM:=Lh (fun w1 t (ht:σ t=none) (q1:St W (upd σ t (.dec 0 false 0 (c:Int))) w1)=>Q0e hW ht q1 hcl hk4)
 have hT0:0<10^kk:=Nat.pow_pos (by decide)
 have hQ:c / 10^kk<BB^21:=Nat.lt_of_le_of_lt (Nat.div_le_self _ _) hcl
 have hRl:c % 10^kk<BB^21:=Nat.lt_of_le_of_lt (Nat.mod_le _ _) hcl
 have k00:0<kk:=by omega
 have HH:=Lh (fun w1 τ i j bh (hC:Cut W σ τ i j kk (c / 10^kk) (c % 10^kk)) (hh:τ bh=none) (q1:St W (upd τ bh (.dec 0 false (-1) 5)) w1)=>Q0f hW hC hRl k00 hk4 hh q1)
 generalize cmpN (2*(c % 10^kk)) (10^kk)=u at HH
 generalize c / 10^kk=Q at HM HH hQ hz ⊢
 generalize c % 10^kk=R at HM HH hRl hR
 clear hT0 hRl
 replace hQ:=Lh hQ
 obtain ⟨K,hKe⟩:∃ K:Nat,(orN (orN res 32) 64)=K:=⟨_,rfl⟩
 have hKK:Hid (K<4096):=Lh (hKe ▸ Qr (Qr hres (by decide)) (by decide))
 have HV:=Lh (Q4r res 32 64 hres (by decide) (by decide))
 rw [hKe] at HV ⊢
 have hRz:decide (R=0)=true:=by simp [hR]
 have hQz:decide (Q=0)=false:=by simp [hz]
 clear hz
 clear h hb ha hr hres hcl hKe hR hnp HCX
 go_enter Tryz.func115, Tryz.ntmps115
 go_wp2_with fail
 refine wp_loop_rounds 3 ?_
 iterate 3 (rw [rounds_succ];go_wp2_with fail)
 refine HD.out.mono ?_
 rintro r w1 ⟨rfl,q1⟩
 obtain ⟨⟨kk0,kk1,kk2⟩,⟨x0,y0⟩,⟨x2,y2⟩⟩:=HC.out _ q1
 have H1:=Lh q1;clear q1 HD HC
 go_wp2_with fail
 refine (HZ.out _ H1.out).mono ?_
 rintro r w_ ⟨rfl,hw_⟩
 subst hw_
 clear HZ
 go_wp2_with fail
 go_quiet (fail)
 have H2:=Lh (H1.out.drewN nq)
 clear d0 d2 f0 f2 k0 k1 k2 k3 k4 H0 a0 a1 H1 kk0 kk1 kk2 x0 x2 y0 y2
 generalize World.drewN _ nq=w2 at H2 ⊢
 obtain ⟨t,ht,hnt,q3⟩:=HT.out _ H2.out
 have H3:=Lh q3;clear q3 HT
 go_wp2_with fail
 rw [← ht]
 clear ht
 refine H3.out.mono ?_
 rintro r w3 ⟨rfl,q3⟩
 obtain ⟨⟨x3,y3⟩,i,j,hi,hj,q4⟩:=HM.out _ _ hnt q3
 have H4:=Lh q4;clear q3 q4 H3 HM H2
 go_wp2_with fail
 rw [← hi,← hj]
 clear hi hj
 refine H4.out.mono ?_
 rintro r w4 ⟨rfl,τ,q5,hC⟩
 have H5:=Lh q5;have HC:=Lh hC;clear q5 hC H4
 go_wp2_with fail
 refine (Q0O HC.out H5.out).mono ?_
 rintro r w5 ⟨rfl,q6⟩
 have H6:=Lh q6;clear q6 H5
 go_wp2_with fail
 refine (QG HC.out.2.1 H6.out).mono ?_
 rintro r w6 ⟨rfl,q7⟩
 have H7:=Lh q7;clear q7 H6
 rw [hRz]
 go_wp2_with fail
 refine (QG HC.out.1 H7.out).mono ?_
 rintro r w12 ⟨rfl,q13⟩
 have H13:=Lh q13;clear q13
 rw [hQz]
 go_wp2_with fail
 refine (Q0P HC.out (Nat.lt_of_lt_of_le (show Q<BB^21+1 by have:=hQ.out;omega) (by unfold BB;decide)) HB.out H13.out).mono ?_
 rintro r w13 ⟨rfl,⟨x14,y14⟩,q14⟩
 have H14:=Lh q14;clear q14 H13
 have HI:=Lh (Qp (k:=K) hKK.out)
 have HJ:=Lh (Qk (k:=K) hKK.out)
 have HO:=Lh (Qq K 8 hKK.out (by decide))
 obtain ⟨i16,hi⟩:∃ i16,hasB K 16=i16:=⟨_,rfl⟩
 obtain ⟨i32,hj⟩:∃ i32,hasB K 32=i32:=⟨_,rfl⟩
 have hF:finK K=if i16=true∧i32=true then orN K 8 else K:=by unfold finK;rw [hi,hj]
 rw [hi] at HI;rw [hj] at HJ
 have hF:=Lh hF
 clear hi hj
 go_wp2_with fail
 rw [show bits .or .u32 (bits .or .u32 (res:Int) 32) 64=((K:Nat):Int) from HV.out]
 refine (HI.out _).mono ?_
 rintro r w_ ⟨rfl,hw_⟩
 subst hw_
 clear HI
 cases i16
 ·go_wp2_with fail
  go_ret
  exact ⟨by rw [hF.out];rfl,H14.out _⟩
 ·go_wp2_with fail
  refine (HJ.out _).mono ?_
  rintro r w_ ⟨rfl,hw_⟩
  subst hw_
  clear HJ
  cases i32
  ·go_wp2_with fail
   go_ret
   exact ⟨by rw [hF.out];rfl,H14.out _⟩
  ·go_wp2_with fail
   go_ret
   exact ⟨by rw [hF.out];show Ending.returned (Value.int .u32 (bits .or .u32 (K:Int) 8))=_;rw [show bits .or .u32 (K:Int) 8=((orN K 8:Nat):Int) from HO.out];rfl,H14.out _⟩
theorem Q1t {W:World}{σ:Sg}{w:World}(hW:GW W)(h:St W σ w){b bk ba:Nat}{n:Bool}{e0:Int}{c p md res:Nat}{mx mn tr:Int}{s1 s2:Int}{Ta:TypeId}{nd:Nat}(hb:σ b=some (.dec 0 n e0 (c:Int)))(hk:Ctx σ bk p mx mn tr md)(ha:σ ba=some (.raw (.cells #[.int .i64 s1,.int .i64 s2] Ta)))
  (hs1:s1.natAbs≤40000) (hs2:s2.natAbs≤40000) (hnd:nd=ndg c) (hres:res<4096) (hcl:c<BB^21) (c0:0<c) (c1:(s1+s2)+nd - 1<mn) (c2:(s1+s2)<mn - ((p:Int) - 1)) (kk:Nat) (hkk:(s1+s2) - (mn - ((p:Int) - 1)) = -(kk:Int)) (hk4:kk≤423) (hR:c % 10^kk=0) (hz:c / 10^kk=0) :
  Calls Tryz.prog 115 #[.pointer (some ⟨b,0,none⟩),.pointer (some ⟨bk,0,none⟩),.int .i64 (-1),.int .u32 (res:Int),.slice (some ⟨ba,0,none⟩) 2 2] w fun r w'=>r=.returned (.int .u32 ((finK (orN (orN (orN res 32) 2048) 64):Nat):Int))∧St W (upd σ b (.dec 0 n (mn - ((p:Int) - 1)) ((c / 10^kk:Nat):Int))) w':=by
 have hr:=h.raw ha
 have a0:w.cell? ⟨ba,0,none⟩=some (.int .i64 s1):=by unfold World.cell?;rw [hr];rfl
 have a1:w.cell? ⟨ba,1,none⟩=some (.int .i64 s2):=by unfold World.cell?;rw [hr];rfl
 obtain ⟨k0,k1,k2,k3,k4⟩:=h.ctx hk
 have HK:=Lh hk
 obtain ⟨_,HCX,p1,m1,m2,m3,m4,m5⟩:=hk
 obtain ⟨d0,_,d2,f0,_,f2⟩:=h.dec hb
 have hnp:=Qh c
 have HD:Hid (Calls Tryz.prog 91 #[.pointer (some ⟨b,0,none⟩)] w fun r w'=>r=.returned (.int .i64 (nd:Int))∧St W σ w'):=by rw [hnd];exact Qo hW h hb hcl
 have hnd':nd≤405:=by rw [hnd];exact QA hcl
 have HC:Hid (∀ w1,St W σ w1→((w1.cell? ⟨bk,0,none⟩=some (.int .u32 (p:Int))∧w1.cell? ⟨bk,1,none⟩=some (.int .i32 mx)∧w1.cell? ⟨bk,2,none⟩=some (.int .i32 mn))∧(w1.cell? ⟨b,0,none⟩=some (.int .i8 0)∧w1.frozen? ⟨b,0,none⟩=false)∧(w1.cell? ⟨b,2,none⟩=some (.int .i32 e0)∧w1.frozen? ⟨b,2,none⟩=false))):=fun w1 q1=>by
  obtain ⟨x0,_,x2,y0,_,y2⟩:=q1.dec hb
  have hr1:=q1.raw HCX
  refine ⟨⟨?_,?_,?_⟩,⟨x0,y0⟩,⟨x2,y2⟩⟩ <;> (unfold World.cell?;rw [hr1];rfl)
 clear hnd
 have H0:=Lh h
 have HB:=Lh hb
 have HZ:Hid (∀ w1,St W σ w1→Calls Tryz.prog 113 #[.pointer (some ⟨b,0,none⟩)] w1 fun r w'=>r=.returned (.bool false)∧w'=w1):=fun w1 q1=>by
  have:=Qt q1 hb
  rw [decide_eq_false (by omega)] at this
  exact this
 have HT:=Lh (fun w1 (q1:St W σ w1)=>Q0N q1 hb hcl)
 have HM:=Lh (fun w1 t (ht:σ t=none) (q1:St W (upd σ t (.dec 0 false 0 (c:Int))) w1)=>Q0e hW ht q1 hcl hk4)
 have hT0:0<10^kk:=Nat.pow_pos (by decide)
 have hQ:c / 10^kk<BB^21:=Nat.lt_of_le_of_lt (Nat.div_le_self _ _) hcl
 have hRl:c % 10^kk<BB^21:=Nat.lt_of_le_of_lt (Nat.mod_le _ _) hcl
 have k00:0<kk:=by omega
 have HH:=Lh (fun w1 τ i j bh (hC:Cut W σ τ i j kk (c / 10^kk) (c % 10^kk)) (hh:τ bh=none) (q1:St W (upd τ bh (.dec 0 false (-1) 5)) w1)=>Q0f hW hC hRl k00 hk4 hh q1)
 generalize cmpN (2*(c % 10^kk)) (10^kk)=u at HH
 generalize c / 10^kk=Q at HM HH hQ hz ⊢
 generalize c % 10^kk=R at HM HH hRl hR
 clear hT0 hRl
 replace hQ:=Lh hQ
 obtain ⟨K,hKe⟩:∃ K:Nat,(orN (orN (orN res 32) 2048) 64)=K:=⟨_,rfl⟩
 have hKK:Hid (K<4096):=Lh (hKe ▸ Qr (Qr (Qr hres (by decide)) (by decide)) (by decide))
 have HV:=Lh (Q19 res 32 2048 64 hres (by decide) (by decide) (by decide))
 rw [hKe] at HV ⊢
 have hRz:decide (R=0)=true:=by simp [hR]
 have hQz:decide (Q=0)=true:=by simp [hz]
 clear hz
 clear h hb ha hr hres hcl hKe hR hnp HCX
 go_enter Tryz.func115, Tryz.ntmps115
 go_wp2_with fail
 refine wp_loop_rounds 3 ?_
 iterate 3 (rw [rounds_succ];go_wp2_with fail)
 refine HD.out.mono ?_
 rintro r w1 ⟨rfl,q1⟩
 obtain ⟨⟨kk0,kk1,kk2⟩,⟨x0,y0⟩,⟨x2,y2⟩⟩:=HC.out _ q1
 have H1:=Lh q1;clear q1 HD HC
 go_wp2_with fail
 refine (HZ.out _ H1.out).mono ?_
 rintro r w_ ⟨rfl,hw_⟩
 subst hw_
 clear HZ
 go_wp2_with fail
 go_quiet (fail)
 have H2:=Lh (H1.out.drewN nq)
 clear d0 d2 f0 f2 k0 k1 k2 k3 k4 H0 a0 a1 H1 kk0 kk1 kk2 x0 x2 y0 y2
 generalize World.drewN _ nq=w2 at H2 ⊢
 obtain ⟨t,ht,hnt,q3⟩:=HT.out _ H2.out
 have H3:=Lh q3;clear q3 HT
 go_wp2_with fail
 rw [← ht]
 clear ht
 refine H3.out.mono ?_
 rintro r w3 ⟨rfl,q3⟩
 obtain ⟨⟨x3,y3⟩,i,j,hi,hj,q4⟩:=HM.out _ _ hnt q3
 have H4:=Lh q4;clear q3 q4 H3 HM H2
 go_wp2_with fail
 rw [← hi,← hj]
 clear hi hj
 refine H4.out.mono ?_
 rintro r w4 ⟨rfl,τ,q5,hC⟩
 have H5:=Lh q5;have HC:=Lh hC;clear q5 hC H4
 go_wp2_with fail
 refine (Q0O HC.out H5.out).mono ?_
 rintro r w5 ⟨rfl,q6⟩
 have H6:=Lh q6;clear q6 H5
 go_wp2_with fail
 refine (QG HC.out.2.1 H6.out).mono ?_
 rintro r w6 ⟨rfl,q7⟩
 have H7:=Lh q7;clear q7 H6
 rw [hRz]
 go_wp2_with fail
 refine (QG HC.out.1 H7.out).mono ?_
 rintro r w12 ⟨rfl,q13⟩
 have H13:=Lh q13;clear q13
 rw [hQz]
 go_wp2_with fail
 refine (Q0P HC.out (Nat.lt_of_lt_of_le (show Q<BB^21+1 by have:=hQ.out;omega) (by unfold BB;decide)) HB.out H13.out).mono ?_
 rintro r w13 ⟨rfl,⟨x14,y14⟩,q14⟩
 have H14:=Lh q14;clear q14 H13
 have HI:=Lh (Qp (k:=K) hKK.out)
 have HJ:=Lh (Qk (k:=K) hKK.out)
 have HO:=Lh (Qq K 8 hKK.out (by decide))
 obtain ⟨i16,hi⟩:∃ i16,hasB K 16=i16:=⟨_,rfl⟩
 obtain ⟨i32,hj⟩:∃ i32,hasB K 32=i32:=⟨_,rfl⟩
 have hF:finK K=if i16=true∧i32=true then orN K 8 else K:=by unfold finK;rw [hi,hj]
 rw [hi] at HI;rw [hj] at HJ
 have hF:=Lh hF
 clear hi hj
 go_wp2_with fail
 rw [show bits .or .u32 (bits .or .u32 (bits .or .u32 (res:Int) 32) 2048) 64=((K:Nat):Int) from HV.out]
 refine (HI.out _).mono ?_
 rintro r w_ ⟨rfl,hw_⟩
 subst hw_
 clear HI
 cases i16
 ·go_wp2_with fail
  go_ret
  exact ⟨by rw [hF.out];rfl,H14.out _⟩
 ·go_wp2_with fail
  refine (HJ.out _).mono ?_
  rintro r w_ ⟨rfl,hw_⟩
  subst hw_
  clear HJ
  cases i32
  ·go_wp2_with fail
   go_ret
   exact ⟨by rw [hF.out];rfl,H14.out _⟩
  ·go_wp2_with fail
   go_ret
   exact ⟨by rw [hF.out];show Ending.returned (Value.int .u32 (bits .or .u32 (K:Int) 8))=_;rw [show bits .or .u32 (K:Int) 8=((orN K 8:Nat):Int) from HO.out];rfl,H14.out _⟩
theorem Q2i {W:World}{σ:Sg}{w:World}(hW:GW W)(h:St W σ w){b bk ba:Nat}{n:Bool}{e0:Int}{c p md res:Nat}{mx mn tr:Int}{s1 s2:Int}{Ta:TypeId}{nd:Nat}(hb:σ b=some (.dec 0 n e0 (c:Int)))(hk:Ctx σ bk p mx mn tr md)(ha:σ ba=some (.raw (.cells #[.int .i64 s1,.int .i64 s2] Ta)))
  (hs1:s1.natAbs≤40000) (hs2:s2.natAbs≤40000) (hnd:nd=ndg c) (hres:res<4096) (hcl:c<BB^21) (c0:0<c) (c1:(s1+s2)+nd - 1<mn) (c2:(s1+s2)<mn - ((p:Int) - 1)) (kk:Nat) (hkk:(s1+s2) - (mn - ((p:Int) - 1)) = -(kk:Int)) (hk4:kk≤423) (hR:c % 10^kk≠0) (hU:upR md false (c / 10^kk) (cmpN (2*(c % 10^kk)) (10^kk))=false) (hz:c / 10^kk≠0) :
  Calls Tryz.prog 115 #[.pointer (some ⟨b,0,none⟩),.pointer (some ⟨bk,0,none⟩),.int .i64 (-1),.int .u32 (res:Int),.slice (some ⟨ba,0,none⟩) 2 2] w fun r w'=>r=.returned (.int .u32 ((finK (orN (orN (orN res 32) 16) 64):Nat):Int))∧St W (upd σ b (.dec 0 n (mn - ((p:Int) - 1)) ((c / 10^kk:Nat):Int))) w':=by
 have hr:=h.raw ha
 have a0:w.cell? ⟨ba,0,none⟩=some (.int .i64 s1):=by unfold World.cell?;rw [hr];rfl
 have a1:w.cell? ⟨ba,1,none⟩=some (.int .i64 s2):=by unfold World.cell?;rw [hr];rfl
 obtain ⟨k0,k1,k2,k3,k4⟩:=h.ctx hk
 have HK:=Lh hk
 obtain ⟨_,HCX,p1,m1,m2,m3,m4,m5⟩:=hk
 obtain ⟨d0,_,d2,f0,_,f2⟩:=h.dec hb
 have hnp:=Qh c
 have HD:Hid (Calls Tryz.prog 91 #[.pointer (some ⟨b,0,none⟩)] w fun r w'=>r=.returned (.int .i64 (nd:Int))∧St W σ w'):=by rw [hnd];exact Qo hW h hb hcl
 have hnd':nd≤405:=by rw [hnd];exact QA hcl
 have HC:Hid (∀ w1,St W σ w1→((w1.cell? ⟨bk,0,none⟩=some (.int .u32 (p:Int))∧w1.cell? ⟨bk,1,none⟩=some (.int .i32 mx)∧w1.cell? ⟨bk,2,none⟩=some (.int .i32 mn))∧(w1.cell? ⟨b,0,none⟩=some (.int .i8 0)∧w1.frozen? ⟨b,0,none⟩=false)∧(w1.cell? ⟨b,2,none⟩=some (.int .i32 e0)∧w1.frozen? ⟨b,2,none⟩=false))):=fun w1 q1=>by
  obtain ⟨x0,_,x2,y0,_,y2⟩:=q1.dec hb
  have hr1:=q1.raw HCX
  refine ⟨⟨?_,?_,?_⟩,⟨x0,y0⟩,⟨x2,y2⟩⟩ <;> (unfold World.cell?;rw [hr1];rfl)
 clear hnd
 have H0:=Lh h
 have HB:=Lh hb
 have HZ:Hid (∀ w1,St W σ w1→Calls Tryz.prog 113 #[.pointer (some ⟨b,0,none⟩)] w1 fun r w'=>r=.returned (.bool false)∧w'=w1):=fun w1 q1=>by
  have:=Qt q1 hb
  rw [decide_eq_false (by omega)] at this
  exact this
 have HT:=Lh (fun w1 (q1:St W σ w1)=>Q0N q1 hb hcl)
 have HM:=Lh (fun w1 t (ht:σ t=none) (q1:St W (upd σ t (.dec 0 false 0 (c:Int))) w1)=>Q0e hW ht q1 hcl hk4)
 have hT0:0<10^kk:=Nat.pow_pos (by decide)
 have hQ:c / 10^kk<BB^21:=Nat.lt_of_le_of_lt (Nat.div_le_self _ _) hcl
 have hRl:c % 10^kk<BB^21:=Nat.lt_of_le_of_lt (Nat.mod_le _ _) hcl
 have k00:0<kk:=by omega
 have HH:=Lh (fun w1 τ i j bh (hC:Cut W σ τ i j kk (c / 10^kk) (c % 10^kk)) (hh:τ bh=none) (q1:St W (upd τ bh (.dec 0 false (-1) 5)) w1)=>Q0f hW hC hRl k00 hk4 hh q1)
 generalize cmpN (2*(c % 10^kk)) (10^kk)=u at HH hU
 generalize c / 10^kk=Q at HM HH hQ hU hz ⊢
 generalize c % 10^kk=R at HM HH hRl hR
 clear hT0 hRl
 replace hQ:=Lh hQ
 obtain ⟨K,hKe⟩:∃ K:Nat,(orN (orN (orN res 32) 16) 64)=K:=⟨_,rfl⟩
 have hKK:Hid (K<4096):=Lh (hKe ▸ Qr (Qr (Qr hres (by decide)) (by decide)) (by decide))
 have HV:=Lh (Q19 res 32 16 64 hres (by decide) (by decide) (by decide))
 rw [hKe] at HV ⊢
 have hRz:decide (R=0)=false:=by simp [hR]
 have hQz:decide (Q=0)=false:=by simp [hz]
 clear hz
 replace hU:=Lh hU
 clear h hb ha hr hres hcl hKe hR hnp HCX
 go_enter Tryz.func115, Tryz.ntmps115
 go_wp2_with fail
 refine wp_loop_rounds 3 ?_
 iterate 3 (rw [rounds_succ];go_wp2_with fail)
 refine HD.out.mono ?_
 rintro r w1 ⟨rfl,q1⟩
 obtain ⟨⟨kk0,kk1,kk2⟩,⟨x0,y0⟩,⟨x2,y2⟩⟩:=HC.out _ q1
 have H1:=Lh q1;clear q1 HD HC
 go_wp2_with fail
 refine (HZ.out _ H1.out).mono ?_
 rintro r w_ ⟨rfl,hw_⟩
 subst hw_
 clear HZ
 go_wp2_with fail
 go_quiet (fail)
 have H2:=Lh (H1.out.drewN nq)
 clear d0 d2 f0 f2 k0 k1 k2 k3 k4 H0 a0 a1 H1 kk0 kk1 kk2 x0 x2 y0 y2
 generalize World.drewN _ nq=w2 at H2 ⊢
 obtain ⟨t,ht,hnt,q3⟩:=HT.out _ H2.out
 have H3:=Lh q3;clear q3 HT
 go_wp2_with fail
 rw [← ht]
 clear ht
 refine H3.out.mono ?_
 rintro r w3 ⟨rfl,q3⟩
 obtain ⟨⟨x3,y3⟩,i,j,hi,hj,q4⟩:=HM.out _ _ hnt q3
 have H4:=Lh q4;clear q3 q4 H3 HM H2
 go_wp2_with fail
 rw [← hi,← hj]
 clear hi hj
 refine H4.out.mono ?_
 rintro r w4 ⟨rfl,τ,q5,hC⟩
 have H5:=Lh q5;have HC:=Lh hC;clear q5 hC H4
 go_wp2_with fail
 refine (Q0O HC.out H5.out).mono ?_
 rintro r w5 ⟨rfl,q6⟩
 have H6:=Lh q6;clear q6 H5
 go_wp2_with fail
 refine (QG HC.out.2.1 H6.out).mono ?_
 rintro r w6 ⟨rfl,q7⟩
 have H7:=Lh q7;clear q7 H6
 rw [hRz]
 have g1:=(H7.out.ctx (HK.out.ext HC.out.2.2.1)).2.2.2.2
 have g2:=(H7.out.dec HC.out.1).2.1
 go_wp2_with fail
 go_region_held3 (fun x=>x.cell? ⟨bk,4,none⟩=some (.string (rndS md))∧x.cell? ⟨i,1,none⟩=some (.bool false)) (first | exact ⟨g1,g2⟩ | exact ⟨g3,g4⟩ | exact ⟨g5,g6⟩ | exact ⟨g7,g8⟩) (first | (go_at_call 155;refine (QJ (by exact H7.out.sm ⟨rfl,rfl,rfl,rfl⟩)).mono ?_;rintro r w7 ⟨bh,rfl,hbh,q8⟩;have H8:=Lh q8;have HBH:=Lh hbh;have g3:=(q8.ctx (HK.out.ext (HC.out.2.2.1.trans (Ext.new hbh _)))).2.2.2.2;have g4:=(q8.dec (Ext.new hbh _ _ _ HC.out.1)).2.1;clear q8 hbh) | (go_at_call 57;refine (HH.out _ _ _ _ _ HC.out HBH.out (by exact H8.out.sm ⟨rfl,rfl,rfl,rfl⟩)).mono ?_;rintro r w8 ⟨rfl,q9⟩;have H9:=Lh q9;have g5:=(q9.ctx (HK.out.ext HC.out.2.2.1)).2.2.2.2;have g6:=(q9.dec HC.out.1).2.1;clear q9) | (go_at_call 124;refine (Q0X hW HC.out hQ.out m5 (by exact H9.out.sm ⟨rfl,rfl,rfl,rfl⟩) u).mono ?_;rintro r w9 ⟨rfl,q10⟩;have H10:=Lh q10;have g7:=(q10.ctx (HK.out.ext HC.out.2.2.1)).2.2.2.2;have g8:=(q10.dec HC.out.1).2.1;clear q10;rw [hU.out]))
 clear H7
 go_wp2_with fail
 refine (QG HC.out.1 H10.out).mono ?_
 rintro r w12 ⟨rfl,q13⟩
 have H13:=Lh q13;clear q13
 rw [hQz]
 go_wp2_with fail
 refine (Q0P HC.out (Nat.lt_of_lt_of_le (show Q<BB^21+1 by have:=hQ.out;omega) (by unfold BB;decide)) HB.out H13.out).mono ?_
 rintro r w13 ⟨rfl,⟨x14,y14⟩,q14⟩
 have H14:=Lh q14;clear q14 H13
 have HI:=Lh (Qp (k:=K) hKK.out)
 have HJ:=Lh (Qk (k:=K) hKK.out)
 have HO:=Lh (Qq K 8 hKK.out (by decide))
 obtain ⟨i16,hi⟩:∃ i16,hasB K 16=i16:=⟨_,rfl⟩
 obtain ⟨i32,hj⟩:∃ i32,hasB K 32=i32:=⟨_,rfl⟩
 have hF:finK K=if i16=true∧i32=true then orN K 8 else K:=by unfold finK;rw [hi,hj]
 rw [hi] at HI;rw [hj] at HJ
 have hF:=Lh hF
 clear hi hj
 go_wp2_with fail
 rw [show bits .or .u32 (bits .or .u32 (bits .or .u32 (res:Int) 32) 16) 64=((K:Nat):Int) from HV.out]
 refine (HI.out _).mono ?_
 rintro r w_ ⟨rfl,hw_⟩
 subst hw_
 clear HI
 cases i16
 ·go_wp2_with fail
  go_ret
  exact ⟨by rw [hF.out];rfl,H14.out _⟩
 ·go_wp2_with fail
  refine (HJ.out _).mono ?_
  rintro r w_ ⟨rfl,hw_⟩
  subst hw_
  clear HJ
  cases i32
  ·go_wp2_with fail
   go_ret
   exact ⟨by rw [hF.out];rfl,H14.out _⟩
  ·go_wp2_with fail
   go_ret
   exact ⟨by rw [hF.out];show Ending.returned (Value.int .u32 (bits .or .u32 (K:Int) 8))=_;rw [show bits .or .u32 (K:Int) 8=((orN K 8:Nat):Int) from HO.out];rfl,H14.out _⟩
theorem Q1F {W:World}{σ:Sg}{w:World}(hW:GW W)(h:St W σ w){b bk ba:Nat}{n:Bool}{e0:Int}{c p md res:Nat}{mx mn tr:Int}{s1 s2:Int}{Ta:TypeId}{nd:Nat}(hb:σ b=some (.dec 0 n e0 (c:Int)))(hk:Ctx σ bk p mx mn tr md)(ha:σ ba=some (.raw (.cells #[.int .i64 s1,.int .i64 s2] Ta)))
  (hs1:s1.natAbs≤40000) (hs2:s2.natAbs≤40000) (hnd:nd=ndg c) (hres:res<4096) (hcl:c<BB^21) (c0:0<c) (c1:(s1+s2)+nd - 1<mn) (c2:(s1+s2)<mn - ((p:Int) - 1)) (kk:Nat) (hkk:(s1+s2) - (mn - ((p:Int) - 1)) = -(kk:Int)) (hk4:kk≤423) (hR:c % 10^kk≠0) (hU:upR md false (c / 10^kk) (cmpN (2*(c % 10^kk)) (10^kk))=false) (hz:c / 10^kk=0) :
  Calls Tryz.prog 115 #[.pointer (some ⟨b,0,none⟩),.pointer (some ⟨bk,0,none⟩),.int .i64 (-1),.int .u32 (res:Int),.slice (some ⟨ba,0,none⟩) 2 2] w fun r w'=>r=.returned (.int .u32 ((finK (orN (orN (orN (orN res 32) 16) 2048) 64):Nat):Int))∧St W (upd σ b (.dec 0 n (mn - ((p:Int) - 1)) ((c / 10^kk:Nat):Int))) w':=by
 have hr:=h.raw ha
 have a0:w.cell? ⟨ba,0,none⟩=some (.int .i64 s1):=by unfold World.cell?;rw [hr];rfl
 have a1:w.cell? ⟨ba,1,none⟩=some (.int .i64 s2):=by unfold World.cell?;rw [hr];rfl
 obtain ⟨k0,k1,k2,k3,k4⟩:=h.ctx hk
 have HK:=Lh hk
 obtain ⟨_,HCX,p1,m1,m2,m3,m4,m5⟩:=hk
 obtain ⟨d0,_,d2,f0,_,f2⟩:=h.dec hb
 have hnp:=Qh c
 have HD:Hid (Calls Tryz.prog 91 #[.pointer (some ⟨b,0,none⟩)] w fun r w'=>r=.returned (.int .i64 (nd:Int))∧St W σ w'):=by rw [hnd];exact Qo hW h hb hcl
 have hnd':nd≤405:=by rw [hnd];exact QA hcl
 have HC:Hid (∀ w1,St W σ w1→((w1.cell? ⟨bk,0,none⟩=some (.int .u32 (p:Int))∧w1.cell? ⟨bk,1,none⟩=some (.int .i32 mx)∧w1.cell? ⟨bk,2,none⟩=some (.int .i32 mn))∧(w1.cell? ⟨b,0,none⟩=some (.int .i8 0)∧w1.frozen? ⟨b,0,none⟩=false)∧(w1.cell? ⟨b,2,none⟩=some (.int .i32 e0)∧w1.frozen? ⟨b,2,none⟩=false))):=fun w1 q1=>by
  obtain ⟨x0,_,x2,y0,_,y2⟩:=q1.dec hb
  have hr1:=q1.raw HCX
  refine ⟨⟨?_,?_,?_⟩,⟨x0,y0⟩,⟨x2,y2⟩⟩ <;> (unfold World.cell?;rw [hr1];rfl)
 clear hnd
 have H0:=Lh h
 have HB:=Lh hb
 have HZ:Hid (∀ w1,St W σ w1→Calls Tryz.prog 113 #[.pointer (some ⟨b,0,none⟩)] w1 fun r w'=>r=.returned (.bool false)∧w'=w1):=fun w1 q1=>by
  have:=Qt q1 hb
  rw [decide_eq_false (by omega)] at this
  exact this
 have HT:=Lh (fun w1 (q1:St W σ w1)=>Q0N q1 hb hcl)
 have HM:=Lh (fun w1 t (ht:σ t=none) (q1:St W (upd σ t (.dec 0 false 0 (c:Int))) w1)=>Q0e hW ht q1 hcl hk4)
 have hT0:0<10^kk:=Nat.pow_pos (by decide)
 have hQ:c / 10^kk<BB^21:=Nat.lt_of_le_of_lt (Nat.div_le_self _ _) hcl
 have hRl:c % 10^kk<BB^21:=Nat.lt_of_le_of_lt (Nat.mod_le _ _) hcl
 have k00:0<kk:=by omega
 have HH:=Lh (fun w1 τ i j bh (hC:Cut W σ τ i j kk (c / 10^kk) (c % 10^kk)) (hh:τ bh=none) (q1:St W (upd τ bh (.dec 0 false (-1) 5)) w1)=>Q0f hW hC hRl k00 hk4 hh q1)
 generalize cmpN (2*(c % 10^kk)) (10^kk)=u at HH hU
 generalize c / 10^kk=Q at HM HH hQ hU hz ⊢
 generalize c % 10^kk=R at HM HH hRl hR
 clear hT0 hRl
 replace hQ:=Lh hQ
 obtain ⟨K,hKe⟩:∃ K:Nat,(orN (orN (orN (orN res 32) 16) 2048) 64)=K:=⟨_,rfl⟩
 have hKK:Hid (K<4096):=Lh (hKe ▸ Qr (Qr (Qr (Qr hres (by decide)) (by decide)) (by decide)) (by decide))
 have HV:=Lh (Q6x res 32 16 2048 64 hres (by decide) (by decide) (by decide) (by decide))
 rw [hKe] at HV ⊢
 have hRz:decide (R=0)=false:=by simp [hR]
 have hQz:decide (Q=0)=true:=by simp [hz]
 clear hz
 replace hU:=Lh hU
 clear h hb ha hr hres hcl hKe hR hnp HCX
 go_enter Tryz.func115, Tryz.ntmps115
 go_wp2_with fail
 refine wp_loop_rounds 3 ?_
 iterate 3 (rw [rounds_succ];go_wp2_with fail)
 refine HD.out.mono ?_
 rintro r w1 ⟨rfl,q1⟩
 obtain ⟨⟨kk0,kk1,kk2⟩,⟨x0,y0⟩,⟨x2,y2⟩⟩:=HC.out _ q1
 have H1:=Lh q1;clear q1 HD HC
 go_wp2_with fail
 refine (HZ.out _ H1.out).mono ?_
 rintro r w_ ⟨rfl,hw_⟩
 subst hw_
 clear HZ
 go_wp2_with fail
 go_quiet (fail)
 have H2:=Lh (H1.out.drewN nq)
 clear d0 d2 f0 f2 k0 k1 k2 k3 k4 H0 a0 a1 H1 kk0 kk1 kk2 x0 x2 y0 y2
 generalize World.drewN _ nq=w2 at H2 ⊢
 obtain ⟨t,ht,hnt,q3⟩:=HT.out _ H2.out
 have H3:=Lh q3;clear q3 HT
 go_wp2_with fail
 rw [← ht]
 clear ht
 refine H3.out.mono ?_
 rintro r w3 ⟨rfl,q3⟩
 obtain ⟨⟨x3,y3⟩,i,j,hi,hj,q4⟩:=HM.out _ _ hnt q3
 have H4:=Lh q4;clear q3 q4 H3 HM H2
 go_wp2_with fail
 rw [← hi,← hj]
 clear hi hj
 refine H4.out.mono ?_
 rintro r w4 ⟨rfl,τ,q5,hC⟩
 have H5:=Lh q5;have HC:=Lh hC;clear q5 hC H4
 go_wp2_with fail
 refine (Q0O HC.out H5.out).mono ?_
 rintro r w5 ⟨rfl,q6⟩
 have H6:=Lh q6;clear q6 H5
 go_wp2_with fail
 refine (QG HC.out.2.1 H6.out).mono ?_
 rintro r w6 ⟨rfl,q7⟩
 have H7:=Lh q7;clear q7 H6
 rw [hRz]
 have g1:=(H7.out.ctx (HK.out.ext HC.out.2.2.1)).2.2.2.2
 have g2:=(H7.out.dec HC.out.1).2.1
 go_wp2_with fail
 go_region_held3 (fun x=>x.cell? ⟨bk,4,none⟩=some (.string (rndS md))∧x.cell? ⟨i,1,none⟩=some (.bool false)) (first | exact ⟨g1,g2⟩ | exact ⟨g3,g4⟩ | exact ⟨g5,g6⟩ | exact ⟨g7,g8⟩) (first | (go_at_call 155;refine (QJ (by exact H7.out.sm ⟨rfl,rfl,rfl,rfl⟩)).mono ?_;rintro r w7 ⟨bh,rfl,hbh,q8⟩;have H8:=Lh q8;have HBH:=Lh hbh;have g3:=(q8.ctx (HK.out.ext (HC.out.2.2.1.trans (Ext.new hbh _)))).2.2.2.2;have g4:=(q8.dec (Ext.new hbh _ _ _ HC.out.1)).2.1;clear q8 hbh) | (go_at_call 57;refine (HH.out _ _ _ _ _ HC.out HBH.out (by exact H8.out.sm ⟨rfl,rfl,rfl,rfl⟩)).mono ?_;rintro r w8 ⟨rfl,q9⟩;have H9:=Lh q9;have g5:=(q9.ctx (HK.out.ext HC.out.2.2.1)).2.2.2.2;have g6:=(q9.dec HC.out.1).2.1;clear q9) | (go_at_call 124;refine (Q0X hW HC.out hQ.out m5 (by exact H9.out.sm ⟨rfl,rfl,rfl,rfl⟩) u).mono ?_;rintro r w9 ⟨rfl,q10⟩;have H10:=Lh q10;have g7:=(q10.ctx (HK.out.ext HC.out.2.2.1)).2.2.2.2;have g8:=(q10.dec HC.out.1).2.1;clear q10;rw [hU.out]))
 clear H7
 go_wp2_with fail
 refine (QG HC.out.1 H10.out).mono ?_
 rintro r w12 ⟨rfl,q13⟩
 have H13:=Lh q13;clear q13
 rw [hQz]
 go_wp2_with fail
 refine (Q0P HC.out (Nat.lt_of_lt_of_le (show Q<BB^21+1 by have:=hQ.out;omega) (by unfold BB;decide)) HB.out H13.out).mono ?_
 rintro r w13 ⟨rfl,⟨x14,y14⟩,q14⟩
 have H14:=Lh q14;clear q14 H13
 have HI:=Lh (Qp (k:=K) hKK.out)
 have HJ:=Lh (Qk (k:=K) hKK.out)
 have HO:=Lh (Qq K 8 hKK.out (by decide))
 obtain ⟨i16,hi⟩:∃ i16,hasB K 16=i16:=⟨_,rfl⟩
 obtain ⟨i32,hj⟩:∃ i32,hasB K 32=i32:=⟨_,rfl⟩
 have hF:finK K=if i16=true∧i32=true then orN K 8 else K:=by unfold finK;rw [hi,hj]
 rw [hi] at HI;rw [hj] at HJ
 have hF:=Lh hF
 clear hi hj
 go_wp2_with fail
 rw [show bits .or .u32 (bits .or .u32 (bits .or .u32 (bits .or .u32 (res:Int) 32) 16) 2048) 64=((K:Nat):Int) from HV.out]
 refine (HI.out _).mono ?_
 rintro r w_ ⟨rfl,hw_⟩
 subst hw_
 clear HI
 cases i16
 ·go_wp2_with fail
  go_ret
  exact ⟨by rw [hF.out];rfl,H14.out _⟩
 ·go_wp2_with fail
  refine (HJ.out _).mono ?_
  rintro r w_ ⟨rfl,hw_⟩
  subst hw_
  clear HJ
  cases i32
  ·go_wp2_with fail
   go_ret
   exact ⟨by rw [hF.out];rfl,H14.out _⟩
  ·go_wp2_with fail
   go_ret
   exact ⟨by rw [hF.out];show Ending.returned (Value.int .u32 (bits .or .u32 (K:Int) 8))=_;rw [show bits .or .u32 (K:Int) 8=((orN K 8:Nat):Int) from HO.out];rfl,H14.out _⟩
theorem Q1V {W:World}{σ:Sg}{w:World}(hW:GW W)(h:St W σ w){b bk ba:Nat}{n:Bool}{e0:Int}{c p md res:Nat}{mx mn tr:Int}{s1 s2:Int}{Ta:TypeId}{nd:Nat}(hb:σ b=some (.dec 0 n e0 (c:Int)))(hk:Ctx σ bk p mx mn tr md)(ha:σ ba=some (.raw (.cells #[.int .i64 s1,.int .i64 s2] Ta)))
  (hs1:s1.natAbs≤40000) (hs2:s2.natAbs≤40000) (hnd:nd=ndg c) (hres:res<4096) (hcl:c<BB^21) (c0:0<c) (c1:(s1+s2)+nd - 1<mn) (c2:(s1+s2)<mn - ((p:Int) - 1)) (kk:Nat) (hkk:(s1+s2) - (mn - ((p:Int) - 1)) = -(kk:Int)) (hk4:kk≤423) (hR:c % 10^kk≠0) (hU:upR md false (c / 10^kk) (cmpN (2*(c % 10^kk)) (10^kk))=true)  :
  Calls Tryz.prog 115 #[.pointer (some ⟨b,0,none⟩),.pointer (some ⟨bk,0,none⟩),.int .i64 (-1),.int .u32 (res:Int),.slice (some ⟨ba,0,none⟩) 2 2] w fun r w'=>r=.returned (.int .u32 ((finK (orN (orN (orN res 32) 16) 64):Nat):Int))∧St W (upd σ b (.dec 0 n (mn - ((p:Int) - 1)) ((c / 10^kk+1:Nat):Int))) w':=by
 have hr:=h.raw ha
 have a0:w.cell? ⟨ba,0,none⟩=some (.int .i64 s1):=by unfold World.cell?;rw [hr];rfl
 have a1:w.cell? ⟨ba,1,none⟩=some (.int .i64 s2):=by unfold World.cell?;rw [hr];rfl
 obtain ⟨k0,k1,k2,k3,k4⟩:=h.ctx hk
 have HK:=Lh hk
 obtain ⟨_,HCX,p1,m1,m2,m3,m4,m5⟩:=hk
 obtain ⟨d0,_,d2,f0,_,f2⟩:=h.dec hb
 have hnp:=Qh c
 have HD:Hid (Calls Tryz.prog 91 #[.pointer (some ⟨b,0,none⟩)] w fun r w'=>r=.returned (.int .i64 (nd:Int))∧St W σ w'):=by rw [hnd];exact Qo hW h hb hcl
 have hnd':nd≤405:=by rw [hnd];exact QA hcl
 have HC:Hid (∀ w1,St W σ w1→((w1.cell? ⟨bk,0,none⟩=some (.int .u32 (p:Int))∧w1.cell? ⟨bk,1,none⟩=some (.int .i32 mx)∧w1.cell? ⟨bk,2,none⟩=some (.int .i32 mn))∧(w1.cell? ⟨b,0,none⟩=some (.int .i8 0)∧w1.frozen? ⟨b,0,none⟩=false)∧(w1.cell? ⟨b,2,none⟩=some (.int .i32 e0)∧w1.frozen? ⟨b,2,none⟩=false))):=fun w1 q1=>by
  obtain ⟨x0,_,x2,y0,_,y2⟩:=q1.dec hb
  have hr1:=q1.raw HCX
  refine ⟨⟨?_,?_,?_⟩,⟨x0,y0⟩,⟨x2,y2⟩⟩ <;> (unfold World.cell?;rw [hr1];rfl)
 clear hnd
 have H0:=Lh h
 have HB:=Lh hb
 have HZ:Hid (∀ w1,St W σ w1→Calls Tryz.prog 113 #[.pointer (some ⟨b,0,none⟩)] w1 fun r w'=>r=.returned (.bool false)∧w'=w1):=fun w1 q1=>by
  have:=Qt q1 hb
  rw [decide_eq_false (by omega)] at this
  exact this
 have HT:=Lh (fun w1 (q1:St W σ w1)=>Q0N q1 hb hcl)
 have HM:=Lh (fun w1 t (ht:σ t=none) (q1:St W (upd σ t (.dec 0 false 0 (c:Int))) w1)=>Q0e hW ht q1 hcl hk4)
 have hT0:0<10^kk:=Nat.pow_pos (by decide)
 have hQ:c / 10^kk<BB^21:=Nat.lt_of_le_of_lt (Nat.div_le_self _ _) hcl
 have hRl:c % 10^kk<BB^21:=Nat.lt_of_le_of_lt (Nat.mod_le _ _) hcl
 have k00:0<kk:=by omega
 have HH:=Lh (fun w1 τ i j bh (hC:Cut W σ τ i j kk (c / 10^kk) (c % 10^kk)) (hh:τ bh=none) (q1:St W (upd τ bh (.dec 0 false (-1) 5)) w1)=>Q0f hW hC hRl k00 hk4 hh q1)
 generalize cmpN (2*(c % 10^kk)) (10^kk)=u at HH hU
 generalize c / 10^kk=Q at HM HH hQ hU ⊢
 generalize c % 10^kk=R at HM HH hRl hR
 clear hT0 hRl
 replace hQ:=Lh hQ
 obtain ⟨K,hKe⟩:∃ K:Nat,(orN (orN (orN res 32) 16) 64)=K:=⟨_,rfl⟩
 have hKK:Hid (K<4096):=Lh (hKe ▸ Qr (Qr (Qr hres (by decide)) (by decide)) (by decide))
 have HV:=Lh (Q19 res 32 16 64 hres (by decide) (by decide) (by decide))
 rw [hKe] at HV ⊢
 have hRz:decide (R=0)=false:=by simp [hR]
 have hQz:decide (Q+1=0)=false:=by simp
 replace hU:=Lh hU
 clear h hb ha hr hres hcl hKe hR hnp HCX
 go_enter Tryz.func115, Tryz.ntmps115
 go_wp2_with fail
 refine wp_loop_rounds 3 ?_
 iterate 3 (rw [rounds_succ];go_wp2_with fail)
 refine HD.out.mono ?_
 rintro r w1 ⟨rfl,q1⟩
 obtain ⟨⟨kk0,kk1,kk2⟩,⟨x0,y0⟩,⟨x2,y2⟩⟩:=HC.out _ q1
 have H1:=Lh q1;clear q1 HD HC
 go_wp2_with fail
 refine (HZ.out _ H1.out).mono ?_
 rintro r w_ ⟨rfl,hw_⟩
 subst hw_
 clear HZ
 go_wp2_with fail
 go_quiet (fail)
 have H2:=Lh (H1.out.drewN nq)
 clear d0 d2 f0 f2 k0 k1 k2 k3 k4 H0 a0 a1 H1 kk0 kk1 kk2 x0 x2 y0 y2
 generalize World.drewN _ nq=w2 at H2 ⊢
 obtain ⟨t,ht,hnt,q3⟩:=HT.out _ H2.out
 have H3:=Lh q3;clear q3 HT
 go_wp2_with fail
 rw [← ht]
 clear ht
 refine H3.out.mono ?_
 rintro r w3 ⟨rfl,q3⟩
 obtain ⟨⟨x3,y3⟩,i,j,hi,hj,q4⟩:=HM.out _ _ hnt q3
 have H4:=Lh q4;clear q3 q4 H3 HM H2
 go_wp2_with fail
 rw [← hi,← hj]
 clear hi hj
 refine H4.out.mono ?_
 rintro r w4 ⟨rfl,τ,q5,hC⟩
 have H5:=Lh q5;have HC:=Lh hC;clear q5 hC H4
 go_wp2_with fail
 refine (Q0O HC.out H5.out).mono ?_
 rintro r w5 ⟨rfl,q6⟩
 have H6:=Lh q6;clear q6 H5
 go_wp2_with fail
 refine (QG HC.out.2.1 H6.out).mono ?_
 rintro r w6 ⟨rfl,q7⟩
 have H7:=Lh q7;clear q7 H6
 rw [hRz]
 have g1:=(H7.out.ctx (HK.out.ext HC.out.2.2.1)).2.2.2.2
 have g2:=(H7.out.dec HC.out.1).2.1
 go_wp2_with fail
 go_region_held3 (fun x=>x.cell? ⟨bk,4,none⟩=some (.string (rndS md))∧x.cell? ⟨i,1,none⟩=some (.bool false)) (first | exact ⟨g1,g2⟩ | exact ⟨g3,g4⟩ | exact ⟨g5,g6⟩ | exact ⟨g7,g8⟩) (first | (go_at_call 155;refine (QJ (by exact H7.out.sm ⟨rfl,rfl,rfl,rfl⟩)).mono ?_;rintro r w7 ⟨bh,rfl,hbh,q8⟩;have H8:=Lh q8;have HBH:=Lh hbh;have g3:=(q8.ctx (HK.out.ext (HC.out.2.2.1.trans (Ext.new hbh _)))).2.2.2.2;have g4:=(q8.dec (Ext.new hbh _ _ _ HC.out.1)).2.1;clear q8 hbh) | (go_at_call 57;refine (HH.out _ _ _ _ _ HC.out HBH.out (by exact H8.out.sm ⟨rfl,rfl,rfl,rfl⟩)).mono ?_;rintro r w8 ⟨rfl,q9⟩;have H9:=Lh q9;have g5:=(q9.ctx (HK.out.ext HC.out.2.2.1)).2.2.2.2;have g6:=(q9.dec HC.out.1).2.1;clear q9) | (go_at_call 124;refine (Q0X hW HC.out hQ.out m5 (by exact H9.out.sm ⟨rfl,rfl,rfl,rfl⟩) u).mono ?_;rintro r w9 ⟨rfl,q10⟩;have H10:=Lh q10;have g7:=(q10.ctx (HK.out.ext HC.out.2.2.1)).2.2.2.2;have g8:=(q10.dec HC.out.1).2.1;clear q10;rw [hU.out]))
 clear H7
 go_wp2_with fail
 refine (Q3g H10.out).mono ?_
 rintro r w10 ⟨b1,rfl,hb1,q11⟩
 have H11:=Lh (Q8g hW HC.out hQ.out hb1 q11);clear q11 hb1 H10 HC
 go_wp2_with fail
 refine H11.out.mono ?_
 rintro r w11 ⟨rfl,τ1,q12,hC⟩
 have H12:=Lh q12;have HC:=Lh hC;clear q12 hC H11
 go_wp2_with fail
 refine (QG HC.out.1 H12.out).mono ?_
 rintro r w12 ⟨rfl,q13⟩
 have H13:=Lh q13;clear q13
 rw [hQz]
 go_wp2_with fail
 refine (Q0P HC.out (Nat.lt_of_lt_of_le (show Q+1<BB^21+1 by have:=hQ.out;omega) (by unfold BB;decide)) HB.out H13.out).mono ?_
 rintro r w13 ⟨rfl,⟨x14,y14⟩,q14⟩
 have H14:=Lh q14;clear q14 H13
 have HI:=Lh (Qp (k:=K) hKK.out)
 have HJ:=Lh (Qk (k:=K) hKK.out)
 have HO:=Lh (Qq K 8 hKK.out (by decide))
 obtain ⟨i16,hi⟩:∃ i16,hasB K 16=i16:=⟨_,rfl⟩
 obtain ⟨i32,hj⟩:∃ i32,hasB K 32=i32:=⟨_,rfl⟩
 have hF:finK K=if i16=true∧i32=true then orN K 8 else K:=by unfold finK;rw [hi,hj]
 rw [hi] at HI;rw [hj] at HJ
 have hF:=Lh hF
 clear hi hj
 go_wp2_with fail
 rw [show bits .or .u32 (bits .or .u32 (bits .or .u32 (res:Int) 32) 16) 64=((K:Nat):Int) from HV.out]
 refine (HI.out _).mono ?_
 rintro r w_ ⟨rfl,hw_⟩
 subst hw_
 clear HI
 cases i16
 ·go_wp2_with fail
  go_ret
  exact ⟨by rw [hF.out];rfl,H14.out _⟩
 ·go_wp2_with fail
  refine (HJ.out _).mono ?_
  rintro r w_ ⟨rfl,hw_⟩
  subst hw_
  clear HJ
  cases i32
  ·go_wp2_with fail
   go_ret
   exact ⟨by rw [hF.out];rfl,H14.out _⟩
  ·go_wp2_with fail
   go_ret
   exact ⟨by rw [hF.out];show Ending.returned (Value.int .u32 (bits .or .u32 (K:Int) 8))=_;rw [show bits .or .u32 (K:Int) 8=((orN K 8:Nat):Int) from HO.out];rfl,H14.out _⟩
end Go.Proofs.YtpfjmeadikdddaaGreatDoor
