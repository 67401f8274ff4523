/- a part of the proof -/
import Derived.Test.YtpebcmfpehdafaaGreatDoorZ15
set_option linter.all false
set_option maxRecDepth 100000
set_option maxHeartbeats 16000000
namespace Go.Proofs.YtpebcmfpehdafaaGreatDoor
open Go Go.RowKit
def Cut (W:World)(σ τ:Sg)(i j kk:Nat)(Q R:Nat):Prop:=τ i=some (.dec 0 false 0 (Q:Int))∧τ j=some (.dec 0 false (-(kk:Int)) (R:Int))∧Ext σ τ∧σ i=none∧σ j=none∧i≠j
theorem Q32 {W:World}{σ:Sg}{w:World}(h:St W σ w){b:Nat}{f:Int}{n:Bool}{e:Int}{c:Nat}(hb:σ b=some (.dec f n e (c:Int)))(hc:c<BB^21) :
  ∃ t,t=w.heap.size∧σ t=none∧Calls Tryz.prog 119 #[.pointer (some ⟨t,3,none⟩),.pointer (some ⟨b,3,none⟩)] (w.alloc (.cells #[.int .i8 0,.bool false,.int .i32 0,.bool false,.slice none 0 0] 71)) fun r w'=>r=.returned (.pointer (some ⟨t,3,none⟩))∧St W (upd σ t (.dec 0 false 0 (c:Int))) w':=by
 have hn:=h.none_new
 have ne:w.heap.size≠b:=by intro e;rw [← e,hn] at hb;cases hb
 refine ⟨_,rfl,hn,Q1i ((QS (h.alloc_dec 71 0 0 false).drew (Num.dec (Q1 _ _ _)) (Num.dec (by rw [Qa _ _ ne.symm];exact hb)) ne (by rw [Int.natAbs_natCast];exact Q0B hc (by decide))).mono ?_)⟩
 rintro r w' ⟨rfl,k⟩
 rw [Q1G] at k
 exact ⟨rfl,k⟩
theorem Q1W {W:World}{σ:Sg}{w:World}(hW:GW W){t c kk:Nat}(ht:σ t=none)(h:St W (upd σ t (.dec 0 false 0 (c:Int))) w)(hc:c<BB^21)(hk:kk≤423) :
  (w.cell? ⟨t,2,none⟩=some (.int .i32 0)∧w.frozen? ⟨t,2,none⟩=false)∧∃ i j,i=w.heap.size∧j=i+1∧Calls Tryz.prog 108 #[.pointer (some ⟨t,0,none⟩),.pointer (some ⟨i,0,none⟩),.pointer (some ⟨j,0,none⟩)] (((w.setCell ⟨t,2,none⟩ (.int .i32 (-(kk:Int)))).alloc (.cells #[.int .i8 0,.bool false,.int .i32 0,.bool false,.slice none 0 0] 71)).alloc (.cells #[.int .i8 0,.bool false,.int .i32 0,.bool false,.slice none 0 0] 71)) fun r w'=>r=.returned (.tuple #[])∧∃ τ,St W τ w'∧Cut W σ τ i j kk (c / 10^kk) (c % 10^kk):=by
 obtain ⟨_,_,x2,_,_,y2⟩:=h.dec (Q1 _ _ _)
 have h1:=(h.setExp (Q1 _ _ _) (-(kk:Int))).upd2
 have hsz:(w.setCell ⟨t,2,none⟩ (.int .i32 (-(kk:Int)))).heap.size=w.heap.size:=by simp [World.setCell]
 rw [← hsz]
 generalize w.setCell ⟨t,2,none⟩ (.int .i32 (-(kk:Int)))=w1 at h1 ⊢
 have n1:=h1.none_new
 have h2:=h1.alloc_dec 71 0 0 false
 have n2:=h2.none_new
 have h3:=h2.alloc_dec 71 0 0 false
 rw [Q01] at n2 h3
 obtain ⟨i,hi⟩:∃ i,i=w1.heap.size:=⟨_,rfl⟩
 rw [← hi] at n1 n2 h3 ⊢
 obtain ⟨j,hj⟩:∃ j,j=i+1:=⟨_,rfl⟩
 rw [← hj] at n2 h3
 have e1:i≠j:=by omega
 have e2:t≠i:=by rintro rfl;rw [Q1] at n1;cases n1
 rw [Qa _ _ e1.symm] at n2
 have e3:t≠j:=by rintro rfl;rw [Q1] at n2;cases n2
 rw [Qa _ _ e2.symm] at n1
 rw [Qa _ _ e3.symm] at n2
 refine ⟨⟨x2,y2⟩,i,j,rfl,hj,(Q80 hW h3 (b:=t) (bi:=i) (bf:=j) (by rw [Qa _ _ e3,Qa _ _ e2,Q1]) (by rw [Qa _ _ e1,Q1]) (Q1 _ _ _) e2 e3 e1 hc hk).mono ?_⟩
 rintro r w' ⟨rfl,k⟩
 refine ⟨rfl,_,k,by rw [Qa _ _ e1,Q1],Q1 _ _ _,?_,n1,n2,e1⟩
 exact ((((Ext.new ht _).upd_skip n1 _).upd_skip n2 _).upd_skip n1 _).upd_skip n2 _
theorem Q33 {W:World}{σ τ:Sg}{w:World}{i j kk Q R:Nat}(hC:Cut W σ τ i j kk Q R)(h:St W τ w):Calls Tryz.prog 104 #[.pointer (some ⟨j,0,none⟩),.pointer (some ⟨j,0,none⟩)] w fun r w'=>r=.returned (.pointer (some ⟨j,0,none⟩))∧St W τ w' :=
 (Q4Q h hC.2.1).mono fun r w' ⟨a,k⟩=>⟨a,k.less (by
  intro x ob hx
  by_cases e:x=j
  ·subst e;rw [Q1,← hx];exact hC.2.1.symm
  ·rw [Qa _ _ e];exact hx)⟩
theorem Q0g {W:World}{τ:Sg}{w:World}{b:Nat}{e:Int}{v:Nat}{n:Bool}(hb:τ b=some (.dec 0 n e (v:Int)))(h:St W τ w):Calls Tryz.prog 81 #[.pointer (some ⟨b,0,none⟩)] w fun r w'=>r=.returned (.bool (decide (v=0)))∧St W τ w' :=
 (QC h hb).mono fun r w' ⟨a,k⟩=>⟨by rw [a];simp,k ▸ h⟩
theorem Q1X {W:World}{σ τ:Sg}{w:World}{i j kk Q R bh:Nat}(hW:GW W)(hC:Cut W σ τ i j kk Q R)(hR:R<BB^21)(h0:0<kk)(hk:kk≤423)(hh:τ bh=none)(h:St W (upd τ bh (.dec 0 false (-1) 5)) w):Calls Tryz.prog 111 #[.pointer (some ⟨j,0,none⟩),.pointer (some ⟨bh,0,none⟩)] w fun r w'=>r=.returned (.int .i64 (cmpN (2*R) (10^kk)))∧St W τ w':=by
 have ne:j≠bh:=by rintro rfl;rw [hC.2.1] at hh;cases hh
 rw [← Q3K h0]
 exact (Q31 hW h (by rw [Qa _ _ ne];exact hC.2.1) (c':=5) (Q1 _ _ _) ne hR (by unfold BB;decide) (by omega) (by decide) (by omega)).mono fun r w' ⟨a,k⟩=>⟨a,k.less (Ext.new hh _)⟩
theorem Q34 {W:World}{σ τ:Sg}{w:World}{i j kk Q R:Nat}(hW:GW W)(hC:Cut W σ τ i j kk Q R)(hQ:Q<BB^21){md:Nat}(hm:md<8)(h:St W τ w)(u:Int):Calls Tryz.prog 97 #[.string (rndS md),.pointer (some ⟨i,3,none⟩),.bool false,.int .i64 u] w fun r w'=>r=.returned (.bool (upR md false Q u))∧St W τ w' :=
 Q0d hW h (Num.dec hC.1) (Q0B hQ (by decide)) md hm false u
theorem Q9S {W:World}{σ τ:Sg}{w:World}{i j kk Q R b1:Nat}(hW:GW W)(hC:Cut W σ τ i j kk Q R)(hQ:Q<BB^21)(hb:τ b1=none)(h:St W (upd τ b1 (.big 1)) w):Calls Tryz.prog 98 #[.pointer (some ⟨i,3,none⟩),.pointer (some ⟨i,3,none⟩),.pointer (some ⟨b1,0,none⟩)] w fun r w'=>r=.returned (.pointer (some ⟨i,3,none⟩))∧∃ τ',St W τ' w'∧Cut W σ τ' i j kk (Q+1) R:=by
 have ne:i≠b1:=by rintro rfl;rw [hC.1] at hb;cases hb
 refine Q5t ((Q3L hW h.drew (x:=Q) (y:=1) (Num.dec (by rw [Qa _ _ ne];exact hC.1)) (Num.big (Q1 _ _ _)) ne (Q0B hQ (by decide)) (Q0B (n:=21) (by unfold BB;decide) (by decide))).mono ?_)
 rintro r w' ⟨rfl,k⟩
 obtain ⟨c1,c2,c3,c4,c5,c6⟩:=hC
 rw [QL _ _ _ ne] at k
 refine ⟨rfl,setN τ i ((Q+1:Nat):Int),k.less (Ext.new (by rw [Qh _ _ ne.symm];exact hb) _),Q07 c1 _,by rw [Qh _ _ c6.symm];exact c2,c3.setN_skip c4 _,c4,c5,c6⟩
theorem Q35 {W:World}{σ τ:Sg}{w:World}{i j kk Q R b:Nat}{f:Int}{n:Bool}{e c:Int}(hC:Cut W σ τ i j kk Q R)(hQ:Q<BB^22)(hb:σ b=some (.dec f n e c))(h:St W τ w):Calls Tryz.prog 119 #[.pointer (some ⟨b,3,none⟩),.pointer (some ⟨i,3,none⟩)] w fun r w'=>r=.returned (.pointer (some ⟨b,3,none⟩))∧(w'.cell? ⟨b,2,none⟩=some (.int .i32 e)∧w'.frozen? ⟨b,2,none⟩=false)∧∀ s,St W (upd σ b (.dec f n s (Q:Int))) (w'.setCell ⟨b,2,none⟩ (.int .i32 s)):=by
 obtain ⟨c1,c2,c3,c4,c5,c6⟩:=hC
 have ne:b≠i:=by rintro rfl;rw [hb] at c4;cases c4
 refine Q1i ((QS h.drew (Num.dec (c3 _ _ hb)) (Num.dec c1) ne (by rw [Int.natAbs_natCast];exact Q0B hQ (by decide))).mono ?_)
 rintro r w' ⟨rfl,k⟩
 have k2:St W (upd σ b (.dec f n e (Q:Int))) w':=(k.less (c3.setN b _)).ext fun x=>by
  by_cases e:x=b
  ·subst e;rw [Q1,Q07 hb]
  ·rw [Qa _ _ e,Qh _ _ e]
 obtain ⟨_,_,x2,_,_,y2⟩:=k2.dec (Q1 _ _ _)
 exact ⟨rfl,⟨x2,y2⟩,fun s=>(k2.setExp (Q1 _ _ _) s).upd2⟩
theorem Q6f (k m l:Nat)(hk:k<4096)(hm:m<4096)(hl:l<4096):bits .or .u32 (bits .or .u32 (k:Int) (m:Int)) (l:Int)=((orN (orN k m) l:Nat):Int):=by rw [Qr k m hk hm,Qr _ l (Qv hk hm) hl]
theorem Q2F (k m l i:Nat)(hk:k<4096)(hm:m<4096)(hl:l<4096)(hi:i<4096):bits .or .u32 (bits .or .u32 (bits .or .u32 (k:Int) (m:Int)) (l:Int)) (i:Int)=((orN (orN (orN k m) l) i:Nat):Int):=by rw [Q6f k m l hk hm hl,Qr _ i (Qv (Qv hk hm) hl) hi]
theorem Q9k (k m l i j:Nat)(hk:k<4096)(hm:m<4096)(hl:l<4096)(hi:i<4096)(hj:j<4096):bits .or .u32 (bits .or .u32 (bits .or .u32 (bits .or .u32 (k:Int) (m:Int)) (l:Int)) (i:Int)) (j:Int)=((orN (orN (orN (orN k m) l) i) j:Nat):Int):=by rw [Q2F k m l i hk hm hl hi,Qr _ j (Qv (Qv (Qv hk hm) hl) hi) hj]
theorem Q2l {W:World}{σ:Sg}{w:World}(hW:GW W)(h:St W σ w){b bk ba:Nat}{n:Bool}{e0:Int}{c p md res:Nat}{mx mn tr:Int}{s:Int}{Ta:TypeId}{nd:Nat}(hb:σ b=some (.dec 0 n e0 (c:Int)))(hk:Ctx σ bk p mx mn tr md)(ha:σ ba=some (.raw (.cells #[.int .i64 s] Ta)))
  (hs:s.natAbs≤90000) (hnd:nd≤405) (hres:res<4096) (hcl:c<BB^21) (c0:0<c) (c1:s+nd - 1<mn) (c2:s<mn - ((p:Int) - 1)) (kk:Nat) (hkk:s - (mn - ((p:Int) - 1)) = -(kk:Int)) (hk4:kk≤423) (hR:c % 10^kk=0) (hz:c / 10^kk≠0) :
  Calls Tryz.prog 86 #[.pointer (some ⟨b,0,none⟩),.pointer (some ⟨bk,0,none⟩),.int .i64 (nd:Int),.int .u32 (res:Int),.slice (some ⟨ba,0,none⟩) 1 1] w fun r w'=>r=.returned (.int .u32 ((finK (orN (orN res 32) 64):Nat):Int))∧St W (upd σ b (.dec 0 n (mn - ((p:Int) - 1)) ((c / 10^kk:Nat):Int))) w':=by
 have hr:=h.raw ha
 have a0:w.cell? ⟨ba,0,none⟩=some (.int .i64 s):=by unfold World.cell?;rw [hr];rfl
 obtain ⟨k0,k1,k2,k3,k4⟩:=h.ctx hk
 have HK:=Lh hk
 obtain ⟨_,_,p1,m1,m2,m3,m4,m5⟩:=hk
 obtain ⟨d0,_,d2,f0,_,f2⟩:=h.dec hb
 have hnp:=Qi c
 have H0:=Lh h
 have HB:=Lh hb
 have HZ:Hid (∀ w1,St W σ w1→Calls Tryz.prog 81 #[.pointer (some ⟨b,0,none⟩)] w1 fun r w'=>r=.returned (.bool false)∧w'=w1):=fun w1 q1=>by
  have:=QC q1 hb
  rw [decide_eq_false (by omega)] at this
  exact this
 have HT:=Lh (fun w1 (q1:St W σ w1)=>Q32 q1 hb hcl)
 have HM:=Lh (fun w1 t (ht:σ t=none) (q1:St W (upd σ t (.dec 0 false 0 (c:Int))) w1)=>Q1W hW ht q1 hcl hk4)
 have hT0:0<10^kk:=Nat.pow_pos (by decide)
 have hQ:c / 10^kk<BB^21:=Nat.lt_of_le_of_lt (Nat.div_le_self _ _) hcl
 have hRl:c % 10^kk<BB^21:=Nat.lt_of_le_of_lt (Nat.mod_le _ _) hcl
 have k00:0<kk:=by omega
 have HH:=Lh (fun w1 τ i j bh (hC:Cut W σ τ i j kk (c / 10^kk) (c % 10^kk)) (hh:τ bh=none) (q1:St W (upd τ bh (.dec 0 false (-1) 5)) w1)=>Q1X hW hC hRl k00 hk4 hh q1)
 generalize cmpN (2*(c % 10^kk)) (10^kk)=u at HH
 generalize c / 10^kk=Q at HM HH hQ hz ⊢
 generalize c % 10^kk=R at HM HH hRl hR
 clear hT0 hRl
 replace hQ:=Lh hQ
 obtain ⟨K,hKe⟩:∃ K:Nat,(orN (orN res 32) 64)=K:=⟨_,rfl⟩
 have hKK:Hid (K<4096):=Lh (hKe ▸ Qv (Qv hres (by decide)) (by decide))
 have HV:=Lh (Q6f res 32 64 hres (by decide) (by decide))
 rw [hKe] at HV ⊢
 have hRz:decide (R=0)=true:=by simp [hR]
 have hQz:decide (Q=0)=false:=by simp [hz]
 clear hz
 clear h hb ha hr hres hcl hKe hR hnp
 go_enter Tryz.func86, Tryz.ntmps86
 go_wp2_with fail
 refine wp_loop_rounds 2 ?_
 iterate 2 (rw [rounds_succ];go_wp2_with fail)
 refine (HZ.out _ H0.out).mono ?_
 rintro r w_ ⟨rfl,hw_⟩
 subst hw_
 clear HZ
 go_wp2_with fail
 go_quiet (fail)
 have H2:=Lh (H0.out.drewN nq)
 clear d0 d2 f0 f2 k0 k1 k2 k3 k4 H0 a0
 generalize World.drewN _ nq=w2 at H2 ⊢
 obtain ⟨t,ht,hnt,q3⟩:=HT.out _ H2.out
 have H3:=Lh q3;clear q3 HT
 go_wp2_with fail
 rw [← ht]
 clear ht
 refine H3.out.mono ?_
 rintro r w3 ⟨rfl,q3⟩
 obtain ⟨⟨x3,y3⟩,i,j,hi,hj,q4⟩:=HM.out _ _ hnt q3
 have H4:=Lh q4;clear q3 q4 H3 HM H2
 go_wp2_with fail
 rw [← hi,← hj]
 clear hi hj
 refine H4.out.mono ?_
 rintro r w4 ⟨rfl,τ,q5,hC⟩
 have H5:=Lh q5;have HC:=Lh hC;clear q5 hC H4
 go_wp2_with fail
 refine (Q33 HC.out H5.out).mono ?_
 rintro r w5 ⟨rfl,q6⟩
 have H6:=Lh q6;clear q6 H5
 go_wp2_with fail
 refine (Q0g HC.out.2.1 H6.out).mono ?_
 rintro r w6 ⟨rfl,q7⟩
 have H7:=Lh q7;clear q7 H6
 rw [hRz]
 go_wp2_with fail
 refine (Q0g HC.out.1 H7.out).mono ?_
 rintro r w12 ⟨rfl,q13⟩
 have H13:=Lh q13;clear q13
 rw [hQz]
 go_wp2_with fail
 refine (Q35 HC.out (Nat.lt_of_lt_of_le (show Q<BB^21+1 by have:=hQ.out;omega) (by unfold BB;decide)) HB.out H13.out).mono ?_
 rintro r w13 ⟨rfl,⟨x14,y14⟩,q14⟩
 have H14:=Lh q14;clear q14 H13
 have HI:=Lh (Qt (k:=K) hKK.out)
 have HJ:=Lh (Qo (k:=K) hKK.out)
 have HO:=Lh (Qr K 8 hKK.out (by decide))
 obtain ⟨i16,hi⟩:∃ i16,hasB K 16=i16:=⟨_,rfl⟩
 obtain ⟨i32,hj⟩:∃ i32,hasB K 32=i32:=⟨_,rfl⟩
 have hF:finK K=if i16=true∧i32=true then orN K 8 else K:=by unfold finK;rw [hi,hj]
 rw [hi] at HI;rw [hj] at HJ
 have hF:=Lh hF
 clear hi hj
 go_wp2_with fail
 rw [show bits .or .u32 (bits .or .u32 (res:Int) 32) 64=((K:Nat):Int) from HV.out]
 refine (HI.out _).mono ?_
 rintro r w_ ⟨rfl,hw_⟩
 subst hw_
 clear HI
 cases i16
 ·go_wp2_with fail
  go_ret
  exact ⟨by rw [hF.out];rfl,H14.out _⟩
 ·go_wp2_with fail
  refine (HJ.out _).mono ?_
  rintro r w_ ⟨rfl,hw_⟩
  subst hw_
  clear HJ
  cases i32
  ·go_wp2_with fail
   go_ret
   exact ⟨by rw [hF.out];rfl,H14.out _⟩
  ·go_wp2_with fail
   go_ret
   exact ⟨by rw [hF.out];show Ending.returned (Value.int .u32 (bits .or .u32 (K:Int) 8))=_;rw [show bits .or .u32 (K:Int) 8=((orN K 8:Nat):Int) from HO.out];rfl,H14.out _⟩
theorem Q1Y {W:World}{σ:Sg}{w:World}(hW:GW W)(h:St W σ w){b bk ba:Nat}{n:Bool}{e0:Int}{c p md res:Nat}{mx mn tr:Int}{s:Int}{Ta:TypeId}{nd:Nat}(hb:σ b=some (.dec 0 n e0 (c:Int)))(hk:Ctx σ bk p mx mn tr md)(ha:σ ba=some (.raw (.cells #[.int .i64 s] Ta)))
  (hs:s.natAbs≤90000) (hnd:nd≤405) (hres:res<4096) (hcl:c<BB^21) (c0:0<c) (c1:s+nd - 1<mn) (c2:s<mn - ((p:Int) - 1)) (kk:Nat) (hkk:s - (mn - ((p:Int) - 1)) = -(kk:Int)) (hk4:kk≤423) (hR:c % 10^kk=0) (hz:c / 10^kk=0) :
  Calls Tryz.prog 86 #[.pointer (some ⟨b,0,none⟩),.pointer (some ⟨bk,0,none⟩),.int .i64 (nd:Int),.int .u32 (res:Int),.slice (some ⟨ba,0,none⟩) 1 1] w fun r w'=>r=.returned (.int .u32 ((finK (orN (orN (orN res 32) 2048) 64):Nat):Int))∧St W (upd σ b (.dec 0 n (mn - ((p:Int) - 1)) ((c / 10^kk:Nat):Int))) w':=by
 have hr:=h.raw ha
 have a0:w.cell? ⟨ba,0,none⟩=some (.int .i64 s):=by unfold World.cell?;rw [hr];rfl
 obtain ⟨k0,k1,k2,k3,k4⟩:=h.ctx hk
 have HK:=Lh hk
 obtain ⟨_,_,p1,m1,m2,m3,m4,m5⟩:=hk
 obtain ⟨d0,_,d2,f0,_,f2⟩:=h.dec hb
 have hnp:=Qi c
 have H0:=Lh h
 have HB:=Lh hb
 have HZ:Hid (∀ w1,St W σ w1→Calls Tryz.prog 81 #[.pointer (some ⟨b,0,none⟩)] w1 fun r w'=>r=.returned (.bool false)∧w'=w1):=fun w1 q1=>by
  have:=QC q1 hb
  rw [decide_eq_false (by omega)] at this
  exact this
 have HT:=Lh (fun w1 (q1:St W σ w1)=>Q32 q1 hb hcl)
 have HM:=Lh (fun w1 t (ht:σ t=none) (q1:St W (upd σ t (.dec 0 false 0 (c:Int))) w1)=>Q1W hW ht q1 hcl hk4)
 have hT0:0<10^kk:=Nat.pow_pos (by decide)
 have hQ:c / 10^kk<BB^21:=Nat.lt_of_le_of_lt (Nat.div_le_self _ _) hcl
 have hRl:c % 10^kk<BB^21:=Nat.lt_of_le_of_lt (Nat.mod_le _ _) hcl
 have k00:0<kk:=by omega
 have HH:=Lh (fun w1 τ i j bh (hC:Cut W σ τ i j kk (c / 10^kk) (c % 10^kk)) (hh:τ bh=none) (q1:St W (upd τ bh (.dec 0 false (-1) 5)) w1)=>Q1X hW hC hRl k00 hk4 hh q1)
 generalize cmpN (2*(c % 10^kk)) (10^kk)=u at HH
 generalize c / 10^kk=Q at HM HH hQ hz ⊢
 generalize c % 10^kk=R at HM HH hRl hR
 clear hT0 hRl
 replace hQ:=Lh hQ
 obtain ⟨K,hKe⟩:∃ K:Nat,(orN (orN (orN res 32) 2048) 64)=K:=⟨_,rfl⟩
 have hKK:Hid (K<4096):=Lh (hKe ▸ Qv (Qv (Qv hres (by decide)) (by decide)) (by decide))
 have HV:=Lh (Q2F res 32 2048 64 hres (by decide) (by decide) (by decide))
 rw [hKe] at HV ⊢
 have hRz:decide (R=0)=true:=by simp [hR]
 have hQz:decide (Q=0)=true:=by simp [hz]
 clear hz
 clear h hb ha hr hres hcl hKe hR hnp
 go_enter Tryz.func86, Tryz.ntmps86
 go_wp2_with fail
 refine wp_loop_rounds 2 ?_
 iterate 2 (rw [rounds_succ];go_wp2_with fail)
 refine (HZ.out _ H0.out).mono ?_
 rintro r w_ ⟨rfl,hw_⟩
 subst hw_
 clear HZ
 go_wp2_with fail
 go_quiet (fail)
 have H2:=Lh (H0.out.drewN nq)
 clear d0 d2 f0 f2 k0 k1 k2 k3 k4 H0 a0
 generalize World.drewN _ nq=w2 at H2 ⊢
 obtain ⟨t,ht,hnt,q3⟩:=HT.out _ H2.out
 have H3:=Lh q3;clear q3 HT
 go_wp2_with fail
 rw [← ht]
 clear ht
 refine H3.out.mono ?_
 rintro r w3 ⟨rfl,q3⟩
 obtain ⟨⟨x3,y3⟩,i,j,hi,hj,q4⟩:=HM.out _ _ hnt q3
 have H4:=Lh q4;clear q3 q4 H3 HM H2
 go_wp2_with fail
 rw [← hi,← hj]
 clear hi hj
 refine H4.out.mono ?_
 rintro r w4 ⟨rfl,τ,q5,hC⟩
 have H5:=Lh q5;have HC:=Lh hC;clear q5 hC H4
 go_wp2_with fail
 refine (Q33 HC.out H5.out).mono ?_
 rintro r w5 ⟨rfl,q6⟩
 have H6:=Lh q6;clear q6 H5
 go_wp2_with fail
 refine (Q0g HC.out.2.1 H6.out).mono ?_
 rintro r w6 ⟨rfl,q7⟩
 have H7:=Lh q7;clear q7 H6
 rw [hRz]
 go_wp2_with fail
 refine (Q0g HC.out.1 H7.out).mono ?_
 rintro r w12 ⟨rfl,q13⟩
 have H13:=Lh q13;clear q13
 rw [hQz]
 go_wp2_with fail
 refine (Q35 HC.out (Nat.lt_of_lt_of_le (show Q<BB^21+1 by have:=hQ.out;omega) (by unfold BB;decide)) HB.out H13.out).mono ?_
 rintro r w13 ⟨rfl,⟨x14,y14⟩,q14⟩
 have H14:=Lh q14;clear q14 H13
 have HI:=Lh (Qt (k:=K) hKK.out)
 have HJ:=Lh (Qo (k:=K) hKK.out)
 have HO:=Lh (Qr K 8 hKK.out (by decide))
 obtain ⟨i16,hi⟩:∃ i16,hasB K 16=i16:=⟨_,rfl⟩
 obtain ⟨i32,hj⟩:∃ i32,hasB K 32=i32:=⟨_,rfl⟩
 have hF:finK K=if i16=true∧i32=true then orN K 8 else K:=by unfold finK;rw [hi,hj]
 rw [hi] at HI;rw [hj] at HJ
 have hF:=Lh hF
 clear hi hj
 go_wp2_with fail
 rw [show bits .or .u32 (bits .or .u32 (bits .or .u32 (res:Int) 32) 2048) 64=((K:Nat):Int) from HV.out]
 refine (HI.out _).mono ?_
 rintro r w_ ⟨rfl,hw_⟩
 subst hw_
 clear HI
 cases i16
 ·go_wp2_with fail
  go_ret
  exact ⟨by rw [hF.out];rfl,H14.out _⟩
 ·go_wp2_with fail
  refine (HJ.out _).mono ?_
  rintro r w_ ⟨rfl,hw_⟩
  subst hw_
  clear HJ
  cases i32
  ·go_wp2_with fail
   go_ret
   exact ⟨by rw [hF.out];rfl,H14.out _⟩
  ·go_wp2_with fail
   go_ret
   exact ⟨by rw [hF.out];show Ending.returned (Value.int .u32 (bits .or .u32 (K:Int) 8))=_;rw [show bits .or .u32 (K:Int) 8=((orN K 8:Nat):Int) from HO.out];rfl,H14.out _⟩
theorem Q36 {W:World}{σ:Sg}{w:World}(hW:GW W)(h:St W σ w){b bk ba:Nat}{n:Bool}{e0:Int}{c p md res:Nat}{mx mn tr:Int}{s:Int}{Ta:TypeId}{nd:Nat}(hb:σ b=some (.dec 0 n e0 (c:Int)))(hk:Ctx σ bk p mx mn tr md)(ha:σ ba=some (.raw (.cells #[.int .i64 s] Ta)))
  (hs:s.natAbs≤90000) (hnd:nd≤405) (hres:res<4096) (hcl:c<BB^21) (c0:0<c) (c1:s+nd - 1<mn) (c2:s<mn - ((p:Int) - 1)) (kk:Nat) (hkk:s - (mn - ((p:Int) - 1)) = -(kk:Int)) (hk4:kk≤423) (hR:c % 10^kk≠0) (hU:upR md false (c / 10^kk) (cmpN (2*(c % 10^kk)) (10^kk))=false) (hz:c / 10^kk≠0) :
  Calls Tryz.prog 86 #[.pointer (some ⟨b,0,none⟩),.pointer (some ⟨bk,0,none⟩),.int .i64 (nd:Int),.int .u32 (res:Int),.slice (some ⟨ba,0,none⟩) 1 1] w fun r w'=>r=.returned (.int .u32 ((finK (orN (orN (orN res 32) 16) 64):Nat):Int))∧St W (upd σ b (.dec 0 n (mn - ((p:Int) - 1)) ((c / 10^kk:Nat):Int))) w':=by
 have hr:=h.raw ha
 have a0:w.cell? ⟨ba,0,none⟩=some (.int .i64 s):=by unfold World.cell?;rw [hr];rfl
 obtain ⟨k0,k1,k2,k3,k4⟩:=h.ctx hk
 have HK:=Lh hk
 obtain ⟨_,_,p1,m1,m2,m3,m4,m5⟩:=hk
 obtain ⟨d0,_,d2,f0,_,f2⟩:=h.dec hb
 have hnp:=Qi c
 have H0:=Lh h
 have HB:=Lh hb
 have HZ:Hid (∀ w1,St W σ w1→Calls Tryz.prog 81 #[.pointer (some ⟨b,0,none⟩)] w1 fun r w'=>r=.returned (.bool false)∧w'=w1):=fun w1 q1=>by
  have:=QC q1 hb
  rw [decide_eq_false (by omega)] at this
  exact this
 have HT:=Lh (fun w1 (q1:St W σ w1)=>Q32 q1 hb hcl)
 have HM:=Lh (fun w1 t (ht:σ t=none) (q1:St W (upd σ t (.dec 0 false 0 (c:Int))) w1)=>Q1W hW ht q1 hcl hk4)
 have hT0:0<10^kk:=Nat.pow_pos (by decide)
 have hQ:c / 10^kk<BB^21:=Nat.lt_of_le_of_lt (Nat.div_le_self _ _) hcl
 have hRl:c % 10^kk<BB^21:=Nat.lt_of_le_of_lt (Nat.mod_le _ _) hcl
 have k00:0<kk:=by omega
 have HH:=Lh (fun w1 τ i j bh (hC:Cut W σ τ i j kk (c / 10^kk) (c % 10^kk)) (hh:τ bh=none) (q1:St W (upd τ bh (.dec 0 false (-1) 5)) w1)=>Q1X hW hC hRl k00 hk4 hh q1)
 generalize cmpN (2*(c % 10^kk)) (10^kk)=u at HH hU
 generalize c / 10^kk=Q at HM HH hQ hU hz ⊢
 generalize c % 10^kk=R at HM HH hRl hR
 clear hT0 hRl
 replace hQ:=Lh hQ
 obtain ⟨K,hKe⟩:∃ K:Nat,(orN (orN (orN res 32) 16) 64)=K:=⟨_,rfl⟩
 have hKK:Hid (K<4096):=Lh (hKe ▸ Qv (Qv (Qv hres (by decide)) (by decide)) (by decide))
 have HV:=Lh (Q2F res 32 16 64 hres (by decide) (by decide) (by decide))
 rw [hKe] at HV ⊢
 have hRz:decide (R=0)=false:=by simp [hR]
 have hQz:decide (Q=0)=false:=by simp [hz]
 clear hz
 replace hU:=Lh hU
 clear h hb ha hr hres hcl hKe hR hnp
 go_enter Tryz.func86, Tryz.ntmps86
 go_wp2_with fail
 refine wp_loop_rounds 2 ?_
 iterate 2 (rw [rounds_succ];go_wp2_with fail)
 refine (HZ.out _ H0.out).mono ?_
 rintro r w_ ⟨rfl,hw_⟩
 subst hw_
 clear HZ
 go_wp2_with fail
 go_quiet (fail)
 have H2:=Lh (H0.out.drewN nq)
 clear d0 d2 f0 f2 k0 k1 k2 k3 k4 H0 a0
 generalize World.drewN _ nq=w2 at H2 ⊢
 obtain ⟨t,ht,hnt,q3⟩:=HT.out _ H2.out
 have H3:=Lh q3;clear q3 HT
 go_wp2_with fail
 rw [← ht]
 clear ht
 refine H3.out.mono ?_
 rintro r w3 ⟨rfl,q3⟩
 obtain ⟨⟨x3,y3⟩,i,j,hi,hj,q4⟩:=HM.out _ _ hnt q3
 have H4:=Lh q4;clear q3 q4 H3 HM H2
 go_wp2_with fail
 rw [← hi,← hj]
 clear hi hj
 refine H4.out.mono ?_
 rintro r w4 ⟨rfl,τ,q5,hC⟩
 have H5:=Lh q5;have HC:=Lh hC;clear q5 hC H4
 go_wp2_with fail
 refine (Q33 HC.out H5.out).mono ?_
 rintro r w5 ⟨rfl,q6⟩
 have H6:=Lh q6;clear q6 H5
 go_wp2_with fail
 refine (Q0g HC.out.2.1 H6.out).mono ?_
 rintro r w6 ⟨rfl,q7⟩
 have H7:=Lh q7;clear q7 H6
 rw [hRz]
 have g1:=(H7.out.ctx (HK.out.ext HC.out.2.2.1)).2.2.2.2
 have g2:=(H7.out.dec HC.out.1).2.1
 go_wp2_with fail
 go_region_held3 (fun x=>x.cell? ⟨bk,4,none⟩=some (.string (rndS md))∧x.cell? ⟨i,1,none⟩=some (.bool false)) (first | exact ⟨g1,g2⟩ | exact ⟨g3,g4⟩ | exact ⟨g5,g6⟩ | exact ⟨g7,g8⟩) (first | (go_at_call 131;refine (Q03 (by exact H7.out.sm ⟨rfl,rfl,rfl,rfl⟩)).mono ?_;rintro r w7 ⟨bh,rfl,hbh,q8⟩;have H8:=Lh q8;have HBH:=Lh hbh;have g3:=(q8.ctx (HK.out.ext (HC.out.2.2.1.trans (Ext.new hbh _)))).2.2.2.2;have g4:=(q8.dec (Ext.new hbh _ _ _ HC.out.1)).2.1;clear q8 hbh) | (go_at_call 111;refine (HH.out _ _ _ _ _ HC.out HBH.out (by exact H8.out.sm ⟨rfl,rfl,rfl,rfl⟩)).mono ?_;rintro r w8 ⟨rfl,q9⟩;have H9:=Lh q9;have g5:=(q9.ctx (HK.out.ext HC.out.2.2.1)).2.2.2.2;have g6:=(q9.dec HC.out.1).2.1;clear q9) | (go_at_call 97;refine (Q34 hW HC.out hQ.out m5 (by exact H9.out.sm ⟨rfl,rfl,rfl,rfl⟩) u).mono ?_;rintro r w9 ⟨rfl,q10⟩;have H10:=Lh q10;have g7:=(q10.ctx (HK.out.ext HC.out.2.2.1)).2.2.2.2;have g8:=(q10.dec HC.out.1).2.1;clear q10;rw [hU.out]))
 clear H7
 go_wp2_with fail
 refine (Q0g HC.out.1 H10.out).mono ?_
 rintro r w12 ⟨rfl,q13⟩
 have H13:=Lh q13;clear q13
 rw [hQz]
 go_wp2_with fail
 refine (Q35 HC.out (Nat.lt_of_lt_of_le (show Q<BB^21+1 by have:=hQ.out;omega) (by unfold BB;decide)) HB.out H13.out).mono ?_
 rintro r w13 ⟨rfl,⟨x14,y14⟩,q14⟩
 have H14:=Lh q14;clear q14 H13
 have HI:=Lh (Qt (k:=K) hKK.out)
 have HJ:=Lh (Qo (k:=K) hKK.out)
 have HO:=Lh (Qr K 8 hKK.out (by decide))
 obtain ⟨i16,hi⟩:∃ i16,hasB K 16=i16:=⟨_,rfl⟩
 obtain ⟨i32,hj⟩:∃ i32,hasB K 32=i32:=⟨_,rfl⟩
 have hF:finK K=if i16=true∧i32=true then orN K 8 else K:=by unfold finK;rw [hi,hj]
 rw [hi] at HI;rw [hj] at HJ
 have hF:=Lh hF
 clear hi hj
 go_wp2_with fail
 rw [show bits .or .u32 (bits .or .u32 (bits .or .u32 (res:Int) 32) 16) 64=((K:Nat):Int) from HV.out]
 refine (HI.out _).mono ?_
 rintro r w_ ⟨rfl,hw_⟩
 subst hw_
 clear HI
 cases i16
 ·go_wp2_with fail
  go_ret
  exact ⟨by rw [hF.out];rfl,H14.out _⟩
 ·go_wp2_with fail
  refine (HJ.out _).mono ?_
  rintro r w_ ⟨rfl,hw_⟩
  subst hw_
  clear HJ
  cases i32
  ·go_wp2_with fail
   go_ret
   exact ⟨by rw [hF.out];rfl,H14.out _⟩
  ·go_wp2_with fail
   go_ret
   exact ⟨by rw [hF.out];show Ending.returned (Value.int .u32 (bits .or .u32 (K:Int) 8))=_;rw [show bits .or .u32 (K:Int) 8=((orN K 8:Nat):Int) from HO.out];rfl,H14.out _⟩
theorem Q28 {W:World}{σ:Sg}{w:World}(hW:GW W)(h:St W σ w){b bk ba:Nat}{n:Bool}{e0:Int}{c p md res:Nat}{mx mn tr:Int}{s:Int}{Ta:TypeId}{nd:Nat}(hb:σ b=some (.dec 0 n e0 (c:Int)))(hk:Ctx σ bk p mx mn tr md)(ha:σ ba=some (.raw (.cells #[.int .i64 s] Ta)))
  (hs:s.natAbs≤90000) (hnd:nd≤405) (hres:res<4096) (hcl:c<BB^21) (c0:0<c) (c1:s+nd - 1<mn) (c2:s<mn - ((p:Int) - 1)) (kk:Nat) (hkk:s - (mn - ((p:Int) - 1)) = -(kk:Int)) (hk4:kk≤423) (hR:c % 10^kk≠0) (hU:upR md false (c / 10^kk) (cmpN (2*(c % 10^kk)) (10^kk))=false) (hz:c / 10^kk=0) :
  Calls Tryz.prog 86 #[.pointer (some ⟨b,0,none⟩),.pointer (some ⟨bk,0,none⟩),.int .i64 (nd:Int),.int .u32 (res:Int),.slice (some ⟨ba,0,none⟩) 1 1] w fun r w'=>r=.returned (.int .u32 ((finK (orN (orN (orN (orN res 32) 16) 2048) 64):Nat):Int))∧St W (upd σ b (.dec 0 n (mn - ((p:Int) - 1)) ((c / 10^kk:Nat):Int))) w':=by
 have hr:=h.raw ha
 have a0:w.cell? ⟨ba,0,none⟩=some (.int .i64 s):=by unfold World.cell?;rw [hr];rfl
 obtain ⟨k0,k1,k2,k3,k4⟩:=h.ctx hk
 have HK:=Lh hk
 obtain ⟨_,_,p1,m1,m2,m3,m4,m5⟩:=hk
 obtain ⟨d0,_,d2,f0,_,f2⟩:=h.dec hb
 have hnp:=Qi c
 have H0:=Lh h
 have HB:=Lh hb
 have HZ:Hid (∀ w1,St W σ w1→Calls Tryz.prog 81 #[.pointer (some ⟨b,0,none⟩)] w1 fun r w'=>r=.returned (.bool false)∧w'=w1):=fun w1 q1=>by
  have:=QC q1 hb
  rw [decide_eq_false (by omega)] at this
  exact this
 have HT:=Lh (fun w1 (q1:St W σ w1)=>Q32 q1 hb hcl)
 have HM:=Lh (fun w1 t (ht:σ t=none) (q1:St W (upd σ t (.dec 0 false 0 (c:Int))) w1)=>Q1W hW ht q1 hcl hk4)
 have hT0:0<10^kk:=Nat.pow_pos (by decide)
 have hQ:c / 10^kk<BB^21:=Nat.lt_of_le_of_lt (Nat.div_le_self _ _) hcl
 have hRl:c % 10^kk<BB^21:=Nat.lt_of_le_of_lt (Nat.mod_le _ _) hcl
 have k00:0<kk:=by omega
 have HH:=Lh (fun w1 τ i j bh (hC:Cut W σ τ i j kk (c / 10^kk) (c % 10^kk)) (hh:τ bh=none) (q1:St W (upd τ bh (.dec 0 false (-1) 5)) w1)=>Q1X hW hC hRl k00 hk4 hh q1)
 generalize cmpN (2*(c % 10^kk)) (10^kk)=u at HH hU
 generalize c / 10^kk=Q at HM HH hQ hU hz ⊢
 generalize c % 10^kk=R at HM HH hRl hR
 clear hT0 hRl
 replace hQ:=Lh hQ
 obtain ⟨K,hKe⟩:∃ K:Nat,(orN (orN (orN (orN res 32) 16) 2048) 64)=K:=⟨_,rfl⟩
 have hKK:Hid (K<4096):=Lh (hKe ▸ Qv (Qv (Qv (Qv hres (by decide)) (by decide)) (by decide)) (by decide))
 have HV:=Lh (Q9k res 32 16 2048 64 hres (by decide) (by decide) (by decide) (by decide))
 rw [hKe] at HV ⊢
 have hRz:decide (R=0)=false:=by simp [hR]
 have hQz:decide (Q=0)=true:=by simp [hz]
 clear hz
 replace hU:=Lh hU
 clear h hb ha hr hres hcl hKe hR hnp
 go_enter Tryz.func86, Tryz.ntmps86
 go_wp2_with fail
 refine wp_loop_rounds 2 ?_
 iterate 2 (rw [rounds_succ];go_wp2_with fail)
 refine (HZ.out _ H0.out).mono ?_
 rintro r w_ ⟨rfl,hw_⟩
 subst hw_
 clear HZ
 go_wp2_with fail
 go_quiet (fail)
 have H2:=Lh (H0.out.drewN nq)
 clear d0 d2 f0 f2 k0 k1 k2 k3 k4 H0 a0
 generalize World.drewN _ nq=w2 at H2 ⊢
 obtain ⟨t,ht,hnt,q3⟩:=HT.out _ H2.out
 have H3:=Lh q3;clear q3 HT
 go_wp2_with fail
 rw [← ht]
 clear ht
 refine H3.out.mono ?_
 rintro r w3 ⟨rfl,q3⟩
 obtain ⟨⟨x3,y3⟩,i,j,hi,hj,q4⟩:=HM.out _ _ hnt q3
 have H4:=Lh q4;clear q3 q4 H3 HM H2
 go_wp2_with fail
 rw [← hi,← hj]
 clear hi hj
 refine H4.out.mono ?_
 rintro r w4 ⟨rfl,τ,q5,hC⟩
 have H5:=Lh q5;have HC:=Lh hC;clear q5 hC H4
 go_wp2_with fail
 refine (Q33 HC.out H5.out).mono ?_
 rintro r w5 ⟨rfl,q6⟩
 have H6:=Lh q6;clear q6 H5
 go_wp2_with fail
 refine (Q0g HC.out.2.1 H6.out).mono ?_
 rintro r w6 ⟨rfl,q7⟩
 have H7:=Lh q7;clear q7 H6
 rw [hRz]
 have g1:=(H7.out.ctx (HK.out.ext HC.out.2.2.1)).2.2.2.2
 have g2:=(H7.out.dec HC.out.1).2.1
 go_wp2_with fail
 go_region_held3 (fun x=>x.cell? ⟨bk,4,none⟩=some (.string (rndS md))∧x.cell? ⟨i,1,none⟩=some (.bool false)) (first | exact ⟨g1,g2⟩ | exact ⟨g3,g4⟩ | exact ⟨g5,g6⟩ | exact ⟨g7,g8⟩) (first | (go_at_call 131;refine (Q03 (by exact H7.out.sm ⟨rfl,rfl,rfl,rfl⟩)).mono ?_;rintro r w7 ⟨bh,rfl,hbh,q8⟩;have H8:=Lh q8;have HBH:=Lh hbh;have g3:=(q8.ctx (HK.out.ext (HC.out.2.2.1.trans (Ext.new hbh _)))).2.2.2.2;have g4:=(q8.dec (Ext.new hbh _ _ _ HC.out.1)).2.1;clear q8 hbh) | (go_at_call 111;refine (HH.out _ _ _ _ _ HC.out HBH.out (by exact H8.out.sm ⟨rfl,rfl,rfl,rfl⟩)).mono ?_;rintro r w8 ⟨rfl,q9⟩;have H9:=Lh q9;have g5:=(q9.ctx (HK.out.ext HC.out.2.2.1)).2.2.2.2;have g6:=(q9.dec HC.out.1).2.1;clear q9) | (go_at_call 97;refine (Q34 hW HC.out hQ.out m5 (by exact H9.out.sm ⟨rfl,rfl,rfl,rfl⟩) u).mono ?_;rintro r w9 ⟨rfl,q10⟩;have H10:=Lh q10;have g7:=(q10.ctx (HK.out.ext HC.out.2.2.1)).2.2.2.2;have g8:=(q10.dec HC.out.1).2.1;clear q10;rw [hU.out]))
 clear H7
 go_wp2_with fail
 refine (Q0g HC.out.1 H10.out).mono ?_
 rintro r w12 ⟨rfl,q13⟩
 have H13:=Lh q13;clear q13
 rw [hQz]
 go_wp2_with fail
 refine (Q35 HC.out (Nat.lt_of_lt_of_le (show Q<BB^21+1 by have:=hQ.out;omega) (by unfold BB;decide)) HB.out H13.out).mono ?_
 rintro r w13 ⟨rfl,⟨x14,y14⟩,q14⟩
 have H14:=Lh q14;clear q14 H13
 have HI:=Lh (Qt (k:=K) hKK.out)
 have HJ:=Lh (Qo (k:=K) hKK.out)
 have HO:=Lh (Qr K 8 hKK.out (by decide))
 obtain ⟨i16,hi⟩:∃ i16,hasB K 16=i16:=⟨_,rfl⟩
 obtain ⟨i32,hj⟩:∃ i32,hasB K 32=i32:=⟨_,rfl⟩
 have hF:finK K=if i16=true∧i32=true then orN K 8 else K:=by unfold finK;rw [hi,hj]
 rw [hi] at HI;rw [hj] at HJ
 have hF:=Lh hF
 clear hi hj
 go_wp2_with fail
 rw [show bits .or .u32 (bits .or .u32 (bits .or .u32 (bits .or .u32 (res:Int) 32) 16) 2048) 64=((K:Nat):Int) from HV.out]
 refine (HI.out _).mono ?_
 rintro r w_ ⟨rfl,hw_⟩
 subst hw_
 clear HI
 cases i16
 ·go_wp2_with fail
  go_ret
  exact ⟨by rw [hF.out];rfl,H14.out _⟩
 ·go_wp2_with fail
  refine (HJ.out _).mono ?_
  rintro r w_ ⟨rfl,hw_⟩
  subst hw_
  clear HJ
  cases i32
  ·go_wp2_with fail
   go_ret
   exact ⟨by rw [hF.out];rfl,H14.out _⟩
  ·go_wp2_with fail
   go_ret
   exact ⟨by rw [hF.out];show Ending.returned (Value.int .u32 (bits .or .u32 (K:Int) 8))=_;rw [show bits .or .u32 (K:Int) 8=((orN K 8:Nat):Int) from HO.out];rfl,H14.out _⟩
theorem Q2m {W:World}{σ:Sg}{w:World}(hW:GW W)(h:St W σ w){b bk ba:Nat}{n:Bool}{e0:Int}{c p md res:Nat}{mx mn tr:Int}{s:Int}{Ta:TypeId}{nd:Nat}(hb:σ b=some (.dec 0 n e0 (c:Int)))(hk:Ctx σ bk p mx mn tr md)(ha:σ ba=some (.raw (.cells #[.int .i64 s] Ta)))
  (hs:s.natAbs≤90000) (hnd:nd≤405) (hres:res<4096) (hcl:c<BB^21) (c0:0<c) (c1:s+nd - 1<mn) (c2:s<mn - ((p:Int) - 1)) (kk:Nat) (hkk:s - (mn - ((p:Int) - 1)) = -(kk:Int)) (hk4:kk≤423) (hR:c % 10^kk≠0) (hU:upR md false (c / 10^kk) (cmpN (2*(c % 10^kk)) (10^kk))=true)  :
  Calls Tryz.prog 86 #[.pointer (some ⟨b,0,none⟩),.pointer (some ⟨bk,0,none⟩),.int .i64 (nd:Int),.int .u32 (res:Int),.slice (some ⟨ba,0,none⟩) 1 1] w fun r w'=>r=.returned (.int .u32 ((finK (orN (orN (orN res 32) 16) 64):Nat):Int))∧St W (upd σ b (.dec 0 n (mn - ((p:Int) - 1)) ((c / 10^kk+1:Nat):Int))) w':=by
 have hr:=h.raw ha
 have a0:w.cell? ⟨ba,0,none⟩=some (.int .i64 s):=by unfold World.cell?;rw [hr];rfl
 obtain ⟨k0,k1,k2,k3,k4⟩:=h.ctx hk
 have HK:=Lh hk
 obtain ⟨_,_,p1,m1,m2,m3,m4,m5⟩:=hk
 obtain ⟨d0,_,d2,f0,_,f2⟩:=h.dec hb
 have hnp:=Qi c
 have H0:=Lh h
 have HB:=Lh hb
 have HZ:Hid (∀ w1,St W σ w1→Calls Tryz.prog 81 #[.pointer (some ⟨b,0,none⟩)] w1 fun r w'=>r=.returned (.bool false)∧w'=w1):=fun w1 q1=>by
  have:=QC q1 hb
  rw [decide_eq_false (by omega)] at this
  exact this
 have HT:=Lh (fun w1 (q1:St W σ w1)=>Q32 q1 hb hcl)
 have HM:=Lh (fun w1 t (ht:σ t=none) (q1:St W (upd σ t (.dec 0 false 0 (c:Int))) w1)=>Q1W hW ht q1 hcl hk4)
 have hT0:0<10^kk:=Nat.pow_pos (by decide)
 have hQ:c / 10^kk<BB^21:=Nat.lt_of_le_of_lt (Nat.div_le_self _ _) hcl
 have hRl:c % 10^kk<BB^21:=Nat.lt_of_le_of_lt (Nat.mod_le _ _) hcl
 have k00:0<kk:=by omega
 have HH:=Lh (fun w1 τ i j bh (hC:Cut W σ τ i j kk (c / 10^kk) (c % 10^kk)) (hh:τ bh=none) (q1:St W (upd τ bh (.dec 0 false (-1) 5)) w1)=>Q1X hW hC hRl k00 hk4 hh q1)
 generalize cmpN (2*(c % 10^kk)) (10^kk)=u at HH hU
 generalize c / 10^kk=Q at HM HH hQ hU ⊢
 generalize c % 10^kk=R at HM HH hRl hR
 clear hT0 hRl
 replace hQ:=Lh hQ
 obtain ⟨K,hKe⟩:∃ K:Nat,(orN (orN (orN res 32) 16) 64)=K:=⟨_,rfl⟩
 have hKK:Hid (K<4096):=Lh (hKe ▸ Qv (Qv (Qv hres (by decide)) (by decide)) (by decide))
 have HV:=Lh (Q2F res 32 16 64 hres (by decide) (by decide) (by decide))
 rw [hKe] at HV ⊢
 have hRz:decide (R=0)=false:=by simp [hR]
 have hQz:decide (Q+1=0)=false:=by simp
 replace hU:=Lh hU
 clear h hb ha hr hres hcl hKe hR hnp
 go_enter Tryz.func86, Tryz.ntmps86
 go_wp2_with fail
 refine wp_loop_rounds 2 ?_
 iterate 2 (rw [rounds_succ];go_wp2_with fail)
 refine (HZ.out _ H0.out).mono ?_
 rintro r w_ ⟨rfl,hw_⟩
 subst hw_
 clear HZ
 go_wp2_with fail
 go_quiet (fail)
 have H2:=Lh (H0.out.drewN nq)
 clear d0 d2 f0 f2 k0 k1 k2 k3 k4 H0 a0
 generalize World.drewN _ nq=w2 at H2 ⊢
 obtain ⟨t,ht,hnt,q3⟩:=HT.out _ H2.out
 have H3:=Lh q3;clear q3 HT
 go_wp2_with fail
 rw [← ht]
 clear ht
 refine H3.out.mono ?_
 rintro r w3 ⟨rfl,q3⟩
 obtain ⟨⟨x3,y3⟩,i,j,hi,hj,q4⟩:=HM.out _ _ hnt q3
 have H4:=Lh q4;clear q3 q4 H3 HM H2
 go_wp2_with fail
 rw [← hi,← hj]
 clear hi hj
 refine H4.out.mono ?_
 rintro r w4 ⟨rfl,τ,q5,hC⟩
 have H5:=Lh q5;have HC:=Lh hC;clear q5 hC H4
 go_wp2_with fail
 refine (Q33 HC.out H5.out).mono ?_
 rintro r w5 ⟨rfl,q6⟩
 have H6:=Lh q6;clear q6 H5
 go_wp2_with fail
 refine (Q0g HC.out.2.1 H6.out).mono ?_
 rintro r w6 ⟨rfl,q7⟩
 have H7:=Lh q7;clear q7 H6
 rw [hRz]
 have g1:=(H7.out.ctx (HK.out.ext HC.out.2.2.1)).2.2.2.2
 have g2:=(H7.out.dec HC.out.1).2.1
 go_wp2_with fail
 go_region_held3 (fun x=>x.cell? ⟨bk,4,none⟩=some (.string (rndS md))∧x.cell? ⟨i,1,none⟩=some (.bool false)) (first | exact ⟨g1,g2⟩ | exact ⟨g3,g4⟩ | exact ⟨g5,g6⟩ | exact ⟨g7,g8⟩) (first | (go_at_call 131;refine (Q03 (by exact H7.out.sm ⟨rfl,rfl,rfl,rfl⟩)).mono ?_;rintro r w7 ⟨bh,rfl,hbh,q8⟩;have H8:=Lh q8;have HBH:=Lh hbh;have g3:=(q8.ctx (HK.out.ext (HC.out.2.2.1.trans (Ext.new hbh _)))).2.2.2.2;have g4:=(q8.dec (Ext.new hbh _ _ _ HC.out.1)).2.1;clear q8 hbh) | (go_at_call 111;refine (HH.out _ _ _ _ _ HC.out HBH.out (by exact H8.out.sm ⟨rfl,rfl,rfl,rfl⟩)).mono ?_;rintro r w8 ⟨rfl,q9⟩;have H9:=Lh q9;have g5:=(q9.ctx (HK.out.ext HC.out.2.2.1)).2.2.2.2;have g6:=(q9.dec HC.out.1).2.1;clear q9) | (go_at_call 97;refine (Q34 hW HC.out hQ.out m5 (by exact H9.out.sm ⟨rfl,rfl,rfl,rfl⟩) u).mono ?_;rintro r w9 ⟨rfl,q10⟩;have H10:=Lh q10;have g7:=(q10.ctx (HK.out.ext HC.out.2.2.1)).2.2.2.2;have g8:=(q10.dec HC.out.1).2.1;clear q10;rw [hU.out]))
 clear H7
 go_wp2_with fail
 refine (Q4O H10.out).mono ?_
 rintro r w10 ⟨b1,rfl,hb1,q11⟩
 have H11:=Lh (Q9S hW HC.out hQ.out hb1 q11);clear q11 hb1 H10 HC
 go_wp2_with fail
 refine H11.out.mono ?_
 rintro r w11 ⟨rfl,τ1,q12,hC⟩
 have H12:=Lh q12;have HC:=Lh hC;clear q12 hC H11
 go_wp2_with fail
 refine (Q0g HC.out.1 H12.out).mono ?_
 rintro r w12 ⟨rfl,q13⟩
 have H13:=Lh q13;clear q13
 rw [hQz]
 go_wp2_with fail
 refine (Q35 HC.out (Nat.lt_of_lt_of_le (show Q+1<BB^21+1 by have:=hQ.out;omega) (by unfold BB;decide)) HB.out H13.out).mono ?_
 rintro r w13 ⟨rfl,⟨x14,y14⟩,q14⟩
 have H14:=Lh q14;clear q14 H13
 have HI:=Lh (Qt (k:=K) hKK.out)
 have HJ:=Lh (Qo (k:=K) hKK.out)
 have HO:=Lh (Qr K 8 hKK.out (by decide))
 obtain ⟨i16,hi⟩:∃ i16,hasB K 16=i16:=⟨_,rfl⟩
 obtain ⟨i32,hj⟩:∃ i32,hasB K 32=i32:=⟨_,rfl⟩
 have hF:finK K=if i16=true∧i32=true then orN K 8 else K:=by unfold finK;rw [hi,hj]
 rw [hi] at HI;rw [hj] at HJ
 have hF:=Lh hF
 clear hi hj
 go_wp2_with fail
 rw [show bits .or .u32 (bits .or .u32 (bits .or .u32 (res:Int) 32) 16) 64=((K:Nat):Int) from HV.out]
 refine (HI.out _).mono ?_
 rintro r w_ ⟨rfl,hw_⟩
 subst hw_
 clear HI
 cases i16
 ·go_wp2_with fail
  go_ret
  exact ⟨by rw [hF.out];rfl,H14.out _⟩
 ·go_wp2_with fail
  refine (HJ.out _).mono ?_
  rintro r w_ ⟨rfl,hw_⟩
  subst hw_
  clear HJ
  cases i32
  ·go_wp2_with fail
   go_ret
   exact ⟨by rw [hF.out];rfl,H14.out _⟩
  ·go_wp2_with fail
   go_ret
   exact ⟨by rw [hF.out];show Ending.returned (Value.int .u32 (bits .or .u32 (K:Int) 8))=_;rw [show bits .or .u32 (K:Int) 8=((orN K 8:Nat):Int) from HO.out];rfl,H14.out _⟩
end Go.Proofs.YtpebcmfpehdafaaGreatDoor
