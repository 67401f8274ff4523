/- a part of the proof -/
import Derived.Test.YtpebcmfpehdafaaGreatDoorZ8
import Derived.Test.YtpebcmfpehdafaaGreatDoorZ18
set_option linter.all false
set_option maxRecDepth 100000
set_option maxHeartbeats 16000000
namespace Go.Proofs.YtpebcmfpehdafaaGreatDoor
open Go Go.RowKit
def RC (σ τ:Sg)(ty td tm:Nat)(Q d:Nat)(R:Int):Prop:=τ ty=some (.big (Q:Int))∧τ td=some (.raw (.cells #[.int .i64 (d:Int)] 2))∧τ tm=some (.big R)∧Ext σ τ∧(σ ty=none∧σ td=none∧σ tm=none)∧ty≠td∧ty≠tm∧td≠tm
theorem Q37 {W:World}{σ:Sg}{w:World}(h:St W σ w)(d:Nat):∃ td ty tm,td=w.heap.size∧ty=td+1∧tm=ty+1∧∃ τ,RC σ τ ty td tm 0 d 0∧St W τ (((w.alloc (.cells #[.int .i64 (d:Int)] 2)).alloc (.cells #[.bool false,.slice none 0 0] 69)).alloc (.cells #[.bool false,.slice none 0 0] 69)):=by
 have n1:=h.none_new
 have h2:=h.alloc (.cells #[.int .i64 (d:Int)] 2)
 have n2:=h2.none_new
 have h3:=h2.alloc_big 69
 have n3:=h3.none_new
 have h4:=h3.alloc_big 69
 simp only [Q01] at n2 h3 n3 h4
 obtain ⟨td,htd⟩:∃ td,td=w.heap.size:=⟨_,rfl⟩
 rw [← htd] at n1 n2 n3 h3 h4
 obtain ⟨ty,hty⟩:∃ ty,ty=td+1:=⟨_,rfl⟩
 obtain ⟨tm,htm⟩:∃ tm,tm=ty+1:=⟨_,rfl⟩
 rw [show td+1+1=tm by omega,← hty] at n3 h4
 rw [← hty] at n2
 have e1:ty≠td:=by omega
 have e2:ty≠tm:=by omega
 have e3:td≠tm:=by omega
 rw [Qa _ _ e1] at n2
 rw [Qa _ _ e2.symm,Qa _ _ e3.symm] at n3
 refine ⟨td,ty,tm,htd,hty,htm,_,⟨by rw [Qa _ _ e2,Q1];rfl,by rw [Qa _ _ e3,Qa _ _ e1.symm,Q1],Q1 _ _ _,?_,⟨n2,n1,n3⟩,e1,e2,e3⟩,h4⟩
 exact ((Ext.new n1 _).upd_skip n2 _).upd_skip n3 _
theorem Q5B {W:World}{σ τ:Sg}{w:World}{ty td tm Q d k:Nat}{R:Int}(hW:GW W)(hC:RC σ τ ty td tm Q d R)(h:St W τ w)(hk:k≤423):Calls Tryz.prog 91 #[.int .i64 (k:Int),.pointer (some ⟨ty,0,none⟩)] w fun r w'=>r=.returned (.pointer (some ⟨ty,0,none⟩))∧∃ τ',RC σ τ' ty td tm (10^k) d R∧St W τ' w':=by
 obtain ⟨c1,c2,c3,c4,⟨n1,n2,n3⟩,e1,e2,e3⟩:=hC
 refine (Q00 hW h (Num.big c1) k hk).mono ?_
 rintro r w' ⟨rfl,q⟩
 exact ⟨rfl,_,⟨QQ c1 _,by rw [Qh _ _ e1.symm];exact c2,by rw [Qh _ _ e2.symm];exact c3,c4.setN_skip n1 _,⟨n1,n2,n3⟩,e1,e2,e3⟩,q⟩
theorem Q5C {W:World}{σ τ:Sg}{w:World}{ty td tm T d c b:Nat}{R e:Int}{f:Int}{n:Bool}(hW:GW W)(hC:RC σ τ ty td tm T d R)(hb:σ b=some (.dec f n e (c:Int)))(h:St W τ w)(hT:T≠0)(hT2:T<BB^22)(hc:c<BB^21):Calls Tryz.prog 94 #[.pointer (some ⟨ty,0,none⟩),.pointer (some ⟨b,3,none⟩),.pointer (some ⟨ty,0,none⟩),.pointer (some ⟨tm,0,none⟩)] w fun r w'=>r=.returned (.tuple #[.pointer (some ⟨ty,0,none⟩),.pointer (some ⟨tm,0,none⟩)])∧∃ τ',RC σ τ' ty td tm (c / T) d ((c % T:Nat):Int)∧St W τ' w':=by
 obtain ⟨c1,c2,c3,c4,⟨n1,n2,n3⟩,e1,e2,e3⟩:=hC
 have i1:ty≠b:=by rintro rfl;rw [hb] at n1;cases n1
 have i2:tm≠b:=by rintro rfl;rw [hb] at n3;cases n3
 refine Q1r ((Q4e hW h.drew (Num.big c1) (Num.big c3) (Num.dec (c4 _ _ hb)) e2 i1 i2 hT (Q0B hc (by decide)) (b39 hT2 (by decide))).mono ?_)
 rintro r w' ⟨rfl,q⟩
 exact ⟨rfl,_,⟨by rw [Qh _ _ e2,QQ c1],by rw [Qh _ _ e3,Qh _ _ e1.symm];exact c2,QQ (by rw [Qh _ _ e2.symm];exact c3) _,(c4.setN_skip n1 _).setN_skip n3 _,⟨n1,n2,n3⟩,e1,e2,e3⟩,q⟩
theorem Q4f {W:World}{σ τ:Sg}{w:World}{ty td tm Q d R:Nat}(hC:RC σ τ ty td tm Q d (R:Int))(h:St W τ w):Calls Tryz.prog 95 #[.pointer (some ⟨tm,0,none⟩)] w fun r w'=>r=.returned (.int .i64 (if R=0 then 0 else 1))∧St W τ w' :=
 (Q13 (Q0Z h (Num.big hC.2.2.1))).mono fun r w' ⟨a,k⟩=>⟨by rw [a];unfold signI;by_cases e:R=0 <;> simp [e],k ▸ h⟩
def RD (σ τ:Sg)(ty td tm Q d R t:Nat):Prop:=RC σ τ ty td tm Q d (R:Int)∧τ t=some (.dec 0 false (-(d:Int)) (R:Int))∧t≠ty∧σ t=none
theorem Q82 {W:World}{σ τ:Sg}{w:World}{ty td tm Q d R:Nat}(hC:RC σ τ ty td tm Q d (R:Int))(h:St W τ w)(hR:R<BB^22):∃ t,t=w.heap.size∧Calls Tryz.prog 119 #[.pointer (some ⟨t,3,none⟩),.pointer (some ⟨tm,0,none⟩)] (w.alloc (.cells #[.int .i8 0,.bool false,.int .i32 0,.bool false,.slice none 0 0] 71)) fun r w'=>r=.returned (.pointer (some ⟨t,3,none⟩))∧(w'.cell? ⟨t,2,none⟩=some (.int .i32 0)∧w'.frozen? ⟨t,2,none⟩=false)∧w'.cell? ⟨td,0,none⟩=some (.int .i64 (d:Int))∧∃ τ',RD σ τ' ty td tm Q d R t∧St W τ' (w'.setCell ⟨t,2,none⟩ (.int .i32 (-(d:Int)))):=by
 have hn:=h.none_new
 obtain ⟨c1,c2,c3,c4,⟨n1,n2,n3⟩,e1,e2,e3⟩:=hC
 have i1:w.heap.size≠tm:=by intro e;rw [e,c3] at hn;cases hn
 have i2:w.heap.size≠ty:=by intro e;rw [e,c1] at hn;cases hn
 have i3:w.heap.size≠td:=by intro e;rw [e,c2] at hn;cases hn
 refine ⟨_,rfl,Q1i ((QS (h.alloc_dec 71 0 0 false).drew (Num.dec (Q1 _ _ _)) (Num.big (by rw [Qa _ _ i1.symm];exact c3)) i1 (by rw [Int.natAbs_natCast];exact Q0B hR (by decide))).mono ?_)⟩
 rintro r w' ⟨rfl,q⟩
 rw [Q1G] at q
 obtain ⟨_,_,x2,_,_,y2⟩:=q.dec (Q1 _ _ _)
 have hr:=q.raw (b:=td) (by rw [Qa _ _ i3.symm];exact c2)
 have hs:σ w.heap.size=none:=by
  cases hc:σ w.heap.size with
  | none=>rfl
  | some o=>rw [c4 _ _ hc] at hn;cases hn
 refine ⟨rfl,⟨x2,y2⟩,by unfold World.cell?;rw [hr];rfl,_,⟨⟨?_,?_,?_,?_,⟨n1,n2,n3⟩,e1,e2,e3⟩,Q1 _ _ _,i2,hs⟩,(q.setExp (Q1 _ _ _) _).upd2⟩
 ·rw [Qa _ _ i2.symm];exact c1
 ·rw [Qa _ _ i3.symm];exact c2
 ·rw [Qa _ _ i1.symm];exact c3
 ·exact c4.upd_skip hs _
theorem Q6g {W:World}{σ τ:Sg}{w:World}{ty td tm Q d R t bh:Nat}(hW:GW W)(hC:RD σ τ ty td tm Q d R t)(hR:R<BB^21)(h0:0<d)(hk:d≤423)(hh:τ bh=none)(h:St W (upd τ bh (.dec 0 false (-1) 5)) w):Calls Tryz.prog 111 #[.pointer (some ⟨t,0,none⟩),.pointer (some ⟨bh,0,none⟩)] w fun r w'=>r=.returned (.int .i64 (cmpN (2*R) (10^d)))∧St W τ w':=by
 have ne:t≠bh:=by rintro rfl;rw [hC.2.1] at hh;cases hh
 rw [← Q3K h0]
 exact (Q31 hW h (by rw [Qa _ _ ne];exact hC.2.1) (c':=5) (Q1 _ _ _) ne hR (by unfold BB;decide) (by omega) (by decide) (by omega)).mono fun r w' ⟨a,k⟩=>⟨a,k.less (Ext.new hh _)⟩
theorem Q4V {W:World}{σ τ:Sg}{w:World}{ty td tm Q d:Nat}{R:Int}(hW:GW W)(hC:RC σ τ ty td tm Q d R)(hQ:Q<BB^21){md:Nat}(hm:md<8)(h:St W τ w)(n:Bool)(u:Int):Calls Tryz.prog 97 #[.string (rndS md),.pointer (some ⟨ty,0,none⟩),.bool n,.int .i64 u] w fun r w'=>r=.returned (.bool (upR md n Q u))∧St W τ w' :=
 Q0d hW h (Num.big hC.1) (Q0B hQ (by decide)) md hm n u
theorem Q9T {W:World}{σ τ:Sg}{w:World}{ty td tm Q d:Nat}{R:Int}(hW:GW W)(hC:RC σ τ ty td tm Q d R)(hQ:Q+1<BB^21)(hd:d<2^62)(h:St W τ w):Calls Tryz.prog 162 #[.pointer (some ⟨ty,0,none⟩),.pointer (some ⟨td,0,none⟩)] w fun r w'=>r=.returned (.tuple #[])∧∃ τ',RC σ τ' ty td tm (if ndg Q<ndg (Q+1) then (Q+1) / 10 else Q+1) (if ndg Q<ndg (Q+1) then d+1 else d) R∧St W τ' w':=by
 obtain ⟨c1,c2,c3,c4,⟨n1,n2,n3⟩,e1,e2,e3⟩:=hC
 refine (Q2k hW h (Num.big c1) c2 hQ hd).mono ?_
 rintro r w' ⟨rfl,q⟩
 refine ⟨rfl,_,⟨?_,Q1 _ _ _,?_,(c4.setN_skip n1 _).upd_skip n2 _,⟨n1,n2,n3⟩,e1,e2,e3⟩,q⟩
 ·rw [Qa _ _ e1,QQ c1]
 ·rw [Qa _ _ e3.symm,Qh _ _ e2.symm];exact c3
theorem Q5D {W:World}{σ τ:Sg}{w:World}{ty td tm Q d b:Nat}{R:Int}{f:Int}{n:Bool}{e c:Int}(hC:RC σ τ ty td tm Q d R)(hQ:Q<BB^22)(hb:σ b=some (.dec f n e c))(h:St W τ w):Calls Tryz.prog 119 #[.pointer (some ⟨b,3,none⟩),.pointer (some ⟨ty,0,none⟩)] w fun r w'=>r=.returned (.pointer (some ⟨b,3,none⟩))∧w'.cell? ⟨b,2,none⟩=some (.int .i32 e)∧w'.cell? ⟨td,0,none⟩=some (.int .i64 (d:Int))∧St W (upd σ b (.dec f n e (Q:Int))) w':=by
 obtain ⟨c1,c2,c3,c4,⟨n1,n2,n3⟩,e1,e2,e3⟩:=hC
 have ne:b≠ty:=by rintro rfl;rw [hb] at n1;cases n1
 have ne2:b≠td:=by rintro rfl;rw [hb] at n2;cases n2
 refine Q1i ((QS h.drew (Num.dec (c4 _ _ hb)) (Num.big c1) ne (by rw [Int.natAbs_natCast];exact Q0B hQ (by decide))).mono ?_)
 rintro r w' ⟨rfl,k⟩
 have hr:=k.raw (b:=td) (by rw [Qh _ _ ne2.symm];exact c2)
 have k2:St W (upd σ b (.dec f n e (Q:Int))) w':=(k.less (c4.setN b _)).ext fun x=>by
  by_cases e:x=b
  ·subst e;rw [Q1,Q07 hb]
  ·rw [Qa _ _ e,Qh _ _ e]
 exact ⟨rfl,(k2.dec (Q1 _ _ _)).2.2.1,by unfold World.cell?;rw [hr];rfl,k2⟩
theorem Q2n {W:World}{σ:Sg}{w:World}(hW:GW W){b bx bk:Nat}{f:Int}{n:Bool}{e:Int}{c p md k d:Nat}{mx mn tr:Int}{D:Ob}(hS:Calls Tryz.prog 82 #[.pointer (some ⟨b,0,none⟩),.pointer (some ⟨bx,0,none⟩)] w fun r w'=>r=.returned (.pointer (some ⟨b,0,none⟩))∧St W σ w')(hb:σ b=some (.dec f n e (c:Int)))(hx:σ bx=some (.dec f n e (c:Int)))(hk:Ctx σ bk p mx mn tr md)(hcl:c<BB^20)(he:e.natAbs≤40000){fl:Bool}(hp:fl=true→p≠0)(hz:¬ (f=0∧c=0))(ha:mn≤e+ndg c - 1)(hd:ndg c=p+d)(hd0:0<d)(hR:c % 10^d=0)(hkl:k<4096)(hX:SX W (upd σ b (.dec f n e ((c / 10^d:Nat):Int))) b bk (-1) 64 [e,((d:Nat):Int)] k D) :
  Calls Tryz.prog 120 #[.string (rndS md),.pointer (some ⟨bk,0,none⟩),.pointer (some ⟨b,0,none⟩),.pointer (some ⟨bx,0,none⟩),.bool fl] w fun r w'=>r=.returned (.int .u32 ((orN 64 k:Nat):Int))∧St W (upd σ b D) w':=by
 have hcl0:=hcl
 replace hcl:c<BB^21:=Nat.lt_of_lt_of_le hcl (Nat.pow_le_pow_right (by unfold BB;decide) (by decide))
 have HV:=Lh (Qr 64 k (by decide) hkl)
 obtain ⟨K,hKe⟩:∃ K:Nat,orN 64 k=K:=⟨_,rfl⟩
 rw [hKe] at HV ⊢
 clear hKe
 have hsg:decSgn f n c≠0:=by unfold decSgn;rw [if_neg hz];cases n <;> simp
 have hn1':=QG hcl
 have hT0:10^d≠0:=Nat.pos_iff_ne_zero.1 (Nat.pow_pos (by decide))
 have hT2:10^d<BB^22:=Q27 (by omega)
 have hQ1:c / 10^d+1<BB^21:=by
  have:=Nat.div_le_self c (10^d)
  exact Nat.lt_of_le_of_lt (show c / 10^d+1≤BB^20 by omega) (by unfold BB;decide)
 have hR1:c % 10^d<BB^21:=Nat.lt_of_le_of_lt (Nat.mod_le _ _) hcl
 have HTen:=Lh (fun w1 τ ty td tm Q R (hC:RC σ τ ty td tm Q d R) (q1:St W τ w1)=>Q5B hW hC q1 (k:=d) (by omega))
 have HQuo:=Lh (fun w1 τ ty td tm R (hC:RC σ τ ty td tm (10^d) d R) (q1:St W τ w1)=>Q5C hW hC hb q1 hT0 hT2 hcl)
 have hq1l:c / 10^d<BB^22:=Nat.lt_trans (by omega) (show BB^21<BB^22 by unfold BB;decide)
 have hR22:c % 10^d<BB^22:=Nat.lt_trans hR1 (by unfold BB;decide)
 generalize c / 10^d=Q at HQuo hQ1 hX hq1l
 generalize c % 10^d=R at HQuo hR1 hR22 hR
 generalize 10^d=T at HTen HQuo hT0 hT2
 clear hT0 hT2 hR1 hQ1
 replace hR22:=Lh hR22;replace hq1l:=Lh hq1l
 have HBb:=Lh hb;have HBx:=Lh hx
 have HS:=Lh hS
 have HD:=Lh (fun w1 (q1:St W σ w1)=>Qs hW q1 hx hcl)
 have HG:Hid (∀ w1,St W σ w1→(Calls Tryz.prog 109 #[.pointer (some ⟨bx,0,none⟩)] w1 fun r w'=>r=.returned (.int .i64 (decSgn f n c))∧w'=w1)∧w1.cell? ⟨b,2,none⟩=some (.int .i32 e)∧w1.cell? ⟨bx,2,none⟩=some (.int .i32 e)∧w1.cell? ⟨bk,0,none⟩=some (.int .u32 (p:Int))∧w1.cell? ⟨bk,2,none⟩=some (.int .i32 mn)):=fun w1 q1=>⟨QK q1 hx,(q1.dec hb).2.2.1,(q1.dec hx).2.2.1,(q1.ctx hk).1,(q1.ctx hk).2.2.1⟩
 have HE:Hid (∀ w1,St W σ w1→w1.cell? ⟨b,2,none⟩=some (.int .i32 e)):=fun w1 q1=>(q1.dec hb).2.2.1
 have HXX:=Lh hX
 have hn1:=QG hcl
 have hn2:=Qi c
 have hp0:p≤1000:=by obtain ⟨_,_,q,_⟩:=hk;exact q
 have hm0 : -90000≤mn∧mn≤0:=by obtain ⟨_,_,_,_,_,q,q',_⟩:=hk;exact ⟨q',q⟩
 generalize ndg c=nd at HD HXX hn1 hn2 ha hd
 generalize decSgn f n c=sg at HG hsg
 clear hS hb hx hk hcl hX hcl0 hn1'
 have hpp:fl=true→¬ ((p:Int)=0):=fun h=>by have:=hp h;omega
 clear hp
 cases fl
 all_goals
  try have hp1:=hpp rfl
  clear hpp
  have hdd:(nd:Int) - (p:Int)=(d:Int):=by omega
  have hlt:p<nd:=by omega
  clear hd
  go_enter Tryz.func120, Tryz.ntmps120
  go_wp2_with fail
  refine HS.out.mono ?_
  rintro r w0 ⟨rfl,q0⟩
  have H0:=Lh q0;clear q0 HS
  go_wp2_with fail
  refine (HD.out _ H0.out).mono ?_
  rintro r w1 ⟨rfl,q1⟩
  obtain ⟨hs,x2,x2',x0,y2⟩:=HG.out _ q1
  have H1:=Lh q1;replace hs:=Lh hs;clear q1 H0 HD HG
  go_wp2_with fail
  refine hs.out.mono ?_
  rintro r w_ ⟨rfl,hw_⟩
  subst hw_
  clear hs
  obtain ⟨td,ty,tm,htd,hty,htm,τ1,hC1,q2⟩:=Q37 H1.out d
  have H2:=Lh q2;have C1:=Lh hC1
  have a0:(((w_.alloc (.cells #[.int .i64 (d:Int)] 2)).alloc (.cells #[.bool false,.slice none 0 0] 69)).alloc (.cells #[.bool false,.slice none 0 0] 69)).cell? ⟨td,0,none⟩=some (.int .i64 (d:Int)):=by
   have hr:=q2.raw hC1.2.1
   unfold World.cell?;rw [hr];rfl
  clear q2 hC1
  go_wp2_with fail
  rw [← htd,← hty,← htm]
  clear htd hty htm
  generalize ((w_.alloc (.cells #[.int .i64 (d:Int)] 2)).alloc (.cells #[.bool false,.slice none 0 0] 69)).alloc (.cells #[.bool false,.slice none 0 0] 69)=w2 at H2 a0 ⊢
  refine (HTen.out _ _ _ _ _ _ _ C1.out H2.out).mono ?_
  rintro r w3 ⟨rfl,τ2,hC2,q3⟩
  have H3:=Lh q3;have C2:=Lh hC2;clear q3 hC2 H2 C1 HTen
  go_wp2_with fail
  refine (HQuo.out _ _ _ _ _ _ C2.out H3.out).mono ?_
  rintro r w4 ⟨rfl,τ3,hC3,q4⟩
  have H4:=Lh q4;have C3:=Lh hC3;clear q4 hC3 H3 C2 HQuo
  go_wp2_with fail
  refine (Q4f C3.out H4.out).mono ?_
  rintro r w5 ⟨rfl,q5⟩
  have H5:=Lh q5;clear q5 H4
  rw [if_pos hR]
  go_wp2_with fail
  refine (Q5D C3.out hq1l.out HBb.out H5.out).mono ?_
  rintro r w12 ⟨rfl,x12,a12,q12⟩
  have H12:=Lh q12;clear q12
  go_wp2_with fail
  have HWe:=Lh (IntWalk.i64_in e (by omega))
  go_region_with (first | (go_at_call 86;rw [HWe.out];refine (HXX.out _ _ 2 H12.out.none_new (H12.out.alloc _).drew).mono ?_;rintro r w13 ⟨rfl,q13⟩;have H13:=Lh q13;clear q13))
  all_goals (clear HXX;go_wp2_with fail;go_ret;exact ⟨congrArg (fun v=>Ending.returned (Value.int .u32 v)) HV.out,H13.out.upd2⟩)
end Go.Proofs.YtpebcmfpehdafaaGreatDoor
