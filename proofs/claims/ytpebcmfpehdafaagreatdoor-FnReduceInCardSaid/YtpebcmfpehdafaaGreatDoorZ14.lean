/- a part of the proof -/
import Derived.Test.YtpebcmfpehdafaaGreatDoorZ7
import Derived.Test.YtpebcmfpehdafaaGreatDoorZ13
set_option linter.all false
set_option maxRecDepth 100000
set_option maxHeartbeats 16000000
namespace Go.Proofs.YtpebcmfpehdafaaGreatDoor
open Go Go.RowKit
theorem Q7Z {W:World}{σ:Sg}{w:World}(hW:GW W)(h:St W σ w){b bi bf:Nat}{n ni nf:Bool}{ei ef ci cf:Int}{k c:Nat}(hb:σ b=some (.dec 0 n (-(k:Int)) (c:Int)))(hi:σ bi=some (.dec 0 ni ei ci))(hf:σ bf=some (.dec 0 nf ef cf))(n1:b≠bi)(n2:b≠bf)(n3:bi≠bf)(hc:c<BB^21)(hk:k≤423)(hlt:ndg c<k) :
  Calls Tryz.prog 108 #[.pointer (some ⟨b,0,none⟩),.pointer (some ⟨bi,0,none⟩),.pointer (some ⟨bf,0,none⟩)] w fun r w'=>r=.returned (.tuple #[])∧St W (upd (upd σ bi (.dec 0 n 0 0)) bf (.dec 0 n (-(k:Int)) (c:Int))) w':=by
 obtain ⟨_,c1,c2,_,_,_⟩:=h.dec hb
 have HD:=Lh (Qs hW h hb hc)
 have HS:Hid (∀ w1,St W (upd σ bi (.dec 0 n 0 ci)) w1→Calls Tryz.prog 154 #[.pointer (some ⟨bi,3,none⟩),.int .i64 0] w1 fun r w'=>r=.returned (.pointer (some ⟨bi,3,none⟩))∧St W (upd σ bi (.dec 0 n 0 0)) w'):=fun w1 k1 =>
  Q0k ((Q0j k1 (Num.dec (Q1 _ _ _)) (v:=0) (by decide)).mono (by rintro r w' ⟨rfl,k2⟩;exact ⟨rfl,k2.decN⟩))
 have HT:Hid (∀ w1,St W (upd σ bi (.dec 0 n 0 0)) w1→Calls Tryz.prog 82 #[.pointer (some ⟨bf,0,none⟩),.pointer (some ⟨b,0,none⟩)] w1 fun r w'=>r=.returned (.pointer (some ⟨bf,0,none⟩))∧St W (upd (upd σ bi (.dec 0 n 0 0)) bf (.dec 0 n (-(k:Int)) (c:Int))) w'):=fun w1 k1 =>
  Q2X k1 (by rw [Qa _ _ n3.symm];exact hf) (by rw [Qa _ _ n1];exact hb) n2.symm (by rw [Int.natAbs_natCast];exact Q0B hc (by decide))
 have HI:Hid (∀ w1,St W σ w1→w1.cell? ⟨b,2,none⟩=some (.int .i32 (-(k:Int)))∧(∃ v,w1.cell? ⟨bi,1,none⟩=some v)∧w1.frozen? ⟨bi,1,none⟩=false∧w1.frozen? ⟨bi,2,none⟩=false∧w1.cell? ⟨bi,1,none⟩=some (.bool ni)∧w1.cell? ⟨bi,2,none⟩=some (.int .i32 ei)∧St W (upd σ bi (.dec 0 n 0 ci)) ((w1.setCell ⟨bi,1,none⟩ (.bool n)).setCell ⟨bi,2,none⟩ (.int .i32 0))):=fun w1 k1=>by
  obtain ⟨_,d1,d2,_,g1,g2⟩:=k1.dec hi
  exact ⟨(k1.dec hb).2.2.1,⟨_,d1⟩,g1,g2,d1,d2,((k1.setNeg hi n).setExp (Q1 _ _ _) 0).upd2⟩
 generalize ndg c=nd at HD hlt
 have hw1:wrap64 (-(-(k:Int)))=(k:Int):=by unfold wrap64;omega
 have hle:¬ (0<(-(k:Int))):=by omega
 clear h hb hi hf hc
 go_enter Tryz.func108, Tryz.ntmps108
 go_wp2_with fail
 refine HD.out.mono ?_
 rintro r w1 ⟨rfl,k1⟩
 obtain ⟨d2,⟨v,dv⟩,g1,g2,e1,e2,H1⟩:=HI.out _ k1
 replace H1:=Lh H1
 clear k1 HD HI dv
 go_wp2_with fail
 refine (HS.out _ H1.out).mono ?_
 rintro r w2 ⟨rfl,k2⟩
 have H2:=Lh k2;clear k2 H1 HS
 go_wp2_with fail
 refine (HT.out _ H2.out).mono ?_
 rintro r w3 ⟨rfl,k3⟩
 have H3:=Lh k3;clear k3 H2 HT
 go_wp2_with fail
 go_returns
 exact ⟨rfl,H3.out⟩
theorem Q75 {W:World}{σ:Sg}{w:World}(hW:GW W)(h:St W σ w){b bi bf:Nat}{n ni nf:Bool}{ei ef ci cf:Int}{k c:Nat}(hb:σ b=some (.dec 0 n (-(k:Int)) (c:Int)))(hi:σ bi=some (.dec 0 ni ei ci))(hf:σ bf=some (.dec 0 nf ef cf))(n1:b≠bi)(n2:b≠bf)(n3:bi≠bf)(hc:c<BB^21)(hk:k≤423)(hge:k≤ndg c) :
  Calls Tryz.prog 108 #[.pointer (some ⟨b,0,none⟩),.pointer (some ⟨bi,0,none⟩),.pointer (some ⟨bf,0,none⟩)] w fun r w'=>r=.returned (.tuple #[])∧St W (upd (upd σ bi (.dec 0 n 0 ((c / 10^k:Nat):Int))) bf (.dec 0 n (-(k:Int)) ((c % 10^k:Nat):Int))) w':=by
 obtain ⟨_,c1,c2,_,_,_⟩:=h.dec hb
 have HD:=Lh (Qs hW h hb hc)
 have hT:=Q27 hk
 have hT0:10^k≠0:=Nat.pos_iff_ne_zero.1 (Nat.pow_pos (by decide))
 have HE:Hid (∀ w1,St W σ w1→∃ t,t=w1.heap.size∧σ t=none∧Calls Tryz.prog 91 #[.int .i64 (k:Int),.pointer (some ⟨t,0,none⟩)] (w1.alloc (.cells #[.bool false,.slice none 0 0] 69)) fun r w'=>r=.returned (.pointer (some ⟨t,0,none⟩))∧St W (upd σ t (.big ((10^k:Nat):Int))) w'):=fun w1 k1=>by
  refine ⟨_,rfl,k1.none_new,(Q00 hW (k1.alloc_big 69) (Num.big (Q1 _ _ _)) k hk).mono ?_⟩
  rintro r w' ⟨rfl,k2⟩
  exact ⟨rfl,k2.big_new⟩
 have HI:Hid (∀ w1 t T,σ t=none→St W (upd σ t (.big T)) w1→t≠bi∧t≠b∧t≠bf∧w1.cell? ⟨b,2,none⟩=some (.int .i32 (-(k:Int)))∧w1.frozen? ⟨bi,1,none⟩=false∧w1.frozen? ⟨bi,2,none⟩=false∧w1.cell? ⟨bi,1,none⟩=some (.bool ni)∧w1.cell? ⟨bi,2,none⟩=some (.int .i32 ei)∧St W (upd (upd σ t (.big T)) bi (.dec 0 n 0 ci)) ((w1.setCell ⟨bi,2,none⟩ (.int .i32 0)).setCell ⟨bi,1,none⟩ (.bool n))):=fun w1 t T ht k1=>by
  have e1:t≠bi:=by rintro rfl;rw [hi] at ht;cases ht
  have e2:t≠b:=by rintro rfl;rw [hb] at ht;cases ht
  have e3:t≠bf:=by rintro rfl;rw [hf] at ht;cases ht
  have hi':(upd σ t (.big T)) bi=some (.dec 0 ni ei ci):=by rw [Qa _ _ e1.symm];exact hi
  have hb':(upd σ t (.big T)) b=some (.dec 0 n (-(k:Int)) (c:Int)):=by rw [Qa _ _ e2.symm];exact hb
  obtain ⟨_,d1,d2,_,g1,g2⟩:=k1.dec hi'
  exact ⟨e1,e2,e3,(k1.dec hb').2.2.1,g1,g2,d1,d2,((k1.setExp hi' 0).setNeg (Q1 _ _ _) n).upd2⟩
 have HQ:Hid (∀ w1 t,t≠bi→t≠b→t≠bf→St W (upd (upd σ t (.big ((10^k:Nat):Int))) bi (.dec 0 n 0 ci)) w1→Calls Tryz.prog 94 #[.pointer (some ⟨bi,3,none⟩),.pointer (some ⟨b,3,none⟩),.pointer (some ⟨t,0,none⟩),.pointer (some ⟨bf,3,none⟩)] w1 fun r w'=>r=.returned (.tuple #[.pointer (some ⟨bi,3,none⟩),.pointer (some ⟨bf,3,none⟩)])∧w'.cell? ⟨b,2,none⟩=some (.int .i32 (-(k:Int)))∧(w'.cell? ⟨bf,1,none⟩=some (.bool nf)∧w'.frozen? ⟨bf,1,none⟩=false)∧(w'.cell? ⟨bf,2,none⟩=some (.int .i32 ef)∧w'.frozen? ⟨bf,2,none⟩=false)∧St W (upd (upd (upd σ t (.big ((10^k:Nat):Int))) bi (.dec 0 n 0 ((c / 10^k:Nat):Int))) bf (.dec 0 n (-(k:Int)) ((c % 10^k:Nat):Int))) ((w'.setCell ⟨bf,2,none⟩ (.int .i32 (-(k:Int)))).setCell ⟨bf,1,none⟩ (.bool n))):=fun w1 t e1 e2 e3 k1=>by
  have hb':(upd (upd σ t (.big ((10^k:Nat):Int))) bi (.dec 0 n 0 ci)) b=some (.dec 0 n (-(k:Int)) (c:Int)):=by rw [Qa _ _ n1,Qa _ _ e2.symm];exact hb
  have hf':(upd (upd σ t (.big ((10^k:Nat):Int))) bi (.dec 0 n 0 ci)) bf=some (.dec 0 nf ef cf):=by rw [Qa _ _ n3.symm,Qa _ _ e3.symm];exact hf
  refine Q1r ((Q0K hW k1.drew (Num.dec (Q1 _ _ _)) (Num.dec hf') (Num.dec hb') n3 n1.symm n2.symm (Num.big (v:=((10^k:Nat):Int)) (by rw [Qa _ _ e1,Q1])) e1.symm e3.symm hT0 (Q0B hc (by decide)) (b39 hT (by decide))).mono ?_)
  rintro r w' ⟨rfl,k2⟩
  rw [Q1G] at k2
  have hf2:(upd (upd σ t (.big ((10^k:Nat):Int))) bi (.dec 0 n 0 ((c / 10^k:Nat):Int))) bf=some (.dec 0 nf ef cf):=by rw [Qa _ _ n3.symm,Qa _ _ e3.symm];exact hf
  have k3:St W (upd (upd (upd σ t (.big ((10^k:Nat):Int))) bi (.dec 0 n 0 ((c / 10^k:Nat):Int))) bf (.dec 0 nf ef ((c % 10^k:Nat):Int))) w':=k2.ext fun i=>by
   by_cases e:i=bf
   ·subst e;rw [Q1,Q07 hf2]
   ·rw [Qa _ _ e,Qh _ _ e]
  obtain ⟨_,d1,d2,_,g1,g2⟩:=k3.dec (Q1 _ _ _)
  refine ⟨rfl,(k3.dec (b:=b) (by rw [Qa _ _ n2,Qa _ _ n1,Qa _ _ e2.symm];exact hb)).2.2.1,⟨d1,g1⟩,⟨d2,g2⟩,((k3.setExp (Q1 _ _ _) (-(k:Int))).setNeg (by exact Q1 _ _ _) n).upd2.ext fun i=>by rw [Q04]⟩
 have HX:Hid (∀ w' t,σ t=none→t≠bi→t≠bf→St W (upd (upd (upd σ t (.big ((10^k:Nat):Int))) bi (.dec 0 n 0 ((c / 10^k:Nat):Int))) bf (.dec 0 n (-(k:Int)) ((c % 10^k:Nat):Int))) w'→St W (upd (upd σ bi (.dec 0 n 0 ((c / 10^k:Nat):Int))) bf (.dec 0 n (-(k:Int)) ((c % 10^k:Nat):Int))) w'):=fun w' t ht _ _ k1 =>
  k1.less (((Ext.new ht _).upd bi _).upd bf _)
 have HC:Hid (∀ w1,St W σ w1→w1.cell? ⟨b,2,none⟩=some (.int .i32 (-(k:Int)))):=fun w1 k1=>(k1.dec hb).2.2.1
 generalize hC:c / 10^k=C at HQ HX ⊢
 generalize hR:c % 10^k=R at HQ HX ⊢
 generalize 10^k=T at hC hR HE HQ HX
 clear hC hR hT hT0
 generalize ndg c=nd at HD hge
 have hw1:wrap64 (-(-(k:Int)))=(k:Int):=by unfold wrap64;omega
 have hle:¬ (0<(-(k:Int))):=by omega
 clear h hb hi hf hc
 go_enter Tryz.func108, Tryz.ntmps108
 go_wp2_with fail
 refine HD.out.mono ?_
 rintro r w1 ⟨rfl,k1⟩
 obtain ⟨t,ht,hn,H1⟩:=HE.out _ k1
 replace H1:=Lh H1
 have d2:=HC.out _ k1
 clear k1 HD HE HC
 go_wp2_with fail
 rw [← ht]
 clear ht
 refine H1.out.mono ?_
 rintro r w2 ⟨rfl,k2⟩
 obtain ⟨e1,e2,e3,p1,p2,p3,p4,p5,H2⟩:=HI.out _ t _ hn k2
 replace H2:=Lh H2
 clear k2 H1 HI
 go_wp2_with fail
 go_still_tail 8,(by kernel_rfl)
 go_wp2_with fail
 refine (HQ.out _ t e1 e2 e3 (by exact H2.out.sm ⟨rfl,rfl,rfl,rfl⟩)).mono ?_
 rintro r w3 ⟨rfl,v1,⟨v2,v3⟩,⟨v4,v5⟩,k3⟩
 have H3:=Lh (HX.out _ t hn e1 e3 k3);clear k3 H2 HQ
 go_wp2_with fail
 go_returns
 exact ⟨rfl,H3.out⟩
theorem Q80 {W:World}{σ:Sg}{w:World}(hW:GW W)(h:St W σ w){b bi bf:Nat}{n ni nf:Bool}{ei ef ci cf:Int}{k c:Nat}(hb:σ b=some (.dec 0 n (-(k:Int)) (c:Int)))(hi:σ bi=some (.dec 0 ni ei ci))(hf:σ bf=some (.dec 0 nf ef cf))(n1:b≠bi)(n2:b≠bf)(n3:bi≠bf)(hc:c<BB^21)(hk:k≤423) :
  Calls Tryz.prog 108 #[.pointer (some ⟨b,0,none⟩),.pointer (some ⟨bi,0,none⟩),.pointer (some ⟨bf,0,none⟩)] w fun r w'=>r=.returned (.tuple #[])∧St W (upd (upd σ bi (.dec 0 n 0 ((c / 10^k:Nat):Int))) bf (.dec 0 n (-(k:Int)) ((c % 10^k:Nat):Int))) w':=by
 by_cases hlt:ndg c<k
 ·obtain ⟨e1,e2⟩:=Q2j (by omega:ndg c≤k)
  rw [e1,e2]
  exact Q7Z hW h hb hi hf n1 n2 n3 hc hk hlt
 ·exact Q75 hW h hb hi hf n1 n2 n3 hc hk (by omega)
end Go.Proofs.YtpebcmfpehdafaaGreatDoor
