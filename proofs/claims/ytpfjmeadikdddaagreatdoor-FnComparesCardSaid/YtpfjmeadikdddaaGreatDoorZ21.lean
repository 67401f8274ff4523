/- a part of the proof -/
import Derived.Test.YtpfjmeadikdddaaGreatDoorZ19
set_option linter.all false
set_option maxRecDepth 100000
set_option maxHeartbeats 16000000
namespace Go.Proofs.YtpfjmeadikdddaaGreatDoor
open Go Go.RowKit
def cmpS (f:Int)(n:Bool)(e:Int)(c:Nat)(f':Int)(n':Bool)(e':Int)(c':Nat):Int :=
 if decSgn f n c<decSgn f' n' c' then -1 else if decSgn f' n' c'<decSgn f n c then 1 else if decSgn f n c=0 then 0
 else if f=1 then (if f'=1 then 0 else decSgn f n c) else if f'=1 then -(decSgn f n c) else sgI n (cmpD e c e' c')
theorem Q0Y (f:Int)(n:Bool)(c:Nat):decSgn f n c=0∧f=0∧c=0∨(decSgn f n c=1∧n=false∧¬ (f=0∧c=0))∨(decSgn f n c = -1∧n=true∧¬ (f=0∧c=0)):=by
 unfold decSgn
 by_cases h:f=0∧c=0
 ·rw [if_pos h];exact .inl ⟨rfl,h⟩
 ·rw [if_neg h];cases n
  ·exact .inr (.inl ⟨rfl,rfl,h⟩)
  ·exact .inr (.inr ⟨rfl,rfl,h⟩)
theorem Q7p {W : World} {σ : Sg} {w : World} (h : St W σ w) {b b' : Nat} {f f' : Int} {n n' : Bool} {e e' : Int} {c c' : Nat} (hb : σ b = some (.dec f n e (c : Int))) (hx : σ b' = some (.dec f' n' e' (c' : Int))) (hs : decSgn f n c ≠ decSgn f' n' c' ∨ decSgn f n c = 0) :
    Calls Tryz.prog 57 #[.pointer (some ⟨b,0,none⟩),.pointer (some ⟨b',0,none⟩)] w fun r w'=>r=.returned (.int .i64 (cmpS f n e c f' n' e' c'))∧w'=w:=by
  have HA:=Lh (QL h hb)
  have HB:=Lh (QL h hx)
  have hd:=Q0Y f n c
  have hd':=Q0Y f' n' c'
  unfold cmpS
  generalize decSgn f n c=s at HA hs hd ⊢
  generalize decSgn f' n' c'=s' at HB hs hd' ⊢
  have hs3:s=0∨s=1∨s = -1:=by rcases hd with q | q | q <;> simp [q.1]
  have hs4:s'=0∨s'=1∨s' = -1:=by rcases hd' with q | q | q <;> simp [q.1]
  clear h hb hx hd hd'
  rcases hs3 with rfl | rfl | rfl <;> rcases hs4 with rfl | rfl | rfl
  all_goals
    first
    | (exfalso;revert hs;decide)
    | (clear hs
       go_enter Tryz.func57, Tryz.ntmps57
       go_wp2_with fail
       refine HA.out.mono ?_
       rintro r w1 ⟨rfl,hw⟩
       subst hw
       go_wp2_with fail
       refine HB.out.mono ?_
       rintro r w1 ⟨rfl,hw⟩
       subst hw
       go_wp2_with fail
       go_ret
       exact ⟨rfl,rfl⟩)
theorem Q60 {W:World}{σ:Sg}{w:World}(h:St W σ w){b b':Nat}{f f':Int}{n n':Bool}{e e':Int}{c c':Nat}(hb:σ b=some (.dec f n e (c:Int)))(hx:σ b'=some (.dec f' n' e' (c':Int)))(hs:decSgn f n c=decSgn f' n' c')(h0:decSgn f n c≠0)(hf:f=1∨f'=1) :
  Calls Tryz.prog 57 #[.pointer (some ⟨b,0,none⟩),.pointer (some ⟨b',0,none⟩)] w fun r w'=>r=.returned (.int .i64 (cmpS f n e c f' n' e' c'))∧w'=w:=by
 have HA:=Lh (QL h hb)
 have HB:=Lh (QL h hx)
 have hd:=Q0Y f n c
 obtain ⟨c0,_,_,_,_,_⟩:=h.dec hb
 obtain ⟨x0,_,_,_,_,_⟩:=h.dec hx
 unfold cmpS
 rw [← hs] at HB ⊢
 generalize decSgn f n c=s at HA HB hd h0 ⊢
 have hs3:s=1∨s = -1:=by rcases hd with q | q | q;exact absurd q.1 h0;exact .inl q.1;exact .inr q.1
 clear h hb hx hd h0 hs
 by_cases h1:f=1
 ·subst h1
  by_cases h2:f'=1
  ·subst h2
   rcases hs3 with rfl | rfl
   all_goals
    go_enter Tryz.func57, Tryz.ntmps57
    go_wp2_with fail
    refine HA.out.mono ?_
    rintro r w1 ⟨rfl,hw⟩
    subst hw
    go_wp2_with fail
    refine HB.out.mono ?_
    rintro r w1 ⟨rfl,hw⟩
    subst hw
    go_wp2_with fail
    go_ret
    exact ⟨rfl,rfl⟩
  ·have b2:(f' == 1)=false:=by simpa using h2
   rw [if_neg (by omega),if_neg (by omega),if_neg (by omega),if_pos rfl,if_neg h2]
   clear hf h2
   rcases hs3 with rfl | rfl
   all_goals
    go_enter Tryz.func57, Tryz.ntmps57
    go_wp2_with fail
    refine HA.out.mono ?_
    rintro r w1 ⟨rfl,hw⟩
    subst hw
    go_wp2_with fail
    refine HB.out.mono ?_
    rintro r w1 ⟨rfl,hw⟩
    subst hw
    go_wp2_with fail
    go_ret
    exact ⟨rfl,rfl⟩
 ·have b1:(f == 1)=false:=by simpa using h1
  obtain rfl:f'=1:=by omega
  rw [if_neg (by omega),if_neg (by omega),if_neg (by omega),if_neg h1,if_pos rfl]
  clear hf h1
  rcases hs3 with rfl | rfl
  all_goals
   go_enter Tryz.func57, Tryz.ntmps57
   go_wp2_with fail
   refine HA.out.mono ?_
   rintro r w1 ⟨rfl,hw⟩
   subst hw
   go_wp2_with fail
   refine HB.out.mono ?_
   rintro r w1 ⟨rfl,hw⟩
   subst hw
   go_wp2_with fail
   go_ret
   exact ⟨rfl,rfl⟩
theorem Q5d {W:World}{σ:Sg}{w:World}(hW:GW W)(h:St W σ w){b b':Nat}{f f':Int}{n n':Bool}{e e':Int}{c c':Nat}(hb:σ b=some (.dec f n e (c:Int)))(hx:σ b'=some (.dec f' n' e' (c':Int)))(hne:b≠b')(hf:f=0∨f=1)(hf':f'=0∨f'=1)(hc:c<BB^21)(hc':c'<BB^21)(he:e.natAbs≤100000)(he':e'.natAbs≤100000)(hd:(e - e').natAbs≤423) :
  Calls Tryz.prog 57 #[.pointer (some ⟨b,0,none⟩),.pointer (some ⟨b',0,none⟩)] w fun r w'=>r=.returned (.int .i64 (cmpS f n e c f' n' e' c'))∧St W σ w':=by
 by_cases hs:decSgn f n c≠decSgn f' n' c'∨decSgn f n c=0
 ·exact (Q7p h hb hx hs).mono fun r w' ⟨a,k⟩=>⟨a,k ▸ h⟩
 ·have hs1:decSgn f n c=decSgn f' n' c':=Classical.byContradiction fun g=>hs (.inl g)
  have hs0:decSgn f n c≠0:=fun g=>hs (.inr g)
  by_cases hi:f=1∨f'=1
  ·exact (Q60 h hb hx hs1 hs0 hi).mono fun r w' ⟨a,k⟩=>⟨a,k ▸ h⟩
  ·obtain rfl:f=0:=by omega
   obtain rfl:f'=0:=by omega
   have hd1:=Q0Y 0 n c
   have hd2:=Q0Y 0 n' c'
   have hnn:n=n'∧0<c∧0<c':=by
    rcases hd1 with q | q | q
    ·exact absurd q.1 hs0
    ·rcases hd2 with q' | q' | q'
     ·exact absurd (hs1.trans q'.1) hs0
     ·exact ⟨q.2.1.trans q'.2.1.symm,by have:=q.2.2;omega,by have:=q'.2.2;omega⟩
     ·have:=(q.1.symm.trans hs1).trans q'.1;omega
    ·rcases hd2 with q' | q' | q'
     ·exact absurd (hs1.trans q'.1) hs0
     ·have:=(q.1.symm.trans hs1).trans q'.1;omega
     ·exact ⟨q.2.1.trans q'.2.1.symm,by have:=q.2.2;omega,by have:=q'.2.2;omega⟩
   obtain ⟨rfl,h0,h1⟩:=hnn
   have hr:cmpS 0 n e c 0 n e' c'=sgI n (cmpD e c e' c'):=by
    unfold cmpS
    rw [if_neg (by omega),if_neg (by omega),if_neg hs0,if_neg (by decide),if_neg (by decide)]
   rw [hr]
   by_cases hee:e=e'
   ·subst hee
    exact Q2C h hb hx hne h0 h1
   ·exact Q3Y hW h hb hx hne h0 h1 hc hc' hee he he' hd
theorem Q8q {W:World}{σ:Sg}{w:World}(h:St W σ w){b:Nat}{f:Int}{n:Bool}{e c:Int}(hb:σ b=some (.dec f n e c))(v:Int)(hv:v.natAbs<2^62) :
  Calls Tryz.prog 197 #[.pointer (some ⟨b,0,none⟩),.int .i64 v] w fun r w'=>r=.returned (.tuple #[])∧St W (upd σ b (.dec 0 (decide (v<0)) e (v.natAbs:Int))) w':=by
 obtain ⟨c0,c1,c2,f0,f1,f2⟩:=h.dec hb
 have h1:=h.setNeg hb (decide (v<0))
 have HA:=Lh (Q0m (Q0l h1 (Num.dec (Qa _ _ _)) (v:=v) hv))
 have HS:Hid (∀ w1,St W (upd σ b (.dec f (decide (v<0)) e v)) w1→(Calls Tryz.prog 118 #[.pointer (some ⟨b,3,none⟩),.pointer (some ⟨b,3,none⟩)] w1 fun r w2=>r=.returned (.pointer (some ⟨b,3,none⟩))∧(w2.cell? ⟨b,0,none⟩=some (.int .i8 f)∧w2.frozen? ⟨b,0,none⟩=false)∧St W (upd σ b (.dec 0 (decide (v<0)) e (v.natAbs:Int))) (w2.setCell ⟨b,0,none⟩ (.int .i8 0)))):=fun w1 k1=>by
  refine Q3f ((Q2B k1.drew (Num.dec (Qa _ _ _))).mono ?_)
  rintro r w2 ⟨rfl,k2⟩
  have k3:=k2.decN
  obtain ⟨d0,_,_,g0,_⟩:=k3.dec (Qa _ _ _)
  exact ⟨rfl,⟨d0,g0⟩,(k3.setForm (Qa _ _ _) 0).upd2⟩
 clear h h1 hb hv
 go_enter Tryz.func197, Tryz.ntmps197
 go_wp2_with fail
 refine HA.out.mono ?_
 rintro r w1 ⟨rfl,k1⟩
 have H1:=Lh (HS.out _ k1.decN.drew)
 clear k1 HA HS
 go_wp2_with fail
 go_still_tail 6,(by kernel_rfl)
 go_wp2_with fail
 refine H1.out.mono ?_
 rintro r w2 ⟨rfl,⟨d0,g0⟩,k2⟩
 have H2:=Lh k2
 clear k2 H1
 go_wp2_with fail
 go_returns
 exact ⟨rfl,H2.out⟩
theorem Qat {W:World}{σ:Sg}{w:World}(h:St W σ w){b:Nat}{f:Int}{n:Bool}{e c:Int}(hb:σ b=some (.dec f n e c))(v:Int)(hv:v.natAbs<2^62)(e':Int) :
  Calls Tryz.prog 174 #[.pointer (some ⟨b,0,none⟩),.int .i64 v,.int .i32 e'] w fun r w'=>r=.returned (.pointer (some ⟨b,0,none⟩))∧St W (upd σ b (.dec 0 (decide (v<0)) e' (v.natAbs:Int))) w':=by
 have HA:=Lh (Q8q h hb v hv)
 clear h hb hv
 go_enter Tryz.func174, Tryz.ntmps174
 go_wp2_with fail
 refine HA.out.mono ?_
 rintro r w1 ⟨rfl,k1⟩
 obtain ⟨_,_,d2,_,_,g2⟩:=k1.dec (Qa _ _ _)
 have H1:=Lh (k1.setExp (Qa _ _ _) e').upd2
 clear k1 HA
 go_wp2_with fail
 go_ret
 exact ⟨rfl,H1.out⟩
theorem Q5e {W:World}{σ:Sg}{w:World}(h:St W σ w){b:Nat}{f:Int}{n:Bool}{e c:Int}(hb:σ b=some (.dec f n e c))(v:Int)(hv:v.natAbs<2^62) :
  Calls Tryz.prog 136 #[.pointer (some ⟨b,0,none⟩),.int .i64 v] w fun r w'=>r=.returned (.pointer (some ⟨b,0,none⟩))∧St W (upd σ b (.dec 0 (decide (v<0)) 0 (v.natAbs:Int))) w':=by
 have HS:=Lh (Qat h hb v hv 0)
 clear h hb hv
 go_enter Tryz.func136, Tryz.ntmps136
 go_wp2_with fail
 refine HS.out.mono ?_
 rintro r w1 ⟨rfl,q⟩
 have H1:=Lh q;clear q HS
 go_wp2_with fail
 go_ret
 exact ⟨rfl,H1.out⟩
theorem Q8r (f:Int)(n:Bool)(e:Int)(c:Nat)(f':Int)(n':Bool)(e':Int)(c':Nat):(cmpS f n e c f' n' e' c').natAbs≤1:=by
 have h1:=Q0Y f n c
 have h2:(sgI n (cmpD e c e' c')).natAbs≤1:=by
  have:=Q4o (c*10^(e - min e e').toNat) (c'*10^(e' - min e e').toNat)
  unfold cmpD
  cases n
  ·exact this
  ·show (-(cmpI _ _)).natAbs≤1;rw [Int.natAbs_neg];exact this
 unfold cmpS
 (repeat' split) <;> omega
theorem Qau {W:World}{σ:Sg}{w:World}(hW:GW W)(h:St W σ w){b bx bu bk:Nat}{tr:Nat}{f f1 f2:Int}{n n1 n2:Bool}{e e1 e2 c:Int}{c1 c2:Nat}(hb:σ b=some (.dec f n e c))(hx:σ bx=some (.dec f1 n1 e1 (c1:Int)))(hu:σ bu=some (.dec f2 n2 e2 (c2:Int)))(hne:bx≠bu)(hf:f1=0∨f1=1)(hf':f2=0∨f2=1)(hc:c1<BB^21)(hc':c2<BB^21)(he:e1.natAbs≤200)(he':e2.natAbs≤200) :
  Calls Tryz.prog 75 #[.pointer (some ⟨bk,0,none⟩),.pointer (some ⟨b,0,none⟩),.pointer (some ⟨bx,0,none⟩),.pointer (some ⟨bu,0,none⟩)] w fun r w'=>(∃ v,r=.returned (.tuple #[.int .u32 ((0:Nat):Int),v])∧ErrV (badK 0 tr) v)∧St W (upd σ b (.dec 0 (decide (cmpS f1 n1 e1 c1 f2 n2 e2 c2<0)) 0 ((cmpS f1 n1 e1 c1 f2 n2 e2 c2).natAbs:Int))) w':=by
 have HN:=Lh (Q1S (bk:=bk) h hx hu)
 rw [decide_eq_false (by omega)] at HN
 have HC:=Lh (Q5d hW h hx hu hne hf hf' hc hc' (by omega) (by omega) (by omega))
 have hv:=Q8r f1 n1 e1 c1 f2 n2 e2 c2
 generalize cmpS f1 n1 e1 c1 f2 n2 e2 c2=v at HC hv ⊢
 have HS:Hid (∀ w1,St W σ w1→Calls Tryz.prog 136 #[.pointer (some ⟨b,0,none⟩),.int .i64 v] w1 fun r w'=>r=.returned (.pointer (some ⟨b,0,none⟩))∧St W (upd σ b (.dec 0 (decide (v<0)) 0 (v.natAbs:Int))) w'):=Lh (fun w1 q1=>Q5e q1 hb v (by omega))
 have hb0:badK 0 tr=false:=by unfold badK;simp
 clear h hb hx hu hc hc' hv
 go_enter Tryz.func75, Tryz.ntmps75
 go_wp2_with fail
 refine HN.out.mono ?_
 rintro r w_ ⟨rfl,hw_⟩
 subst hw_
 clear HN
 go_wp2_with fail
 refine HC.out.mono ?_
 rintro r w1 ⟨rfl,q1⟩
 have H1:=Lh (HS.out _ q1);clear q1 HC HS
 go_wp2_with fail
 refine H1.out.mono ?_
 rintro r w2 ⟨rfl,q2⟩
 have H2:=Lh q2;clear q2 H1
 go_wp2_with fail
 go_ret2
 exact ⟨⟨_,rfl,.inr ⟨hb0,rfl⟩⟩,H2.out⟩
theorem Q7q {W:World}{σ:Sg}{w:World}(h:St W σ w){bk b bx bu p md:Nat}{mx mn:Int}{tr:Nat}(hk:Ctx σ bk p mx mn (tr:Int) md)(htr:tr<4096){f f1 f2:Int}{n n1 n2:Bool}{e e1 e2 c c1 c2:Int}(hb:σ b=some (.dec f n e c))(hx:σ bx=some (.dec f1 n1 e1 c1))(hu:σ bu=some (.dec f2 n2 e2 c2))(hc1:c1.natAbs<BB^100)(hc2:c2.natAbs<BB^100)(hf:f1=2∨f1=3∨f2=2∨f2=3) :
  Calls Tryz.prog 75 #[.pointer (some ⟨bk,0,none⟩),.pointer (some ⟨b,0,none⟩),.pointer (some ⟨bx,0,none⟩),.pointer (some ⟨bu,0,none⟩)] w fun r w'=>(∃ v,r=.returned (.tuple #[.int .u32 ((if f1=2∨f2=2 then 1024 else 0:Nat):Int),v])∧ErrV (badK (if f1=2∨f2=2 then 1024 else 0) tr) v)∧St W (upd σ b (.dec 3 (bif nanP f1 f2 then n1 else n2) (bif nanP f1 f2 then e1 else e2) (bif nanP f1 f2 then c1 else c2))) w':=by
 have HN:=Lh (Q1S (bk:=bk) h hx hu)
 rw [decide_eq_true hf] at HN
 have HS:=Lh (Q6A h hk htr hb hx hu hc1 hc2 hf)
 generalize (if f1=2∨f2=2 then 1024 else 0:Nat)=k at HS ⊢
 generalize Ob.dec 3 (bif nanP f1 f2 then n1 else n2) (bif nanP f1 f2 then e1 else e2) (bif nanP f1 f2 then c1 else c2)=D at HS ⊢
 clear h hb hx hu hk hc1 hc2
 go_enter Tryz.func75, Tryz.ntmps75
 go_wp2_with fail
 refine HN.out.mono ?_
 rintro r w_ ⟨rfl,hw_⟩
 subst hw_
 clear HN
 go_wp2_with fail
 refine HS.out.mono ?_
 rintro r w3 ⟨⟨v,rfl,hv⟩,q3⟩
 have H3:=Lh q3;have HV:=Lh hv;clear q3 hv HS
 go_wp2_with fail
 go_ret2
 exact ⟨⟨_,rfl,HV.out⟩,H3.out⟩
end Go.Proofs.YtpfjmeadikdddaaGreatDoor
