/- a part of the proof -/
import Derived.Test.YtpfjmeadikdddaaGreatDoorZ20
import Derived.Test.YtpfjmeadikdddaaGreatDoorZ43
import Derived.Test.YtpfjmeadikdddaaGreatDoorZ45
set_option linter.all false
set_option maxRecDepth 100000
set_option maxHeartbeats 16000000
namespace Go.Proofs.YtpfjmeadikdddaaGreatDoor
open Go Go.RowKit
theorem Q4N {W:World}{σ:Sg}{w:World}(h:St W σ w):Calls Tryz.prog 88 #[] w (NewDec W σ 3 false 0 0):=by
 have hn:=h.none_new
 have HA:=Lh (h.alloc_dec 80 3 0 false)
 clear h
 go_enter Tryz.func88, Tryz.ntmps88
 go_wp2_with fail
 go_ret
 exact ⟨_,rfl,hn,HA.out⟩
theorem Q2j {W:World}{σ:Sg}{w:World}(h:St W σ w):Calls Tryz.prog 114 #[] w (NewDec W σ 1 false 0 0):=by
 have hn:=h.none_new
 have HA:=Lh (h.alloc_dec 80 1 0 false)
 clear h
 go_enter Tryz.func114, Tryz.ntmps114
 go_wp2_with fail
 go_ret
 exact ⟨_,rfl,hn,HA.out⟩
theorem Qaa {W:World}{σ:Sg}(hW:GW W){b bk:Nat}{n:Bool}{e0:Int}{c p md res:Nat}{mx mn tr s1 s2:Int}(hb:σ b=some (.dec 0 n e0 (c:Int)))(hk:Ctx σ bk p mx mn tr md)(hc:c<BB^21)(hs1:s1.natAbs≤200)(hs2:s2.natAbs≤200)(hres:res<4096)(g2:c=0→(s1+s2<mn→mn - ((p:Int) - 1)≤s1+s2)∧s1+s2≤mx) :
  SX W σ b bk (-1) res [s1,s2] (sxF p mx mn md 0 n c (ndg c) res (s1+s2)).k (sxF p mx mn md 0 n c (ndg c) res (s1+s2)).ob:=by
 refine SX.of fun w1 ba Ta τ hE ha h1=>?_
 have hb':=hE _ _ hb
 have hk':=hk.ext hE
 have hmn:mn≤0:=by obtain ⟨_,_,_,_,_,q,_⟩:=hk;exact q
 have hs9:s1.natAbs≤40000:=by omega
 have h09:s2.natAbs≤40000:=by omega
 unfold DR.ob sxF
 by_cases a1:s1+s2+ndg c - 1<mn
 ·rw [if_pos a1]
  by_cases a2:s1+s2<mn - ((p:Int) - 1)
  ·rw [if_pos a2]
   have c0:0<c:=by
    rcases Nat.eq_zero_or_pos c with e | e
    ·have:=g2 e;have:=Qh c;omega
    ·exact e
   obtain ⟨kk,hkk⟩:∃ kk,kk=(mn - ((p:Int) - 1) - (s1+s2)).toNat:=⟨_,rfl⟩
   rw [← hkk]
   have hk1:s1+s2 - (mn - ((p:Int) - 1)) = -(kk:Int):=by omega
   have hk4:kk≤423:=by omega
   by_cases hR:c % 10^kk=0
   ·have hq:rdiv md false c kk=c / 10^kk:=by unfold rdiv;rw [if_pos hR]
    rw [hq,if_pos hR]
    by_cases hz:c / 10^kk=0
    ·rw [if_pos hz]
     exact Q1t hW h1 hb' hk' ha hs9 h09 rfl hres hc c0 a1 a2 kk hk1 hk4 hR hz
    ·rw [if_neg hz]
     exact Q1U hW h1 hb' hk' ha hs9 h09 rfl hres hc c0 a1 a2 kk hk1 hk4 hR hz
   ·rw [if_neg hR]
    cases hU:upR md false (c / 10^kk) (cmpN (2*(c % 10^kk)) (10^kk)) with
    | false =>
     have hq:rdiv md false c kk=c / 10^kk:=by unfold rdiv;rw [if_neg hR,hU];rfl
     rw [hq]
     by_cases hz:c / 10^kk=0
     ·rw [if_pos hz]
      exact Q1F hW h1 hb' hk' ha hs9 h09 rfl hres hc c0 a1 a2 kk hk1 hk4 hR hU hz
     ·rw [if_neg hz]
      exact Q2i hW h1 hb' hk' ha hs9 h09 rfl hres hc c0 a1 a2 kk hk1 hk4 hR hU hz
    | true =>
     have hq:rdiv md false c kk=c / 10^kk+1:=by unfold rdiv;rw [if_neg hR,hU];rfl
     rw [hq,if_neg (Nat.succ_ne_zero _)]
     exact Q1V hW h1 hb' hk' ha hs9 h09 rfl hres hc c0 a1 a2 kk hk1 hk4 hR hU
  ·rw [if_neg a2]
   have a2':mn - ((p:Int) - 1)≤s1+s2:=by omega
   by_cases c0:c=0
   ·subst c0
    rw [if_pos ⟨rfl,rfl⟩]
    exact Q3G hW h1 hb' hk' ha hs9 h09 (Qi (by decide)) hres a1 a2'
   ·rw [if_neg (by omega)]
    exact Q3I hW h1 hb' hk' ha hs9 h09 rfl hres hc (Nat.pos_of_ne_zero c0) a1 a2'
 ·rw [if_neg a1]
  by_cases a3:mx<s1+s2+ndg c - 1
  ·rw [if_pos a3]
   have c0:0<c:=by
    rcases Nat.eq_zero_or_pos c with e | e
    ·have:=g2 e
     rw [e,Qi (by decide)] at a3;omega
    ·exact e
   exact Q1H hW h1 hb' hk' ha hs9 h09 rfl hres hc c0 a3
  ·rw [if_neg a3]
   have a4:mn≤s1+s2+ndg c - 1:=by omega
   have a5:s1+s2+ndg c - 1≤mx:=by omega
   exact Q2b hW h1 hb' hk' ha hs9 h09 rfl hres hc a4 a5
theorem Q4O {W:World}{σ:Sg}{w:World}(hW:GW W)(h:St W σ w){b bk:Nat}{f:Int}{n:Bool}{e:Int}{c p md:Nat}{mx mn tr:Int}(hb:σ b=some (.dec f n e (c:Int)))(hk:Ctx σ bk p mx mn tr md)(hc:c<BB^20)(he:e.natAbs≤420)
  (g1:f=0∨mn≤e+ndg c - 1) (g2:c=0→(e<mn→mn - ((p:Int) - 1)≤e)∧e≤mx) :
  Calls Tryz.prog 92 #[.pointer (some ⟨bk,0,none⟩),.pointer (some ⟨b,0,none⟩),.pointer (some ⟨b,0,none⟩)] w fun r w'=>r=.returned (.int .u32 (((rndF p mx mn md f n e c).k:Nat):Int))∧St W (upd σ b (rndF p mx mn md f n e c).ob) w':=by
 have HR:=Lh (Q40 hW ((Q0K h hb).mono fun r w' ⟨a,q⟩=>⟨a,q ▸ h⟩) hb hb hk hc he g1 g2)
 have k4:=(h.ctx hk).2.2.2.2
 generalize rndF p mx mn md f n e c=X at HR ⊢
 clear h hb hk hc g1 g2
 go_enter Tryz.func92, Tryz.ntmps92
 go_wp2_with fail
 refine HR.out.mono ?_
 rintro r w1 ⟨rfl,q⟩
 have H1:=Lh q;clear q HR
 go_wp2_with fail
 go_ret
 exact ⟨rfl,H1.out⟩
theorem Qab {W:World}{σ:Sg}{w:World}(hW:GW W)(h:St W σ w){b bx bu:Nat}{f ed cd e1 e2 f1 f2:Int}{nd n1 n2:Bool}{c1 c2:Nat}(hb:σ b=some (.dec f nd ed cd))(hx:σ bx=some (.dec f1 n1 e1 (c1:Int)))(hu:σ bu=some (.dec f2 n2 e2 (c2:Int)))(hne:bx≠bu)(l1:c1<BB^39)(l2:c2<BB^39) :
  Calls Tryz.prog 107 #[.pointer (some ⟨b,3,none⟩),.pointer (some ⟨bx,3,none⟩),.pointer (some ⟨bu,3,none⟩)] w fun r w'=>r=.returned (.pointer (some ⟨b,3,none⟩))∧St W (upd σ b (.dec f nd ed ((c1*c2:Nat):Int))) w':=by
 have fin:∀ {r w'},r=Ending.returned (.pointer (some ⟨b,3,none⟩))∧St W (setN σ b ((c1*c2:Nat):Int)) w'→r=.returned (.pointer (some ⟨b,3,none⟩))∧St W (upd σ b (.dec f nd ed ((c1*c2:Nat):Int))) w':=fun ⟨a,q⟩=>⟨a,q.ext fun x=>by
  by_cases e:x=b
  ·subst e;rw [Qa,Q08 hb]
  ·rw [Qc _ _ e,Qm _ _ e]⟩
 have l3:c2<BB^100:=Nat.lt_of_lt_of_le l2 (Nat.pow_le_pow_right (by unfold BB;decide) (by decide))
 by_cases h1:b=bx
 ·subst h1
  rw [hb] at hx;cases hx
  exact Q2o ((Q29 hW h.drew (Num.dec hb) (Num.dec hu) hne l1 l3).mono fun r w'=>fin)
 ·by_cases h2:b=bu
  ·subst h2
   rw [hb] at hu;cases hu
   exact Q2o ((Q96 hW h.drew (Num.dec hb) (Num.dec hx) h1 l1 l3).mono fun r w'=>fin)
  ·exact Q2o ((Q7i hW h.drew (Num.dec hb) (Num.dec hx) h1 (Num.dec hu) h2 hne l1 l3).mono fun r w'=>fin)
theorem QaE {W:World}{σ:Sg}{w:World}(hW:GW W)(h:St W σ w){b bx bu:Nat}{f ed cd e1 e2 f1 f2:Int}{nd n1 n2:Bool}{c1 c2:Nat}(hb:σ b=some (.dec f nd ed cd))(hx:σ bx=some (.dec f1 n1 e1 (c1:Int)))(hu:σ bu=some (.dec f2 n2 e2 (c2:Int)))(hne:bx≠bu)(l1:c1<BB^39)(l2:c2<BB^39)(neg:Bool) :
  Calls Tryz.prog 107 #[.pointer (some ⟨b,3,none⟩),.pointer (some ⟨bx,3,none⟩),.pointer (some ⟨bu,3,none⟩)] w fun r w'=>r=.returned (.pointer (some ⟨b,3,none⟩))∧(w'.cell? ⟨b,1,none⟩=some (.bool nd)∧w'.frozen? ⟨b,1,none⟩=false)∧(w'.cell? ⟨b,0,none⟩=some (.int .i8 f)∧w'.frozen? ⟨b,0,none⟩=false)∧St W (upd σ b (.dec 0 neg ed ((c1*c2:Nat):Int))) ((w'.setCell ⟨b,1,none⟩ (.bool neg)).setCell ⟨b,0,none⟩ (.int .i8 0)):=by
 refine (Qab hW h hb hx hu hne l1 l2).mono ?_
 rintro r w' ⟨rfl,q⟩
 obtain ⟨d0,d1,_,g0,g1,_⟩:=q.dec (Qa _ _ _)
 exact ⟨rfl,⟨d1,g1⟩,⟨d0,g0⟩,((q.setNeg (Qa _ _ _) neg).setForm (Qa _ _ _) 0).upd2.upd2⟩
theorem QaR (p:Nat)(mx mn:Int)(md:Nat)(n:Bool)(c nd res:Nat)(s:Int):(sxF p mx mn md 0 n c nd res s).c≤c+1:=by
 unfold sxF
 split
 ·split
  ·have h1:=Q0J md false c (mn - ((p:Int) - 1) - s).toNat
   have h2:=Nat.div_le_self c (10^(mn - ((p:Int) - 1) - s).toNat)
   show rdiv md false c (mn - ((p:Int) - 1) - s).toNat≤c+1
   omega
  ·exact Nat.le_succ _
 ·split <;> exact Nat.le_succ _
theorem Qac {p:Nat}{mx mn:Int}{md:Nat}{n:Bool}{c:Nat}{s:Int}(hs:s.natAbs≤400)(hmx:0≤mx)(hmn:mn≤0)(g2:c=0→(s<mn→mn - ((p:Int) - 1)≤s)∧s≤mx)(g3:p=0→c≠0→mn≤s+ndg c - 1) :
  (sxF p mx mn md 0 n c (ndg c) 0 s).e.natAbs≤420∧((sxF p mx mn md 0 n c (ndg c) 0 s).f=0∨mn≤(sxF p mx mn md 0 n c (ndg c) 0 s).e+ndg (sxF p mx mn md 0 n c (ndg c) 0 s).c - 1) ∧
  ((sxF p mx mn md 0 n c (ndg c) 0 s).c=0→((sxF p mx mn md 0 n c (ndg c) 0 s).e<mn→mn - ((p:Int) - 1)≤(sxF p mx mn md 0 n c (ndg c) 0 s).e)∧(sxF p mx mn md 0 n c (ndg c) 0 s).e≤mx):=by
 have hpos:=Qh c
 unfold sxF
 by_cases a1:s+ndg c - 1<mn
 ·rw [if_pos a1]
  by_cases a2:s<mn - ((p:Int) - 1)
  ·rw [if_pos a2]
   have hp:p≠0:=by
    intro hp
    by_cases c0:c=0
    ·have:=g2 c0;omega
    ·have:=g3 hp c0;omega
   dsimp only
   exact ⟨by omega,.inl rfl,fun _=>⟨fun _=>by omega,by omega⟩⟩
  ·rw [if_neg a2]
   exact ⟨by show s.natAbs≤420;omega,.inl rfl,fun h=>g2 h⟩
 ·rw [if_neg a1]
  by_cases a3:mx<s+ndg c - 1
  ·rw [if_pos a3]
   exact ⟨by show s.natAbs≤420;omega,.inr (by show mn≤s+ndg c - 1;omega),fun h=>g2 h⟩
  ·rw [if_neg a3]
   exact ⟨by show s.natAbs≤420;omega,.inl rfl,fun h=>g2 h⟩
theorem QaF {W:World}{σ:Sg}{w:World}(hW:GW W)(h:St W σ w){b bx bu bk p md:Nat}{mx mn:Int}{tr:Nat}(hk:Ctx σ bk p mx mn (tr:Int) md)(htr:tr<4096){f ed cd e1 e2:Int}{nd n1 n2:Bool}{c1 c2:Nat}(hb:σ b=some (.dec f nd ed cd))(hx:σ bx=some (.dec 0 n1 e1 (c1:Int)))(hu:σ bu=some (.dec 0 n2 e2 (c2:Int)))(hne:bx≠bu)(l1:c1<BB^9)(l2:c2<BB^9)(he1:e1.natAbs≤200)(he2:e2.natAbs≤200)
  (g2:c1*c2=0→(e1+e2<mn→mn - ((p:Int) - 1)≤e1+e2)∧e1+e2≤mx) (g3:p=0→c1*c2≠0→mn≤e1+e2+ndg (c1*c2) - 1) :
  Calls Tryz.prog 64 #[.pointer (some ⟨bk,0,none⟩),.pointer (some ⟨b,0,none⟩),.pointer (some ⟨bx,0,none⟩),.pointer (some ⟨bu,0,none⟩)] w fun r w'=>(∃ v,r=.returned (.tuple #[.int .u32 ((prdF p mx mn md (n1 != n2) (e1+e2) (c1*c2)).k:Int),v])∧ErrV (badK (prdF p mx mn md (n1 != n2) (e1+e2) (c1*c2)).k tr) v)∧St W (upd σ b (prdF p mx mn md (n1 != n2) (e1+e2) (c1*c2)).ob) w':=by
 have HN:=Lh (Q0B (bk:=bk) h hx hu (by decide) (by decide))
 obtain ⟨x0,x1,x2,_,_,_⟩:=h.dec hx
 obtain ⟨u0,u1,u2,_,_,_⟩:=h.dec hu
 have hB:BB^9≤BB^39:=Nat.pow_le_pow_right (by unfold BB;decide) (by decide)
 have hcc:c1*c2+1<BB^20:=by
  have h1:c1*c2≤BB^9*BB^9:=Nat.mul_le_mul (by omega) (by omega)
  have h2:BB^9*BB^9+1<BB^20:=by unfold BB;decide
  omega
 have hmx:0≤mx:=by obtain ⟨_,_,_,q,_⟩:=hk;exact q
 have hmn:mn≤0:=by obtain ⟨_,_,_,_,_,q,_⟩:=hk;exact q
 have HM:Hid (∀ w1,SM w w1→_):=Lh (fun w1 (hw:SM w w1)=>QaE hW (h.sm hw) hb hx hu hne (by omega) (by omega) (n1 != n2))
 have hm:=Qac (p:=p) (mx:=mx) (mn:=mn) (md:=md) (n:=n1 != n2) (c:=c1*c2) (s:=e1+e2) (by omega) hmx hmn g2 g3
 have hxc:=QaR p mx mn md (n1 != n2) (c1*c2) (ndg (c1*c2)) 0 (e1+e2)
 have hxl:(sxF p mx mn md 0 (n1 != n2) (c1*c2) (ndg (c1*c2)) 0 (e1+e2)).k<4096:=Q0q (by decide)
 have HX:=Lh (Qaa (W:=W) hW (σ:=upd σ b (.dec 0 (n1 != n2) ed ((c1*c2:Nat):Int))) (bk:=bk) (p:=p) (md:=md) (mx:=mx) (mn:=mn) (res:=0) (s1:=e1) (s2:=e2) (Qa _ _ _) (hk.upd hb _) (Nat.lt_trans (show c1*c2<BB^20 by omega) (by unfold BB;decide)) he1 he2 (by decide) g2)
 have HE:Hid (∀ w1,St W (upd σ b (.dec 0 (n1 != n2) ed ((c1*c2:Nat):Int))) w1→w1.cell? ⟨bx,2,none⟩=some (.int .i32 e1)∧w1.cell? ⟨bu,2,none⟩=some (.int .i32 e2)):=Lh (fun w1 q=>by
  have hbx:∀ x n' e' (c':Nat),σ x=some (.dec 0 n' e' (c':Int))→w1.cell? ⟨x,2,none⟩=some (.int .i32 e'):=by
   intro x n' e' c' hx'
   by_cases e:x=b
   ·subst e
    rw [hb] at hx';cases hx'
    exact (q.dec (Qa _ _ _)).2.2.1
   ·exact (q.dec (by rw [Qc _ _ e];exact hx')).2.2.1
  exact ⟨hbx _ _ _ _ hx,hbx _ _ _ _ hu⟩)
 unfold prdF
 dsimp only
 generalize sxF p mx mn md 0 (n1 != n2) (c1*c2) (ndg (c1*c2)) 0 (e1+e2)=X at hm hxc hxl HX ⊢
 have HR:Hid (∀ w1,St W (upd (upd σ b (.dec 0 (n1 != n2) ed ((c1*c2:Nat):Int))) b X.ob) w1→Calls Tryz.prog 92 #[.pointer (some ⟨bk,0,none⟩),.pointer (some ⟨b,0,none⟩),.pointer (some ⟨b,0,none⟩)] w1 fun r w'=>r=.returned (.int .u32 (((rndF p mx mn md X.f X.n X.e X.c).k:Nat):Int))∧St W (upd σ b (rndF p mx mn md X.f X.n X.e X.c).ob) w'):=Lh (fun w1 q1 =>
  (Q4O hW q1.upd2 (Qa _ _ _) (hk.upd hb _) (by omega) hm.1 hm.2.1 hm.2.2).mono fun r w' ⟨a,q⟩=>⟨a,q.upd2⟩)
 have hl:(rndF p mx mn md X.f X.n X.e X.c).k<4096:=Q4v
 generalize rndF p mx mn md X.f X.n X.e X.c=Y at HR hl ⊢
 have HK:=Lh (hk.upd hb Y.ob)
 have HV:=Lh (Qq X.k Y.k hxl hl)
 have HL:Hid (orN X.k Y.k<4096):=Lh (Qr hxl hl)
 show Calls _ _ _ _ (fun r w'=>(∃ v,r=.returned (.tuple #[.int .u32 ((orN X.k Y.k:Nat):Int),v])∧ErrV (badK (orN X.k Y.k) tr) v)∧St W (upd σ b Y.ob) w')
 generalize orN X.k Y.k=K at HV HL ⊢
 generalize hcp:c1*c2=cp at HM HX HE HR
 generalize hnn:(n1 != n2)=nn at HM HX HE HR
 have hnq:(!(n1 == n2))=nn:=hnn
 clear hnn
 have hMr:=Lh (SM.refl w)
 have hq1:=Lh (IntWalk.i64_in e1 (by omega));have hq2:=Lh (IntWalk.i64_in e2 (by omega))
 clear h hb hx hu hk l1 l2 g2 g3 hB hcc hm hxc hxl hl hcp hmx hmn he1 he2
 go_enter Tryz.func64, Tryz.ntmps64
 go_wp2_with fail
 refine HN.out.mono ?_
 rintro r w_ ⟨rfl,hw_⟩
 subst hw_
 clear HN
 go_wp2_with fail
 go_quiet (fail)
 go_wp2_with fail
 go_quiet (fail)
 go_wp2_with fail
 go_still_tail 9,(by kernel_rfl)
 go_wp2_with fail
 refine (HM.out _ (by exact ⟨rfl,rfl,rfl,rfl⟩)).mono ?_
 rintro r w1 ⟨rfl,⟨d1,g1⟩,⟨d0,g0⟩,q1⟩
 have H1:=Lh q1;clear q1 HM hMr
 go_wp2_with fail
 generalize (w1.setCell ⟨b,1,none⟩ (.bool nn)).setCell ⟨b,0,none⟩ (.int .i8 0)=w2 at H1 ⊢
 obtain ⟨z1,z2⟩:=HE.out _ H1.out
 clear HE
 go_region_with (first | (go_at_call 115;rw [hq1.out,hq2.out];refine (HX.out _ _ 2 H1.out.none_new (H1.out.alloc _).drew).mono ?_;rintro r w3 ⟨rfl,q3⟩;have H3:=Lh (HR.out _ q3);clear q3))
 all_goals
  clear HX HR
  go_wp2_with fail
  refine H3.out.mono ?_
  rintro r w4 ⟨rfl,q4⟩
  have H4:=Lh (Q1a q4 HK.out HL.out htr);clear q4 H3
  go_wp2_with fail
  rw [HV.out]
  refine H4.out.mono ?_
  rintro r w5 ⟨⟨v,rfl,hv⟩,q5⟩
  have H5:=Lh q5;have HVV:=Lh hv;clear q5 hv H4
  go_wp2_with fail
  go_ret2
  exact ⟨⟨_,rfl,HVV.out⟩,H5.out⟩
theorem Q7H {W:World}{σ:Sg}{w:World}(h:St W σ w){bk b bx bu p md:Nat}{mx mn:Int}{tr:Nat}(hk:Ctx σ bk p mx mn (tr:Int) md)(htr:tr<4096){f f1 f2:Int}{n n1 n2:Bool}{e e1 e2 c c1 c2:Int}(hb:σ b=some (.dec f n e c))(hx:σ bx=some (.dec f1 n1 e1 c1))(hu:σ bu=some (.dec f2 n2 e2 c2))(hc1:c1.natAbs<BB^100)(hc2:c2.natAbs<BB^100)(hf:f1=2∨f1=3∨f2=2∨f2=3) :
  Calls Tryz.prog 64 #[.pointer (some ⟨bk,0,none⟩),.pointer (some ⟨b,0,none⟩),.pointer (some ⟨bx,0,none⟩),.pointer (some ⟨bu,0,none⟩)] w fun r w'=>(∃ v,r=.returned (.tuple #[.int .u32 ((if f1=2∨f2=2 then 1024 else 0:Nat):Int),v])∧ErrV (badK (if f1=2∨f2=2 then 1024 else 0) tr) v)∧St W (upd σ b (.dec 3 (bif nanP f1 f2 then n1 else n2) (bif nanP f1 f2 then e1 else e2) (bif nanP f1 f2 then c1 else c2))) w':=by
 have HN:=Lh (Q1S (bk:=bk) h hx hu)
 rw [decide_eq_true hf] at HN
 have HS:=Lh (Q6A h hk htr hb hx hu hc1 hc2 hf)
 generalize (if f1=2∨f2=2 then 1024 else 0:Nat)=k at HS ⊢
 generalize Ob.dec 3 (bif nanP f1 f2 then n1 else n2) (bif nanP f1 f2 then e1 else e2) (bif nanP f1 f2 then c1 else c2)=D at HS ⊢
 clear h hb hx hu hk hc1 hc2
 go_enter Tryz.func64, Tryz.ntmps64
 go_wp2_with fail
 refine HN.out.mono ?_
 rintro r w_ ⟨rfl,hw_⟩
 subst hw_
 clear HN
 go_wp2_with fail
 refine HS.out.mono ?_
 rintro r w3 ⟨⟨v,rfl,hv⟩,q3⟩
 have H3:=Lh q3;have HV:=Lh hv;clear q3 hv HS
 go_wp2_with fail
 go_ret2
 exact ⟨⟨_,rfl,HV.out⟩,H3.out⟩
theorem Q97 {W:World}{σ:Sg}{w:World}{b bn:Nat}{f f':Int}{n n':Bool}{e e' c c':Int}(hb:σ b=some (.dec f n e c))(hn:σ bn=none)(hc:c'.natAbs<BB^100)(h:St W (upd σ bn (.dec f' n' e' c')) w) :
  Calls Tryz.prog 87 #[.pointer (some ⟨b,0,none⟩),.pointer (some ⟨bn,0,none⟩)] w fun r w'=>r=.returned (.pointer (some ⟨b,0,none⟩))∧St W (upd σ b (.dec f' n' e' c')) w':=by
 have ne:b≠bn:=by rintro rfl;rw [hb] at hn;cases hn
 exact (Q1Q h (by rw [Qc _ _ ne];exact hb) (Qa _ _ _) ne hc).mono fun r w' ⟨a,q⟩=>⟨a,q.less ((Ext.new hn _).upd b _)⟩
theorem Q7I {W:World}{σ:Sg}{w:World}(h:St W σ w){bk b bx bu p md:Nat}{mx mn:Int}{tr:Nat}(hk:Ctx σ bk p mx mn (tr:Int) md)(htr:tr<4096){f f1 f2:Int}{n n1 n2:Bool}{e e1 e2 c:Int}{c1 c2:Nat}(hb:σ b=some (.dec f n e c))(hx:σ bx=some (.dec f1 n1 e1 (c1:Int)))(hu:σ bu=some (.dec f2 n2 e2 (c2:Int)))(hf:f1=0∨f1=1)(hf':f2=0∨f2=1)(hI:f1=1∨f2=1)(hz:(f1=0∧c1=0)∨(f2=0∧c2=0)) :
  Calls Tryz.prog 64 #[.pointer (some ⟨bk,0,none⟩),.pointer (some ⟨b,0,none⟩),.pointer (some ⟨bx,0,none⟩),.pointer (some ⟨bu,0,none⟩)] w fun r w'=>(∃ v,r=.returned (.tuple #[.int .u32 ((1024:Nat):Int),v])∧ErrV (badK 1024 tr) v)∧St W (upd σ b (.dec 3 false 0 ((0:Nat):Int))) w':=by
 have HN:=Lh (Q0B (bk:=bk) h hx hu (by omega) (by omega))
 obtain ⟨x0,x1,_,_,_,_⟩:=h.dec hx
 obtain ⟨u0,u1,_,_,_,_⟩:=h.dec hu
 have HZ1:=Lh (fun w1 (hw:SM w w1)=>Qt (h.sm hw) hx)
 have HZ2:=Lh (fun w1 (hw:SM w w1)=>Qt (h.sm hw) hu)
 have HD:=Lh (fun w1 (hw:SM w w1)=>Q4N (h.sm hw))
 have HS:=Lh (fun bn w1 (hn:σ bn=none) (q:St W (upd σ bn (.dec 3 false 0 0)) w1)=>Q97 hb hn (by unfold BB;decide) q)
 have HG:=Lh (fun w1 (q:St W (upd σ b (.dec 3 false 0 0)) w1)=>Q1a q (hk.upd hb _) (k:=1024) (by decide) htr)
 clear h hb hk
 rcases hz with ⟨rfl,rfl⟩ | ⟨rfl,rfl⟩
 ·have hf2:f2=1:=by omega
  subst hf2
  replace HZ1:Hid (∀ w1,SM w w1→_):=Lh (fun w1 hw=>by have:=HZ1.out w1 hw;rw [decide_eq_true ⟨rfl,rfl⟩] at this;exact this)
  clear hx hu hf hf' hI HZ2
  go_enter Tryz.func64, Tryz.ntmps64
  go_wp2_with fail
  refine HN.out.mono ?_
  rintro r w_ ⟨rfl,hw_⟩
  subst hw_
  clear HN
  go_wp2_with fail
  go_quiet (fail)
  go_wp2_with fail
  go_quiet (fail)
  go_wp2_with fail
  refine (HZ1.out _ (by exact ⟨rfl,rfl,rfl,rfl⟩)).mono ?_
  rintro r w_ ⟨rfl,hw_⟩
  subst hw_
  clear HZ1
  go_wp2_with fail
  refine (HD.out _ (by exact ⟨rfl,rfl,rfl,rfl⟩)).mono ?_
  rintro r w1 ⟨bn,rfl,hn,q1⟩
  have H1:=Lh (HS.out _ _ hn q1);clear hn q1 HD HS
  go_wp2_with fail
  refine H1.out.mono ?_
  rintro r w2 ⟨rfl,q2⟩
  have H2:=Lh (HG.out _ q2);clear q2 H1 HG
  go_wp2_with fail
  refine H2.out.mono ?_
  rintro r w3 ⟨⟨v,rfl,hv⟩,q3⟩
  have H3:=Lh q3;have HV:=Lh hv;clear q3 hv H2
  go_wp2_with fail
  go_ret2
  exact ⟨⟨_,rfl,HV.out⟩,H3.out⟩
 ·have hf1:f1=1:=by omega
  subst hf1
  replace HZ2:Hid (∀ w1,SM w w1→_):=Lh (fun w1 hw=>by have:=HZ2.out w1 hw;rw [decide_eq_true ⟨rfl,rfl⟩] at this;exact this)
  replace HZ1:Hid (∀ w1,SM w w1→_):=Lh (fun w1 hw=>by have:=HZ1.out w1 hw;rw [decide_eq_false (by omega)] at this;exact this)
  clear hx hu hf hf' hI
  go_enter Tryz.func64, Tryz.ntmps64
  go_wp2_with fail
  refine HN.out.mono ?_
  rintro r w_ ⟨rfl,hw_⟩
  subst hw_
  clear HN
  go_wp2_with fail
  go_quiet (fail)
  go_wp2_with fail
  go_quiet (fail)
  go_wp2_with fail
  refine (HZ1.out _ (by exact ⟨rfl,rfl,rfl,rfl⟩)).mono ?_
  rintro r w_ ⟨rfl,hw_⟩
  subst hw_
  clear HZ1
  go_wp2_with fail
  refine (HZ2.out _ (by exact ⟨rfl,rfl,rfl,rfl⟩)).mono ?_
  rintro r w_ ⟨rfl,hw_⟩
  subst hw_
  clear HZ2
  go_wp2_with fail
  refine (HD.out _ (by exact ⟨rfl,rfl,rfl,rfl⟩)).mono ?_
  rintro r w1 ⟨bn,rfl,hn,q1⟩
  have H1:=Lh (HS.out _ _ hn q1);clear hn q1 HD HS
  go_wp2_with fail
  refine H1.out.mono ?_
  rintro r w2 ⟨rfl,q2⟩
  have H2:=Lh (HG.out _ q2);clear q2 H1 HG
  go_wp2_with fail
  refine H2.out.mono ?_
  rintro r w3 ⟨⟨v,rfl,hv⟩,q3⟩
  have H3:=Lh q3;have HV:=Lh hv;clear q3 hv H2
  go_wp2_with fail
  go_ret2
  exact ⟨⟨_,rfl,HV.out⟩,H3.out⟩
theorem Q7J {W:World}{σ:Sg}{w:World}(h:St W σ w){bk b bx bu tr:Nat}{f f1 f2:Int}{n n1 n2:Bool}{e e1 e2 c:Int}{c1 c2:Nat}(hb:σ b=some (.dec f n e c))(hx:σ bx=some (.dec f1 n1 e1 (c1:Int)))(hu:σ bu=some (.dec f2 n2 e2 (c2:Int)))(hf:f1=0∨f1=1)(hf':f2=0∨f2=1)(hI:f1=1∨f2=1)(hz:¬ ((f1=0∧c1=0)∨(f2=0∧c2=0))) :
  Calls Tryz.prog 64 #[.pointer (some ⟨bk,0,none⟩),.pointer (some ⟨b,0,none⟩),.pointer (some ⟨bx,0,none⟩),.pointer (some ⟨bu,0,none⟩)] w fun r w'=>(∃ v,r=.returned (.tuple #[.int .u32 ((0:Nat):Int),v])∧ErrV (badK 0 tr) v)∧St W (upd σ b (.dec 1 (n1 != n2) 0 ((0:Nat):Int))) w':=by
 have HN:=Lh (Q0B (bk:=bk) h hx hu (by omega) (by omega))
 obtain ⟨x0,x1,_,_,_,_⟩:=h.dec hx
 obtain ⟨u0,u1,_,_,_,_⟩:=h.dec hu
 have HZ1:=Lh (fun w1 (hw:SM w w1)=>Qt (h.sm hw) hx)
 have HZ2:=Lh (fun w1 (hw:SM w w1)=>Qt (h.sm hw) hu)
 replace HZ1:Hid (∀ w1,SM w w1→_):=Lh (fun w1 hw=>by have:=HZ1.out w1 hw;rw [decide_eq_false (by omega)] at this;exact this)
 replace HZ2:Hid (∀ w1,SM w w1→_):=Lh (fun w1 hw=>by have:=HZ2.out w1 hw;rw [decide_eq_false (by omega)] at this;exact this)
 have HD:=Lh (fun w1 (hw:SM w w1)=>Q2j (h.sm hw))
 have HS:=Lh (fun bn w1 (hn:σ bn=none) (q:St W (upd σ bn (.dec 1 false 0 0)) w1)=>Q97 hb hn (by unfold BB;decide) q)
 have hb0:badK 0 tr=false:=by unfold badK;simp
 generalize hnn:(n1 != n2)=nn
 have hnq:(!(n1 == n2))=nn:=hnn
 clear hnn
 clear h hb hz
 have hff:f1=1∨(f1=0∧f2=1):=by omega
 rcases hff with rfl | ⟨rfl,rfl⟩
 all_goals
  clear hx hu hf hf' hI
  go_enter Tryz.func64, Tryz.ntmps64
  go_wp2_with fail
  refine HN.out.mono ?_
  rintro r w_ ⟨rfl,hw_⟩
  subst hw_
  clear HN
  go_wp2_with fail
  go_quiet (fail)
  go_wp2_with fail
  go_quiet (fail)
  go_wp2_with fail
  refine (HZ1.out _ (by exact ⟨rfl,rfl,rfl,rfl⟩)).mono ?_
  rintro r w_ ⟨rfl,hw_⟩
  subst hw_
  clear HZ1
  go_wp2_with fail
  refine (HZ2.out _ (by exact ⟨rfl,rfl,rfl,rfl⟩)).mono ?_
  rintro r w_ ⟨rfl,hw_⟩
  subst hw_
  clear HZ2
  go_wp2_with fail
  refine (HD.out _ (by exact ⟨rfl,rfl,rfl,rfl⟩)).mono ?_
  rintro r w1 ⟨bn,rfl,hn,q1⟩
  have H1:=Lh (HS.out _ _ hn q1);clear hn q1 HD HS
  go_wp2_with fail
  refine H1.out.mono ?_
  rintro r w2 ⟨rfl,q2⟩
  obtain ⟨_,d1,_,_,g1,_⟩:=q2.dec (Qa _ _ _)
  have H2:=Lh ((q2.setNeg (Qa _ _ _) nn).upd2);clear q2 H1
  go_wp2_with fail
  go_ret2
  exact ⟨⟨_,rfl,.inr ⟨hb0,rfl⟩⟩,H2.out⟩
end Go.Proofs.YtpfjmeadikdddaaGreatDoor
