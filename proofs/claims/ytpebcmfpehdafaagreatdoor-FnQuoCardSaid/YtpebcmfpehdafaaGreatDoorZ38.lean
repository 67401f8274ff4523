/- a part of the proof -/
import Derived.Test.YtpebcmfpehdafaaGreatDoorZ35
import Derived.Test.YtpebcmfpehdafaaGreatDoorZ37
set_option linter.all false
set_option maxRecDepth 100000
set_option maxHeartbeats 16000000
namespace Go.Proofs.YtpebcmfpehdafaaGreatDoor
open Go Go.RowKit
theorem Qbg {W:World}{σ:Sg}{w:World}(h:St W σ w){bk p md:Nat}{mx mn tr:Int}(hk:Ctx σ bk p mx mn tr md) :
  Calls Tryz.prog 134 #[.pointer (some ⟨bk,0,none⟩)] w fun r w'=>r=.returned (.int .i32 (mn - p+1))∧St W σ w':=by
 obtain ⟨k0,_,k2,_,_⟩:=h.ctx hk
 obtain ⟨_,_,p1,m1,m2,m3,m4,m5⟩:=hk
 have H:=Lh h
 have h1:IntKind.i32.wrap (p:Int)=p:=IntWalk.i32_in _ (by omega)
 have h2:IntKind.i32.wrap (mn - p)=mn - p:=IntWalk.i32_in _ (by omega)
 have h3:IntKind.i32.wrap (mn - p+1)=mn - p+1:=IntWalk.i32_in _ (by omega)
 clear h
 go_enter Tryz.func134, Tryz.ntmps134
 go_wp2_with fail
 go_quiet (fail)
 go_wp2_with fail
 go_ret
 exact ⟨rfl,H.out.sm ⟨rfl,rfl,rfl,rfl⟩⟩
theorem Qbs {W:World}{σ:Sg}{w:World}(h:St W σ w){bk b bx bu p md:Nat}{mx mn:Int}{tr:Nat}(hk:Ctx σ bk p mx mn (tr:Int) md)(htr:tr<4096){f:Int}{n n1 n2:Bool}{e e1 e2 c:Int}{c1 c2:Nat}(hb:σ b=some (.dec f n e c))(hx:σ bx=some (.dec 1 n1 e1 (c1:Int)))(hu:σ bu=some (.dec 1 n2 e2 (c2:Int)))(cl:Bool) :
  Calls Tryz.prog 87 #[.pointer (some ⟨bk,0,none⟩),.pointer (some ⟨b,0,none⟩),.pointer (some ⟨bx,0,none⟩),.pointer (some ⟨bu,0,none⟩),.bool cl] w fun r w'=>(∃ v,r=.returned (.tuple #[.bool true,.int .u32 ((1024:Nat):Int),v])∧ErrV (badK 1024 tr) v)∧St W (upd σ b (.dec 3 false 0 ((0:Nat):Int))) w':=by
 have HN:=Lh (Q3a (bk:=bk) h hx hu (by decide) (by decide))
 obtain ⟨x0,x1,_,_,_,_⟩:=h.dec hx
 obtain ⟨u0,u1,_,_,_,_⟩:=h.dec hu
 have HD:=Lh (fun w1 (hw:SM w w1)=>Qai (h.sm hw))
 have HS:=Lh (fun bn w1 (hn:σ bn=none) (q:St W (upd σ bn (.dec 3 false 0 0)) w1)=>Qaq hb hn (by unfold BB;decide) q)
 have HG:=Lh (fun w1 (q:St W (upd σ b (.dec 3 false 0 0)) w1)=>Q4i q (hk.upd hb _) (k:=1024) (by decide) htr)
 clear h hb hk hx hu
 go_enter Tryz.func87, Tryz.ntmps87
 go_wp2_with fail
 refine HN.out.mono ?_
 rintro r w_ ⟨rfl,hw_⟩
 subst hw_
 clear HN
 go_wp2_with fail
 go_quiet (fail)
 go_wp2_with fail
 go_quiet (fail)
 go_wp2_with fail
 refine (HD.out _ (by exact ⟨rfl,rfl,rfl,rfl⟩)).mono ?_
 rintro r w1 ⟨bn,rfl,hn,q1⟩
 have H1:=Lh (HS.out _ _ hn q1);clear hn q1 HD HS
 go_wp2_with fail
 refine H1.out.mono ?_
 rintro r w2 ⟨rfl,q2⟩
 have H2:=Lh (HG.out _ q2);clear q2 H1 HG
 go_wp2_with fail
 refine H2.out.mono ?_
 rintro r w3 ⟨⟨v,rfl,hv⟩,q3⟩
 have H3:=Lh q3;have HV:=Lh hv;clear q3 hv H2
 go_wp2_with fail
 go_ret3
 exact ⟨⟨_,rfl,HV.out⟩,H3.out⟩
theorem Qbt {W:World}{σ:Sg}{w:World}(h:St W σ w){bk b bx bu p md:Nat}{mx mn:Int}{tr:Nat}(hk:Ctx σ bk p mx mn (tr:Int) md)(htr:tr<4096){f:Int}{n n1 n2:Bool}{e e1 e2 c:Int}{c1 c2:Nat}(hb:σ b=some (.dec f n e c))(hx:σ bx=some (.dec 1 n1 e1 (c1:Int)))(hu:σ bu=some (.dec 0 n2 e2 (c2:Int)))(cl:Bool) :
  Calls Tryz.prog 87 #[.pointer (some ⟨bk,0,none⟩),.pointer (some ⟨b,0,none⟩),.pointer (some ⟨bx,0,none⟩),.pointer (some ⟨bu,0,none⟩),.bool cl] w fun r w'=>(∃ v,r=.returned (.tuple #[.bool true,.int .u32 ((0:Nat):Int),v])∧ErrV (badK 0 tr) v)∧St W (upd σ b (.dec 1 (n1 != n2) 0 ((0:Nat):Int))) w':=by
 have HN:=Lh (Q3a (bk:=bk) h hx hu (by decide) (by decide))
 obtain ⟨x0,x1,_,_,_,_⟩:=h.dec hx
 obtain ⟨u0,u1,_,_,_,_⟩:=h.dec hu
 have HD:=Lh (fun w1 (hw:SM w w1)=>Qad (h.sm hw))
 have HS:=Lh (fun bn w1 (hn:σ bn=none) (q:St W (upd σ bn (.dec 1 false 0 0)) w1)=>Qaq hb hn (by unfold BB;decide) q)
 have HG:=Lh (fun w1 (q:St W (upd σ b (.dec 1 (n1 != n2) 0 ((0:Nat):Int))) w1)=>Q4i q (hk.upd hb _) (k:=0) (by decide) htr)
 generalize hnn:(n1 != n2)=nn at *
 have hnq:(!(n1 == n2))=nn:=hnn
 clear hnn
 clear h hb hk hx hu
 go_enter Tryz.func87, Tryz.ntmps87
 go_wp2_with fail
 refine HN.out.mono ?_
 rintro r w_ ⟨rfl,hw_⟩
 subst hw_
 clear HN
 go_wp2_with fail
 go_quiet (fail)
 go_wp2_with fail
 go_quiet (fail)
 go_wp2_with fail
 refine (HD.out _ (by exact ⟨rfl,rfl,rfl,rfl⟩)).mono ?_
 rintro r w1 ⟨bn,rfl,hn,q1⟩
 have H1:=Lh (HS.out _ _ hn q1);clear hn q1 HD HS
 go_wp2_with fail
 refine H1.out.mono ?_
 rintro r w2 ⟨rfl,q2⟩
 obtain ⟨_,d1,_,_,g1,_⟩:=q2.dec (Q1 _ _ _)
 have H2:=Lh (HG.out _ (q2.setNeg (Q1 _ _ _) nn).upd2);clear q2 H1 HG
 go_wp2_with fail
 refine H2.out.mono ?_
 rintro r w3 ⟨⟨v,rfl,hv⟩,q3⟩
 have H3:=Lh q3;have HV:=Lh hv;clear q3 hv H2
 go_wp2_with fail
 go_ret3
 exact ⟨⟨_,rfl,HV.out⟩,H3.out⟩
theorem Qbh {W:World}{σ:Sg}{w:World}(h:St W σ w){bk b bx bu p md:Nat}{mx mn:Int}{tr:Nat}(hk:Ctx σ bk p mx mn (tr:Int) md)(htr:tr<4096){f:Int}{n n1 n2:Bool}{e e1 e2 c:Int}{c1 c2:Nat}(hb:σ b=some (.dec f n e c))(hx:σ bx=some (.dec 0 n1 e1 (c1:Int)))(hu:σ bu=some (.dec 1 n2 e2 (c2:Int))) :
  Calls Tryz.prog 87 #[.pointer (some ⟨bk,0,none⟩),.pointer (some ⟨b,0,none⟩),.pointer (some ⟨bx,0,none⟩),.pointer (some ⟨bu,0,none⟩),.bool true] w fun r w'=>(∃ v,r=.returned (.tuple #[.bool true,.int .u32 ((2048:Nat):Int),v])∧ErrV (badK 2048 tr) v)∧St W (upd σ b (.dec 0 (n1 != n2) (mn - p+1) ((0:Nat):Int))) w':=by
 have HN:=Lh (Q3a (bk:=bk) h hx hu (by decide) (by decide))
 obtain ⟨x0,x1,_,_,_,_⟩:=h.dec hx
 obtain ⟨u0,u1,_,_,_,_⟩:=h.dec hu
 have HS:=Lh (fun w1 (hw:SM w w1)=>Q55 (h.sm hw) hb 0 (by decide))
 have HG:=Lh (fun w1 (q:St W (upd σ b (.dec 0 (n1 != n2) (mn - p+1) ((0:Nat):Int))) w1)=>Q4i q (hk.upd hb _) (k:=2048) (by decide) htr)
 have HK:=Lh (hk.upd hb (.dec 0 (n1 != n2) 0 0))
 generalize hnn:(n1 != n2)=nn at *
 have hnq:(!(n1 == n2))=nn:=hnn
 clear hnn
 clear h hb hk hx hu
 go_enter Tryz.func87, Tryz.ntmps87
 go_wp2_with fail
 refine HN.out.mono ?_
 rintro r w_ ⟨rfl,hw_⟩
 subst hw_
 clear HN
 go_wp2_with fail
 go_quiet (fail)
 go_wp2_with fail
 go_quiet (fail)
 go_wp2_with fail
 refine (HS.out _ (by exact ⟨rfl,rfl,rfl,rfl⟩)).mono ?_
 rintro r w2 ⟨rfl,q2⟩
 obtain ⟨_,d1,_,_,g1,_⟩:=q2.dec (Q1 _ _ _)
 have H3:=Lh ((q2.setNeg (Q1 _ _ _) nn).upd2);clear q2 HS
 go_wp2_with fail
 refine (Qbg H3.out HK.out).mono ?_
 rintro r w4 ⟨rfl,q4⟩
 obtain ⟨_,_,d2,_,_,g2⟩:=q4.dec (Q1 _ _ _)
 have H2:=Lh (HG.out _ (q4.setExp (Q1 _ _ _) (mn - p+1)).upd2);clear q4 H3 HG
 go_wp2_with fail
 refine H2.out.mono ?_
 rintro r w3 ⟨⟨v,rfl,hv⟩,q3⟩
 have H3:=Lh q3;have HV:=Lh hv;clear q3 hv H2
 go_wp2_with fail
 go_ret3
 exact ⟨⟨_,rfl,HV.out⟩,H3.out⟩
theorem QbH {W:World}{σ:Sg}{w:World}(h:St W σ w){bk b bx bu p md:Nat}{mx mn:Int}{tr:Nat}(hk:Ctx σ bk p mx mn (tr:Int) md)(htr:tr<4096){f:Int}{n n1 n2:Bool}{e e1 e2 c:Int}{c1 c2:Nat}(hb:σ b=some (.dec f n e c))(hx:σ bx=some (.dec 0 n1 e1 (c1:Int)))(hu:σ bu=some (.dec 0 n2 e2 ((0:Nat):Int)))(h0:c1=0)(cl:Bool) :
  Calls Tryz.prog 87 #[.pointer (some ⟨bk,0,none⟩),.pointer (some ⟨b,0,none⟩),.pointer (some ⟨bx,0,none⟩),.pointer (some ⟨bu,0,none⟩),.bool cl] w fun r w'=>(∃ v,r=.returned (.tuple #[.bool true,.int .u32 ((128:Nat):Int),v])∧ErrV (badK 128 tr) v)∧St W (upd σ b (.dec 3 false 0 ((0:Nat):Int))) w':=by
 have HN:=Lh (Q3a (bk:=bk) h hx hu (by decide) (by decide))
 obtain ⟨x0,x1,_,_,_,_⟩:=h.dec hx
 obtain ⟨u0,u1,_,_,_,_⟩:=h.dec hu
 have HZu:Hid (∀ w1,SM w w1→_):=Lh (fun w1 hw=>by have:=QC (c:=0) (h.sm hw) hu;rw [decide_eq_true ⟨rfl,rfl⟩] at this;exact this)
 have HZx:Hid (∀ w1,SM w w1→_):=Lh (fun w1 hw=>by have:=QC (h.sm hw) hx;rw [decide_eq_true ⟨rfl,h0⟩] at this;exact this)
 have HD:=Lh (fun w1 (hw:SM w w1)=>Qai (h.sm hw))
 have HS:=Lh (fun bn w1 (hn:σ bn=none) (q:St W (upd σ bn (.dec 3 false 0 0)) w1)=>Qaq hb hn (by unfold BB;decide) q)
 have HG:=Lh (fun w1 (q:St W (upd σ b (.dec 3 false 0 0)) w1)=>Q4i q (hk.upd hb _) (k:=128) (by decide) htr)
 have hbit:bits .or .u32 0 128=((128:Nat):Int):=(Qr 0 128 (by decide) (by decide)).trans (by decide)
 clear h hb hk hx hu
 go_enter Tryz.func87, Tryz.ntmps87
 go_wp2_with fail
 refine HN.out.mono ?_
 rintro r w_ ⟨rfl,hw_⟩
 subst hw_
 clear HN
 go_wp2_with fail
 go_quiet (fail)
 go_wp2_with fail
 go_quiet (fail)
 go_wp2_with fail
 refine (HZu.out _ (by exact ⟨rfl,rfl,rfl,rfl⟩)).mono ?_
 rintro r w_ ⟨rfl,hw_⟩
 subst hw_
 clear HZu
 go_wp2_with fail
 refine (HZx.out _ (by exact ⟨rfl,rfl,rfl,rfl⟩)).mono ?_
 rintro r w_ ⟨rfl,hw_⟩
 subst hw_
 clear HZx
 go_wp2_with fail
 refine (HD.out _ (by exact ⟨rfl,rfl,rfl,rfl⟩)).mono ?_
 rintro r w1 ⟨bn,rfl,hn,q1⟩
 have H1:=Lh (HS.out _ _ hn q1);clear hn q1 HD HS
 go_wp2_with fail
 refine H1.out.mono ?_
 rintro r w2 ⟨rfl,q2⟩
 have H2:=Lh (HG.out _ q2);clear q2 H1 HG
 go_wp2_with fail
 refine H2.out.mono ?_
 rintro r w3 ⟨⟨v,rfl,hv⟩,q3⟩
 have H3:=Lh q3;have HV:=Lh hv;clear q3 hv H2
 go_wp2_with fail
 go_ret3
 exact ⟨⟨_,rfl,HV.out⟩,H3.out⟩
theorem QbI {W:World}{σ:Sg}{w:World}(h:St W σ w){bk b bx bu p md:Nat}{mx mn:Int}{tr:Nat}(hk:Ctx σ bk p mx mn (tr:Int) md)(htr:tr<4096){f:Int}{n n1 n2:Bool}{e e1 e2 c:Int}{c1 c2:Nat}(hb:σ b=some (.dec f n e c))(hx:σ bx=some (.dec 0 n1 e1 (c1:Int)))(hu:σ bu=some (.dec 0 n2 e2 ((0:Nat):Int)))(h0:c1≠0)(cl:Bool) :
  Calls Tryz.prog 87 #[.pointer (some ⟨bk,0,none⟩),.pointer (some ⟨b,0,none⟩),.pointer (some ⟨bx,0,none⟩),.pointer (some ⟨bu,0,none⟩),.bool cl] w fun r w'=>(∃ v,r=.returned (.tuple #[.bool true,.int .u32 ((256:Nat):Int),v])∧ErrV (badK 256 tr) v)∧St W (upd σ b (.dec 1 (n1 != n2) 0 ((0:Nat):Int))) w':=by
 have HN:=Lh (Q3a (bk:=bk) h hx hu (by decide) (by decide))
 obtain ⟨x0,x1,_,_,_,_⟩:=h.dec hx
 obtain ⟨u0,u1,_,_,_,_⟩:=h.dec hu
 have HZu:Hid (∀ w1,SM w w1→_):=Lh (fun w1 hw=>by have:=QC (c:=0) (h.sm hw) hu;rw [decide_eq_true ⟨rfl,rfl⟩] at this;exact this)
 have HZx:Hid (∀ w1,SM w w1→_):=Lh (fun w1 hw=>by have:=QC (h.sm hw) hx;rw [decide_eq_false (fun q=>h0 q.2)] at this;exact this)
 have HD:=Lh (fun w1 (hw:SM w w1)=>Qad (h.sm hw))
 have HS:=Lh (fun bn w1 (hn:σ bn=none) (q:St W (upd σ bn (.dec 1 false 0 0)) w1)=>Qaq hb hn (by unfold BB;decide) q)
 have HG:=Lh (fun w1 (q:St W (upd σ b (.dec 1 (n1 != n2) 0 ((0:Nat):Int))) w1)=>Q4i q (hk.upd hb _) (k:=256) (by decide) htr)
 generalize hnn:(n1 != n2)=nn at *
 have hnq:(!(n1 == n2))=nn:=hnn
 clear hnn
 have hbit:bits .or .u32 0 256=((256:Nat):Int):=(Qr 0 256 (by decide) (by decide)).trans (by decide)
 clear h hb hk hx hu
 go_enter Tryz.func87, Tryz.ntmps87
 go_wp2_with fail
 refine HN.out.mono ?_
 rintro r w_ ⟨rfl,hw_⟩
 subst hw_
 clear HN
 go_wp2_with fail
 go_quiet (fail)
 go_wp2_with fail
 go_quiet (fail)
 go_wp2_with fail
 refine (HZu.out _ (by exact ⟨rfl,rfl,rfl,rfl⟩)).mono ?_
 rintro r w_ ⟨rfl,hw_⟩
 subst hw_
 clear HZu
 go_wp2_with fail
 refine (HZx.out _ (by exact ⟨rfl,rfl,rfl,rfl⟩)).mono ?_
 rintro r w_ ⟨rfl,hw_⟩
 subst hw_
 clear HZx
 go_wp2_with fail
 refine (HD.out _ (by exact ⟨rfl,rfl,rfl,rfl⟩)).mono ?_
 rintro r w1 ⟨bn,rfl,hn,q1⟩
 have H1:=Lh (HS.out _ _ hn q1);clear hn q1 HD HS
 go_wp2_with fail
 refine H1.out.mono ?_
 rintro r w2 ⟨rfl,q2⟩
 obtain ⟨_,d1,_,_,g1,_⟩:=q2.dec (Q1 _ _ _)
 have H2:=Lh (HG.out _ (q2.setNeg (Q1 _ _ _) nn).upd2);clear q2 H1 HG
 go_wp2_with fail
 refine H2.out.mono ?_
 rintro r w3 ⟨⟨v,rfl,hv⟩,q3⟩
 have H3:=Lh q3;have HV:=Lh hv;clear q3 hv H2
 go_wp2_with fail
 go_ret3
 exact ⟨⟨_,rfl,HV.out⟩,H3.out⟩
theorem QbC {W:World}{σ:Sg}{w:World}(h:St W σ w){bk b bx bu p md:Nat}{mx mn:Int}{tr:Nat}(hk:Ctx σ bk p mx mn (tr:Int) md)(htr:tr<4096){f f1 f2:Int}{n n1 n2:Bool}{e e1 e2 c c1 c2:Int}(hb:σ b=some (.dec f n e c))(hx:σ bx=some (.dec f1 n1 e1 c1))(hu:σ bu=some (.dec f2 n2 e2 c2))(hc1:c1.natAbs<BB^100)(hc2:c2.natAbs<BB^100)(hf:f1=2∨f1=3∨f2=2∨f2=3)(cl:Bool) :
  Calls Tryz.prog 87 #[.pointer (some ⟨bk,0,none⟩),.pointer (some ⟨b,0,none⟩),.pointer (some ⟨bx,0,none⟩),.pointer (some ⟨bu,0,none⟩),.bool cl] w fun r w'=>(∃ v,r=.returned (.tuple #[.bool true,.int .u32 (((if f1=2∨f2=2 then 1024 else 0):Nat):Int),v])∧ErrV (badK (if f1=2∨f2=2 then 1024 else 0) tr) v)∧St W (upd σ b (.dec 3 (bif nanP f1 f2 then n1 else n2) (bif nanP f1 f2 then e1 else e2) (bif nanP f1 f2 then c1 else c2))) w':=by
 have HN:=Lh (QaU (bk:=bk) h hx hu)
 rw [decide_eq_true hf] at HN
 have HS:=Lh (Qbo h hk htr hb hx hu hc1 hc2 hf)
 generalize (if f1=2∨f2=2 then 1024 else 0:Nat)=k at HS ⊢
 generalize Ob.dec 3 (bif nanP f1 f2 then n1 else n2) (bif nanP f1 f2 then e1 else e2) (bif nanP f1 f2 then c1 else c2)=D at HS ⊢
 clear h hb hx hu hk hc1 hc2
 go_enter Tryz.func87, Tryz.ntmps87
 go_wp2_with fail
 refine HN.out.mono ?_
 rintro r w_ ⟨rfl,hw_⟩
 subst hw_
 clear HN
 go_wp2_with fail
 refine HS.out.mono ?_
 rintro r w3 ⟨⟨v,rfl,hv⟩,q3⟩
 have H3:=Lh q3;have HV:=Lh hv;clear q3 hv HS
 go_wp2_with fail
 go_ret3
 exact ⟨⟨_,rfl,HV.out⟩,H3.out⟩
theorem Qaj {W:World}{τ:Sg}{w:World}{bk b bx bu K tr:Nat}(HQ:Calls Tryz.prog 87 #[.pointer (some ⟨bk,0,none⟩),.pointer (some ⟨b,0,none⟩),.pointer (some ⟨bx,0,none⟩),.pointer (some ⟨bu,0,none⟩),.bool true] w fun r w'=>(∃ v,r=.returned (.tuple #[.bool true,.int .u32 ((K:Nat):Int),v])∧ErrV (badK K tr) v)∧St W τ w') :
  Calls Tryz.prog 39 #[.pointer (some ⟨bk,0,none⟩),.pointer (some ⟨b,0,none⟩),.pointer (some ⟨bx,0,none⟩),.pointer (some ⟨bu,0,none⟩)] w fun r w'=>(∃ v,r=.returned (.tuple #[.int .u32 ((K:Nat):Int),v])∧ErrV (badK K tr) v)∧St W τ w':=by
 have HQ:=Lh HQ
 go_enter Tryz.func39, Tryz.ntmps39
 go_wp2_with fail
 refine HQ.out.mono ?_
 rintro r w3 ⟨⟨v,rfl,hv⟩,q3⟩
 have H3:=Lh q3;have HV:=Lh hv;clear q3 hv HQ
 go_wp2_with fail
 go_ret2
 exact ⟨⟨_,rfl,HV.out⟩,H3.out⟩
end Go.Proofs.YtpebcmfpehdafaaGreatDoor
