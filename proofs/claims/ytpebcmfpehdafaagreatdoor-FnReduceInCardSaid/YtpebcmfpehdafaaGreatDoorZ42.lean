/- a part of the proof -/
import Derived.Test.YtpebcmfpehdafaaGreatDoorZ40
import Derived.Test.YtpebcmfpehdafaaGreatDoorZ41
set_option linter.all false
set_option maxRecDepth 100000
set_option maxHeartbeats 16000000
namespace Go.Proofs.YtpebcmfpehdafaaGreatDoor
open Go Go.RowKit
theorem Q7j {W:World}{σ:Sg}{w:World}(hW:GW W)(h:St W σ w){b bx bk p md:Nat}{mx mn:Int}{tr:Nat}(hk:Ctx σ bk p mx mn (tr:Int) md)(htr:tr<4096){f ed cd e e2:Int}{nd n n2:Bool}{c c2 z:Nat}(hb:σ b=some (.dec f nd ed cd))(hx:σ bx=some (.dec 0 n e (c:Int)))
  (HRd:Calls Tryz.prog 67 #[.pointer (some ⟨b,0,none⟩),.pointer (some ⟨bx,0,none⟩)] w fun r w'=>r=.returned (.tuple #[.pointer (some ⟨b,0,none⟩),.int .i64 (z:Int)])∧St W (upd σ b (.dec 0 n2 e2 (c2:Int))) w')
  (hc:c2<BB^20) (he:e2.natAbs≤420) (g2:c2=0→(e2<mn→mn - ((p:Int) - 1)≤e2)∧e2≤mx) :
  Calls Tryz.prog 30 #[.pointer (some ⟨bk,0,none⟩),.pointer (some ⟨b,0,none⟩),.pointer (some ⟨bx,0,none⟩)] w fun r w'=>(∃ v,r=.returned (.tuple #[.int .i64 (z:Int),.int .u32 ((rndF p mx mn md 0 n e2 c2).k:Int),v])∧ErrV (badK (rndF p mx mn md 0 n e2 c2).k tr) v)∧St W (upd σ b (rndF p mx mn md 0 n e2 c2).ob) w':=by
 have HN:=Lh (Q79 (bk:=bk) h hx)
 rw [decide_eq_false (by decide)] at HN
 obtain ⟨_,x1,_,_,_,_⟩:=h.dec hx
 have HD:=Lh HRd
 have HR:Hid (∀ w1,St W (upd σ b (.dec 0 n e2 (c2:Int))) w1→Calls Tryz.prog 68 #[.pointer (some ⟨bk,0,none⟩),.pointer (some ⟨b,0,none⟩),.pointer (some ⟨b,0,none⟩)] w1 fun r w'=>r=.returned (.int .u32 (((rndF p mx mn md 0 n e2 c2).k:Nat):Int))∧St W (upd σ b (rndF p mx mn md 0 n e2 c2).ob) w'):=Lh (fun w1 q1 =>
  (Q4r hW q1 (Q1 _ _ _) (hk.upd hb _) hc he (.inl rfl) g2).mono fun r w' ⟨a,q⟩=>⟨a,q.upd2⟩)
 have hl:(rndF p mx mn md 0 n e2 c2).k<4096:=Q6l
 generalize rndF p mx mn md 0 n e2 c2=X at HR hl ⊢
 have HK:=Lh (hk.upd hb X.ob)
 clear h hb hx hk HRd hc he g2
 go_enter Tryz.func30, Tryz.ntmps30
 go_wp2_with fail
 refine HN.out.mono ?_
 rintro r w_ ⟨rfl,hw_⟩
 subst hw_
 clear HN
 go_wp2_with fail
 refine HD.out.mono ?_
 rintro r w1 ⟨rfl,q1⟩
 obtain ⟨_,d1,_,_,g1,_⟩:=q1.dec (Q1 _ _ _)
 have H1:=Lh (HR.out _ (q1.setNeg (Q1 _ _ _) n).upd2);clear q1 HD HR x1
 go_wp2_with fail
 refine H1.out.mono ?_
 rintro r w2 ⟨rfl,q2⟩
 have H2:=Lh (Q4i q2 HK.out hl htr);clear q2 H1
 go_wp2_with fail
 refine H2.out.mono ?_
 rintro r w3 ⟨⟨v,rfl,hv⟩,q3⟩
 have H3:=Lh q3;have HV:=Lh hv;clear q3 hv H2
 go_wp2_with fail
 go_ret3
 exact ⟨⟨_,rfl,HV.out⟩,H3.out⟩
end Go.Proofs.YtpebcmfpehdafaaGreatDoor
