/- a part of the proof -/
import Derived.Test.YtpebcmfpehdafaaGreatDoorZ15
set_option linter.all false
set_option maxRecDepth 100000
set_option maxHeartbeats 16000000
namespace Go.Proofs.YtpebcmfpehdafaaGreatDoor
open Go Go.RowKit
theorem Q8w {W:World}{σ:Sg}{w:World}(h:St W σ w){b:Nat}{f:Int}{n:Bool}{e c:Int}(hb:σ b=some (.dec f n e c))(v:Int)(hv:v.natAbs<2^62) :
  Calls Tryz.prog 179 #[.pointer (some ⟨b,0,none⟩),.int .i64 v] w fun r w'=>r=.returned (.tuple #[])∧St W (upd σ b (.dec 0 (decide (v<0)) e (v.natAbs:Int))) w':=by
 obtain ⟨c0,c1,c2,f0,f1,f2⟩:=h.dec hb
 have h1:=h.setNeg hb (decide (v<0))
 have HA:=Lh (Q0k (Q0j h1 (Num.dec (Q1 _ _ _)) (v:=v) hv))
 have HS:Hid (∀ w1,St W (upd σ b (.dec f (decide (v<0)) e v)) w1→(Calls Tryz.prog 89 #[.pointer (some ⟨b,3,none⟩),.pointer (some ⟨b,3,none⟩)] w1 fun r w2=>r=.returned (.pointer (some ⟨b,3,none⟩))∧(w2.cell? ⟨b,0,none⟩=some (.int .i8 f)∧w2.frozen? ⟨b,0,none⟩=false)∧St W (upd σ b (.dec 0 (decide (v<0)) e (v.natAbs:Int))) (w2.setCell ⟨b,0,none⟩ (.int .i8 0)))):=fun w1 k1=>by
  refine Q2W ((Q2f k1.drew (Num.dec (Q1 _ _ _))).mono ?_)
  rintro r w2 ⟨rfl,k2⟩
  have k3:=k2.decN
  obtain ⟨d0,_,_,g0,_⟩:=k3.dec (Q1 _ _ _)
  exact ⟨rfl,⟨d0,g0⟩,(k3.setForm (Q1 _ _ _) 0).upd2⟩
 clear h h1 hb hv
 go_enter Tryz.func179, Tryz.ntmps179
 go_wp2_with fail
 refine HA.out.mono ?_
 rintro r w1 ⟨rfl,k1⟩
 have H1:=Lh (HS.out _ k1.decN.drew)
 clear k1 HA HS
 go_wp2_with fail
 go_still_tail 6,(by kernel_rfl)
 go_wp2_with fail
 refine H1.out.mono ?_
 rintro r w2 ⟨rfl,⟨d0,g0⟩,k2⟩
 have H2:=Lh k2
 clear k2 H1
 go_wp2_with fail
 go_returns
 exact ⟨rfl,H2.out⟩
theorem Q9W {W:World}{σ:Sg}{w:World}(h:St W σ w){b:Nat}{f:Int}{n:Bool}{e c:Int}(hb:σ b=some (.dec f n e c))(v:Int)(hv:v.natAbs<2^62)(e':Int) :
  Calls Tryz.prog 155 #[.pointer (some ⟨b,0,none⟩),.int .i64 v,.int .i32 e'] w fun r w'=>r=.returned (.pointer (some ⟨b,0,none⟩))∧St W (upd σ b (.dec 0 (decide (v<0)) e' (v.natAbs:Int))) w':=by
 have HA:=Lh (Q8w h hb v hv)
 clear h hb hv
 go_enter Tryz.func155, Tryz.ntmps155
 go_wp2_with fail
 refine HA.out.mono ?_
 rintro r w1 ⟨rfl,k1⟩
 obtain ⟨_,_,d2,_,_,g2⟩:=k1.dec (Q1 _ _ _)
 have H1:=Lh (k1.setExp (Q1 _ _ _) e').upd2
 clear k1 HA
 go_wp2_with fail
 go_ret
 exact ⟨rfl,H1.out⟩
theorem Q55 {W:World}{σ:Sg}{w:World}(h:St W σ w){b:Nat}{f:Int}{n:Bool}{e c:Int}(hb:σ b=some (.dec f n e c))(v:Int)(hv:v.natAbs<2^62) :
  Calls Tryz.prog 112 #[.pointer (some ⟨b,0,none⟩),.int .i64 v] w fun r w'=>r=.returned (.pointer (some ⟨b,0,none⟩))∧St W (upd σ b (.dec 0 (decide (v<0)) 0 (v.natAbs:Int))) w':=by
 have HS:=Lh (Q9W h hb v hv 0)
 clear h hb hv
 go_enter Tryz.func112, Tryz.ntmps112
 go_wp2_with fail
 refine HS.out.mono ?_
 rintro r w1 ⟨rfl,q⟩
 have H1:=Lh q;clear q HS
 go_wp2_with fail
 go_ret
 exact ⟨rfl,H1.out⟩
end Go.Proofs.YtpebcmfpehdafaaGreatDoor
