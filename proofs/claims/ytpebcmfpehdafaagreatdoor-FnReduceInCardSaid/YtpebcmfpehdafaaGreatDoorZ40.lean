/- a part of the proof -/
import Derived.Test.YtpebcmfpehdafaaGreatDoorZ32
import Derived.Test.YtpebcmfpehdafaaGreatDoorZ39
set_option linter.all false
set_option maxRecDepth 100000
set_option maxHeartbeats 16000000
namespace Go.Proofs.YtpebcmfpehdafaaGreatDoor
open Go Go.RowKit
theorem Q3g {W:World}{σ:Sg}{w:World}(hW:GW W)(h:St W σ w){b bx:Nat}{f:Int}{nd n:Bool}{ed e:Int}(hb:σ b=some (.dec f nd ed ((0:Nat):Int)))(hx:σ bx=some (.dec 0 n e ((0:Nat):Int))) :
  Calls Tryz.prog 67 #[.pointer (some ⟨b,0,none⟩),.pointer (some ⟨bx,0,none⟩)] w fun r w'=>r=.returned (.tuple #[.pointer (some ⟨b,0,none⟩),.int .i64 0])∧St W (upd σ b (.dec 0 false 0 0)) w':=by
 have HSg:=Lh (QK h hx)
 have hsg:decSgn 0 n 0=0:=by unfold decSgn;rw [if_pos ⟨rfl,rfl⟩]
 rw [hsg] at HSg
 obtain ⟨x0,_,_,_,_,_⟩:=h.dec hx
 have HD:=Lh (Qs hW h (c:=0) hb (by unfold BB;decide))
 rw [show ndg 0=1 from Qj (by decide)] at HD
 have HZ:Hid (∀ w1,St W σ w1→Calls Tryz.prog 112 #[.pointer (some ⟨b,0,none⟩),.int .i64 0] w1 fun r w'=>r=.returned (.pointer (some ⟨b,0,none⟩))∧St W (upd σ b (.dec 0 false 0 0)) w'):=Lh (fun w1 q=>Q55 q hb 0 (by decide))
 clear h hb hx hsg
 go_enter Tryz.func67, Tryz.ntmps67
 go_wp2_with fail
 refine HSg.out.mono ?_
 rintro r w_ ⟨rfl,hw_⟩
 subst hw_
 clear HSg
 go_wp2_with fail
 refine HD.out.mono ?_
 rintro r w1 ⟨rfl,q1⟩
 have H1:=Lh (HZ.out _ q1);clear q1 HD HZ x0
 go_wp2_with fail
 refine H1.out.mono ?_
 rintro r w2 ⟨rfl,q2⟩
 have H2:=Lh q2;clear q2 H1
 go_wp2_with fail
 go_ret2
 exact ⟨rfl,H2.out⟩
end Go.Proofs.YtpebcmfpehdafaaGreatDoor
