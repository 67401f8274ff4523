/- a part of the proof -/
import Derived.Test.YtpebcmfpehdafaaGreatDoorZ24
set_option linter.all false
set_option maxRecDepth 100000
set_option maxHeartbeats 16000000
namespace Go.Proofs.YtpebcmfpehdafaaGreatDoor
open Go Go.RowKit
theorem Q4r {W:World}{σ:Sg}{w:World}(hW:GW W)(h:St W σ w){b bk:Nat}{f:Int}{n:Bool}{e:Int}{c p md:Nat}{mx mn tr:Int}(hb:σ b=some (.dec f n e (c:Int)))(hk:Ctx σ bk p mx mn tr md)(hc:c<BB^20)(he:e.natAbs≤420)
  (g1:f=0∨mn≤e+ndg c - 1) (g2:c=0→(e<mn→mn - ((p:Int) - 1)≤e)∧e≤mx) :
  Calls Tryz.prog 68 #[.pointer (some ⟨bk,0,none⟩),.pointer (some ⟨b,0,none⟩),.pointer (some ⟨b,0,none⟩)] w fun r w'=>r=.returned (.int .u32 (((rndF p mx mn md f n e c).k:Nat):Int))∧St W (upd σ b (rndF p mx mn md f n e c).ob) w':=by
 have HR:=Lh (Q3M hW ((Q0G h hb).mono fun r w' ⟨a,q⟩=>⟨a,q ▸ h⟩) hb hb hk hc he g1 g2)
 have k4:=(h.ctx hk).2.2.2.2
 generalize rndF p mx mn md f n e c=X at HR ⊢
 clear h hb hk hc g1 g2
 go_enter Tryz.func68, Tryz.ntmps68
 go_wp2_with fail
 refine HR.out.mono ?_
 rintro r w1 ⟨rfl,q⟩
 have H1:=Lh q;clear q HR
 go_wp2_with fail
 go_ret
 exact ⟨rfl,H1.out⟩
end Go.Proofs.YtpebcmfpehdafaaGreatDoor
