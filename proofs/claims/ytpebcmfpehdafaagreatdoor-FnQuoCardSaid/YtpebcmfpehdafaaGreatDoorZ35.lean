/- a part of the proof -/
import Derived.Test.YtpebcmfpehdafaaGreatDoorZ17
set_option linter.all false
set_option maxRecDepth 100000
set_option maxHeartbeats 16000000
namespace Go.Proofs.YtpebcmfpehdafaaGreatDoor
open Go Go.RowKit
theorem Qai {W:World}{σ:Sg}{w:World}(h:St W σ w):Calls Tryz.prog 83 #[] w (NewDec W σ 3 false 0 0):=by
 have hn:=h.none_new
 have HA:=Lh (h.alloc_dec 71 3 0 false)
 clear h
 go_enter Tryz.func83, Tryz.ntmps83
 go_wp2_with fail
 go_ret
 exact ⟨_,rfl,hn,HA.out⟩
theorem Qad {W:World}{σ:Sg}{w:World}(h:St W σ w):Calls Tryz.prog 84 #[] w (NewDec W σ 1 false 0 0):=by
 have hn:=h.none_new
 have HA:=Lh (h.alloc_dec 71 1 0 false)
 clear h
 go_enter Tryz.func84, Tryz.ntmps84
 go_wp2_with fail
 go_ret
 exact ⟨_,rfl,hn,HA.out⟩
theorem Qaq {W:World}{σ:Sg}{w:World}{b bn:Nat}{f f':Int}{n n':Bool}{e e' c c':Int}(hb:σ b=some (.dec f n e c))(hn:σ bn=none)(hc:c'.natAbs<BB^100)(h:St W (upd σ bn (.dec f' n' e' c')) w) :
  Calls Tryz.prog 82 #[.pointer (some ⟨b,0,none⟩),.pointer (some ⟨bn,0,none⟩)] w fun r w'=>r=.returned (.pointer (some ⟨b,0,none⟩))∧St W (upd σ b (.dec f' n' e' c')) w':=by
 have ne:b≠bn:=by rintro rfl;rw [hb] at hn;cases hn
 exact (Q2X h (by rw [Qa _ _ ne];exact hb) (Q1 _ _ _) ne hc).mono fun r w' ⟨a,q⟩=>⟨a,q.less ((Ext.new hn _).upd b _)⟩
end Go.Proofs.YtpebcmfpehdafaaGreatDoor
