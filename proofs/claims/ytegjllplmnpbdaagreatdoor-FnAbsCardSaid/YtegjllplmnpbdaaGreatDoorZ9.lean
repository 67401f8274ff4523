/- a part of the proof: what functions that the statement reaches do -/
import Derived.Test.YtegjllplmnpbdaaGreatDoorZ8
set_option linter.all false
set_option maxRecDepth 100000
set_option maxHeartbeats 16000000
namespace Go.Proofs.YtegjllplmnpbdaaGreatDoor
open Go Go.RowKit
theorem Q2N {W : World} {σ : Sg} {w : World} (hW : GW W) (h : St W σ w) {bz oz bu ou : Nat} {x y : Nat} (hz : Num σ bz oz (x : Int)) (hu : Num σ bu ou (y : Int)) (neu : bz ≠ bu) (lx : x < BB ^ 39) (ly : y < BB ^ 100) :
  Calls Tryz.prog 110 #[.pointer (some ⟨bz, oz, none⟩), .pointer (some ⟨bz, oz, none⟩), .pointer (some ⟨bu, ou, none⟩)] w fun e w' => e = .returned (.pointer (some ⟨bz, oz, none⟩)) ∧ St W (setN σ bz ((x * y : Nat) : Int)) w' := by
 have HE := Lh (Q6I hW h hz hu neu neu lx ly)
 generalize ((x * y : Nat) : Int) = t at HE ⊢
 clear h hW hu hz lx ly
 go_enter Tryz.func110, Tryz.ntmps110
 go_wp2_with (go_at_call 149; refine HE.out.mono ?_; rintro e w1 ⟨rfl, hS⟩; have HS := Lh hS; clear hS)
 go_ret
 exact ⟨rfl, HS.out⟩
end Go.Proofs.YtegjllplmnpbdaaGreatDoor
