/- a part of the proof -/
import Derived.Test.YtamldngoemdfgaaGreatDoorZ10
import Derived.Test.YtamldngoemdfgaaGreatDoorZ21
set_option linter.all false
set_option maxRecDepth 100000
set_option maxHeartbeats 16000000
namespace Go.Proofs.YtamldngoemdfgaaGreatDoor
open Go Go.RowKit
theorem Q4O (p md tr : Nat) (mx mn : Int) (n : Bool) (k : Nat) (e : Int) (s : ByteArray) (w : World) :
  Calls Tryz.prog 14 #[CV p mx mn tr md, RsV 0 n e s k true false false, DV 0 n e s, .int .u32 (k : Int)] w fun r w' => r = .returned (.bool true) ∧ Below w.heap.size w w' := by
 have HB' := Lh (fun o o' o'' => bal (bal (Qe w o) o') o'')
 unfold CV RsV DV
 go_enter Tryz.func14, Tryz.ntmps14
 go_wp2_with fail
 go_ret
 exact ⟨rfl, HB'.out _ _ _⟩
end Go.Proofs.YtamldngoemdfgaaGreatDoor
