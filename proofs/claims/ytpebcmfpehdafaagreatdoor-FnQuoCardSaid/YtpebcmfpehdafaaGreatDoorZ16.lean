/- a part of the proof -/
import Derived.Test.YtpebcmfpehdafaaGreatDoorZ8
import Derived.Test.YtpebcmfpehdafaaGreatDoorZ15
set_option linter.all false
set_option maxRecDepth 100000
set_option maxHeartbeats 16000000
namespace Go.Proofs.YtpebcmfpehdafaaGreatDoor
open Go Go.RowKit
theorem QaF (p md tr:Nat)(mx mn:Int)(n:Bool)(k:Nat)(e:Int)(s:ByteArray)(w:World) :
  Calls Tryz.prog 34 #[CV p mx mn tr md,RsV 0 n e s k true false false,DV 0 n e s,.int .u32 (k:Int)] w fun r w'=>r=.returned (.bool true)∧Below w.heap.size w w':=by
 have HB':=Lh (fun o o' o''=>bal (bal (Qm w o) o') o'')
 unfold CV RsV DV
 go_enter Tryz.func34, Tryz.ntmps34
 go_wp2_with fail
 go_ret
 exact ⟨rfl,HB'.out _ _ _⟩
theorem QaG (p md tr:Nat)(mx mn:Int)(n:Bool)(k:Nat)(e e':Int)(s s':ByteArray)(w:World) :
  Calls Tryz.prog 34 #[CV p mx mn tr md,RsV 1 n e s k true false false,DV 1 n e' s',.int .u32 (k:Int)] w fun r w'=>r=.returned (.bool true)∧Below w.heap.size w w':=by
 have HB':=Lh (fun o o' o''=>bal (bal (Qm w o) o') o'')
 unfold CV RsV DV
 go_enter Tryz.func34, Tryz.ntmps34
 go_wp2_with fail
 go_ret
 exact ⟨rfl,HB'.out _ _ _⟩
theorem Qam (p md tr:Nat)(mx mn:Int)(n n':Bool)(k:Nat)(e e':Int)(s s':ByteArray)(w:World) :
  Calls Tryz.prog 34 #[CV p mx mn tr md,RsV 3 n e s k true false false,DV 3 n' e' s',.int .u32 (k:Int)] w fun r w'=>r=.returned (.bool true)∧Below w.heap.size w w':=by
 have HB':=Lh (fun o o' o''=>bal (bal (Qm w o) o') o'')
 unfold CV RsV DV
 go_enter Tryz.func34, Tryz.ntmps34
 go_wp2_with fail
 go_ret
 exact ⟨rfl,HB'.out _ _ _⟩
end Go.Proofs.YtpebcmfpehdafaaGreatDoor
