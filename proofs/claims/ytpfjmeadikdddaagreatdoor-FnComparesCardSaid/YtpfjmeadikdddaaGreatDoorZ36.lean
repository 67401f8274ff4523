/- a part of the proof -/
import Derived.Test.YtpfjmeadikdddaaGreatDoorZ19
import Derived.Test.YtpfjmeadikdddaaGreatDoorZ23
set_option linter.all false
set_option maxRecDepth 100000
set_option maxHeartbeats 16000000
namespace Go.Proofs.YtpfjmeadikdddaaGreatDoor
open Go Go.RowKit
theorem Q7w (p md tr:Nat)(mx mn:Int)(hmd:md<8)(n:Bool)(k:Nat)(hk:k<4096)(h4:k &&& 4≠0)(e:Int)(s:ByteArray)(w:World) :
  Calls Tryz.prog 16 #[CV p mx mn tr md,RsV 1 n 0 ⟨#[]⟩ 4 true false true,DV 1 n e s,.int .u32 (k:Int)] w fun r w'=>r=.returned (.bool true)∧Below w.heap.size w w':=by
 have HB:=Lh (fun o=>Qf w o)
 have HB':=Lh (fun o o' o''=>bal (bal (Qf w o) o') o'')
 have hA:bits .and .u32 (k:Int) 4=((k &&& 4:Nat):Int):=Q1q k 4 hk (by decide)
 generalize k &&& 4=z at hA h4
 have hz:((z:Int)=0)=False:=by simp;omega
 have hz1:((z:Int) == 0)=false:=by simp;omega
 have hz2:((z:Int) != 0)=true:=by simp;omega
 clear hk h4
 unfold CV RsV DV
 rcases (show md=0∨md=1∨md=2∨md=3∨md=4∨md=5∨md=6∨md=7 by omega) with rfl | rfl | rfl | rfl | rfl | rfl | rfl | rfl
 all_goals
  cases n
  all_goals
   go_enter Tryz.func16, Tryz.ntmps16
   go_wp2_with fail
   go_ret
   exact ⟨rfl,HB'.out _ _ _⟩
theorem Q5o (p md tr:Nat)(mx mn:Int)(n:Bool)(k:Nat)(e:Int)(s:ByteArray)(w:World) :
  Calls Tryz.prog 16 #[CV p mx mn tr md,RsV 0 n e s k true false false,DV 0 n e s,.int .u32 (k:Int)] w fun r w'=>r=.returned (.bool true)∧Below w.heap.size w w':=by
 have HB':=Lh (fun o o' o''=>bal (bal (Qf w o) o') o'')
 unfold CV RsV DV
 go_enter Tryz.func16, Tryz.ntmps16
 go_wp2_with fail
 go_ret
 exact ⟨rfl,HB'.out _ _ _⟩
theorem Q8I (p md tr:Nat)(mx mn:Int)(n:Bool)(k:Nat)(e e':Int)(s s':ByteArray)(w:World) :
  Calls Tryz.prog 16 #[CV p mx mn tr md,RsV 1 n e s k true false false,DV 1 n e' s',.int .u32 (k:Int)] w fun r w'=>r=.returned (.bool true)∧Below w.heap.size w w':=by
 have HB':=Lh (fun o o' o''=>bal (bal (Qf w o) o') o'')
 unfold CV RsV DV
 go_enter Tryz.func16, Tryz.ntmps16
 go_wp2_with fail
 go_ret
 exact ⟨rfl,HB'.out _ _ _⟩
theorem Q3r (p md tr:Nat)(mx mn:Int)(n n':Bool)(k:Nat)(e e':Int)(s s':ByteArray)(w:World) :
  Calls Tryz.prog 16 #[CV p mx mn tr md,RsV 3 n e s k true false false,DV 3 n' e' s',.int .u32 (k:Int)] w fun r w'=>r=.returned (.bool true)∧Below w.heap.size w w':=by
 have HB':=Lh (fun o o' o''=>bal (bal (Qf w o) o') o'')
 unfold CV RsV DV
 go_enter Tryz.func16, Tryz.ntmps16
 go_wp2_with fail
 go_ret
 exact ⟨rfl,HB'.out _ _ _⟩
end Go.Proofs.YtpfjmeadikdddaaGreatDoor
