/- a part of the proof -/
import Derived.Test.YtpebcmfpehdafaaGreatDoorZ10
set_option linter.all false
set_option maxRecDepth 100000
set_option maxHeartbeats 16000000
namespace Go.Proofs.YtpebcmfpehdafaaGreatDoor
open Go Go.RowKit
theorem Q9b (m:Nat)(hm:m<8)(neg:Bool)(h:Int)(q:Nat)(hq:q=0){w:World}{v:Value}(hv:NumV w v false q):Calls Tryz.prog 57 #[.int .i64 (m:Int),.bool neg,v,.int .i64 h] w fun r w'=>r=.returned (.bool (upR m neg q h))∧Below w.heap.size w w':=by
 have HB:=Lh (fun o=>Qm w o)
 obtain ⟨s,rfl,p,cap,rfl,_,_,hd⟩:=hv
 subst hq
 rw [Qp]
 clear hd
 rcases (show m=0∨m=1∨m=2∨m=3∨m=4∨m=5∨m=6∨m=7 by omega) with rfl | rfl | rfl | rfl | rfl | rfl | rfl | rfl
 ·have HR:Hid (upR 0 neg 0 h=false):=Lh rfl
  go_enter Tryz.func57, Tryz.ntmps57
  go_wp2_with fail
  go_ret
  exact ⟨by rw [HR.out];rfl,HB.out _⟩
 ·by_cases a1:0≤h
  ·have b1:decide (0≤h)=true:=decide_eq_true a1
   have HR:Hid (upR 1 neg 0 h=true):=Lh b1
   go_enter Tryz.func57, Tryz.ntmps57
   go_wp2_with fail
   go_ret
   exact ⟨by rw [HR.out];rfl,HB.out _⟩
  ·have b1:decide (0≤h)=false:=decide_eq_false a1
   have HR:Hid (upR 1 neg 0 h=false):=Lh b1
   go_enter Tryz.func57, Tryz.ntmps57
   go_wp2_with fail
   go_ret
   exact ⟨by rw [HR.out];rfl,HB.out _⟩
 ·by_cases a1:0<h
  ·have b1:decide (0<h)=true:=decide_eq_true a1
   have HR:Hid (upR 2 neg 0 h=true):=Lh (by unfold upR;simp [a1])
   go_enter Tryz.func57, Tryz.ntmps57
   go_wp2_with fail
   go_ret
   exact ⟨by rw [HR.out];rfl,HB.out _⟩
  ·have b1:decide (0<h)=false:=decide_eq_false a1
   have HR:Hid (upR 2 neg 0 h=false):=Lh (by unfold upR;simp [a1])
   by_cases a2:h=0
   ·subst a2
    go_enter Tryz.func57, Tryz.ntmps57
    go_wp2_with fail
    go_ret
    exact ⟨by rw [HR.out];rfl,HB.out _⟩
   ·have b2:(h == 0)=false:=by simpa using a2
    go_enter Tryz.func57, Tryz.ntmps57
    go_wp2_with fail
    go_ret
    exact ⟨by rw [HR.out];rfl,HB.out _⟩
 ·have HR:Hid (upR 3 neg 0 h=!neg):=Lh rfl
  go_enter Tryz.func57, Tryz.ntmps57
  go_wp2_with fail
  go_ret
  exact ⟨by rw [HR.out];rfl,HB.out _⟩
 ·have HR:Hid (upR 4 neg 0 h=neg):=Lh rfl
  go_enter Tryz.func57, Tryz.ntmps57
  go_wp2_with fail
  go_ret
  exact ⟨by rw [HR.out];rfl,HB.out _⟩
 ·by_cases a1:0<h
  ·have b1:decide (0<h)=true:=decide_eq_true a1
   have HR:Hid (upR 5 neg 0 h=true):=Lh b1
   go_enter Tryz.func57, Tryz.ntmps57
   go_wp2_with fail
   go_ret
   exact ⟨by rw [HR.out];rfl,HB.out _⟩
  ·have b1:decide (0<h)=false:=decide_eq_false a1
   have HR:Hid (upR 5 neg 0 h=false):=Lh b1
   go_enter Tryz.func57, Tryz.ntmps57
   go_wp2_with fail
   go_ret
   exact ⟨by rw [HR.out];rfl,HB.out _⟩
 ·have HR:Hid (upR 6 neg 0 h=true):=Lh rfl
  go_enter Tryz.func57, Tryz.ntmps57
  go_wp2_with fail
  go_ret
  exact ⟨by rw [HR.out];rfl,HB.out _⟩
 ·have HR:Hid (upR 7 neg 0 h=true):=Lh rfl
  go_enter Tryz.func57, Tryz.ntmps57
  go_wp2_with fail
  go_ret
  exact ⟨by rw [HR.out];rfl,HB.out _⟩
theorem Q9I (m:Nat)(hm:m<8)(neg:Bool)(h:Int)(q:Nat)(hq:q≠0){w:World}{v:Value}(hv:NumV w v false q):Calls Tryz.prog 57 #[.int .i64 (m:Int),.bool neg,v,.int .i64 h] w fun r w'=>r=.returned (.bool (upR m neg q h))∧Below w.heap.size w w':=by
 have HB:=Lh (fun o=>Qm w o)
 obtain ⟨s,rfl,p,cap,rfl,_,_,hd⟩:=hv
 have hl:0<(dgs q).length:=by have:=Q2U (n:=q);omega
 have hl2:(0:Int)<((dgs q).length:Int):=by omega
 obtain ⟨b,o,rfl,hb,hc⟩:=hd.dig 0 hl
 rw [Nat.pow_zero,Nat.div_one,Nat.add_zero] at hc
 generalize (dgs q).length=L at hl hl2 ⊢
 have HM2:Hid (q % 10 % 2=q % 2):=Lh (by omega)
 have HM5:Hid (q % 10=0∨q % 10=5 ↔ q % 5=0):=Lh (by omega)
 have hd9:q % 10<10:=Nat.mod_lt _ (by decide)
 clear hd hq
 generalize hg:q % 10=d at hc HM2 HM5 hd9
 clear hg
 rcases (show m=0∨m=1∨m=2∨m=3∨m=4∨m=5∨m=6∨m=7 by omega) with rfl | rfl | rfl | rfl | rfl | rfl | rfl | rfl
 ·have HR:Hid (upR 0 neg q h=false):=Lh rfl
  go_enter Tryz.func57, Tryz.ntmps57
  go_wp2_with fail
  go_ret
  exact ⟨by rw [HR.out];rfl,HB.out _⟩
 ·by_cases a1:0≤h
  ·have b1:decide (0≤h)=true:=decide_eq_true a1
   have HR:Hid (upR 1 neg q h=true):=Lh b1
   go_enter Tryz.func57, Tryz.ntmps57
   go_wp2_with fail
   go_ret
   exact ⟨by rw [HR.out];rfl,HB.out _⟩
  ·have b1:decide (0≤h)=false:=decide_eq_false a1
   have HR:Hid (upR 1 neg q h=false):=Lh b1
   go_enter Tryz.func57, Tryz.ntmps57
   go_wp2_with fail
   go_ret
   exact ⟨by rw [HR.out];rfl,HB.out _⟩
 ·by_cases a1:0<h
  ·have b1:decide (0<h)=true:=decide_eq_true a1
   have HR:Hid (upR 2 neg q h=true):=Lh (by unfold upR;simp [a1])
   go_enter Tryz.func57, Tryz.ntmps57
   go_wp2_with fail
   go_ret
   exact ⟨by rw [HR.out];rfl,HB.out _⟩
  ·have b1:decide (0<h)=false:=decide_eq_false a1
   by_cases a2:h=0
   ·subst a2
    by_cases a3:d % 2=1
    ·have b3:((d:Int) % 2 == 1)=true:=by simp;omega
     have HR:Hid (upR 2 neg q 0=true):=Lh (by have:=HM2.out;unfold upR;simp;omega)
     clear a3
     go_enter Tryz.func57, Tryz.ntmps57
     go_wp2_with fail
     go_ret
     exact ⟨by rw [HR.out];rfl,HB.out _⟩
    ·have b3:((d:Int) % 2 == 1)=false:=by simp;omega
     have HR:Hid (upR 2 neg q 0=false):=Lh (by have:=HM2.out;unfold upR;simp;omega)
     clear a3
     go_enter Tryz.func57, Tryz.ntmps57
     go_wp2_with fail
     go_ret
     exact ⟨by rw [HR.out];rfl,HB.out _⟩
   ·have b2:(h == 0)=false:=by simpa using a2
    have HR:Hid (upR 2 neg q h=false):=Lh (by unfold upR;simp [a1,a2])
    go_enter Tryz.func57, Tryz.ntmps57
    go_wp2_with fail
    go_ret
    exact ⟨by rw [HR.out];rfl,HB.out _⟩
 ·have HR:Hid (upR 3 neg q h=!neg):=Lh rfl
  go_enter Tryz.func57, Tryz.ntmps57
  go_wp2_with fail
  go_ret
  exact ⟨by rw [HR.out];rfl,HB.out _⟩
 ·have HR:Hid (upR 4 neg q h=neg):=Lh rfl
  go_enter Tryz.func57, Tryz.ntmps57
  go_wp2_with fail
  go_ret
  exact ⟨by rw [HR.out];rfl,HB.out _⟩
 ·by_cases a1:0<h
  ·have b1:decide (0<h)=true:=decide_eq_true a1
   have HR:Hid (upR 5 neg q h=true):=Lh b1
   go_enter Tryz.func57, Tryz.ntmps57
   go_wp2_with fail
   go_ret
   exact ⟨by rw [HR.out];rfl,HB.out _⟩
  ·have b1:decide (0<h)=false:=decide_eq_false a1
   have HR:Hid (upR 5 neg q h=false):=Lh b1
   go_enter Tryz.func57, Tryz.ntmps57
   go_wp2_with fail
   go_ret
   exact ⟨by rw [HR.out];rfl,HB.out _⟩
 ·have HR:Hid (upR 6 neg q h=true):=Lh rfl
  go_enter Tryz.func57, Tryz.ntmps57
  go_wp2_with fail
  go_ret
  exact ⟨by rw [HR.out];rfl,HB.out _⟩
 ·by_cases a1:d=0
  ·have HR:Hid (upR 7 neg q h=true):=Lh (decide_eq_true (HM5.out.1 (.inl a1)))
   subst a1
   go_enter Tryz.func57, Tryz.ntmps57
   go_wp2_with fail
   go_ret
   exact ⟨by rw [HR.out];rfl,HB.out _⟩
  ·have b1:((d:Int) == 0)=false:=by simp;omega
   by_cases a2:d=5
   ·have HR:Hid (upR 7 neg q h=true):=Lh (decide_eq_true (HM5.out.1 (.inr a2)))
    subst a2
    go_enter Tryz.func57, Tryz.ntmps57
    go_wp2_with fail
    go_ret
    exact ⟨by rw [HR.out];rfl,HB.out _⟩
   ·have b2:((d:Int) == 5)=false:=by simp;omega
    have HR:Hid (upR 7 neg q h=false):=Lh (decide_eq_false (fun h=>by rcases HM5.out.2 h with e | e;exact a1 e;exact a2 e))
    clear a1 a2
    go_enter Tryz.func57, Tryz.ntmps57
    go_wp2_with fail
    go_ret
    exact ⟨by rw [HR.out];rfl,HB.out _⟩
theorem Qa1 (m:Nat)(hm:m<8)(neg:Bool)(h:Int)(q:Nat){w:World}{v:Value}(hv:NumV w v false q):Calls Tryz.prog 57 #[.int .i64 (m:Int),.bool neg,v,.int .i64 h] w fun r w'=>r=.returned (.bool (upR m neg q h))∧Below w.heap.size w w':=by
 by_cases e:q=0
 ·exact Q9b m hm neg h q e hv
 ·exact Q9I m hm neg h q e hv
end Go.Proofs.YtpebcmfpehdafaaGreatDoor
