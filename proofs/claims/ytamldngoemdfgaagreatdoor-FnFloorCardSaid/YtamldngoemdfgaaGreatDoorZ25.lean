/- a part of the proof -/
import Derived.Test.YtamldngoemdfgaaGreatDoorZ23
set_option linter.all false
set_option maxRecDepth 100000
set_option maxHeartbeats 16000000
namespace Go.Proofs.YtamldngoemdfgaaGreatDoor
open Go Go.RowKit
theorem Qt {w : World} {g : Nat} {C : Array Value} {T : TypeId} (h : w.heap[g]? = some (.cells C T (0, 0))) (i : Nat) {u : Value} (hu : C[i]? = some u) : w.cell? ⟨g, i, none⟩ = some u := ((Ql h).1 i).trans hu
theorem Q4L {w : World} {A B : Nat} {C : Array Value} {T : TypeId} {m : Nat × Nat} (hb : w.heap[A]? = some (.cells C T m)) (h : A ≠ B) (u0 u1 u2 u3 u4 u5 u6 u7 : Value) : (set8 w B u0 u1 u2 u3 u4 u5 u6 u7).heap[A]? = some (.cells C T m) := by
 unfold set8
 exact Q0w (Q0w (Q0w (Q0w (Q0w (Q0w (Q0w (Q0w hb h _ _) h _ _) h _ _) h _ _) h _ _) h _ _) h _ _) h _ _
def inW (r p : Nat) (mx : Int) (n : Bool) (e : Int) (c : Nat) : Value :=
 if 0 ≤ e then RsV 0 n e (txS c) 0 (e == 0) false false
 else if (0 < p ∧ p < ndg (rdiv r n c (-e).toNat)) ∨ (rdiv r n c (-e).toNat ≠ 0 ∧ mx < (ndg (rdiv r n c (-e).toNat) : Int) - 1) then RsV 0 false 0 ⟨#[]⟩ 0 false false false
 else RsV 0 n 0 (txS (rdiv r n c (-e).toNat)) 0 true false false
end Go.Proofs.YtamldngoemdfgaaGreatDoor
