/- a part of the proof -/
import Derived.Test.YtakldnejjodpeaaGreatDoorZ24
set_option linter.all false
set_option maxRecDepth 100000
set_option maxHeartbeats 16000000
namespace Go.Proofs.YtakldnejjodpeaaGreatDoor
open Go Go.RowKit
def lostP (md c k : Nat) : Prop := ¬ (md = 0 ∨ md = 1 ∨ md = 2 ∨ md = 5) ∧ ndg c ≤ k ∧ c ≠ 0
instance (md c k : Nat) : Decidable (lostP md c k) := by unfold lostP; infer_instance
theorem Qu {w : World} {g : Nat} {C : Array Value} {T : TypeId} (h : w.heap[g]? = some (.cells C T (0, 0))) (i : Nat) {u : Value} (hu : C[i]? = some u) : w.cell? ⟨g, i, none⟩ = some u := ((Qf h).1 i).trans hu
def inV (x : Bool) (mx mn : Int) (md : Nat) (n : Bool) (e : Int) (c : Nat) : Value :=
 if 0 ≤ e then RsV 0 n e (txS c) 0 (e == 0) false false
 else if lostP md c (-e).toNat ∨ c = 0 ∨ e + ndg c - 1 < mn ∨ (rdiv md n c (-e).toNat ≠ 0 ∧ mx < (ndg (rdiv md n c (-e).toNat) : Int) - 1) then RsV 0 false 0 ⟨#[]⟩ 0 false false false
 else RsV 0 n 0 (txS (rdiv md n c (-e).toNat)) (if x then (if c % 10 ^ (-e).toNat = 0 then 64 else 80) else 0) true false false
theorem Q6B {w : World} (md : Nat) {v : Value} {n : Bool} {c : Nat} {e : Int} (hx : FinV w v n c e) (k : Nat) : Calls Tryz.prog 107 #[.int .i64 (md : Int), v, .int .i64 (k : Int)] w (Says (lostP md c k) w) := by
 obtain ⟨s, rfl, hs⟩ := hx
 have HD : Hid (∀ w2, Below w.heap.size w w2 → NumV w2 (.agg #[.bool false, s]) false c) := Lh (fun w2 h => ⟨_, rfl, hs.later h⟩)
 obtain ⟨q, cap, rfl, _⟩ := hs
 generalize (dgs c).length = L at HD ⊢
 obtain ⟨wA, hwA⟩ : ∃ wA, wA = w.alloc (.cells #[.bool n, .bool false, .slice q L cap, .int .i64 e] 71) := ⟨_, rfl⟩
 have HB : Hid (Below w.heap.size w wA) := Lh (by rw [hwA]; exact Qd _ _)
 have HG : Hid (wA.heap[w.heap.size]? = some (.cells #[.bool n, .bool false, .slice q L cap, .int .i64 e] 71 (0, 0))) := Lh (by rw [hwA]; exact gal _ _)
 generalize hN : ndg c = N
 have HN := Lh hN
 clear hN
 by_cases hn : md = 0 ∨ md = 1 ∨ md = 2 ∨ md = 5
 ·have HP : Hid (¬ lostP md c k) := Lh (fun h => h.1 hn)
  rcases hn with rfl | rfl | rfl | rfl
  all_goals
   go_enter Tryz.func107, Tryz.ntmps107
   go_wp2_with fail
   rw [← hwA]
   go_ret
   exact ⟨false, rfl, ⟨fun h => (by cases h), fun h => absurd h HP.out⟩, HB.out⟩
 ·have e0 : ((md : Int) == 0) = false := by simp; omega
  have e1 : ((md : Int) == 1) = false := by simp; omega
  have e2 : ((md : Int) == 2) = false := by simp; omega
  have e5 : ((md : Int) == 5) = false := by simp; omega
  have x1 := Qu HG.out 1 rfl; have x2 := Qu HG.out 2 rfl
  have HM := Lh hn
  clear hn
  by_cases hk : N ≤ k
  ·have hk1 : decide ((N : Int) ≤ (k : Int)) = true := by simp; omega
   have HK := Lh hk
   clear hk
   go_enter Tryz.func107, Tryz.ntmps107
   go_upto_region 1 with (fail)
   rw [← hwA]
   clear hwA
   go_wp2_with fail
   refine (Qh (HD.out _ HB.out)).mono ?_
   rintro r w1 ⟨rfl, hB⟩
   rw [HN.out]
   have HB1 := Lh (Qe HB.out hB); have HG1 := Lh (Qa HG.out hB)
   clear hB x1 x2 HG HB
   have x1 := Qu HG1.out 1 rfl; have x2 := Qu HG1.out 2 rfl
   go_wp2_with fail
   refine (QJ (HD.out _ HB1.out)).mono ?_
   rintro r w2 ⟨rfl, hB⟩
   have HB2 := Lh (Qe HB1.out hB)
   clear hB x1 x2 HG1 HB1
   go_wp2_with fail
   go_ret
   exact ⟨_, rfl, ⟨fun h => ⟨HM.out, by rw [HN.out]; exact HK.out, by simpa using h⟩, fun h => by simpa using h.2.2⟩, HB2.out⟩
  ·have hk1 : decide ((N : Int) ≤ (k : Int)) = false := by simp; omega
   have HK := Lh hk
   clear hk
   go_enter Tryz.func107, Tryz.ntmps107
   go_upto_region 1 with (fail)
   rw [← hwA]
   clear hwA
   go_wp2_with fail
   refine (Qh (HD.out _ HB.out)).mono ?_
   rintro r w1 ⟨rfl, hB⟩
   rw [HN.out]
   have HB1 := Lh (Qe HB.out hB)
   clear hB x1 x2 HG HB
   go_wp2_with fail
   go_ret
   exact ⟨false, rfl, ⟨fun h => (by cases h), fun h => absurd (by have := h.2.1; rw [HN.out] at this; exact this) HK.out⟩, HB1.out⟩
theorem Q5k {w : World} {A B : Nat} {C : Array Value} {T : TypeId} {m : Nat × Nat} (hb : w.heap[A]? = some (.cells C T m)) (h : A ≠ B) (u0 u1 u2 u3 u4 u5 u6 u7 : Value) : (set8 w B u0 u1 u2 u3 u4 u5 u6 u7).heap[A]? = some (.cells C T m) := by
 unfold set8
 exact Qx (Qx (Qx (Qx (Qx (Qx (Qx (Qx hb h _ _) h _ _) h _ _) h _ _) h _ _) h _ _) h _ _) h _ _
end Go.Proofs.YtakldnejjodpeaaGreatDoor
