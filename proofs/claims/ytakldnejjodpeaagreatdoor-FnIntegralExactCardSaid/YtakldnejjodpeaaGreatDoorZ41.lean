/- a part of the proof -/
import Derived.Test.YtakldnejjodpeaaGreatDoorZ39
import Derived.Test.YtakldnejjodpeaaGreatDoorZ40
set_option linter.all false
set_option maxRecDepth 100000
set_option maxHeartbeats 16000000
namespace Go.Proofs.YtakldnejjodpeaaGreatDoor
open Go Go.RowKit
theorem Q8K {md c k : Nat} (n : Bool) (hm : md = 0 ∨ md = 1 ∨ md = 2 ∨ md = 5) (h : ndg c < k) : rdiv md n c k = 0 := by
 obtain ⟨h1, h2⟩ := Q0p (by omega : ndg c ≤ k)
 have h3 : 2 * c < 10 ^ k := by
  have := Q0e c
  have h4 : 10 ^ (ndg c + 1) ≤ 10 ^ k := QF (by omega)
  rw [Nat.pow_succ] at h4
  omega
 unfold rdiv
 rw [h1, h2]
 have h5 : cmpN (2 * c) (10 ^ k) = -1 := by unfold cmpN; rw [if_pos h3]
 rw [h5]
 rcases hm with rfl | rfl | rfl | rfl <;> simp [upR]
def WhOk (mx mn : Int) (md : Nat) (n : Bool) (e : Int) (c : Nat) : Prop := e ≤ 0 ∧ (e < 0 → 0 < c ∧ mn ≤ e + ndg c - 1 ∧ (ndg (rdiv md n c (-e).toNat) : Int) - 1 ≤ mx ∧ (ndg c < (-e).toNat → rdiv md n c (-e).toNat = 0))
theorem Q6C (x : Bool) (mx mn : Int) (md : Nat) (hmx : 0 ≤ mx) (n : Bool) (e : Int) (c : Nat) :
  (∃ f' n' e' s' k' v' o', inV x mx mn md n e c = RsV f' n' e' s' k' false v' o') ∨
  WhOk mx mn md n e c ∧ inV x mx mn md n e c = RsV 0 n 0 (txS (whR md n e c).1) (if x then (whR md n e c).2 else 0) true false false := by
 unfold inV
 by_cases h0 : 0 ≤ e
 ·rw [if_pos h0]
  by_cases h1 : e = 0
  ·right
   subst h1
   refine ⟨⟨by omega, fun h => by omega⟩, ?_⟩
   unfold whR
   rw [if_pos rfl]
   cases x <;> rfl
  ·left
   have : (e == 0) = false := by simpa using h1
   rw [this]
   exact ⟨_, _, _, _, _, _, _, rfl⟩
 ·rw [if_neg h0]
  by_cases hu : lostP md c (-e).toNat ∨ c = 0 ∨ e + ndg c - 1 < mn ∨ (rdiv md n c (-e).toNat ≠ 0 ∧ mx < (ndg (rdiv md n c (-e).toNat) : Int) - 1)
  ·rw [if_pos hu]
   left; exact ⟨_, _, _, _, _, _, _, rfl⟩
  ·rw [if_neg hu]
   right
   have hc : c ≠ 0 := fun h => hu (.inr (.inl h))
   have ha : mn ≤ e + ndg c - 1 := by
    rcases Int.lt_or_le (e + ndg c - 1) mn with q | q
    ·exact absurd (.inr (.inr (.inl q))) hu
    ·exact q
   refine ⟨⟨by omega, fun _ => ⟨by omega, ha, ?_, fun hl => Q8K n ?_ hl⟩⟩, ?_⟩
   ·by_cases hq : rdiv md n c (-e).toNat = 0
    ·rw [hq, Qm (by decide)]; omega
    ·rcases Int.lt_or_le mx ((ndg (rdiv md n c (-e).toNat) : Int) - 1) with q | q
     ·exact absurd (.inr (.inr (.inr ⟨hq, q⟩))) hu
     ·exact q
   ·have hl2 : ¬ lostP md c (-e).toNat := fun h => hu (.inl h)
    unfold lostP at hl2
    by_cases hm : md = 0 ∨ md = 1 ∨ md = 2 ∨ md = 5
    ·exact hm
    ·exact absurd ⟨hm, by omega, hc⟩ hl2
   ·unfold whR
    rw [if_neg (fun h : e = 0 => h0 (by omega))]
theorem Q8L (md : Nat) (n : Bool) (e : Int) (c : Nat) : (whR md n e c).1 ≤ c + 1 := by
 unfold whR
 split
 ·exact Nat.le_succ _
 ·have h := (Q0K md n c (-e).toNat).2
  have := Nat.div_le_self c (10 ^ (-e).toNat)
  show rdiv md n c (-e).toNat ≤ c + 1
  omega
theorem Q66 {md : Nat} {n : Bool} {e : Int} {c : Nat} : (whR md n e c).2 < 4096 := by
 unfold whR
 split
 ·show 0 < 4096; decide
 ·show (if c % 10 ^ (-e).toNat = 0 then 64 else 80) < 4096
  split <;> decide
theorem Q9Q {md : Nat} {n : Bool} {e : Int} {c : Nat} : (whR md n e c).2 &&& 3 = 0 := by
 unfold whR
 split
 ·show 0 &&& 3 = 0; decide
 ·show (if c % 10 ^ (-e).toNat = 0 then 64 else 80) &&& 3 = 0
  split <;> decide
end Go.Proofs.YtakldnejjodpeaaGreatDoor
