/- a part of the proof -/
import Derived.Test.YtamldngoemdfgaaGreatDoorZ25
import Derived.Test.YtamldngoemdfgaaGreatDoorZ30
set_option linter.all false
set_option maxRecDepth 100000
set_option maxHeartbeats 16000000
namespace Go.Proofs.YtamldngoemdfgaaGreatDoor
open Go Go.RowKit
theorem Q7O (s n : Bool) (k c : Nat) : rdiv (if s then 4 else 3) n c k = clQ s n k c := by
 unfold rdiv clQ
 by_cases h : c % 10 ^ k = 0
 ·rw [if_pos h, if_neg (fun g => g.1 h)]
 ·rw [if_neg h]
  cases s <;> cases n <;> simp [upR, h]
theorem Q7P (s n : Bool) (c : Nat) : clQ s n 0 c = c := by
 unfold clQ
 rw [if_neg (fun g => g.1 (by rw [Nat.pow_zero]; exact Nat.mod_one c)), Nat.pow_zero, Nat.div_one]
theorem Q7Q (s n : Bool) (k c : Nat) : clQ s n k c ≤ c + 1 := by
 have := Nat.div_le_self c (10 ^ k)
 unfold clQ
 split <;> omega
def ClOk (s : Bool) (p : Nat) (mx : Int) (n : Bool) (e : Int) (c : Nat) : Prop := e ≤ 0 ∧ (clQ s n (-e).toNat c = c / 10 ^ (-e).toNat + 1 → (p = 0 ∨ ndg (clQ s n (-e).toNat c) ≤ p) ∧ (ndg (clQ s n (-e).toNat c) : Int) - 1 ≤ mx)
theorem Q6a (s : Bool) (p : Nat) (mx : Int) (hmx : 0 ≤ mx) (n : Bool) (e : Int) (c : Nat) :
  (∃ f' n' e' s' k' v' o', inW (if s then 4 else 3) p mx n e c = RsV f' n' e' s' k' false v' o') ∨
  ClOk s p mx n e c ∧ inW (if s then 4 else 3) p mx n e c = RsV 0 n 0 (txS (clQ s n (-e).toNat c)) 0 true false false := by
 unfold inW
 rw [Q7O]
 by_cases h0 : 0 ≤ e
 ·rw [if_pos h0]
  by_cases h1 : e = 0
  ·right
   subst h1
   have h2 : clQ s n (-(0 : Int)).toNat c = c := Q7P s n c
   refine ⟨⟨by omega, fun h => ?_⟩, by rw [h2]; rfl⟩
   rw [h2] at h
   have : (-(0 : Int)).toNat = 0 := rfl
   rw [this, Nat.pow_zero, Nat.div_one] at h
   omega
  ·left
   have : (e == 0) = false := by simpa using h1
   rw [this]
   exact ⟨_, _, _, _, _, _, _, rfl⟩
 ·rw [if_neg h0]
  generalize hQ : clQ s n (-e).toNat c = Q
  by_cases hu : (0 < p ∧ p < ndg Q) ∨ (Q ≠ 0 ∧ mx < (ndg Q : Int) - 1)
  ·rw [if_pos hu]
   left; exact ⟨_, _, _, _, _, _, _, rfl⟩
  ·rw [if_neg hu]
   right
   refine ⟨⟨by omega, fun _ => ?_⟩, rfl⟩
   rw [hQ]
   refine ⟨?_, ?_⟩
   ·rcases Nat.eq_zero_or_pos p with h | h
    ·exact .inl h
    ·right
     rcases Nat.lt_or_ge p (ndg Q) with q | q
     ·exact absurd (.inl ⟨h, q⟩) hu
     ·exact q
   ·by_cases hq : Q = 0
    ·rw [hq, Qn (by decide)]; omega
    ·rcases Int.lt_or_le mx ((ndg Q : Int) - 1) with q | q
     ·exact absurd (.inr ⟨hq, q⟩) hu
     ·exact q
end Go.Proofs.YtamldngoemdfgaaGreatDoor
