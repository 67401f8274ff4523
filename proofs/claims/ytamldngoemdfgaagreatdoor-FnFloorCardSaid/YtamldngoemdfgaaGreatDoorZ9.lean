/- a part of the proof -/
import Derived.Test.YtamldngoemdfgaaGreatDoorZ0
set_option linter.all false
set_option maxRecDepth 100000
set_option maxHeartbeats 16000000
namespace Go.Proofs.YtamldngoemdfgaaGreatDoor
open Go Go.RowKit
def ndg (n : Nat) : Nat := if n < 10 then 1 else ndg (n / 10) + 1
termination_by n
theorem Qn {n : Nat} (h : n < 10) : ndg n = 1 := by rw [ndg, if_pos h]
theorem Q0o {n : Nat} (h : 10 ≤ n) : ndg n = ndg (n / 10) + 1 := by rw [ndg, if_neg (by omega)]
theorem Qj (n : Nat) : 0 < ndg n := by rw [ndg]; split <;> omega
theorem Q0P (n : Nat) : n < 10 ^ ndg n := by
 induction n using Nat.strongRecOn with
 | ind n ih =>
  by_cases h : n < 10
  ·rw [Qn h]; omega
  ·have := ih (n / 10) (by omega)
   rw [Q0o (by omega), Nat.pow_succ]; omega
theorem Q16 {n : Nat} (h0 : 0 < n) : 10 ^ (ndg n - 1) ≤ n := by
 induction n using Nat.strongRecOn with
 | ind n ih =>
  by_cases h : n < 10
  ·rw [Qn h]; simp; omega
  ·have := ih (n / 10) (by omega) (by omega)
   have hp := Qj (n / 10)
   rw [Q0o (by omega), Nat.add_sub_cancel]
   have e : ndg (n / 10) = ndg (n / 10) - 1 + 1 := by omega
   rw [e, Nat.pow_succ]; omega
theorem QS (k : Nat) : 0 < 10 ^ k := Nat.pow_pos (by omega)
theorem QD {a b : Nat} (h : a ≤ b) : 10 ^ a ≤ 10 ^ b := Nat.pow_le_pow_right (by omega) h
theorem Q2v {a b : Nat} (h : 10 ^ a < 10 ^ b) : a < b := by
 rcases Nat.lt_or_ge a b with h1 | h1
 ·exact h1
 ·have := QD h1; omega
theorem Q5c {n k : Nat} (h1 : n < 10 ^ (k + 1)) (h2 : 10 ^ k ≤ n) : ndg n = k + 1 := by
 have h0 : 0 < n := by have := QS k; omega
 have a := Q0P n
 have b := Q16 h0
 have c : 10 ^ k < 10 ^ ndg n := by omega
 have d : 10 ^ (ndg n - 1) < 10 ^ (k + 1) := by omega
 have := Q2v c
 have := Q2v d
 have := Qj n
 omega
theorem Q17 {n k : Nat} (h0 : 0 < k) (h : n < 10 ^ k) : ndg n ≤ k := by
 rcases Nat.eq_zero_or_pos n with e | e
 ·subst e; rw [Qn (by omega)]; omega
 ·have := Q2v (Nat.lt_of_le_of_lt (Q16 e) h); omega
theorem Q7r {n k : Nat} (h : 10 ^ k ≤ n) : k < ndg n := Q2v (Nat.lt_of_le_of_lt h (Q0P n))
theorem Q8x {n k : Nat} (h : k < ndg n) : ndg (n / 10 ^ k) = ndg n - k := by
 rcases Nat.eq_zero_or_pos n with e | e
 ·subst e
  have h1 := Qn (n := 0) (by omega)
  obtain rfl : k = 0 := by omega
  simp [h1]
 ·obtain ⟨m, hm⟩ : ∃ m, ndg n = m + 1 + k := ⟨ndg n - k - 1, by omega⟩
  rw [hm, show m + 1 + k - k = m + 1 by omega]
  have a := Q0P n
  have b := Q16 e
  rw [hm] at a b
  apply Q5c
  ·rw [Nat.div_lt_iff_lt_mul (QS k), ← Nat.pow_add]; exact a
  ·rw [Nat.le_div_iff_mul_le (QS k), ← Nat.pow_add]
   rw [show m + 1 + k - 1 = m + k by omega] at b; exact b
theorem Q2d {n k : Nat} (h : ndg n ≤ k) : n / 10 ^ k = 0 ∧ n % 10 ^ k = n := by
 have : n < 10 ^ k := Nat.lt_of_lt_of_le (Q0P n) (QD h)
 exact ⟨Nat.div_eq_of_lt this, Nat.mod_eq_of_lt this⟩
def cmpN (a b : Nat) : Int := if a < b then -1 else if b < a then 1 else 0
def upR (m : Nat) (neg : Bool) (q : Nat) (half : Int) : Bool :=
 match m with
 | 1 => decide (0 ≤ half)
 | 2 => decide (0 < half) || (decide (half = 0) && decide (q % 2 = 1))
 | 3 => !neg
 | 4 => neg
 | 5 => decide (0 < half)
 | 6 => true
 | 7 => decide (q % 5 = 0)
 | _ => false
def rdiv (m : Nat) (neg : Bool) (n k : Nat) : Nat :=
 if n % 10 ^ k = 0 then n / 10 ^ k else if upR m neg (n / 10 ^ k) (cmpN (2 * (n % 10 ^ k)) (10 ^ k)) then n / 10 ^ k + 1 else n / 10 ^ k
theorem Q5T (m : Nat) (neg : Bool) (n k : Nat) : n / 10 ^ k ≤ rdiv m neg n k ∧ rdiv m neg n k ≤ n / 10 ^ k + 1 := by
 unfold rdiv; split
 ·omega
 ·split <;> omega
structure DR where
 f : Int
 n : Bool
 e : Int
 c : Nat
 k : Nat
def orN (a b : Nat) : Nat := a ||| b
def dgs (n : Nat) : List Nat := if n = 0 then [] else n % 10 :: dgs (n / 10)
termination_by n
theorem Qv : dgs 0 = [] := by rw [dgs, if_pos rfl]
theorem Q03 {n : Nat} (h : n ≠ 0) : dgs n = n % 10 :: dgs (n / 10) := by rw [dgs, if_neg h]
def vl : List Nat → Nat
 | [] => 0
 | d :: l => d + 10 * vl l
theorem Q5d (n : Nat) : vl (dgs n) = n := by
 induction n using Nat.strongRecOn with
 | ind n ih =>
  by_cases h : n = 0
  ·subst h; rw [Qv]; rfl
  ·rw [Q03 h]; unfold vl; rw [ih (n / 10) (by omega)]; omega
theorem Q5e (n : Nat) : ∀ d ∈ dgs n, d < 10 := by
 induction n using Nat.strongRecOn with
 | ind n ih =>
  by_cases h : n = 0
  ·subst h; rw [Qv]; intro d hd; cases hd
  ·rw [Q03 h]; intro d hd
   rcases List.mem_cons.1 hd with e | e
   ·omega
   ·exact ih (n / 10) (by omega) d e
theorem Q08 (n : Nat) (h : n ≠ 0) : (dgs n).length = ndg n := by
 induction n using Nat.strongRecOn with
 | ind n ih =>
  rw [Q03 h, List.length_cons]
  by_cases h10 : n < 10
  ·have : n / 10 = 0 := by omega
   rw [this, Qv, Qn h10]; rfl
  ·rw [ih (n / 10) (by omega) (by omega), ← Q0o (n := n) (by omega)]
theorem Q8y {n : Nat} : dgs n = [] ↔ n = 0 := by
 constructor
 ·intro h
  by_cases e : n = 0
  ·exact e
  ·rw [Q03 e] at h; cases h
 ·rintro rfl; exact Qv
theorem Q2L {n : Nat} : (dgs n).length = 0 ↔ n = 0 := by rw [List.length_eq_zero_iff, Q8y]
theorem Q3U (n i : Nat) (h : i < (dgs n).length) : (dgs n)[i] = n / 10 ^ i % 10 := by
 induction i generalizing n with
 | zero =>
  have hn : n ≠ 0 := by rintro rfl; rw [Qv] at h; cases h
  simp only [Q03 hn]; simp
 | succ i ih =>
  have hn : n ≠ 0 := by rintro rfl; rw [Qv] at h; cases h
  have h2 : i < (dgs (n / 10)).length := by rw [Q03 hn] at h; simpa using h
  have := ih (n / 10) h2
  simp only [Q03 hn, List.getElem_cons_succ]
  rw [this, Nat.pow_succ, Nat.mul_comm, Nat.div_div_eq_div_mul]
theorem Q1W (l : List Nat) (m : List Nat) : vl (l ++ m) = vl l + 10 ^ l.length * vl m := by
 induction l with
 | nil => simp [vl]
 | cons d l ih =>
  simp only [List.cons_append, vl, ih, List.length_cons, Nat.pow_succ]
  rw [Nat.mul_add, ← Nat.mul_assoc, Nat.mul_comm 10 (10 ^ l.length)]; omega
theorem Q5U (l : List Nat) (h : ∀ d ∈ l, d < 10) : vl l < 10 ^ l.length := by
 induction l with
 | nil => simp [vl]
 | cons d l ih =>
  have h1 := ih (fun x hx => h x (List.mem_cons_of_mem _ hx))
  have h2 := h d List.mem_cons_self
  simp only [vl, List.length_cons, Nat.pow_succ]; omega
theorem Q7s (l : List Nat) (h : ∀ d ∈ l, d < 10) (hl : ∀ (h0 : l ≠ []), l.getLast h0 ≠ 0) : dgs (vl l) = l := by
 induction l with
 | nil => exact Qv
 | cons d l ih =>
  have hd := h d List.mem_cons_self
  have h1 : vl l ≠ 0 ∨ l = [] := by
   by_cases e : l = []
   ·exact .inr e
   ·left
    have hne := hl (by simp)
    rw [List.getLast_cons e] at hne
    obtain ⟨m, x, hx⟩ : ∃ m x, l = m ++ [x] := ⟨l.dropLast, l.getLast e, (List.dropLast_concat_getLast e).symm⟩
    subst hx
    rw [List.getLast_concat] at hne
    rw [Q1W]
    simp only [vl]
    have := QS m.length
    intro e2
    have h3 : 10 ^ m.length * (x + 10 * 0) = 0 := by omega
    rcases Nat.mul_eq_zero.1 h3 with h4 | h4 <;> omega
  have h2 : vl (d :: l) ≠ 0 := by
   rcases h1 with h1 | h1
   ·simp only [vl]; omega
   ·subst h1
    have := hl (by simp)
    simp only [List.getLast_singleton] at this
    simp only [vl]; omega
  have e : vl (d :: l) = d + 10 * vl l := rfl
  rw [Q03 h2]
  have q1 : vl (d :: l) % 10 = d := by rw [e]; omega
  have q2 : vl (d :: l) / 10 = vl l := by rw [e]; omega
  rw [q1, q2]
  congr 1
  exact ih (fun x hx => h x (List.mem_cons_of_mem _ hx)) (fun h0 => by have := hl (by simp); rwa [List.getLast_cons h0] at this)
theorem Q7t (l : List Nat) : vl (l ++ [0]) = vl l := by rw [Q1W]; simp [vl]
theorem Q0t (l : List Nat) (d : Nat) : vl (l ++ [d]) = vl l + 10 ^ l.length * d := by rw [Q1W]; simp [vl]
theorem QP {m n : Nat} (h : m ≤ n) : (dgs m).length ≤ (dgs n).length := by
 by_cases e : m = 0
 ·subst e; rw [Qv]; simp
 ·rw [Q08 m e, Q08 n (by omega)]
  exact Q17 (Qj n) (Nat.lt_of_le_of_lt h (Q0P n))
theorem QE (n : Nat) : n < 10 ^ (dgs n).length := by
 have := Q5U (dgs n) (Q5e n); rwa [Q5d] at this
def cmpD (e : Int) (c : Nat) (e' : Int) (c' : Nat) : Int := cmpI (c * 10 ^ (e - min e e').toNat) (c' * 10 ^ (e' - min e e').toNat)
theorem Q3A {c c' : Nat} {e e' : Int} (h0' : 0 < c') (h : (ndg c : Int) + e < ndg c' + e') : c * 10 ^ (e - min e e').toNat < c' * 10 ^ (e' - min e e').toNat := by
 obtain ⟨a, ha⟩ : ∃ a, a = (e - min e e').toNat := ⟨_, rfl⟩
 obtain ⟨a', ha'⟩ : ∃ a', a' = (e' - min e e').toNat := ⟨_, rfl⟩
 rw [← ha, ← ha']
 have h1 := Q0P c
 have h2 := Q16 h0'
 have h3 := Qj c'
 have h4 : ndg c + a ≤ ndg c' - 1 + a' := by omega
 calc c * 10 ^ a < 10 ^ ndg c * 10 ^ a := Nat.mul_lt_mul_of_pos_right h1 (QS a)
  _ = 10 ^ (ndg c + a) := (Nat.pow_add _ _ _).symm
  _ ≤ 10 ^ (ndg c' - 1 + a') := QD h4
  _ = 10 ^ (ndg c' - 1) * 10 ^ a' := Nat.pow_add _ _ _
  _ ≤ c' * 10 ^ a' := Nat.mul_le_mul_right _ h2
theorem Q4H {c c' : Nat} {e e' : Int} (h0' : 0 < c') (h : (ndg c : Int) + e < ndg c' + e') : cmpD e c e' c' = -1 := Q1c (Q3A h0' h)
theorem Q4I {c c' : Nat} {e e' : Int} (h0 : 0 < c) (h : (ndg c' : Int) + e' < ndg c + e) : cmpD e c e' c' = 1 := by
 have := Q3A h0 h
 rw [Int.min_comm] at this
 exact Q1d this
theorem Q6O (e : Int) (c c' : Nat) : cmpD e c e c' = cmpI c c' := by
 unfold cmpD; rw [show (e - min e e).toNat = 0 by omega]; simp
theorem Q64 {e e' : Int} (h : e ≤ e') (c c' : Nat) : cmpD e c e' c' = cmpI c (c' * 10 ^ (e' - e).toNat) := by
 unfold cmpD; rw [show (e - min e e').toNat = 0 by omega, show min e e' = e by omega]; simp
theorem Q8K {e e' : Int} (h : e' ≤ e) (c c' : Nat) : cmpD e c e' c' = cmpI (c * 10 ^ (e - e').toNat) c' := by
 unfold cmpD; rw [show (e' - min e e').toNat = 0 by omega, show min e e' = e' by omega]; simp
theorem Q8L (e e' : Int) : cmpD e 0 e' 0 = 0 := by unfold cmpD; simp; exact Q1C rfl
theorem Q9e (e e' : Int) {c' : Nat} (h : 0 < c') : cmpD e 0 e' c' = -1 := by
 unfold cmpD; rw [Nat.zero_mul]; exact Q1c (Nat.mul_pos h (QS _))
theorem Q9f (e e' : Int) {c : Nat} (h : 0 < c) : cmpD e c e' 0 = 1 := by
 unfold cmpD; rw [Nat.zero_mul]; exact Q1d (Nat.mul_pos h (QS _))
theorem Q3B {r k : Nat} (hk : 0 < k) : cmpD (-(k : Int)) r (-1) 5 = cmpN (2 * r) (10 ^ k) := by
 rw [Q64 (by omega)]
 obtain ⟨m, rfl⟩ : ∃ m, k = m + 1 := ⟨k - 1, by omega⟩
 rw [show ((-1 : Int) - -((m + 1 : Nat) : Int)).toNat = m by omega, Nat.pow_succ]
 unfold cmpI cmpN
 generalize 10 ^ m = t
 (repeat' split) <;> omega
end Go.Proofs.YtamldngoemdfgaaGreatDoor
