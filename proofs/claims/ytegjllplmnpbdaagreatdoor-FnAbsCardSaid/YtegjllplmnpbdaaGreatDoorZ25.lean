/- a part of the proof: what functions that the statement reaches do -/
import Derived.Test.YtegjllplmnpbdaaGreatDoorZ24
set_option linter.all false
set_option maxRecDepth 100000
set_option maxHeartbeats 16000000
namespace Go.Proofs.YtegjllplmnpbdaaGreatDoor
open Go Go.RowKit
def sxF (p : Nat) (mx mn : Int) (md : Nat) (f : Int) (n : Bool) (c nd res : Nat) (s : Int) : DR :=
 if s + nd - 1 < mn then
  if s < mn - ((p : Int) - 1) then
   ⟨f, n, mn - ((p : Int) - 1), rdiv md false c (mn - ((p : Int) - 1) - s).toNat,
    finK (orN (if rdiv md false c (mn - ((p : Int) - 1) - s).toNat = 0 then orN (if c % 10 ^ (mn - ((p : Int) - 1) - s).toNat = 0 then orN res 32 else orN (orN res 32) 16) 2048 else (if c % 10 ^ (mn - ((p : Int) - 1) - s).toNat = 0 then orN res 32 else orN (orN res 32) 16)) 64)⟩
  else ⟨f, n, s, c, finK (if f = 0 ∧ c = 0 then res else orN res 32)⟩
 else if mx < s + nd - 1 then ⟨1, n, s, c, finK (orN res 20)⟩
 else ⟨f, n, s, c, finK res⟩
def rdq (md : Nat) (n : Bool) (c d : Nat) : Nat × Nat :=
 if c % 10 ^ d = 0 then (c / 10 ^ d, d)
 else if upR md n (c / 10 ^ d) (cmpN (2 * (c % 10 ^ d)) (10 ^ d)) then
  (if ndg (c / 10 ^ d) < ndg (c / 10 ^ d + 1) then (c / 10 ^ d + 1) / 10 else c / 10 ^ d + 1, if ndg (c / 10 ^ d) < ndg (c / 10 ^ d + 1) then d + 1 else d)
 else (c / 10 ^ d, d)
def cutK (c d : Nat) : Nat := if c % 10 ^ d = 0 then 64 else 80
def rndF (p : Nat) (mx mn : Int) (md : Nat) (f : Int) (n : Bool) (e : Int) (c : Nat) : DR :=
 if p = 0 then sxF p mx mn md f n c (ndg c) 0 e
 else if ¬ (f = 0 ∧ c = 0) ∧ e + ndg c - 1 < mn then
  let x := sxF p mx mn md f n c (ndg c) 32 e
  { x with k := orN 32 x.k }
 else if p < ndg c then
  let q := rdq md n c (ndg c - p)
  let x := sxF p mx mn md f n q.1 (ndg q.1) (cutK c (ndg c - p)) (e + q.2)
  { x with k := orN (cutK c (ndg c - p)) x.k }
 else sxF p mx mn md f n c (ndg c) 0 e
def DR.ob (x : DR) : Ob := .dec x.f x.n x.e (x.c : Int)
theorem Q2w {k : Nat} (h : k < 4096) : finK k < 4096 := by unfold finK; split; exact Qu h (by decide); exact h
theorem SX.of {W : World} {σ : Sg} {b bk : Nat} {nd : Int} {res : Nat} {xs : List Int} {k : Nat} {D : Ob}
  (H : ∀ w1 ba Ta τ, Ext σ τ → τ ba = some (.raw (.cells (xs.map (Value.int .i64)).toArray Ta)) → St W τ w1 → Calls Tryz.prog 62 #[.pointer (some ⟨b, 0, none⟩), .pointer (some ⟨bk, 0, none⟩), .int .i64 nd, .int .u32 (res : Int), .slice (some ⟨ba, 0, none⟩) xs.length xs.length] w1 fun r w' => r = .returned (.int .u32 (k : Int)) ∧ St W (upd τ b D) w') : SX W σ b bk nd res xs k D := fun w1 ba Ta hn h1 =>
 (H w1 ba Ta _ (Ext.new hn _) (Q1 _ _ _) h1).mono fun r w' ⟨a, q⟩ => ⟨a, q.less ((Ext.new hn _).upd b D)⟩
theorem Q7I {W : World} {σ : Sg} (hW : GW W) {b bk : Nat} {f : Int} {n : Bool} {e0 : Int} {c p md res : Nat} {mx mn tr s : Int} (hb : σ b = some (.dec f n e0 (c : Int))) (hk : Ctx σ bk p mx mn tr md) (hc : c < BB ^ 21) (hs : s.natAbs ≤ 200) (hres : res < 4096)
  (g1 : f = 0 ∨ (mn ≤ s + ndg c - 1 ∧ s + ndg c - 1 ≤ mx)) (g2 : c = 0 → (s < mn → mn - ((p : Int) - 1) ≤ s) ∧ s ≤ mx) :
  SX W σ b bk (ndg c : Int) res [s] (sxF p mx mn md f n c (ndg c) res s).k (sxF p mx mn md f n c (ndg c) res s).ob := by
 have hnd := QJ hc
 refine SX.of fun w1 ba Ta τ hE ha h1 => ?_
 have hb' := hE _ _ hb
 have hk' := hk.ext hE
 have hmn : mn ≤ 0 := by obtain ⟨_, _, _, _, _, q, _⟩ := hk; exact q
 have hs9 : s.natAbs ≤ 90000 := by omega
 unfold DR.ob sxF
 by_cases a1 : s + ndg c - 1 < mn
 ·rw [if_pos a1]
  rcases g1 with rfl | g1
  ·by_cases a2 : s < mn - ((p : Int) - 1)
   ·rw [if_pos a2]
    have c0 : 0 < c := by
     rcases Nat.eq_zero_or_pos c with e | e
     ·have := g2 e; have := Qi c; omega
     ·exact e
    obtain ⟨kk, hkk⟩ : ∃ kk, kk = (mn - ((p : Int) - 1) - s).toNat := ⟨_, rfl⟩
    rw [← hkk]
    have hk1 : s - (mn - ((p : Int) - 1)) = -(kk : Int) := by omega
    have hk4 : kk ≤ 423 := by omega
    by_cases hR : c % 10 ^ kk = 0
    ·have hq : rdiv md false c kk = c / 10 ^ kk := by unfold rdiv; rw [if_pos hR]
     rw [hq, if_pos hR]
     by_cases hz : c / 10 ^ kk = 0
     ·rw [if_pos hz]
      exact Q1P hW h1 hb' hk' ha hs9 hnd hres hc c0 a1 a2 kk hk1 hk4 hR hz
     ·rw [if_neg hz]
      exact Q2c hW h1 hb' hk' ha hs9 hnd hres hc c0 a1 a2 kk hk1 hk4 hR hz
    ·rw [if_neg hR]
     cases hU : upR md false (c / 10 ^ kk) (cmpN (2 * (c % 10 ^ kk)) (10 ^ kk)) with
     | false =>
      have hq : rdiv md false c kk = c / 10 ^ kk := by unfold rdiv; rw [if_neg hR, hU]; rfl
      rw [hq]
      by_cases hz : c / 10 ^ kk = 0
      ·rw [if_pos hz]
       exact Q21 hW h1 hb' hk' ha hs9 hnd hres hc c0 a1 a2 kk hk1 hk4 hR hU hz
      ·rw [if_neg hz]
       exact Q2U hW h1 hb' hk' ha hs9 hnd hres hc c0 a1 a2 kk hk1 hk4 hR hU hz
     | true =>
      have hq : rdiv md false c kk = c / 10 ^ kk + 1 := by unfold rdiv; rw [if_neg hR, hU]; rfl
      rw [hq, if_neg (Nat.succ_ne_zero _)]
      exact Q2d hW h1 hb' hk' ha hs9 hnd hres hc c0 a1 a2 kk hk1 hk4 hR hU
   ·rw [if_neg a2]
    have a2' : mn - ((p : Int) - 1) ≤ s := by omega
    by_cases c0 : c = 0
    ·subst c0
     rw [if_pos ⟨rfl, rfl⟩]
     exact Q3b hW h1 hb' hk' ha hs9 hnd hres a1 a2'
    ·rw [if_neg (by omega)]
     exact Q3d hW h1 hb' hk' ha hs9 hnd hres hc (Nat.pos_of_ne_zero c0) a1 a2'
  ·omega
 ·rw [if_neg a1]
  by_cases a3 : mx < s + ndg c - 1
  ·rw [if_pos a3]
   rcases g1 with rfl | g1
   ·have c0 : 0 < c := by
     rcases Nat.eq_zero_or_pos c with e | e
     ·have := g2 e
      rw [e, Qk (by decide)] at a3; omega
     ·exact e
    exact Q38 hW h1 hb' hk' ha hs9 hnd hres hc c0 a3
   ·omega
  ·rw [if_neg a3]
   have a1' : mn ≤ s + ndg c - 1 := by omega
   have a3' : s + ndg c - 1 ≤ mx := by omega
   exact Q3Z hW h1 hb' hk' ha hs9 hnd hres hc a1' a3'
theorem Q7J {W : World} {σ : Sg} (hW : GW W) {b bk : Nat} {f : Int} {n : Bool} {e0 : Int} {c p md res : Nat} {mx mn tr s : Int} (hb : σ b = some (.dec f n e0 (c : Int))) (hk : Ctx σ bk p mx mn tr md) (hc : c < BB ^ 21) (hs : s.natAbs ≤ 200) (hres : res < 4096)
  (g1 : f = 0 ∨ (mn ≤ s + ndg c - 1 ∧ s + ndg c - 1 ≤ mx)) (g2 : c = 0 → (s < mn → mn - ((p : Int) - 1) ≤ s) ∧ s ≤ mx) (g3 : c ≠ 0 → mn ≤ s + ndg c - 1) :
  SX W σ b bk (ndg c : Int) res [s, 0] (sxF p mx mn md f n c (ndg c) res s).k (sxF p mx mn md f n c (ndg c) res s).ob := by
 have hnd := QJ hc
 refine SX.of fun w1 ba Ta τ hE ha h1 => ?_
 have hb' := hE _ _ hb
 have hk' := hk.ext hE
 have hs9 : s.natAbs ≤ 40000 := by omega
 have h09 : (0 : Int).natAbs ≤ 40000 := by decide
 unfold DR.ob sxF
 by_cases a1 : s + ndg c - 1 < mn
 ·rw [if_pos a1]
  have c0 : c = 0 := by
   rcases Nat.eq_zero_or_pos c with e | e
   ·exact e
   ·have := g3 (by omega); omega
  rcases g1 with rfl | g1
  ·have a2' : mn - ((p : Int) - 1) ≤ s := by have := g2 c0; have := Qi c; omega
   rw [if_neg (by omega)]
   subst c0
   rw [if_pos ⟨rfl, rfl⟩]
   have := Q3c hW h1 hb' hk' ha hs9 h09 hnd hres (by rw [Int.add_zero]; exact a1) (by rw [Int.add_zero]; exact a2')
   rw [Int.add_zero] at this
   exact this
  ·omega
 ·rw [if_neg a1]
  by_cases a3 : mx < s + ndg c - 1
  ·rw [if_pos a3]
   rcases g1 with rfl | g1
   ·have c0 : 0 < c := by
     rcases Nat.eq_zero_or_pos c with e | e
     ·have := g2 e
      rw [e, Qk (by decide)] at a3; omega
     ·exact e
    have := Q39 hW h1 hb' hk' ha hs9 h09 hnd hres hc c0 (by rw [Int.add_zero]; exact a3)
    rw [Int.add_zero] at this
    exact this
   ·omega
  ·rw [if_neg a3]
   have a1' : mn ≤ s + ndg c - 1 := by omega
   have a3' : s + ndg c - 1 ≤ mx := by omega
   have := Q40 hW h1 hb' hk' ha hs9 h09 hnd hres hc (by rw [Int.add_zero]; exact a1') (by rw [Int.add_zero]; exact a3')
   rw [Int.add_zero] at this
   exact this
theorem Q5t {W : World} {σ : Sg} (hW : GW W) {b bk : Nat} {n : Bool} {e0 : Int} {c p md res : Nat} {mx mn tr s1 s2 : Int} (hb : σ b = some (.dec 0 n e0 (c : Int))) (hk : Ctx σ bk p mx mn tr md) (hc : c < BB ^ 21) (hs1 : s1.natAbs ≤ 200) (hs2 : s2.natAbs ≤ 2000) (hres : res < 4096) (c0 : 0 < c) (g3 : mn ≤ s1 + s2 + ndg c - 1) :
  SX W σ b bk (-1) res [s1, s2] (sxF p mx mn md 0 n c (ndg c) res (s1 + s2)).k (sxF p mx mn md 0 n c (ndg c) res (s1 + s2)).ob := by
 refine SX.of fun w1 ba Ta τ hE ha h1 => ?_
 have hb' := hE _ _ hb
 have hk' := hk.ext hE
 have hs9 : s1.natAbs ≤ 40000 := by omega
 have h09 : s2.natAbs ≤ 40000 := by omega
 unfold DR.ob sxF
 have a1 : ¬ (s1 + s2 + ndg c - 1 < mn) := by omega
 rw [if_neg a1]
 by_cases a3 : mx < s1 + s2 + ndg c - 1
 ·rw [if_pos a3]
  exact Q3a hW h1 hb' hk' ha hs9 h09 rfl hres hc c0 a3
 ·rw [if_neg a3]
  have a3' : s1 + s2 + ndg c - 1 ≤ mx := by omega
  exact Q41 hW h1 hb' hk' ha hs9 h09 rfl hres hc g3 a3'
theorem Q0D {p : Nat} {mx mn : Int} {md : Nat} {f : Int} {n : Bool} {c nd res : Nat} {s : Int} (h : res < 4096) : (sxF p mx mn md f n c nd res s).k < 4096 := by
 have o := fun m (hm : m < 4096) => @Qu res m h hm
 unfold sxF
 split
 ·split
  ·refine Q2w (Qu ?_ (by decide))
   have h1 : (if c % 10 ^ (mn - ((p : Int) - 1) - s).toNat = 0 then orN res 32 else orN (orN res 32) 16) < 4096 := by
    split
    ·exact o 32 (by decide)
    ·exact Qu (o 32 (by decide)) (by decide)
   split
   ·exact Qu h1 (by decide)
   ·exact h1
  ·refine Q2w ?_
   split
   ·exact h
   ·exact o 32 (by decide)
 ·split
  ·exact Q2w (o 20 (by decide))
  ·exact Q2w h
theorem Q65 (c d : Nat) : cutK c d < 4096 := by unfold cutK; split <;> decide
theorem Q6P {W : World} {σ : Sg} {w : World} (hW : GW W) (h : St W σ w) {b bk : Nat} {f : Int} {n : Bool} {e : Int} {c p md : Nat} {mx mn tr : Int} (hb : σ b = some (.dec f n e (c : Int))) (hk : Ctx σ bk p mx mn tr md) (hc : c < BB ^ 20) (he : e.natAbs ≤ 200)
  (g1 : f = 0 ∨ (c = 0 ∧ mn ≤ e ∧ e ≤ mx)) (g2 : c = 0 → (e < mn → mn - ((p : Int) - 1) ≤ e) ∧ e ≤ mx) :
  Calls Tryz.prog 115 #[.string (rndS md), .pointer (some ⟨bk, 0, none⟩), .pointer (some ⟨b, 0, none⟩), .pointer (some ⟨b, 0, none⟩), .bool true] w fun r w' => r = .returned (.int .u32 (((rndF p mx mn md f n e c).k : Nat) : Int)) ∧ St W (upd σ b (rndF p mx mn md f n e c).ob) w' := by
 have hc21 : c < BB ^ 21 := Nat.lt_trans hc (by unfold BB; decide)
 have hg1 : f = 0 ∨ (mn ≤ e + ndg c - 1 ∧ e + ndg c - 1 ≤ mx) := by
  rcases g1 with g | ⟨g, g'⟩
  ·exact .inl g
  ·rw [g, Qk (by decide)]; exact .inr (by omega)
 have he4 : e.natAbs ≤ 40000 := by omega
 have hpos := Qi c
 unfold rndF
 by_cases hp : p = 0
 ·rw [if_pos hp]
  exact Q7G hW h hb hk hc21 he4 hp (Q7I hW hb hk hc21 he (by decide) hg1 g2)
 ·rw [if_neg hp]
  by_cases hsub : ¬ (f = 0 ∧ c = 0) ∧ e + ndg c - 1 < mn
  ·rw [if_pos hsub]
   exact Q6O hW h hb hk hc21 he4 hp hsub.1 hsub.2 (Q0D (by decide)) (Q7I hW hb hk hc21 he (by decide) hg1 g2)
  ·rw [if_neg hsub]
   by_cases hlt : p < ndg c
   ·rw [if_pos hlt]
    have c0 : 0 < c := by
     rcases Nat.eq_zero_or_pos c with e0 | e0
     ·rw [e0, Qk (by decide)] at hlt; omega
     ·exact e0
    have f0 : f = 0 := by rcases g1 with g | g; exact g; omega
    subst f0
    have hz : ¬ ((0 : Int) = 0 ∧ c = 0) := by omega
    have ha : mn ≤ e + ndg c - 1 := by
     rcases Int.lt_or_le (e + ndg c - 1) mn with q | q
     ·exact absurd ⟨hz, q⟩ hsub
     ·exact q
    obtain ⟨d, hd⟩ : ∃ d, d = ndg c - p := ⟨_, rfl⟩
    have hd1 : ndg c = p + d := by omega
    have hd0 : 0 < d := by omega
    have hdl : d ≤ 405 := by have := QJ hc21; omega
    rw [← hd]
    have hq0 : 0 < c / 10 ^ d ∧ ndg (c / 10 ^ d) = p := by
     have := Q3R (n := c) (k := d) (by omega)
     refine ⟨?_, by omega⟩
     rcases Nat.eq_zero_or_pos (c / 10 ^ d) with q | q
     ·have h1 := Q0A c0
      have h2 : 10 ^ d ≤ 10 ^ (ndg c - 1) := QF (by omega)
      have := Nat.div_pos (Nat.le_trans h2 h1) (QR d)
      omega
     ·exact q
    have hql : c / 10 ^ d + 1 < BB ^ 21 := by
     have := Nat.div_le_self c (10 ^ d)
     exact Nat.lt_of_le_of_lt (show c / 10 ^ d + 1 ≤ BB ^ 20 by omega) (by unfold BB; decide)
    unfold rdq cutK
    by_cases hR : c % 10 ^ d = 0
    ·rw [if_pos hR, if_pos hR]
     exact Q2e hW h hb hk hc he4 hp hz ha hd1 hd0 hR (Q0D (by decide)) ((fun q => q) (by
      have := Q5t hW (σ := upd σ b (.dec 0 n e ((c / 10 ^ d : Nat) : Int))) (bk := bk) (res := 64) (s1 := e) (s2 := (d : Int)) (Q1 _ _ _) (hk.upd hb _) (by omega) he (by omega) (by decide) hq0.1 (by omega)
      exact this))
    ·rw [if_neg hR, if_neg hR]
     cases hU : upR md n (c / 10 ^ d) (cmpN (2 * (c % 10 ^ d)) (10 ^ d)) with
     | false =>
      rw [if_neg (by simp)]
      exact Q2W hW h hb hk hc he4 hp hz ha hd1 hd0 hR hU (Q0D (by decide)) ((fun q => q) (by
       have := Q5t hW (σ := upd σ b (.dec 0 n e ((c / 10 ^ d : Nat) : Int))) (bk := bk) (res := 80) (s1 := e) (s2 := (d : Int)) (Q1 _ _ _) (hk.upd hb _) (by omega) he (by omega) (by decide) hq0.1 (by omega)
       exact this))
     | true =>
      rw [if_pos rfl]
      have hqq : 0 < (if ndg (c / 10 ^ d) < ndg (c / 10 ^ d + 1) then (c / 10 ^ d + 1) / 10 else c / 10 ^ d + 1) ∧ (if ndg (c / 10 ^ d) < ndg (c / 10 ^ d + 1) then (c / 10 ^ d + 1) / 10 else c / 10 ^ d + 1) < BB ^ 21 ∧ p ≤ ndg (if ndg (c / 10 ^ d) < ndg (c / 10 ^ d + 1) then (c / 10 ^ d + 1) / 10 else c / 10 ^ d + 1) := by
       have hp2 := hq0.2
       have hp1 := hq0.1
       generalize c / 10 ^ d = Q at hp2 hp1 hql
       by_cases hs : ndg Q < ndg (Q + 1)
       ·rw [if_pos hs]
        have q1 := Q0r Q
        have q2 : 10 ^ (ndg (Q + 1) - 1) ≤ Q + 1 := Q0A (by omega)
        have q3 : 10 ^ ndg Q ≤ 10 ^ (ndg (Q + 1) - 1) := QF (by omega)
        have q4 : Q + 1 = 10 ^ ndg Q := by omega
        have q5 := Qi Q
        have q6 : (Q + 1) / 10 = 10 ^ (ndg Q - 1) := by
         rw [q4, show ndg Q = ndg Q - 1 + 1 by omega, Nat.pow_succ, Nat.add_sub_cancel]; omega
        refine ⟨by rw [q6]; exact QR _, by omega, ?_⟩
        rw [q6]
        have := Q5b (n := 10 ^ (ndg Q - 1)) (k := ndg Q - 1) (Nat.le_refl _)
        omega
       ·rw [if_neg hs]
        have q1 := Q0A hp1
        have q2 := Q5b (n := Q + 1) (k := ndg Q - 1) (by omega)
        have q5 := Qi Q
        exact ⟨by omega, hql, by omega⟩
      have hdd : d ≤ (if ndg (c / 10 ^ d) < ndg (c / 10 ^ d + 1) then d + 1 else d) ∧ (if ndg (c / 10 ^ d) < ndg (c / 10 ^ d + 1) then d + 1 else d) ≤ d + 1 := by split <;> omega
      refine Q2f hW h hb hk hc he4 hp hz ha hd1 hd0 hR hU (Q0D (by decide)) ?_
      generalize (if ndg (c / 10 ^ d) < ndg (c / 10 ^ d + 1) then (c / 10 ^ d + 1) / 10 else c / 10 ^ d + 1) = q1 at hqq ⊢
      generalize (if ndg (c / 10 ^ d) < ndg (c / 10 ^ d + 1) then d + 1 else d) = d1 at hdd ⊢
      have := Q5t hW (σ := upd σ b (.dec 0 n e (q1 : Int))) (bk := bk) (res := 80) (s1 := e) (s2 := (d1 : Int)) (Q1 _ _ _) (hk.upd hb _) hqq.2.1 he (by omega) (by decide) hqq.1 (by omega)
      exact this
   ·rw [if_neg hlt]
    by_cases hz : f = 0 ∧ c = 0
    ·exact Q3e hW h hb hk hc21 he4 hp hz (by omega) (Q0D (by decide)) (Q7J hW hb hk hc21 he (by decide) hg1 g2 (by omega))
    ·have ha : mn ≤ e + ndg c - 1 := by
      rcases Int.lt_or_le (e + ndg c - 1) mn with q | q
      ·exact absurd ⟨hz, q⟩ hsub
      ·exact q
     exact Q3f hW h hb hk hc21 he4 hp hz ha (by omega) (Q0D (by decide)) (Q7J hW hb hk hc21 he (by decide) hg1 g2 (fun _ => ha))
end Go.Proofs.YtegjllplmnpbdaaGreatDoor
