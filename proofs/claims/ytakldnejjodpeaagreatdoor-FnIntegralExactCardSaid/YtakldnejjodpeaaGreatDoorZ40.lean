/- a part of the proof -/
import Derived.Test.YtakldnejjodpeaaGreatDoorZ21
set_option linter.all false
set_option maxRecDepth 100000
set_option maxHeartbeats 16000000
namespace Go.Proofs.YtakldnejjodpeaaGreatDoor
open Go Go.RowKit
def whR (md : Nat) (n : Bool) (e : Int) (c : Nat) : Nat × Nat :=
 if e = 0 then (c, 0) else (rdiv md n c (-e).toNat, if c % 10 ^ (-e).toNat = 0 then 64 else 80)
theorem Q8M {W : World} {σ : Sg} {w : World} (h : St W σ w) {bk p md : Nat} {mx mn tr : Int} (hk : Ctx σ bk p mx mn tr md) (q : Nat) (hq : q ≤ 1000) :
  Calls Tryz.prog 164 #[.pointer (some ⟨bk, 0, none⟩), .int .u32 (q : Int)] w fun r w' => ∃ b τ, r = .returned (.pointer (some ⟨b, 0, none⟩)) ∧ Ext σ τ ∧ Ctx τ b q mx mn tr md ∧ St W τ w' := by
 obtain ⟨w1, hw1⟩ : ∃ w1, w1 = w.alloc (.cells #[.int .u32 0, .int .i32 0, .int .i32 0, .int .u32 0, .string ⟨#[]⟩] 87) := ⟨_, rfl⟩
 have h1 := h.alloc (.cells #[.int .u32 0, .int .i32 0, .int .i32 0, .int .u32 0, .string ⟨#[]⟩] 87)
 have hn := h.none_new
 rw [← hw1] at h1
 obtain ⟨k0, k1, k2, k3, k4⟩ := h1.ctx (hk.ext (Ext.new hn _))
 obtain ⟨T0, _, _, hb⟩ := hk
 have hr := h1.raw (Qb _ _ _)
 generalize hbn : w.heap.size = bn at h1 hn hr
 have HB := Lh hbn
 obtain ⟨z0, z1, z2, z3, z4⟩ : w1.cell? ⟨bn, 0, none⟩ = some (.int .u32 0) ∧ w1.cell? ⟨bn, 1, none⟩ = some (.int .i32 0) ∧ w1.cell? ⟨bn, 2, none⟩ = some (.int .i32 0) ∧ w1.cell? ⟨bn, 3, none⟩ = some (.int .u32 0) ∧ w1.cell? ⟨bn, 4, none⟩ = some (.string ⟨#[]⟩) := by
  refine ⟨?_, ?_, ?_, ?_, ?_⟩ <;> (unfold World.cell?; rw [hr]; rfl)
 obtain ⟨y0, y1, y2, y3, y4⟩ : w1.frozen? ⟨bn, 0, none⟩ = false ∧ w1.frozen? ⟨bn, 1, none⟩ = false ∧ w1.frozen? ⟨bn, 2, none⟩ = false ∧ w1.frozen? ⟨bn, 3, none⟩ = false ∧ w1.frozen? ⟨bn, 4, none⟩ = false := by
  refine ⟨?_, ?_, ?_, ?_, ?_⟩ <;> (unfold World.frozen?; rw [hr]; rfl)
 have HA : Hid (St W (upd σ bn (.raw (.cells #[.int .u32 (q : Int), .int .i32 mx, .int .i32 mn, .int .u32 tr, .string (rndS md)] 87))) ((((((w1.setCell ⟨bn, 0, none⟩ (.int .u32 (p : Int))).setCell ⟨bn, 1, none⟩ (.int .i32 mx)).setCell ⟨bn, 2, none⟩ (.int .i32 mn)).setCell ⟨bn, 3, none⟩ (.int .u32 tr)).setCell ⟨bn, 4, none⟩ (.string (rndS md))).setCell ⟨bn, 0, none⟩ (.int .u32 (q : Int)))) := Lh (by
  have q0 := h1.setRaw (Qb _ _ _) 0 (.int .u32 (p : Int))
  rw [QQ] at q0
  have q1 := q0.setRaw (Qb _ _ _) 1 (.int .i32 mx)
  rw [QQ] at q1
  have q2 := q1.setRaw (Qb _ _ _) 2 (.int .i32 mn)
  rw [QQ] at q2
  have q3 := q2.setRaw (Qb _ _ _) 3 (.int .u32 tr)
  rw [QQ] at q3
  have q4 := q3.setRaw (Qb _ _ _) 4 (.string (rndS md))
  rw [QQ] at q4
  have q5 := q4.setRaw (Qb _ _ _) 0 (.int .u32 (q : Int))
  rw [QQ] at q5
  exact q5)
 have HN := Lh hn
 clear h h1 hn hr hbn
 go_enter Tryz.func164, Tryz.ntmps164
 go_upto_region 2 with (fail)
 rw [← hw1, HB.out]
 clear hw1
 go_wp2_with fail
 go_ret
 exact ⟨_, _, rfl, Ext.new HN.out _, ⟨_, Qb _ _ _, hq, hb⟩, HA.out⟩
theorem Qam {W : World} {σ : Sg} (hW : GW W) {b bk : Nat} {n : Bool} {e0 : Int} {c p md res : Nat} {mx mn tr s1 s2 : Int} (hb : σ b = some (.dec 0 n e0 (c : Int))) (hk : Ctx σ bk p mx mn tr md) (hc : c < BB ^ 21) (hs1 : s1.natAbs ≤ 200) (hs2 : s2.natAbs ≤ 2000) (hres : res < 4096) (g3 : mn ≤ s1 + s2 + ndg c - 1) (a3 : s1 + s2 + ndg c - 1 ≤ mx) :
  SX W σ b bk (-1) res [s1, s2] (finK res) (.dec 0 n (s1 + s2) (c : Int)) :=
 SX.of fun w1 ba Ta τ hE ha h1 => Q25 hW h1 (hE _ _ hb) (hk.ext hE) ha (by omega) (by omega) rfl hres hc g3 a3
theorem Q7w {Q : Nat} (hs : ndg Q < ndg (Q + 1)) : (Q + 1) / 10 * 10 = Q + 1 ∧ ndg ((Q + 1) / 10) + 1 = ndg (Q + 1) := by
 have q1 := Q0e Q
 have q2 : 10 ^ (ndg (Q + 1) - 1) ≤ Q + 1 := Q0C (by omega)
 have q3 : 10 ^ ndg Q ≤ 10 ^ (ndg (Q + 1) - 1) := QF (by omega)
 have q4 : Q + 1 = 10 ^ ndg Q := by omega
 have q5 := Qi Q
 have q6 : (Q + 1) / 10 * 10 = Q + 1 := by
  rw [q4, show ndg Q = ndg Q - 1 + 1 by omega, Nat.pow_succ]; omega
 refine ⟨q6, ?_⟩
 have h10 : 10 ≤ Q + 1 := by
  rw [q4]
  exact Nat.le_trans (by decide : 10 ≤ 10 ^ 1) (QF q5)
 rw [QP h10]
theorem Q5m {W : World} {σ : Sg} {w : World} (hW : GW W) (h : St W σ w) {b bk : Nat} {n : Bool} {k c p md : Nat} {mx mn tr : Int} (hb : σ b = some (.dec 0 n (-(k : Int)) (c : Int))) (hk : Ctx σ bk p mx mn tr md) (hc : c < BB ^ 20) (hk0 : 0 < k) (hk2 : k ≤ 200) (c0 : 0 < c) (hd : ndg c = p + k) (ha : mn ≤ -(k : Int) + ndg c - 1) (hmx : (ndg (rdiv md n c k) : Int) - 1 ≤ mx) :
  ∃ s q : Nat, (s = 0 ∨ s = 1) ∧ q * 10 ^ s = rdiv md n c k ∧ q < BB ^ 21 ∧ Calls Tryz.prog 118 #[.string (rndS md), .pointer (some ⟨bk, 0, none⟩), .pointer (some ⟨b, 0, none⟩), .pointer (some ⟨b, 0, none⟩), .bool false] w fun r w' => r = .returned (.int .u32 ((if c % 10 ^ k = 0 then 64 else 80 : Nat) : Int)) ∧ St W (upd σ b (.dec 0 n (s : Int) (q : Int))) w' := by
 have hS : Calls Tryz.prog 60 #[.pointer (some ⟨b, 0, none⟩), .pointer (some ⟨b, 0, none⟩)] w fun r w' => r = .returned (.pointer (some ⟨b, 0, none⟩)) ∧ St W σ w' := (Q08 h hb).mono fun r w' ⟨a, q⟩ => ⟨a, q ▸ h⟩
 have hz : ¬ ((0 : Int) = 0 ∧ c = 0) := by omega
 have hk4 : (-(k : Int)).natAbs ≤ 40000 := by omega
 have hmn : mn ≤ 0 := by obtain ⟨_, _, _, _, _, q, _⟩ := hk; exact q
 have hql : c / 10 ^ k + 1 < BB ^ 21 := by
  have := Nat.div_le_self c (10 ^ k)
  exact Nat.lt_of_le_of_lt (show c / 10 ^ k + 1 ≤ BB ^ 20 by omega) (by unfold BB; decide)
 have X : ∀ (q s d res : Nat), q < BB ^ 21 → d ≤ k + 1 → d = k + s → res < 4096 → finK res = res → (s : Int) + ndg q - 1 ≤ mx → SX W (upd σ b (.dec 0 n (-(k : Int)) (q : Int))) b bk (-1) res [-(k : Int), (d : Int)] res (.dec 0 n (s : Int) (q : Int)) := fun q s d res hq hd1 hds hr hf hm => by
  have hp := Qi q
  have := Qam hW (σ := upd σ b (.dec 0 n (-(k : Int)) (q : Int))) (bk := bk) (res := res) (s1 := -(k : Int)) (s2 := (d : Int)) (Qb _ _ _) (hk.upd hb _) hq (by omega) (by omega) hr (by omega) (by omega)
  rw [hf, show -(k : Int) + (d : Int) = (s : Int) by omega] at this
  exact this
 by_cases hR : c % 10 ^ k = 0
 ·have hq : rdiv md n c k = c / 10 ^ k := by unfold rdiv; rw [if_pos hR]
  rw [hq] at hmx ⊢
  rw [if_pos hR]
  exact ⟨0, c / 10 ^ k, .inl rfl, Nat.mul_one _, by omega, Q1f hW hS hb hb hk hc hk4 (fl := false) (fun h => by cases h) hz ha hd hk0 hR (k := 64) (by decide) (X _ 0 k 64 (by omega) (by omega) rfl (by decide) (by decide) (by omega))⟩
 ·rw [if_neg hR]
  cases hU : upR md n (c / 10 ^ k) (cmpN (2 * (c % 10 ^ k)) (10 ^ k)) with
  | false =>
   have hq : rdiv md n c k = c / 10 ^ k := by unfold rdiv; rw [if_neg hR, hU]; rfl
   rw [hq] at hmx ⊢
   exact ⟨0, c / 10 ^ k, .inl rfl, Nat.mul_one _, by omega, Q1t hW hS hb hb hk hc hk4 (fl := false) (fun h => by cases h) hz ha hd hk0 hR hU (k := 80) (by decide) (X _ 0 k 80 (by omega) (by omega) rfl (by decide) (by decide) (by omega))⟩
  | true =>
   have hq : rdiv md n c k = c / 10 ^ k + 1 := by unfold rdiv; rw [if_neg hR, hU]; rfl
   rw [hq] at hmx ⊢
   by_cases hs : ndg (c / 10 ^ k) < ndg (c / 10 ^ k + 1)
   ·obtain ⟨e1, e2⟩ := Q7w hs
    exact ⟨1, (c / 10 ^ k + 1) / 10, .inr rfl, by rw [Nat.pow_one]; exact e1, by omega, Q0q hW hS hb hb hk hc hk4 (fl := false) (fun h => by cases h) hz ha hd hk0 hR hU (k := 80) (by decide) (by rw [if_pos hs, if_pos hs]; exact X _ 1 (k + 1) 80 (by omega) (by omega) rfl (by decide) (by decide) (by omega))⟩
   ·exact ⟨0, c / 10 ^ k + 1, .inl rfl, Nat.mul_one _, by omega, Q0q hW hS hb hb hk hc hk4 (fl := false) (fun h => by cases h) hz ha hd hk0 hR hU (k := 80) (by decide) (by rw [if_neg hs, if_neg hs]; exact X _ 0 k 80 (by omega) (by omega) rfl (by decide) (by decide) (by omega))⟩
theorem St.again {W : World} {σ : Sg} {w : World} {b : Nat} {o : Ob} (hb : σ b = some o) (h : St W (Go.Proofs.YtakldnejjodpeaaGreatDoor.upd σ b o) w) : St W σ w := h.less fun i ob hi => by
 by_cases e : i = b
 ·subst e; rw [Qb, ← hi, hb]
 ·rw [Qc _ _ e]; exact hi
theorem Q7x {W : World} {σ : Sg} {w : World} (hW : GW W) {b bx bk : Nat} {n : Bool} {k c p md : Nat} {mx mn tr : Int} (hS : Calls Tryz.prog 60 #[.pointer (some ⟨b, 0, none⟩), .pointer (some ⟨bx, 0, none⟩)] w fun r w' => r = .returned (.pointer (some ⟨b, 0, none⟩)) ∧ St W σ w') (x2 : w.cell? ⟨bx, 2, none⟩ = some (.int .i32 (-(k : Int)))) (hb : σ b = some (.dec 0 n (-(k : Int)) (c : Int))) (hk : Ctx σ bk p mx mn tr md) (hc : c < BB ^ 20) (hk0 : 0 < k) (hk2 : k ≤ 200) (c0 : 0 < c) (hge : k ≤ ndg c) (ha : mn ≤ -(k : Int) + ndg c - 1) (hmx : (ndg (rdiv md n c k) : Int) - 1 ≤ mx) :
  Calls Tryz.prog 138 #[.pointer (some ⟨bk, 0, none⟩), .pointer (some ⟨b, 0, none⟩), .pointer (some ⟨bx, 0, none⟩), .int .i32 0] w fun r w' => r = .returned (.int .u32 ((if c % 10 ^ k = 0 then 64 else 80 : Nat) : Int)) ∧ St W (upd σ b (.dec 0 n 0 ((rdiv md n c k : Nat) : Int))) w' := by
 have hc21 : c < BB ^ 21 := Nat.lt_trans hc (by unfold BB; decide)
 have hn1 := QG hc21
 obtain ⟨d, hd⟩ : ∃ d, d = ndg c - k := ⟨_, rfl⟩
 have hS' := Lh hS
 have HD := Lh (fun w1 (q1 : St W σ w1) => Qs hW q1 hb hc21)
 have HP := Lh (fun w1 (q1 : St W σ w1) => Q8M q1 hk d (by omega))
 have HG : Hid (∀ τ w1, Ext σ τ → St W τ w1 → w1.cell? ⟨b, 2, none⟩ = some (.int .i32 (-(k : Int))) ∧ w1.frozen? ⟨b, 2, none⟩ = false ∧ St W τ (w1.setCell ⟨b, 2, none⟩ (.int .i32 (-(k : Int))))) := Lh (fun τ w1 e q1 => by
  obtain ⟨_, _, d2, _, _, g2⟩ := q1.dec (e _ _ hb)
  exact ⟨d2, g2, (q1.setExp (e _ _ hb) (-(k : Int))).again (e _ _ hb)⟩)
 have HR : Hid (∀ τ w1 bn, Ext σ τ → Ctx τ bn d mx mn tr md → St W τ w1 → ∃ s q : Nat, (s = 0 ∨ s = 1) ∧ q * 10 ^ s = rdiv md n c k ∧ q < BB ^ 21 ∧ Calls Tryz.prog 118 #[.string (rndS md), .pointer (some ⟨bn, 0, none⟩), .pointer (some ⟨b, 0, none⟩), .pointer (some ⟨b, 0, none⟩), .bool false] w1 fun r w' => r = .returned (.int .u32 ((if c % 10 ^ k = 0 then 64 else 80 : Nat) : Int)) ∧ St W (upd τ b (.dec 0 n (s : Int) (q : Int))) w') := Lh (fun τ w1 bn e q1 q2 => Q5m hW q2 (e _ _ hb) q1 hc hk0 hk2 c0 (by omega) ha hmx)
 have HM : Hid (∀ τ w1 b1 (q : Nat), q < BB ^ 21 → τ b1 = none → St W (upd (upd τ b (.dec 0 n 1 (q : Int))) b1 (.big 10)) w1 → b ≠ b1 → Calls Tryz.prog 64 #[.pointer (some ⟨b, 3, none⟩), .pointer (some ⟨b, 3, none⟩), .pointer (some ⟨b1, 0, none⟩)] w1 fun r w' => r = .returned (.pointer (some ⟨b, 3, none⟩)) ∧ St W (upd τ b (.dec 0 n 1 ((q * 10 : Nat) : Int))) w') := Lh (fun τ w1 b1 q hq h1 q1 ne => by
  refine Q4o ((Q24 hW q1.drew (x := q) (y := 10) (Num.dec (by rw [Qc _ _ ne, Qb])) (Num.big (Qb _ _ _)) ne (b39 hq (by decide)) (by unfold BB; decide)).mono ?_)
  rintro r w' ⟨rfl, k2⟩
  refine ⟨rfl, k2.less fun i ob hi => ?_⟩
  by_cases e : i = b
  ·subst e; rw [Qb] at hi; rw [Q03 (u := (q : Int)) (f := 0) (n := n) (e := 1) (by rw [Qc _ _ ne, Qb])]; exact hi
  ·rw [Qc _ _ e] at hi
   have e2 : i ≠ b1 := by rintro rfl; rw [h1] at hi; cases hi
   rw [Qn _ _ e, Qc _ _ e2, Qc _ _ e]; exact hi)
 have HE : Hid (∀ τ w1 (s q : Int), St W (upd τ b (.dec 0 n s q)) w1 → w1.cell? ⟨b, 2, none⟩ = some (.int .i32 s) ∧ w1.frozen? ⟨b, 2, none⟩ = false ∧ (Ext σ τ → St W (upd σ b (.dec 0 n 0 q)) (w1.setCell ⟨b, 2, none⟩ (.int .i32 0)))) := Lh (fun τ w1 s q q1 => by
  obtain ⟨_, _, d2, _, _, g2⟩ := q1.dec (Qb _ _ _)
  exact ⟨d2, g2, fun e => ((q1.setExp (Qb _ _ _) 0).upd2).less (e.upd b _)⟩)
 generalize (if c % 10 ^ k = 0 then 64 else 80 : Nat) = K at HR ⊢
 generalize rdiv md n c k = Z at HR ⊢
 have h1 : 0 < (k : Int) := by omega
 have h2 : (ndg c : Int) - (k : Int) = (d : Int) := by omega
 have h3 : ¬ ((d : Int) < 0) := by omega
 have hdl : d ≤ 1000 := by omega
 generalize ndg c = nd at HD hn1 h2
 clear hS hb hk hc hc21 c0 hge ha hmx hd
 go_enter Tryz.func138, Tryz.ntmps138
 go_wp2_with fail
 refine hS'.out.mono ?_
 rintro r w1 ⟨rfl, q1⟩
 have H1 := Lh q1; clear q1 hS' x2
 go_wp2_with fail
 refine (HD.out _ H1.out).mono ?_
 rintro r w2 ⟨rfl, q2⟩
 have H2 := Lh q2; clear q2 H1 HD
 go_wp2_with fail
 refine (HP.out _ H2.out).mono ?_
 rintro r w3 ⟨bn, τ, rfl, hE, hK, q3⟩
 obtain ⟨d2, g2, q4⟩ := HG.out τ _ hE q3
 have n4 : (w3.setCell ⟨b, 2, none⟩ (.int .i32 (-(k : Int)))).cell? ⟨bn, 4, none⟩ = some (.string (rndS md)) := (q4.ctx hK).2.2.2.2
 obtain ⟨s, q, hs, hq, hql, H4⟩ := HR.out τ _ bn hE hK q4
 replace H4 := Lh H4; have HE1 := Lh hE
 clear hE hK q3 q4 HP HG HR H2
 go_wp2_with fail
 refine H4.out.mono ?_
 rintro r w5 ⟨rfl, q5⟩
 clear H4 n4 d2 g2
 rcases hs with rfl | rfl
 ·obtain ⟨e2, e3, e4⟩ := HE.out τ w5 _ _ q5
  have H6 := Lh (e4 HE1.out)
  clear q5 e4 HE HM
  rw [Nat.pow_zero, Nat.mul_one] at hq
  subst hq
  go_wp2_with fail
  go_ret
  exact ⟨rfl, H6.out⟩
 ·obtain ⟨e2, e3, _⟩ := HE.out τ w5 _ _ q5
  have H5 := Lh q5
  clear q5
  have HQ := Lh hql
  rw [Nat.pow_one] at hq
  subst hq
  clear hql
  go_wp2_with fail
  refine AH.start (fun _ => True) (by kernel_rfl) ?_
  generalize hw6 : w5.drew = w6
  have H6 : Hid (St W (upd τ b (.dec 0 n ((1 : Nat) : Int) (q : Int))) w6) := by rw [← hw6]; exact Lh H5.out.drew
  clear hw6 H5 e2 e3
  refine AH.z 0 trivial ?_
  refine AH.z 1 trivial ?_
  refine AH.z 2 trivial ?_
  refine AH.z 3 trivial ?_
  refine AH.z 4 trivial ?_
  refine AH.z 5 trivial ?_
  refine AH.o 6 (fun K hK => ?_)
  go_simp
  refine (Q1r H6.out).mono ?_
  rintro r w7 ⟨b1, rfl, hb1, q7⟩
  have ne : b ≠ b1 := by rintro rfl; rw [Qb] at hb1; cases hb1
  have H7 := Lh (HM.out τ w7 b1 q HQ.out (by rw [Qc _ _ (Ne.symm ne)] at hb1; exact hb1) q7 ne)
  refine hK _ _ trivial ?_
  clear hK K q7 hb1 ne HM H6
  try simp only [Act.put,Zp_]
  refine AH.o 7 (fun K hK => ?_)
  go_simp
  refine H7.out.mono ?_
  rintro r w8 ⟨rfl, q8⟩
  obtain ⟨e2, e3, e4⟩ := HE.out τ w8 _ _ q8
  have H8 := Lh (e4 HE1.out)
  refine hK _ _ trivial ?_
  clear hK K q8 e4 HE H7
  try simp only [Act.put,Zp_]
  refine AH.done (by kernel_rfl) ?_
  go_wp2_with fail
  go_ret
  exact ⟨rfl, H8.out⟩
theorem Q67 {W : World} {σ : Sg} {w : World} {b bx bk : Nat} {n : Bool} {c : Int} (hS : Calls Tryz.prog 60 #[.pointer (some ⟨b, 0, none⟩), .pointer (some ⟨bx, 0, none⟩)] w fun r w' => r = .returned (.pointer (some ⟨b, 0, none⟩)) ∧ St W σ w') (x2 : w.cell? ⟨bx, 2, none⟩ = some (.int .i32 0)) (hb : σ b = some (.dec 0 n 0 c)) :
  Calls Tryz.prog 138 #[.pointer (some ⟨bk, 0, none⟩), .pointer (some ⟨b, 0, none⟩), .pointer (some ⟨bx, 0, none⟩), .int .i32 0] w fun r w' => r = .returned (.int .u32 0) ∧ St W (upd σ b (.dec 0 n 0 c)) w' := by
 have hS' := Lh hS
 have HE : Hid (∀ w1, St W σ w1 → w1.cell? ⟨b, 2, none⟩ = some (.int .i32 0) ∧ w1.frozen? ⟨b, 2, none⟩ = false ∧ St W (upd σ b (.dec 0 n 0 c)) (w1.setCell ⟨b, 2, none⟩ (.int .i32 0))) := Lh (fun w1 q1 => by
  obtain ⟨_, _, d2, _, _, g2⟩ := q1.dec hb
  exact ⟨d2, g2, q1.setExp hb 0⟩)
 clear hS hb
 go_enter Tryz.func138, Tryz.ntmps138
 go_wp2_with fail
 refine hS'.out.mono ?_
 rintro r w1 ⟨rfl, q1⟩
 obtain ⟨e2, e3, e4⟩ := HE.out _ q1
 have H1 := Lh e4; clear q1 e4 HE hS' x2
 go_wp2_with fail
 go_ret
 exact ⟨rfl, H1.out⟩
theorem Q7y {W : World} {σ : Sg} {w : World} (hW : GW W) {b bx bk : Nat} {n : Bool} {k c : Nat} (hS : Calls Tryz.prog 60 #[.pointer (some ⟨b, 0, none⟩), .pointer (some ⟨bx, 0, none⟩)] w fun r w' => r = .returned (.pointer (some ⟨b, 0, none⟩)) ∧ St W σ w') (x2 : w.cell? ⟨bx, 2, none⟩ = some (.int .i32 (-(k : Int)))) (hb : σ b = some (.dec 0 n (-(k : Int)) (c : Int))) (hc : c < BB ^ 20) (hk2 : k ≤ 200) (c0 : 0 < c) (hlt : ndg c < k) :
  Calls Tryz.prog 138 #[.pointer (some ⟨bk, 0, none⟩), .pointer (some ⟨b, 0, none⟩), .pointer (some ⟨bx, 0, none⟩), .int .i32 0] w fun r w' => r = .returned (.int .u32 80) ∧ St W (upd σ b (.dec 0 n 0 0)) w' := by
 have hc21 : c < BB ^ 21 := Nat.lt_trans hc (by unfold BB; decide)
 have hn1 := QG hc21
 have hS' := Lh hS
 have HD := Lh (fun w1 (q1 : St W σ w1) => Qs hW q1 hb hc21)
 have HZ := Lh (fun w1 (q1 : St W σ w1) => QA q1 hb)
 rw [decide_eq_false (by omega : ¬ ((0 : Int) = 0 ∧ c = 0))] at HZ
 have H0 : Hid (∀ w1, St W σ w1 → Calls Tryz.prog 139 #[.pointer (some ⟨b, 3, none⟩), .int .i64 0] w1 fun r w' => r = .returned (.pointer (some ⟨b, 3, none⟩)) ∧ (w'.cell? ⟨b, 2, none⟩ = some (.int .i32 (-(k : Int))) ∧ w'.frozen? ⟨b, 2, none⟩ = false) ∧ St W (upd σ b (.dec 0 n 0 0)) (w'.setCell ⟨b, 2, none⟩ (.int .i32 0))) := Lh (fun w1 k1 =>
  Q0n ((Q0m k1 (Num.dec hb) (v := 0) (by decide)).mono (by
   rintro r w' ⟨rfl, k2⟩
   have k3 : St W (upd σ b (.dec 0 n (-(k : Int)) 0)) w' := k2.ext fun i => by
    by_cases e : i = b
    ·subst e; rw [Qb, Q03 hb]
    ·rw [Qc _ _ e, Qn _ _ e]
   obtain ⟨_, _, d2, _, _, g2⟩ := k3.dec (Qb _ _ _)
   exact ⟨rfl, ⟨d2, g2⟩, (k3.setExp (Qb _ _ _) 0).upd2⟩)))
 have h1 : 0 < (k : Int) := by omega
 have h2 : (ndg c : Int) - (k : Int) < 0 := by omega
 generalize ndg c = nd at HD hn1 h2
 clear hS hb hc hc21 c0 hlt
 go_enter Tryz.func138, Tryz.ntmps138
 go_wp2_with fail
 refine hS'.out.mono ?_
 rintro r w1 ⟨rfl, q1⟩
 have H1 := Lh q1; clear q1 hS' x2
 go_wp2_with fail
 refine (HD.out _ H1.out).mono ?_
 rintro r w2 ⟨rfl, q2⟩
 have H2 := Lh q2; clear q2 H1 HD
 go_wp2_with fail
 refine (HZ.out _ H2.out).mono ?_
 rintro r w_ ⟨rfl, hw_⟩
 subst hw_
 clear HZ
 go_wp2_with fail
 refine (H0.out _ H2.out).mono ?_
 rintro r w3 ⟨rfl, ⟨d2, g2⟩, q3⟩
 have H3 := Lh q3; clear q3 H0 H2
 go_wp2_with fail
 go_ret
 exact ⟨rfl, H3.out⟩
theorem Q8N {W : World} {σ : Sg} {w : World} (hW : GW W) (h : St W σ w) {b bx bk p md : Nat} {mx mn tr : Int} (hk : Ctx σ bk p mx mn tr md) {f e : Int} {n n' : Bool} {e' c : Int} {c' : Nat} (hb : σ b = some (.dec f n e c)) (hx : σ bx = some (.dec 0 n' e' (c' : Int))) (hc : c' < BB ^ 20) (he : -200 ≤ e' ∧ e' ≤ 0) (hlaw : e' < 0 → 0 < c' ∧ mn ≤ e' + ndg c' - 1 ∧ (ndg (rdiv md n' c' (-e').toNat) : Int) - 1 ≤ mx ∧ (ndg c' < (-e').toNat → rdiv md n' c' (-e').toNat = 0)) :
  Calls Tryz.prog 138 #[.pointer (some ⟨bk, 0, none⟩), .pointer (some ⟨b, 0, none⟩), .pointer (some ⟨bx, 0, none⟩), .int .i32 0] w fun r w' => r = .returned (.int .u32 ((whR md n' e' c').2 : Int)) ∧ St W (upd σ b (.dec 0 n' 0 ((whR md n' e' c').1 : Int))) w' := by
 have x2 := (h.dec hx).2.2.1
 have hS : Calls Tryz.prog 60 #[.pointer (some ⟨b, 0, none⟩), .pointer (some ⟨bx, 0, none⟩)] w fun r w' => r = .returned (.pointer (some ⟨b, 0, none⟩)) ∧ St W (upd σ b (.dec 0 n' e' (c' : Int))) w' := by
  by_cases hne : b = bx
  ·subst hne
   exact (Q08 h hx).mono fun r w' ⟨a, q⟩ => ⟨a, q ▸ h.ext fun i => by
    by_cases e : i = b
    ·subst e; rw [Qb, hx]
    ·rw [Qc _ _ e]⟩
  ·exact Q0E h hb hx hne (by rw [Int.natAbs_natCast]; exact Q0S hc (by decide))
 unfold whR
 by_cases h0 : e' = 0
 ·subst h0
  rw [if_pos rfl]
  exact (Q67 hS x2 (Qb _ _ _)).mono fun r w' ⟨a, q⟩ => ⟨a, q.upd2⟩
 ·rw [if_neg h0]
  obtain ⟨k, hk1⟩ : ∃ k : Nat, e' = -(k : Int) := ⟨(-e').toNat, by omega⟩
  subst hk1
  obtain ⟨c0, ha, hm, hl⟩ := hlaw (by omega)
  rw [show (-(-(k : Int))).toNat = k by omega] at hm hl ⊢
  by_cases hlt : ndg c' < k
  ·have hz := hl hlt
   obtain ⟨_, e2⟩ := Q0p (by omega : ndg c' ≤ k)
   rw [hz, e2, if_neg (by omega)]
   exact (Q7y hW hS x2 (Qb _ _ _) hc (by omega) c0 hlt).mono fun r w' ⟨a, q⟩ => ⟨a, q.upd2⟩
  ·exact (Q7x hW hS x2 (Qb _ _ _) (hk.upd hb _) hc (by omega) (by omega) c0 (by omega) ha hm).mono fun r w' ⟨a, q⟩ => ⟨a, q.upd2⟩
theorem Q9R {md : Nat} {n : Bool} {e : Int} {c : Nat} : (whR md n e c).2 < 4096 := by
 unfold whR
 split
 ·show 0 < 4096; decide
 ·show (if c % 10 ^ (-e).toNat = 0 then 64 else 80) < 4096
  split <;> decide
theorem Q5n {W : World} {σ : Sg} {w : World} (h : St W σ w) {bk b bx : Nat} {n : Bool} {e c : Int} (hx : σ bx = some (.dec 0 n e c)) :
  Calls Tryz.prog 86 #[.pointer (some ⟨bk, 0, none⟩), .pointer (some ⟨b, 0, none⟩), .pointer (some ⟨bx, 0, none⟩)] w fun r w' => r = .returned (.tuple #[.bool false, .int .u32 0, .nilIface]) ∧ w' = w := by
 have HN := Lh (Q2p (bk := bk) h hx)
 rw [decide_eq_false (by omega)] at HN
 obtain ⟨x0, _, _, _, _, _⟩ := h.dec hx
 clear h hx
 go_enter Tryz.func86, Tryz.ntmps86
 go_wp2_with fail
 refine HN.out.mono ?_
 rintro r w_ ⟨rfl, hw_⟩
 subst hw_
 clear HN
 go_wp2_with fail
 exact bodyPost_ret (results_tmp3 rfl _ _ _) rfl ⟨rfl, rfl⟩
theorem Q3m {W : World} {σ : Sg} {w : World} {bk b bx K : Nat} {D : Ob} (h : Calls Tryz.prog 138 #[.pointer (some ⟨bk, 0, none⟩), .pointer (some ⟨b, 0, none⟩), .pointer (some ⟨bx, 0, none⟩), .int .i32 0] w fun r w' => r = .returned (.int .u32 (K : Int)) ∧ St W (upd σ b D) w') :
  Calls Tryz.prog 87 #[.pointer (some ⟨bk, 0, none⟩), .pointer (some ⟨b, 0, none⟩), .pointer (some ⟨bx, 0, none⟩)] w fun r w' => r = .returned (.int .u32 (K : Int)) ∧ St W (upd σ b D) w' := by
 have H := Lh h
 clear h
 go_enter Tryz.func87, Tryz.ntmps87
 go_wp2_with fail
 refine H.out.mono ?_
 rintro r w1 ⟨rfl, q⟩
 have H1 := Lh q; clear q H
 go_wp2_with fail
 go_ret
 exact ⟨rfl, H1.out⟩
theorem Q8O {W : World} {σ : Sg} {w : World} (hW : GW W) (h : St W σ w) {b bx bk p md : Nat} {mx mn : Int} {tr : Nat} (hk : Ctx σ bk p mx mn (tr : Int) md) (htr : tr < 4096) {f e : Int} {n n' : Bool} {e' c : Int} {c' : Nat} (hb : σ b = some (.dec f n e c)) (hx : σ bx = some (.dec 0 n' e' (c' : Int))) (hc : c' < BB ^ 20) (he : -200 ≤ e' ∧ e' ≤ 0) (hlaw : e' < 0 → 0 < c' ∧ mn ≤ e' + ndg c' - 1 ∧ (ndg (rdiv md n' c' (-e').toNat) : Int) - 1 ≤ mx ∧ (ndg c' < (-e').toNat → rdiv md n' c' (-e').toNat = 0)) :
  Calls Tryz.prog 32 #[.pointer (some ⟨bk, 0, none⟩), .pointer (some ⟨b, 0, none⟩), .pointer (some ⟨bx, 0, none⟩)] w fun r w' => (∃ v, r = .returned (.tuple #[.int .u32 ((whR md n' e' c').2 : Int), v]) ∧ ErrV (badK (whR md n' e' c').2 tr) v) ∧ St W (upd σ b (.dec 0 n' 0 ((whR md n' e' c').1 : Int))) w' := by
 have HS := Lh (Q5n (bk := bk) (b := b) h hx)
 have HT := Lh (Q3m (Q8N hW h hk hb hx hc he hlaw))
 have HK := Lh (hk.upd hb (.dec 0 n' 0 ((whR md n' e' c').1 : Int)))
 have hl : (whR md n' e' c').2 < 4096 := Q9R
 generalize (whR md n' e' c').2 = K at HT hl ⊢
 generalize Ob.dec 0 n' 0 ((whR md n' e' c').1 : Int) = D at HT HK ⊢
 clear h hb hx hk hc hlaw
 go_enter Tryz.func32, Tryz.ntmps32
 go_wp2_with fail
 refine HS.out.mono ?_
 rintro r w_ ⟨rfl, hw_⟩
 subst hw_
 clear HS
 go_wp2_with fail
 refine HT.out.mono ?_
 rintro r w1 ⟨rfl, q1⟩
 have H1 := Lh (Q1a q1 HK.out hl htr); clear q1 HT
 go_wp2_with fail
 refine H1.out.mono ?_
 rintro r w3 ⟨⟨v, rfl, hv⟩, q3⟩
 have H3 := Lh q3; have HV := Lh hv; clear q3 hv H1
 go_wp2_with fail
 go_ret2
 exact ⟨⟨_, rfl, HV.out⟩, H3.out⟩
theorem Q8P {W : World} {σ : Sg} {w : World} (hW : GW W) (h : St W σ w) {b bx bk p md : Nat} {mx mn : Int} {tr : Nat} (hk : Ctx σ bk p mx mn (tr : Int) md) (htr : tr < 4096) {f e : Int} {n n' : Bool} {e' c : Int} {c' : Nat} (hb : σ b = some (.dec f n e c)) (hx : σ bx = some (.dec 0 n' e' (c' : Int))) (hc : c' < BB ^ 20) (he : -200 ≤ e' ∧ e' ≤ 0) (hlaw : e' < 0 → 0 < c' ∧ mn ≤ e' + ndg c' - 1 ∧ (ndg (rdiv md n' c' (-e').toNat) : Int) - 1 ≤ mx ∧ (ndg c' < (-e').toNat → rdiv md n' c' (-e').toNat = 0)) :
  Calls Tryz.prog 31 #[.pointer (some ⟨bk, 0, none⟩), .pointer (some ⟨b, 0, none⟩), .pointer (some ⟨bx, 0, none⟩)] w fun r w' => (∃ v, r = .returned (.tuple #[.int .u32 ((0 : Nat) : Int), v]) ∧ ErrV (badK 0 tr) v) ∧ St W (upd σ b (.dec 0 n' 0 ((whR md n' e' c').1 : Int))) w' := by
 have HS := Lh (Q5n (bk := bk) (b := b) h hx)
 have HT := Lh (Q3m (Q8N hW h hk hb hx hc he hlaw))
 have HK := Lh (hk.upd hb (.dec 0 n' 0 ((whR md n' e' c').1 : Int)))
 have HZ : Hid (bits .and .u32 ((whR md n' e' c').2 : Int) 4294967215 = 0) := Lh (by
  have z0 : bits .and .u32 0 4294967215 = 0 := by kernel_rfl
  have z1 : bits .and .u32 64 4294967215 = 0 := by kernel_rfl
  have z2 : bits .and .u32 80 4294967215 = 0 := by kernel_rfl
  have hk : (whR md n' e' c').2 = 0 ∨ (whR md n' e' c').2 = 64 ∨ (whR md n' e' c').2 = 80 := by
   unfold whR
   split
   ·exact .inl rfl
   ·show (if c' % 10 ^ (-e').toNat = 0 then 64 else 80) = 0 ∨ (if c' % 10 ^ (-e').toNat = 0 then 64 else 80) = 64 ∨ (if c' % 10 ^ (-e').toNat = 0 then 64 else 80) = 80
    split
    ·exact .inr (.inl rfl)
    ·exact .inr (.inr rfl)
  rcases hk with hk | hk | hk
  ·rw [hk]; exact z0
  ·rw [hk]; exact z1
  ·rw [hk]; exact z2)
 generalize (whR md n' e' c').2 = K at HT HZ
 generalize Ob.dec 0 n' 0 ((whR md n' e' c').1 : Int) = D at HT HK ⊢
 clear h hb hx hk hc hlaw
 go_enter Tryz.func31, Tryz.ntmps31
 go_wp2_with fail
 refine HS.out.mono ?_
 rintro r w_ ⟨rfl, hw_⟩
 subst hw_
 clear HS
 go_wp2_with fail
 refine HT.out.mono ?_
 rintro r w1 ⟨rfl, q1⟩
 have H1 := Lh (Q1a (k := 0) q1 HK.out (by decide) htr); clear q1 HT
 have hz := HZ.out
 go_wp2_with fail
 refine H1.out.mono ?_
 rintro r w3 ⟨⟨v, rfl, hv⟩, q3⟩
 have H3 := Lh q3; have HV := Lh hv; clear q3 hv H1
 go_wp2_with fail
 go_ret2
 exact ⟨⟨_, rfl, HV.out⟩, H3.out⟩
end Go.Proofs.YtakldnejjodpeaaGreatDoor
