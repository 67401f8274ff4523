/- a part of the proof: what functions that the statement reaches do -/
import Derived.Test.YtegjllplmnpbdaaGreatDoorZ7
import Derived.Test.YtegjllplmnpbdaaGreatDoorZ10
import Derived.Test.YtegjllplmnpbdaaGreatDoorZ11
import Derived.Test.YtegjllplmnpbdaaGreatDoorZ18
set_option linter.all false
set_option maxRecDepth 100000
set_option maxHeartbeats 16000000
namespace Go.Proofs.YtegjllplmnpbdaaGreatDoor
open Go Go.RowKit
theorem Q0p (σ : Sg) (b : Nat) (u v : Int) : setN (upd σ b (.big u)) b v = upd σ b (.big v) := funext (Q4A σ b u v)
theorem Q1z (σ : Sg) (b : Nat) (f : Int) (n : Bool) (e u v : Int) : setN (upd σ b (.dec f n e u)) b v = upd σ b (.dec f n e v) := funext (Q3u σ b f n e u v)
theorem Q0J (σ : Sg) (b : Nat) (x y : Ob) : upd (upd σ b x) b y = upd σ b y := funext (Q61 σ b x y)
theorem QI (σ : Sg) {b b' : Nat} (x : Ob) (v : Int) (h : b ≠ b') : setN (upd σ b' x) b v = upd (setN σ b v) b' x := funext fun k => by
 by_cases e : k = b'
 ·subst e; rw [Ql _ _ h.symm, Q1, Q1]
 ·rw [Qc _ _ e]
  by_cases e2 : k = b
  ·subst e2; simp only [setN, if_true]; rw [Qc _ _ h]
  ·rw [Ql _ _ e2, Ql _ _ e2, Qc _ _ e]
theorem Q04 (w : World) (o : Obj) : (w.alloc o).heap.size = w.heap.size + 1 := by simp
theorem St.two_big {W : World} {σ : Sg} {w : World} (h : St W σ w) (T : TypeId) : σ w.heap.size = none ∧ σ (w.heap.size + 1) = none ∧
  St W (upd (upd σ w.heap.size (.big 0)) (w.heap.size + 1) (.big 0)) ((w.alloc (.cells #[.bool false, .slice none 0 0] T)).alloc (.cells #[.bool false, .slice none 0 0] T)) := by
 refine ⟨h.none_new, ?_, ?_⟩
 ·have := (h.alloc_any (.cells #[.bool false, .slice none 0 0] T)).none_new
  rw [Q04] at this
  exact this
 ·have := (h.alloc_big T).alloc_big T
  rw [Q04] at this
  exact this
theorem Q29 {W : World} {σ : Sg} {w : World} (hW : GW W) (h : St W σ w) {bs os c : Nat} (hs : Num σ bs os (c : Int)) (hc : c < BB ^ 21) (k : Nat) (hk : k ≤ 423) (t1 t2 : Nat) (ht1 : t1 = w.heap.size) (ht2 : t2 = t1 + 1) :
  (Calls Tryz.prog 111 #[.pointer (some ⟨t1, 0, none⟩), .pointer (some ⟨bs, os, none⟩)] ((w.alloc (.cells #[.bool false, .slice none 0 0] 58)).alloc (.cells #[.bool false, .slice none 0 0] 58)) fun r w' => r = .returned (.pointer (some ⟨t1, 0, none⟩)) ∧ St W (upd (upd σ t1 (.big (c : Int))) t2 (.big 0)) w') ∧
  (∀ w2, St W (upd (upd σ t1 (.big (c : Int))) t2 (.big 0)) w2 → Calls Tryz.prog 68 #[.int .i64 (k : Int), .pointer (some ⟨t2, 0, none⟩)] w2 fun r w' => r = .returned (.pointer (some ⟨t2, 0, none⟩)) ∧ St W (upd (upd σ t1 (.big (c : Int))) t2 (.big ((10 ^ k : Nat) : Int))) w') ∧
  (∀ w2, St W (upd (upd σ t1 (.big (c : Int))) t2 (.big ((10 ^ k : Nat) : Int))) w2 → Calls Tryz.prog 61 #[.pointer (some ⟨t1, 0, none⟩), .pointer (some ⟨t1, 0, none⟩), .pointer (some ⟨t2, 0, none⟩)] w2 fun r w' => r = .returned (.pointer (some ⟨t1, 0, none⟩)) ∧ St W (upd (upd σ t1 (.big ((c * 10 ^ k : Nat) : Int))) t2 (.big ((10 ^ k : Nat) : Int))) w') ∧
  (∀ x y, Ext σ (upd (upd σ t1 x) t2 y)) ∧ σ t1 = none ∧ σ t2 = none ∧ t1 ≠ t2 := by
 obtain ⟨n1, n2, h2⟩ := h.two_big 58
 rw [← ht1] at n1 n2 h2
 rw [← ht2] at n2 h2
 have ne : t1 ≠ t2 := by omega
 have e1 : bs ≠ t1 := by rintro rfl; exact hs.ne_none n1
 have e2 : bs ≠ t2 := by rintro rfl; exact hs.ne_none n2
 have hT := Q20 hk
 have b39 : c < BB ^ 39 := Nat.lt_of_lt_of_le hc (Nat.pow_le_pow_right (by unfold BB; decide) (by decide))
 have Q0S : c < BB ^ 100 := Nat.lt_of_lt_of_le hc (Nat.pow_le_pow_right (by unfold BB; decide) (by decide))
 have hT2 : 10 ^ k < BB ^ 100 := Nat.lt_of_lt_of_le hT (Nat.pow_le_pow_right (by unfold BB; decide) (by decide))
 refine ⟨Q1Y ((Q03 h2.drew (Num.big (v := 0) (by rw [Qc _ _ ne, Q1])) ((hs.upd_ne e1).upd_ne e2) e1.symm (by rw [Int.natAbs_natCast]; exact Q0S)).mono ?_), fun w2 k2 => (QW hW k2 (Num.big (Q1 _ _ _)) k hk).mono ?_, fun w2 k2 => Q5j ((Q2N hW k2.drew (Num.big (by rw [Qc _ _ ne, Q1])) (Num.big (Q1 _ _ _)) ne b39 hT2).mono ?_), fun x y => (Ext.new n1 x).upd_skip n2 y, n1, n2, ne⟩
 ·rintro r w' ⟨rfl, k1⟩
  rw [QI _ _ _ ne, Q0p] at k1
  exact ⟨rfl, k1⟩
 ·rintro r w' ⟨rfl, k1⟩
  rw [Q0p] at k1
  exact ⟨rfl, k1⟩
 ·rintro r w' ⟨rfl, k1⟩
  rw [QI _ _ _ ne, Q0p] at k1
  exact ⟨rfl, k1⟩
set_option exponentiation.threshold 2000 in
theorem QJ {c : Nat} (h : c < BB ^ 21) : ndg c ≤ 405 := Q0Q (by decide) (Nat.lt_of_lt_of_le h (by unfold BB; decide))
theorem Q6J {W : World} {σ : Sg} {w : World} (hW : GW W) (h : St W σ w) {b b' : Nat} {e e' : Int} {c c' : Nat} (hb : σ b = some (.dec 0 false e (c : Int))) (hx : σ b' = some (.dec 0 false e' (c' : Int))) (hne : b ≠ b') (h0 : 0 < c) (h1 : 0 < c') (hc : c < BB ^ 21) (hc' : c' < BB ^ 21) (hee : e ≠ e') (he : e.natAbs ≤ 100000) (he' : e'.natAbs ≤ 100000) (hd : (e - e').natAbs ≤ 423) :
  Calls Tryz.prog 88 #[.pointer (some ⟨b, 0, none⟩), .pointer (some ⟨b', 0, none⟩)] w fun r w' => r = .returned (.int .i64 (cmpD e c e' c')) ∧ St W σ w' := by
 have HA := Lh (QS h hb)
 have HB := Lh (QS h hx)
 rw [Q0I h0] at HA
 rw [Q0I h1] at HB
 obtain ⟨c0, c1, c2, _, _, _⟩ := h.dec hb
 obtain ⟨x0, x1, x2, _, _, _⟩ := h.dec hx
 have HN : Hid (∀ w2, St W σ w2 → Calls Tryz.prog 80 #[.pointer (some ⟨b, 0, none⟩)] w2 fun r w' => r = .returned (.int .i64 (ndg c : Int)) ∧ St W σ w') := fun w2 h2 => Qs hW h2 hb hc
 have HN' : Hid (∀ w2, St W σ w2 → Calls Tryz.prog 80 #[.pointer (some ⟨b', 0, none⟩)] w2 fun r w' => r = .returned (.int .i64 (ndg c' : Int)) ∧ St W σ w') := fun w2 h2 => Qs hW h2 hx hc'
 have HC : Hid (∀ w2, St W σ w2 → w2.cell? ⟨b, 2, none⟩ = some (.int .i32 e) ∧ w2.cell? ⟨b', 2, none⟩ = some (.int .i32 e')) := fun w2 h2 => ⟨(h2.dec hb).2.2.1, (h2.dec hx).2.2.1⟩
 have H0 := Lh h
 have n1 := QJ hc
 have n2 := QJ hc'
 have Hlt := Lh (fun k => Q4D (c := c) (c' := c') (e := e) (e' := e') h1 k)
 have Hgt := Lh (fun k => Q4E (c := c) (c' := c') (e := e) (e' := e') h0 k)
 generalize ndg c = nd at HN n1 Hlt Hgt
 generalize ndg c' = nd' at HN' n2 Hlt Hgt
 have g1 : wrap64 ((nd : Int) + e) = (nd : Int) + e := by unfold wrap64; omega
 have g2 : wrap64 ((nd' : Int) + e') = (nd' : Int) + e' := by unfold wrap64; omega
 replace hb := Lh hb; replace hx := Lh hx; replace hc := Lh hc; replace hc' := Lh hc'
 clear h h0 h1
 go_enter Tryz.func88, Tryz.ntmps88
 go_wp2_with fail
 refine HA.out.mono ?_
 rintro r w1 ⟨rfl, hw⟩
 subst hw
 go_wp2_with fail
 refine HB.out.mono ?_
 rintro r w1 ⟨rfl, hw⟩
 subst hw
 go_wp2_with fail
 go_quiet (fail)
 go_wp2_with fail
 go_region_held3 (fun x => x.cell? ⟨b, 2, none⟩ = some (.int .i32 e)) (first | exact c2 | exact d2) (first | (go_at_call 80; refine (HN.out _ (by exact H0.out.sm ⟨rfl, rfl, rfl, rfl⟩)).mono ?_; rintro r w2 ⟨rfl, k⟩; have d2 := (HC.out _ k).1; have H1 := Lh k; clear k))
 clear HN
 have z2 := (HC.out _ H1.out).2
 go_wp2_with fail
 go_region_held3 (fun x => x.cell? ⟨b', 2, none⟩ = some (.int .i32 e')) (first | exact z2 | exact y2) (first | (go_at_call 80; refine (HN'.out _ (by exact H1.out.sm ⟨rfl, rfl, rfl, rfl⟩)).mono ?_; rintro r w3 ⟨rfl, k⟩; have y2 := (HC.out _ k).2; have H2 := Lh k; clear k))
 clear HN' H1 z2
 have z2 := (HC.out _ H2.out).1
 rcases Int.lt_trichotomy ((nd : Int) + e) ((nd' : Int) + e') with k | k | k
 ·go_wp2_with fail
  go_ret
  exact ⟨by rw [Hlt.out k]; rfl, H2.out⟩
 ·clear Hlt Hgt
  rcases Int.lt_or_gt_of_ne hee with hl | hl
  ·go_wp2_with fail
   go_quiet (fail)
   have H3 := Lh (H2.out.drewN nq)
   obtain ⟨v1, v2⟩ := HC.out _ H3.out
   clear H2 z2 y2
   generalize w3.drewN nq = w4 at H3 v1 v2 ⊢
   obtain ⟨kk, hkk⟩ : ∃ kk : Nat, kk = (e' - e).toNat := ⟨_, rfl⟩
   have HV := Lh (Q62 (by omega : e ≤ e') c c')
   rw [← hkk] at HV
   have HW := Lh (show IntKind.i64.wrap (IntKind.i64.wrap e' - IntKind.i64.wrap e) = (kk : Int) by rw [IntWalk.i64_in e (by omega), IntWalk.i64_in e' (by omega), IntWalk.i64_in _ (by omega)]; omega)
   obtain ⟨t1, ht1⟩ : ∃ t1, t1 = w4.heap.size := ⟨_, rfl⟩
   obtain ⟨t2, ht2⟩ : ∃ t2, t2 = t1 + 1 := ⟨_, rfl⟩
   have HS := Lh (Q29 hW H3.out (Num.dec hx.out) hc'.out kk (by omega) t1 t2 ht1 ht2)
   have HF : Hid (∀ w2, St W (upd (upd σ t1 (.big ((c' * 10 ^ kk : Nat) : Int))) t2 (.big ((10 ^ kk : Nat) : Int))) w2 → Calls Tryz.prog 69 #[.pointer (some ⟨b, 3, none⟩), .pointer (some ⟨t1, 0, none⟩)] w2 fun r w' => r = .returned (.int .i64 (cmpI c (c' * 10 ^ kk))) ∧ St W σ w') := fun w2 k2 => by
    obtain ⟨_, _, _, q4, q5, q6, q7⟩ := HS.out
    have i1 : b ≠ t1 := by rintro rfl; rw [q5] at hb; cases hb.out
    have i2 : b ≠ t2 := by rintro rfl; rw [q6] at hb; cases hb.out
    refine Q1Z ((Q1W k2.drew (Num.dec (by rw [Qc _ _ i2, Qc _ _ i1]; exact hb.out)) (Num.big (v := ((c' * 10 ^ kk : Nat) : Int)) (by rw [Qc _ _ q7, Q1])) i1).mono ?_)
    rintro r w' ⟨rfl, q, rfl⟩
    exact ⟨rfl, (k2.drew.drewN q).less (q4 _ _)⟩
   clear hkk
   generalize hT : 10 ^ kk = T at HS HF HV
   clear hT
   go_wp2_with fail
   rw [← ht1, ← ht2]
   clear ht1 ht2
   refine HS.out.1.mono ?_
   rintro r w5 ⟨rfl, k5⟩
   have H5 := Lh k5; clear k5
   obtain ⟨u1, u2⟩ := HC.out _ (H5.out.less (HS.out.2.2.2.1 _ _))
   clear H3 v1 v2
   go_wp2_with fail
   go_region_held3 (fun x => x.cell? ⟨b, 2, none⟩ = some (.int .i32 e) ∧ x.cell? ⟨b', 2, none⟩ = some (.int .i32 e')) (first | exact ⟨u1, u2⟩ | exact ⟨p1, p2⟩ | exact ⟨q1, q2⟩) (first | (go_at_call 68; rw [HW.out]; refine (HS.out.2.1 _ (by exact H5.out.sm ⟨rfl, rfl, rfl, rfl⟩)).mono ?_; rintro r w6 ⟨rfl, k6⟩; have H6 := Lh k6; clear k6; obtain ⟨p1, p2⟩ := HC.out _ (H6.out.less (HS.out.2.2.2.1 _ _))) | (go_at_call 61; refine (HS.out.2.2.1 _ (by exact H6.out.sm ⟨rfl, rfl, rfl, rfl⟩)).mono ?_; rintro r w7 ⟨rfl, k7⟩; have H7 := Lh k7; clear k7; obtain ⟨q1, q2⟩ := HC.out _ (H7.out.less (HS.out.2.2.2.1 _ _))))
   go_wp2_with fail
   refine (HF.out _ H7.out).mono ?_
   rintro r w8 ⟨rfl, k8⟩
   have H8 := Lh k8; clear k8 H7
   go_wp2_with fail
   go_ret
   exact ⟨by rw [HV.out]; rfl, H8.out⟩
  ·go_wp2_with fail
   go_quiet (fail)
   have H3 := Lh (H2.out.drewN nq)
   obtain ⟨v1, v2⟩ := HC.out _ H3.out
   clear H2 z2 y2
   generalize w3.drewN nq = w4 at H3 v1 v2 ⊢
   obtain ⟨kk, hkk⟩ : ∃ kk : Nat, kk = (e - e').toNat := ⟨_, rfl⟩
   have HV := Lh (Q8Z (by omega : e' ≤ e) c c')
   rw [← hkk] at HV
   have HW := Lh (show IntKind.i64.wrap (IntKind.i64.wrap e - IntKind.i64.wrap e') = (kk : Int) by rw [IntWalk.i64_in e (by omega), IntWalk.i64_in e' (by omega), IntWalk.i64_in _ (by omega)]; omega)
   obtain ⟨t1, ht1⟩ : ∃ t1, t1 = w4.heap.size := ⟨_, rfl⟩
   obtain ⟨t2, ht2⟩ : ∃ t2, t2 = t1 + 1 := ⟨_, rfl⟩
   have HS := Lh (Q29 hW H3.out (Num.dec hb.out) hc.out kk (by omega) t1 t2 ht1 ht2)
   have HF : Hid (∀ w2, St W (upd (upd σ t1 (.big ((c * 10 ^ kk : Nat) : Int))) t2 (.big ((10 ^ kk : Nat) : Int))) w2 → Calls Tryz.prog 69 #[.pointer (some ⟨t1, 0, none⟩), .pointer (some ⟨b', 3, none⟩)] w2 fun r w' => r = .returned (.int .i64 (cmpI (c * 10 ^ kk) c')) ∧ St W σ w') := fun w2 k2 => by
    obtain ⟨_, _, _, q4, q5, q6, q7⟩ := HS.out
    have i1 : t1 ≠ b' := by rintro rfl; rw [q5] at hx; cases hx.out
    have i2 : t2 ≠ b' := by rintro rfl; rw [q6] at hx; cases hx.out
    refine Q1Z ((Q1W k2.drew (Num.big (v := ((c * 10 ^ kk : Nat) : Int)) (by rw [Qc _ _ q7, Q1])) (Num.dec (by rw [Qc _ _ i2.symm, Qc _ _ i1.symm]; exact hx.out)) i1).mono ?_)
    rintro r w' ⟨rfl, q, rfl⟩
    exact ⟨rfl, (k2.drew.drewN q).less (q4 _ _)⟩
   clear hkk
   generalize hT : 10 ^ kk = T at HS HF HV
   clear hT
   go_wp2_with fail
   rw [← ht1, ← ht2]
   clear ht1 ht2
   refine HS.out.1.mono ?_
   rintro r w5 ⟨rfl, k5⟩
   have H5 := Lh k5; clear k5
   obtain ⟨u1, u2⟩ := HC.out _ (H5.out.less (HS.out.2.2.2.1 _ _))
   clear H3 v1 v2
   go_wp2_with fail
   go_region_held3 (fun x => x.cell? ⟨b, 2, none⟩ = some (.int .i32 e) ∧ x.cell? ⟨b', 2, none⟩ = some (.int .i32 e')) (first | exact ⟨u1, u2⟩ | exact ⟨p1, p2⟩ | exact ⟨q1, q2⟩) (first | (go_at_call 68; rw [HW.out]; refine (HS.out.2.1 _ (by exact H5.out.sm ⟨rfl, rfl, rfl, rfl⟩)).mono ?_; rintro r w6 ⟨rfl, k6⟩; have H6 := Lh k6; clear k6; obtain ⟨p1, p2⟩ := HC.out _ (H6.out.less (HS.out.2.2.2.1 _ _))) | (go_at_call 61; refine (HS.out.2.2.1 _ (by exact H6.out.sm ⟨rfl, rfl, rfl, rfl⟩)).mono ?_; rintro r w7 ⟨rfl, k7⟩; have H7 := Lh k7; clear k7; obtain ⟨q1, q2⟩ := HC.out _ (H7.out.less (HS.out.2.2.2.1 _ _))))
   go_wp2_with fail
   refine (HF.out _ H7.out).mono ?_
   rintro r w8 ⟨rfl, k8⟩
   have H8 := Lh k8; clear k8 H7
   go_wp2_with fail
   go_ret
   exact ⟨by rw [HV.out]; rfl, H8.out⟩
 ·go_wp2_with fail
  go_ret
  exact ⟨by rw [Hgt.out k]; rfl, H2.out⟩
theorem Q2P {W : World} {σ : Sg} {w : World} (hW : GW W) (h : St W σ w) {b b' : Nat} {e e' : Int} {c c' : Nat} (hb : σ b = some (.dec 0 false e (c : Int))) (hx : σ b' = some (.dec 0 false e' (c' : Int))) (hne : b ≠ b') (hc : c < BB ^ 21) (hc' : c' < BB ^ 21) (he : e.natAbs ≤ 100000) (he' : e'.natAbs ≤ 100000) (hd : (e - e').natAbs ≤ 423) :
  Calls Tryz.prog 88 #[.pointer (some ⟨b, 0, none⟩), .pointer (some ⟨b', 0, none⟩)] w fun r w' => r = .returned (.int .i64 (cmpD e c e' c')) ∧ St W σ w' := by
 by_cases h0 : c = 0 ∨ c' = 0
 ·exact (Q5l h hb hx h0).mono fun r w' ⟨a, k⟩ => ⟨a, k ▸ h⟩
 ·by_cases hee : e = e'
  ·subst hee
   exact Q4F h hb hx hne (by omega) (by omega)
  ·exact Q6J hW h hb hx hne (by omega) (by omega) hc hc' hee he he' hd
theorem Q9G {W : World} {σ : Sg} {w : World} (h : St W σ w) (p : Value) (n : Bool) (u : Int) :
  Calls Tryz.prog 125 #[p, .bool n, .int .i64 u] w fun r w' => r = .returned (.bool false) ∧ St W σ w' := by
 have H := Lh h; clear h
 go_enter Tryz.func125, Tryz.ntmps125
 go_wp2_with fail
 go_ret
 exact ⟨rfl, H.out⟩
theorem Q9Z {W : World} {σ : Sg} {w : World} (h : St W σ w) (p : Value) (n : Bool) (u : Int) :
  Calls Tryz.prog 131 #[p, .bool n, .int .i64 u] w fun r w' => r = .returned (.bool true) ∧ St W σ w' := by
 have H := Lh h; clear h
 go_enter Tryz.func131, Tryz.ntmps131
 go_wp2_with fail
 go_ret
 exact ⟨rfl, H.out⟩
theorem Q7D {W : World} {σ : Sg} {w : World} (h : St W σ w) (p : Value) (n : Bool) (u : Int) :
  Calls Tryz.prog 126 #[p, .bool n, .int .i64 u] w fun r w' => r = .returned (.bool (decide (0 ≤ u))) ∧ St W σ w' := by
 have H := Lh h; clear h
 go_enter Tryz.func126, Tryz.ntmps126
 go_wp2_with fail
 go_ret
 exact ⟨rfl, H.out⟩
theorem Q5n {W : World} {σ : Sg} {w : World} (h : St W σ w) (p : Value) (n : Bool) (u : Int) :
  Calls Tryz.prog 130 #[p, .bool n, .int .i64 u] w fun r w' => r = .returned (.bool (decide (0 < u))) ∧ St W σ w' := by
 have H := Lh h; clear h
 go_enter Tryz.func130, Tryz.ntmps130
 go_wp2_with fail
 go_ret
 exact ⟨rfl, H.out⟩
theorem Q91 {W : World} {σ : Sg} {w : World} (h : St W σ w) (p : Value) (n : Bool) (u : Int) :
  Calls Tryz.prog 129 #[p, .bool n, .int .i64 u] w fun r w' => r = .returned (.bool n) ∧ St W σ w' := by
 have H := Lh h; clear h
 go_enter Tryz.func129, Tryz.ntmps129
 go_wp2_with fail
 go_ret
 exact ⟨rfl, H.out⟩
theorem Q6K {W : World} {σ : Sg} {w : World} (h : St W σ w) (p : Value) (n : Bool) (u : Int) :
  Calls Tryz.prog 128 #[p, .bool n, .int .i64 u] w fun r w' => r = .returned (.bool (!n)) ∧ St W σ w' := by
 have H := Lh h; clear h
 go_enter Tryz.func128, Tryz.ntmps128
 go_wp2_with fail
 go_ret
 exact ⟨rfl, H.out⟩
theorem Q5o {W : World} {σ : Sg} {w : World} (h : St W σ w) {bq oq q : Nat} (hq : Num σ bq oq (q : Int)) (n : Bool) (u : Int) :
  Calls Tryz.prog 127 #[.pointer (some ⟨bq, oq, none⟩), .bool n, .int .i64 u] w fun r w' => r = .returned (.bool (decide (0 < u) || (decide (u = 0) && decide (q % 2 = 1)))) ∧ St W σ w' := by
 have HB := Lh (Q8W (Q8V h hq))
 have H := Lh h; clear h hq
 have hm : q % 2 < 2 := Nat.mod_lt _ (by omega)
 generalize q % 2 = m at HB hm ⊢
 rcases Int.lt_trichotomy u 0 with hu | hu | hu
 ·go_enter Tryz.func127, Tryz.ntmps127
  go_wp2_with fail
  go_ret
  refine ⟨?_, H.out⟩
  simp; omega
 ·subst hu
  go_enter Tryz.func127, Tryz.ntmps127
  go_wp2_with fail
  refine HB.out.mono ?_
  rintro r w1 ⟨rfl, hw⟩
  subst hw
  clear HB
  go_wp2_with fail
  go_ret
  refine ⟨?_, H.out⟩
  rcases (show m = 0 ∨ m = 1 by omega) with rfl | rfl <;> simp
 ·go_enter Tryz.func127, Tryz.ntmps127
  go_wp2_with fail
  go_ret
  refine ⟨?_, H.out⟩
  simp; omega
theorem Q9H {W : World} {σ : Sg} {w : World} (hW : GW W) (h : St W σ w) {bq oq q : Nat} (hq : Num σ bq oq (q : Int)) (hl : q < BB ^ 100) (n : Bool) (u : Int) :
  Calls Tryz.prog 132 #[.pointer (some ⟨bq, oq, none⟩), .bool n, .int .i64 u] w fun r w' => r = .returned (.bool (decide (q % 5 = 0))) ∧ St W σ w' := by
 have hn := h.none_new
 have H0 := Lh (h.alloc_big 58)
 obtain ⟨t, ht⟩ : ∃ t, t = w.heap.size := ⟨_, rfl⟩
 rw [← ht] at H0 hn
 have hne : t ≠ bq := by rintro rfl; exact hq.ne_none hn
 have HR : Hid (∀ (v : Int) (d : Nat) w1 b, d ≠ 0 → d < 100 → b ≠ t → b ≠ bq → St W (upd (upd σ t (.big v)) b (.big (d : Int))) w1 → (upd σ t (.big v)) b = none → Calls Tryz.prog 157 #[.pointer (some ⟨t, 0, none⟩), .pointer (some ⟨bq, oq, none⟩), .pointer (some ⟨b, 0, none⟩)] w1 fun r w2 => r = .returned (.pointer (some ⟨t, 0, none⟩)) ∧ St W (upd σ t (.big ((q % d : Nat) : Int))) w2) := fun v d w1 b d0 d1 hbt hbq k1 hb => by
  refine Q9C ((Q5m hW k1.drew (vz := v) (x := q) (y := d) (Num.big (by rw [Qc _ _ hbt.symm, Q1])) ((hq.upd_ne hne.symm).upd_ne hbq.symm) hne (Num.big (Q1 _ _ _)) hbt.symm d0 hl (by unfold BB; omega)).mono ?_)
  rintro r w2 ⟨rfl, k2⟩
  refine ⟨rfl, k2.less ?_⟩
  intro k ob hk
  by_cases e : k = t
  ·subst e
   rw [Q1] at hk
   rw [Q00 (u := v) (by rw [Qc _ _ hbt.symm, Q1])]
   exact hk
  ·rw [Qc _ _ e] at hk
   rw [Ql _ _ e]
   have e2 : k ≠ b := by
    rintro rfl
    rw [Qc _ _ e] at hb; rw [hb] at hk; cases hk
   rw [Qc _ _ e2, Qc _ _ e]; exact hk
 have HN : Hid (∀ (v : Int) b, (upd σ t (.big v)) b = none → b ≠ t ∧ b ≠ bq) := fun v b hb => by
  have e1 : b ≠ t := by rintro rfl; rw [Q1] at hb; cases hb
  refine ⟨e1, ?_⟩
  rintro rfl
  rw [Qc _ _ e1] at hb; exact hq.ne_none hb
 have HE : Hid (∀ v : Int, Ext σ (upd σ t (.big v))) := fun v => Ext.new hn _
 clear h hq hl
 go_enter Tryz.func132, Tryz.ntmps132
 go_wp2_with fail
 rw [← ht]
 refine (Q6G H0.out).mono ?_
 rintro r w1 ⟨b, rfl, hb, k1⟩
 have H1 := Lh (HR.out 0 5 w1 b (by omega) (by omega) (HN.out _ _ hb).1 (HN.out _ _ hb).2 k1 hb)
 clear k1 hb H0 ht
 go_wp2_with fail
 refine H1.out.mono ?_
 rintro r w2 ⟨rfl, k2⟩
 have H2 := Lh k2
 have HS := Lh (Q1k (Q1j k2 (Num.big (Q1 _ _ _))))
 clear k2 H1
 go_wp2_with fail
 refine HS.out.mono ?_
 rintro r w3 ⟨rfl, hw⟩
 subst hw
 clear HS
 by_cases h5 : q % 5 = 0
 ·rw [h5]
  rw [show signI ((0 : Nat) : Int) = 0 by rfl]
  go_wp2_with fail
  go_ret
  exact ⟨by rw [decide_eq_true h5]; rfl, H2.out.less (HE.out _)⟩
 ·have hs : signI ((q % 5 : Nat) : Int) = 1 := by unfold signI; rw [if_neg (by omega), if_neg (by omega)]
  rw [hs]
  go_wp2_with fail
  refine (Q1L H2.out).mono ?_
  rintro r w4 ⟨b, rfl, hb, k4⟩
  have H4 := Lh (HR.out _ 10 w4 b (by omega) (by omega) (HN.out _ _ hb).1 (HN.out _ _ hb).2 k4 hb)
  clear k4 hb H2
  go_wp2_with fail
  refine H4.out.mono ?_
  rintro r w5 ⟨rfl, k5⟩
  have H5 := Lh k5
  have HS := Lh (Q1k (Q1j k5 (Num.big (Q1 _ _ _))))
  clear k5 H4
  have hs2 : signI ((q % 10 : Nat) : Int) = 1 := by unfold signI; rw [if_neg (by omega), if_neg (by omega)]
  rw [hs2] at HS
  go_wp2_with fail
  refine HS.out.mono ?_
  rintro r w6 ⟨rfl, hw⟩
  subst hw
  clear HS
  go_wp2_with fail
  go_ret
  exact ⟨by simp [h5], H5.out.less (HE.out _)⟩
def rndS (m : Nat) : ByteArray :=
 match m with
 | 0 => ⟨#[100, 111, 119, 110]⟩
 | 1 => ⟨#[104, 97, 108, 102, 95, 117, 112]⟩
 | 2 => ⟨#[104, 97, 108, 102, 95, 101, 118, 101, 110]⟩
 | 3 => ⟨#[99, 101, 105, 108, 105, 110, 103]⟩
 | 4 => ⟨#[102, 108, 111, 111, 114]⟩
 | 5 => ⟨#[104, 97, 108, 102, 95, 100, 111, 119, 110]⟩
 | 6 => ⟨#[117, 112]⟩
 | 7 => ⟨#[48, 53, 117, 112]⟩
 | _ => ⟨#[]⟩
theorem Q09 {W : World} {σ : Sg} {w : World} (hW : GW W) (h : St W σ w) {bq oq q : Nat} (hq : Num σ bq oq (q : Int)) (hl : q < BB ^ 100) (m : Nat) (hm : m < 8) (n : Bool) (u : Int) :
  Calls Tryz.prog 74 #[.string (rndS m), .pointer (some ⟨bq, oq, none⟩), .bool n, .int .i64 u] w fun r w' => r = .returned (.bool (upR m n q u)) ∧ St W σ w' := by
 match m, hm with
 | 0, _ =>
  have HA : Hid (Calls Tryz.prog 125 #[.pointer (some ⟨bq, oq, none⟩), .bool n, .int .i64 u] w fun r w' => r = .returned (.bool (upR 0 n q u)) ∧ St W σ w') := Lh (Q9G h _ n u)
  generalize upR 0 n q u = v at HA ⊢
  clear h hq hl hW
  rw [show rndS 0 = ⟨#[100, 111, 119, 110]⟩ from rfl]
  go_enter Tryz.func74, Tryz.ntmps74
  go_wp2_with fail
  refine HA.out.mono ?_
  rintro r w1 ⟨rfl, k⟩
  have H1 := Lh k
  clear k HA
  go_wp2_with fail
  go_ret
  exact ⟨rfl, H1.out⟩
 | 1, _ =>
  have HA : Hid (Calls Tryz.prog 126 #[.pointer (some ⟨bq, oq, none⟩), .bool n, .int .i64 u] w fun r w' => r = .returned (.bool (upR 1 n q u)) ∧ St W σ w') := Lh (Q7D h _ n u)
  generalize upR 1 n q u = v at HA ⊢
  clear h hq hl hW
  rw [show rndS 1 = ⟨#[104, 97, 108, 102, 95, 117, 112]⟩ from rfl]
  go_enter Tryz.func74, Tryz.ntmps74
  go_wp2_with fail
  refine HA.out.mono ?_
  rintro r w1 ⟨rfl, k⟩
  have H1 := Lh k
  clear k HA
  go_wp2_with fail
  go_ret
  exact ⟨rfl, H1.out⟩
 | 2, _ =>
  have HA : Hid (Calls Tryz.prog 127 #[.pointer (some ⟨bq, oq, none⟩), .bool n, .int .i64 u] w fun r w' => r = .returned (.bool (upR 2 n q u)) ∧ St W σ w') := Lh (Q5o h hq n u)
  generalize upR 2 n q u = v at HA ⊢
  clear h hq hl hW
  rw [show rndS 2 = ⟨#[104, 97, 108, 102, 95, 101, 118, 101, 110]⟩ from rfl]
  go_enter Tryz.func74, Tryz.ntmps74
  go_wp2_with fail
  refine HA.out.mono ?_
  rintro r w1 ⟨rfl, k⟩
  have H1 := Lh k
  clear k HA
  go_wp2_with fail
  go_ret
  exact ⟨rfl, H1.out⟩
 | 3, _ =>
  have HA : Hid (Calls Tryz.prog 128 #[.pointer (some ⟨bq, oq, none⟩), .bool n, .int .i64 u] w fun r w' => r = .returned (.bool (upR 3 n q u)) ∧ St W σ w') := Lh (Q6K h _ n u)
  generalize upR 3 n q u = v at HA ⊢
  clear h hq hl hW
  rw [show rndS 3 = ⟨#[99, 101, 105, 108, 105, 110, 103]⟩ from rfl]
  go_enter Tryz.func74, Tryz.ntmps74
  go_wp2_with fail
  refine HA.out.mono ?_
  rintro r w1 ⟨rfl, k⟩
  have H1 := Lh k
  clear k HA
  go_wp2_with fail
  go_ret
  exact ⟨rfl, H1.out⟩
 | 4, _ =>
  have HA : Hid (Calls Tryz.prog 129 #[.pointer (some ⟨bq, oq, none⟩), .bool n, .int .i64 u] w fun r w' => r = .returned (.bool (upR 4 n q u)) ∧ St W σ w') := Lh (Q91 h _ n u)
  generalize upR 4 n q u = v at HA ⊢
  clear h hq hl hW
  rw [show rndS 4 = ⟨#[102, 108, 111, 111, 114]⟩ from rfl]
  go_enter Tryz.func74, Tryz.ntmps74
  go_wp2_with fail
  refine HA.out.mono ?_
  rintro r w1 ⟨rfl, k⟩
  have H1 := Lh k
  clear k HA
  go_wp2_with fail
  go_ret
  exact ⟨rfl, H1.out⟩
 | 5, _ =>
  have HA : Hid (Calls Tryz.prog 130 #[.pointer (some ⟨bq, oq, none⟩), .bool n, .int .i64 u] w fun r w' => r = .returned (.bool (upR 5 n q u)) ∧ St W σ w') := Lh (Q5n h _ n u)
  generalize upR 5 n q u = v at HA ⊢
  clear h hq hl hW
  rw [show rndS 5 = ⟨#[104, 97, 108, 102, 95, 100, 111, 119, 110]⟩ from rfl]
  go_enter Tryz.func74, Tryz.ntmps74
  go_wp2_with fail
  refine HA.out.mono ?_
  rintro r w1 ⟨rfl, k⟩
  have H1 := Lh k
  clear k HA
  go_wp2_with fail
  go_ret
  exact ⟨rfl, H1.out⟩
 | 6, _ =>
  have HA : Hid (Calls Tryz.prog 131 #[.pointer (some ⟨bq, oq, none⟩), .bool n, .int .i64 u] w fun r w' => r = .returned (.bool (upR 6 n q u)) ∧ St W σ w') := Lh (Q9Z h _ n u)
  generalize upR 6 n q u = v at HA ⊢
  clear h hq hl hW
  rw [show rndS 6 = ⟨#[117, 112]⟩ from rfl]
  go_enter Tryz.func74, Tryz.ntmps74
  go_wp2_with fail
  refine HA.out.mono ?_
  rintro r w1 ⟨rfl, k⟩
  have H1 := Lh k
  clear k HA
  go_wp2_with fail
  go_ret
  exact ⟨rfl, H1.out⟩
 | 7, _ =>
  have HA : Hid (Calls Tryz.prog 132 #[.pointer (some ⟨bq, oq, none⟩), .bool n, .int .i64 u] w fun r w' => r = .returned (.bool (upR 7 n q u)) ∧ St W σ w') := Lh (Q9H hW h hq hl n u)
  generalize upR 7 n q u = v at HA ⊢
  clear h hq hl hW
  rw [show rndS 7 = ⟨#[48, 53, 117, 112]⟩ from rfl]
  go_enter Tryz.func74, Tryz.ntmps74
  go_wp2_with fail
  refine HA.out.mono ?_
  rintro r w1 ⟨rfl, k⟩
  have H1 := Lh k
  clear k HA
  go_wp2_with fail
  go_ret
  exact ⟨rfl, H1.out⟩
theorem Q6M (σ : Sg) (b : Nat) (u v : Int) : setN (setN σ b u) b v = setN σ b v := funext fun k => by
 by_cases e : k = b
 ·subst e
  cases h : σ k with
  | none => simp [setN, h]
  | some o => cases o <;> simp [setN, h]
 ·rw [Ql _ _ e, Ql _ _ e, Ql _ _ e]
theorem Q0S {c n : Nat} (h : c < BB ^ n) (hn : n ≤ 100) : c < BB ^ 100 := Nat.lt_of_lt_of_le h (Nat.pow_le_pow_right (by unfold BB; decide) hn)
theorem b39 {c n : Nat} (h : c < BB ^ n) (hn : n ≤ 39) : c < BB ^ 39 := Nat.lt_of_lt_of_le h (Nat.pow_le_pow_right (by unfold BB; decide) hn)
theorem Q2b {W : World} {σ : Sg} {w : World} (hW : GW W) (h : St W σ w) {bq oq q : Nat} (hq : Num σ bq oq (q : Int)) {bd d : Nat} {T : TypeId} (hd : σ bd = some (.raw (.cells #[.int .i64 (d : Int)] T))) (lq : q + 1 < BB ^ 21) (hdl : d < 2 ^ 62) :
  Calls Tryz.prog 151 #[.pointer (some ⟨bq, oq, none⟩), .pointer (some ⟨bd, 0, none⟩)] w fun r w' => r = .returned (.tuple #[]) ∧ St W (upd (setN σ bq ((if ndg q < ndg (q + 1) then (q + 1) / 10 else q + 1 : Nat) : Int)) bd (.raw (.cells #[.int .i64 ((if ndg q < ndg (q + 1) then d + 1 else d : Nat) : Int)] T))) w' := by
 have H0 := Lh h
 have HS := Lh (Q1k (Q1j h hq))
 have hs : (0 : Int) ≤ signI (q : Int) := by unfold signI; split; omega; rw [if_neg (by omega)]; omega
 generalize signI (q : Int) = s at HS hs
 have hns : ¬ (s < 0) := by omega
 have HD := Lh (QQ hW h hq (by omega))
 have hqd : bd ≠ bq := by
  rintro rfl
  rcases hq with ⟨e, _⟩ | ⟨_, _, _, e, _⟩ <;> rw [hd] at e <;> cases e
 have HO : Hid (∀ w1 b1, σ b1 = none → St W (upd σ b1 (.big 1)) w1 → Calls Tryz.prog 75 #[.pointer (some ⟨bq, oq, none⟩), .pointer (some ⟨bq, oq, none⟩), .pointer (some ⟨b1, 0, none⟩)] w1 fun r w' => r = .returned (.pointer (some ⟨bq, oq, none⟩)) ∧ St W (setN σ bq ((q + 1 : Nat) : Int)) w') := fun w1 b1 hb k1 => by
  have e1 : bq ≠ b1 := by rintro rfl; exact hq.ne_none hb
  refine Q5i ((Q3x hW k1.drew (x := q) (y := 1) (hq.upd_ne e1) (Num.big (Q1 _ _ _)) e1 (Q0S (n := 21) (by omega) (by decide)) (Q0S (n := 21) (by unfold BB; decide) (by decide))).mono ?_)
  rintro r w' ⟨rfl, k2⟩
  rw [QI _ _ _ e1] at k2
  exact ⟨rfl, k2.less (Ext.new (by rw [Ql _ _ e1.symm]; exact hb) _)⟩
 have HD2 : Hid (∀ w1, St W (setN σ bq ((q + 1 : Nat) : Int)) w1 → Calls Tryz.prog 67 #[.pointer (some ⟨bq, oq, none⟩)] w1 fun r w' => r = .returned (.int .i64 (ndg (q + 1) : Int)) ∧ St W (setN σ bq ((q + 1 : Nat) : Int)) w') := fun w1 k1 => QQ hW k1 (hq.set _) lq
 have HQ : Hid (∀ w1 b1, (setN σ bq ((q + 1 : Nat) : Int)) b1 = none → St W (upd (setN σ bq ((q + 1 : Nat) : Int)) b1 (.big 10)) w1 → Calls Tryz.prog 79 #[.pointer (some ⟨bq, oq, none⟩), .pointer (some ⟨bq, oq, none⟩), .pointer (some ⟨b1, 0, none⟩)] w1 fun r w' => r = .returned (.pointer (some ⟨bq, oq, none⟩)) ∧ (w'.cell? ⟨bd, 0, none⟩ = some (.int .i64 (d : Int)) ∧ w'.frozen? ⟨bd, 0, none⟩ = false) ∧ St W (upd (setN σ bq (((q + 1) / 10 : Nat) : Int)) bd (.raw (.cells #[.int .i64 ((d + 1 : Nat) : Int)] T))) (w'.setCell ⟨bd, 0, none⟩ (.int .i64 ((d + 1 : Nat) : Int)))) := fun w1 b1 hb k1 => by
  have hq' := hq.set ((q + 1 : Nat) : Int)
  have e1 : bq ≠ b1 := by rintro rfl; exact hq'.ne_none hb
  refine Q9B ((Q6L hW k1.drew (x := q + 1) (y := 10) (hq'.upd_ne e1) (Num.big (Q1 _ _ _)) e1 (by decide) (Q0S lq (by decide)) (b39 (n := 1) (by unfold BB; decide) (by decide))).mono ?_)
  rintro r w' ⟨rfl, k2⟩
  rw [QI _ _ _ e1, Q6M] at k2
  have k3 := k2.less (Ext.new (by rw [Ql _ _ e1.symm] at hb ⊢; exact hb) _)
  have hd' : (setN σ bq (((q + 1) / 10 : Nat) : Int)) bd = some (.raw (.cells #[.int .i64 (d : Int)] T)) := by rw [Ql _ _ hqd]; exact hd
  have hr := k3.raw hd'
  refine ⟨rfl, ⟨?_, ?_⟩, k3.setRaw hd' 0 _⟩
  ·unfold World.cell?; rw [hr]; rfl
  ·exact (Row.of_block hr).free _
 generalize ndg q = nd at HD ⊢
 generalize ndg (q + 1) = nd2 at HD2 ⊢
 generalize hq1 : (if nd < nd2 then (q + 1) / 10 else q + 1) = q1
 generalize hd1 : (if nd < nd2 then d + 1 else d) = d1
 replace hq1 := Lh hq1; replace hd1 := Lh hd1
 have hw : wrap64 ((d : Int) + 1) = ((d + 1 : Nat) : Int) := by unfold wrap64; omega
 have HF : Hid (∀ w1, St W (setN σ bq ((q + 1 : Nat) : Int)) w1 → St W (upd (setN σ bq ((q + 1 : Nat) : Int)) bd (.raw (.cells #[.int .i64 (d : Int)] T))) w1) := fun w1 k1 => k1.mono fun b ob hb => by
  by_cases e : b = bd
  ·subst e; rw [Q1] at hb; rw [Ql _ _ hqd]; rw [← hb]; exact hd
  ·rw [Qc _ _ e] at hb; exact hb
 clear h hq hd lq
 go_enter Tryz.func151, Tryz.ntmps151
 go_wp2_with fail
 refine HS.out.mono ?_
 rintro r w1 ⟨rfl, hw1⟩
 subst hw1
 clear HS
 go_wp2_with fail
 refine HD.out.mono ?_
 rintro r w2 ⟨rfl, k2⟩
 have H2 := Lh k2; clear k2 HD H0
 go_wp2_with fail
 refine (Q4B H2.out).mono ?_
 rintro r w3 ⟨b1, rfl, hb1, k3⟩
 have H3 := Lh (HO.out _ _ hb1 k3); clear k3 hb1 H2 HO
 go_wp2_with fail
 refine H3.out.mono ?_
 rintro r w4 ⟨rfl, k4⟩
 have H4 := Lh (HD2.out _ k4); clear k4 H3 HD2
 go_wp2_with fail
 refine H4.out.mono ?_
 rintro r w5 ⟨rfl, k5⟩
 have H5 := Lh k5; clear k5 H4
 by_cases hc : nd < nd2
 ·go_wp2_with fail
  refine (Q1L H5.out).mono ?_
  rintro r w6 ⟨b2, rfl, hb2, k6⟩
  have H6 := Lh (HQ.out _ _ hb2 k6); clear k6 hb2 H5 HQ
  go_wp2_with fail
  refine H6.out.mono ?_
  rintro r w7 ⟨rfl, ⟨c7, f7⟩, k7⟩
  have H7 := Lh k7; clear k7 H6
  go_wp2_with fail
  go_returns
  exact ⟨rfl, by rw [← hq1.out, ← hd1.out, if_pos hc, if_pos hc]; exact H7.out⟩
 ·go_wp2_with fail
  go_returns
  exact ⟨rfl, by rw [← hq1.out, ← hd1.out, if_neg hc, if_neg hc]; exact HF.out _ H5.out⟩
theorem Q7E {W : World} {σ : Sg} {w : World} (hW : GW W) (h : St W σ w) {b bi bf : Nat} {n ni nf : Bool} {ei ef ci cf : Int} {k c : Nat} (hb : σ b = some (.dec 0 n (-(k : Int)) (c : Int))) (hi : σ bi = some (.dec 0 ni ei ci)) (hf : σ bf = some (.dec 0 nf ef cf)) (n1 : b ≠ bi) (n2 : b ≠ bf) (n3 : bi ≠ bf) (hc : c < BB ^ 21) (hk : k ≤ 423) (hlt : ndg c < k) :
  Calls Tryz.prog 85 #[.pointer (some ⟨b, 0, none⟩), .pointer (some ⟨bi, 0, none⟩), .pointer (some ⟨bf, 0, none⟩)] w fun r w' => r = .returned (.tuple #[]) ∧ St W (upd (upd σ bi (.dec 0 n 0 0)) bf (.dec 0 n (-(k : Int)) (c : Int))) w' := by
 obtain ⟨_, c1, c2, _, _, _⟩ := h.dec hb
 have HD := Lh (Qs hW h hb hc)
 have HS : Hid (∀ w1, St W (upd σ bi (.dec 0 n 0 ci)) w1 → Calls Tryz.prog 136 #[.pointer (some ⟨bi, 3, none⟩), .int .i64 0] w1 fun r w' => r = .returned (.pointer (some ⟨bi, 3, none⟩)) ∧ St W (upd σ bi (.dec 0 n 0 0)) w') := fun w1 k1 =>
  Q0x ((Q0w k1 (Num.dec (Q1 _ _ _)) (v := 0) (by decide)).mono (by rintro r w' ⟨rfl, k2⟩; exact ⟨rfl, k2.decN⟩))
 have HT : Hid (∀ w1, St W (upd σ bi (.dec 0 n 0 0)) w1 → Calls Tryz.prog 57 #[.pointer (some ⟨bf, 0, none⟩), .pointer (some ⟨b, 0, none⟩)] w1 fun r w' => r = .returned (.pointer (some ⟨bf, 0, none⟩)) ∧ St W (upd (upd σ bi (.dec 0 n 0 0)) bf (.dec 0 n (-(k : Int)) (c : Int))) w') := fun w1 k1 =>
  Q1y k1 (by rw [Qc _ _ n3.symm]; exact hf) (by rw [Qc _ _ n1]; exact hb) n2.symm (by rw [Int.natAbs_natCast]; exact Q0S hc (by decide))
 have HI : Hid (∀ w1, St W σ w1 → w1.cell? ⟨b, 2, none⟩ = some (.int .i32 (-(k : Int))) ∧ (∃ v, w1.cell? ⟨bi, 1, none⟩ = some v) ∧ w1.frozen? ⟨bi, 1, none⟩ = false ∧ w1.frozen? ⟨bi, 2, none⟩ = false ∧ w1.cell? ⟨bi, 1, none⟩ = some (.bool ni) ∧ w1.cell? ⟨bi, 2, none⟩ = some (.int .i32 ei) ∧ St W (upd σ bi (.dec 0 n 0 ci)) ((w1.setCell ⟨bi, 1, none⟩ (.bool n)).setCell ⟨bi, 2, none⟩ (.int .i32 0))) := fun w1 k1 => by
  obtain ⟨_, d1, d2, _, g1, g2⟩ := k1.dec hi
  exact ⟨(k1.dec hb).2.2.1, ⟨_, d1⟩, g1, g2, d1, d2, ((k1.setNeg hi n).setExp (Q1 _ _ _) 0).upd2⟩
 generalize ndg c = nd at HD hlt
 have hw1 : wrap64 (-(-(k : Int))) = (k : Int) := by unfold wrap64; omega
 have hle : ¬ (0 < (-(k : Int))) := by omega
 clear h hb hi hf hc
 go_enter Tryz.func85, Tryz.ntmps85
 go_wp2_with fail
 refine HD.out.mono ?_
 rintro r w1 ⟨rfl, k1⟩
 obtain ⟨d2, ⟨v, dv⟩, g1, g2, e1, e2, H1⟩ := HI.out _ k1
 replace H1 := Lh H1
 clear k1 HD HI dv
 go_wp2_with fail
 refine (HS.out _ H1.out).mono ?_
 rintro r w2 ⟨rfl, k2⟩
 have H2 := Lh k2; clear k2 H1 HS
 go_wp2_with fail
 refine (HT.out _ H2.out).mono ?_
 rintro r w3 ⟨rfl, k3⟩
 have H3 := Lh k3; clear k3 H2 HT
 go_wp2_with fail
 go_returns
 exact ⟨rfl, H3.out⟩
theorem Q6N {W : World} {σ : Sg} {w : World} (hW : GW W) (h : St W σ w) {b bi bf : Nat} {n ni nf : Bool} {ei ef ci cf : Int} {k c : Nat} (hb : σ b = some (.dec 0 n (-(k : Int)) (c : Int))) (hi : σ bi = some (.dec 0 ni ei ci)) (hf : σ bf = some (.dec 0 nf ef cf)) (n1 : b ≠ bi) (n2 : b ≠ bf) (n3 : bi ≠ bf) (hc : c < BB ^ 21) (hk : k ≤ 423) (hge : k ≤ ndg c) :
  Calls Tryz.prog 85 #[.pointer (some ⟨b, 0, none⟩), .pointer (some ⟨bi, 0, none⟩), .pointer (some ⟨bf, 0, none⟩)] w fun r w' => r = .returned (.tuple #[]) ∧ St W (upd (upd σ bi (.dec 0 n 0 ((c / 10 ^ k : Nat) : Int))) bf (.dec 0 n (-(k : Int)) ((c % 10 ^ k : Nat) : Int))) w' := by
 obtain ⟨_, c1, c2, _, _, _⟩ := h.dec hb
 have HD := Lh (Qs hW h hb hc)
 have hT := Q20 hk
 have hT0 : 10 ^ k ≠ 0 := Nat.pos_iff_ne_zero.1 (Nat.pow_pos (by decide))
 have HE : Hid (∀ w1, St W σ w1 → ∃ t, t = w1.heap.size ∧ σ t = none ∧ Calls Tryz.prog 68 #[.int .i64 (k : Int), .pointer (some ⟨t, 0, none⟩)] (w1.alloc (.cells #[.bool false, .slice none 0 0] 58)) fun r w' => r = .returned (.pointer (some ⟨t, 0, none⟩)) ∧ St W (upd σ t (.big ((10 ^ k : Nat) : Int))) w') := fun w1 k1 => by
  refine ⟨_, rfl, k1.none_new, (QW hW (k1.alloc_big 58) (Num.big (Q1 _ _ _)) k hk).mono ?_⟩
  rintro r w' ⟨rfl, k2⟩
  exact ⟨rfl, k2.big_new⟩
 have HI : Hid (∀ w1 t T, σ t = none → St W (upd σ t (.big T)) w1 → t ≠ bi ∧ t ≠ b ∧ t ≠ bf ∧ w1.cell? ⟨b, 2, none⟩ = some (.int .i32 (-(k : Int))) ∧ w1.frozen? ⟨bi, 1, none⟩ = false ∧ w1.frozen? ⟨bi, 2, none⟩ = false ∧ w1.cell? ⟨bi, 1, none⟩ = some (.bool ni) ∧ w1.cell? ⟨bi, 2, none⟩ = some (.int .i32 ei) ∧ St W (upd (upd σ t (.big T)) bi (.dec 0 n 0 ci)) ((w1.setCell ⟨bi, 2, none⟩ (.int .i32 0)).setCell ⟨bi, 1, none⟩ (.bool n))) := fun w1 t T ht k1 => by
  have e1 : t ≠ bi := by rintro rfl; rw [hi] at ht; cases ht
  have e2 : t ≠ b := by rintro rfl; rw [hb] at ht; cases ht
  have e3 : t ≠ bf := by rintro rfl; rw [hf] at ht; cases ht
  have hi' : (upd σ t (.big T)) bi = some (.dec 0 ni ei ci) := by rw [Qc _ _ e1.symm]; exact hi
  have hb' : (upd σ t (.big T)) b = some (.dec 0 n (-(k : Int)) (c : Int)) := by rw [Qc _ _ e2.symm]; exact hb
  obtain ⟨_, d1, d2, _, g1, g2⟩ := k1.dec hi'
  exact ⟨e1, e2, e3, (k1.dec hb').2.2.1, g1, g2, d1, d2, ((k1.setExp hi' 0).setNeg (Q1 _ _ _) n).upd2⟩
 have HQ : Hid (∀ w1 t, t ≠ bi → t ≠ b → t ≠ bf → St W (upd (upd σ t (.big ((10 ^ k : Nat) : Int))) bi (.dec 0 n 0 ci)) w1 → Calls Tryz.prog 71 #[.pointer (some ⟨bi, 3, none⟩), .pointer (some ⟨b, 3, none⟩), .pointer (some ⟨t, 0, none⟩), .pointer (some ⟨bf, 3, none⟩)] w1 fun r w' => r = .returned (.tuple #[.pointer (some ⟨bi, 3, none⟩), .pointer (some ⟨bf, 3, none⟩)]) ∧ w'.cell? ⟨b, 2, none⟩ = some (.int .i32 (-(k : Int))) ∧ (w'.cell? ⟨bf, 1, none⟩ = some (.bool nf) ∧ w'.frozen? ⟨bf, 1, none⟩ = false) ∧ (w'.cell? ⟨bf, 2, none⟩ = some (.int .i32 ef) ∧ w'.frozen? ⟨bf, 2, none⟩ = false) ∧ St W (upd (upd (upd σ t (.big ((10 ^ k : Nat) : Int))) bi (.dec 0 n 0 ((c / 10 ^ k : Nat) : Int))) bf (.dec 0 n (-(k : Int)) ((c % 10 ^ k : Nat) : Int))) ((w'.setCell ⟨bf, 2, none⟩ (.int .i32 (-(k : Int)))).setCell ⟨bf, 1, none⟩ (.bool n))) := fun w1 t e1 e2 e3 k1 => by
  have hb' : (upd (upd σ t (.big ((10 ^ k : Nat) : Int))) bi (.dec 0 n 0 ci)) b = some (.dec 0 n (-(k : Int)) (c : Int)) := by rw [Qc _ _ n1, Qc _ _ e2.symm]; exact hb
  have hf' : (upd (upd σ t (.big ((10 ^ k : Nat) : Int))) bi (.dec 0 n 0 ci)) bf = some (.dec 0 nf ef cf) := by rw [Qc _ _ n3.symm, Qc _ _ e3.symm]; exact hf
  refine Q1X ((Q1o hW k1.drew (Num.dec (Q1 _ _ _)) (Num.dec hf') (Num.dec hb') n3 n1.symm n2.symm (Num.big (v := ((10 ^ k : Nat) : Int)) (by rw [Qc _ _ e1, Q1])) e1.symm e3.symm hT0 (Q0S hc (by decide)) (b39 hT (by decide))).mono ?_)
  rintro r w' ⟨rfl, k2⟩
  rw [Q1z] at k2
  have hf2 : (upd (upd σ t (.big ((10 ^ k : Nat) : Int))) bi (.dec 0 n 0 ((c / 10 ^ k : Nat) : Int))) bf = some (.dec 0 nf ef cf) := by rw [Qc _ _ n3.symm, Qc _ _ e3.symm]; exact hf
  have k3 : St W (upd (upd (upd σ t (.big ((10 ^ k : Nat) : Int))) bi (.dec 0 n 0 ((c / 10 ^ k : Nat) : Int))) bf (.dec 0 nf ef ((c % 10 ^ k : Nat) : Int))) w' := k2.ext fun i => by
   by_cases e : i = bf
   ·subst e; rw [Q1, Q0f hf2]
   ·rw [Qc _ _ e, Ql _ _ e]
  obtain ⟨_, d1, d2, _, g1, g2⟩ := k3.dec (Q1 _ _ _)
  refine ⟨rfl, (k3.dec (b := b) (by rw [Qc _ _ n2, Qc _ _ n1, Qc _ _ e2.symm]; exact hb)).2.2.1, ⟨d1, g1⟩, ⟨d2, g2⟩, ((k3.setExp (Q1 _ _ _) (-(k : Int))).setNeg (by exact Q1 _ _ _) n).upd2.ext fun i => by rw [Q0J]⟩
 have HX : Hid (∀ w' t, σ t = none → t ≠ bi → t ≠ bf → St W (upd (upd (upd σ t (.big ((10 ^ k : Nat) : Int))) bi (.dec 0 n 0 ((c / 10 ^ k : Nat) : Int))) bf (.dec 0 n (-(k : Int)) ((c % 10 ^ k : Nat) : Int))) w' → St W (upd (upd σ bi (.dec 0 n 0 ((c / 10 ^ k : Nat) : Int))) bf (.dec 0 n (-(k : Int)) ((c % 10 ^ k : Nat) : Int))) w') := fun w' t ht _ _ k1 =>
  k1.less (((Ext.new ht _).upd bi _).upd bf _)
 have HC : Hid (∀ w1, St W σ w1 → w1.cell? ⟨b, 2, none⟩ = some (.int .i32 (-(k : Int)))) := fun w1 k1 => (k1.dec hb).2.2.1
 generalize hC : c / 10 ^ k = C at HQ HX ⊢
 generalize hR : c % 10 ^ k = R at HQ HX ⊢
 generalize 10 ^ k = T at hC hR HE HQ HX
 clear hC hR hT hT0
 generalize ndg c = nd at HD hge
 have hw1 : wrap64 (-(-(k : Int))) = (k : Int) := by unfold wrap64; omega
 have hle : ¬ (0 < (-(k : Int))) := by omega
 clear h hb hi hf hc
 go_enter Tryz.func85, Tryz.ntmps85
 go_wp2_with fail
 refine HD.out.mono ?_
 rintro r w1 ⟨rfl, k1⟩
 obtain ⟨t, ht, hn, H1⟩ := HE.out _ k1
 replace H1 := Lh H1
 have d2 := HC.out _ k1
 clear k1 HD HE HC
 go_wp2_with fail
 rw [← ht]
 clear ht
 refine H1.out.mono ?_
 rintro r w2 ⟨rfl, k2⟩
 obtain ⟨e1, e2, e3, p1, p2, p3, p4, p5, H2⟩ := HI.out _ t _ hn k2
 replace H2 := Lh H2
 clear k2 H1 HI
 go_wp2_with fail
 go_still_tail 8, (by kernel_rfl)
 go_wp2_with fail
 refine (HQ.out _ t e1 e2 e3 (by exact H2.out.sm ⟨rfl, rfl, rfl, rfl⟩)).mono ?_
 rintro r w3 ⟨rfl, v1, ⟨v2, v3⟩, ⟨v4, v5⟩, k3⟩
 have H3 := Lh (HX.out _ t hn e1 e3 k3); clear k3 H2 HQ
 go_wp2_with fail
 go_returns
 exact ⟨rfl, H3.out⟩
theorem Q7F {W : World} {σ : Sg} {w : World} (hW : GW W) (h : St W σ w) {b bi bf : Nat} {n ni nf : Bool} {ei ef ci cf : Int} {k c : Nat} (hb : σ b = some (.dec 0 n (-(k : Int)) (c : Int))) (hi : σ bi = some (.dec 0 ni ei ci)) (hf : σ bf = some (.dec 0 nf ef cf)) (n1 : b ≠ bi) (n2 : b ≠ bf) (n3 : bi ≠ bf) (hc : c < BB ^ 21) (hk : k ≤ 423) :
  Calls Tryz.prog 85 #[.pointer (some ⟨b, 0, none⟩), .pointer (some ⟨bi, 0, none⟩), .pointer (some ⟨bf, 0, none⟩)] w fun r w' => r = .returned (.tuple #[]) ∧ St W (upd (upd σ bi (.dec 0 n 0 ((c / 10 ^ k : Nat) : Int))) bf (.dec 0 n (-(k : Int)) ((c % 10 ^ k : Nat) : Int))) w' := by
 by_cases hlt : ndg c < k
 ·obtain ⟨e1, e2⟩ := Q2a (by omega : ndg c ≤ k)
  rw [e1, e2]
  exact Q7E hW h hb hi hf n1 n2 n3 hc hk hlt
 ·exact Q6N hW h hb hi hf n1 n2 n3 hc hk (by omega)
end Go.Proofs.YtegjllplmnpbdaaGreatDoor
