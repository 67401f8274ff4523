/- a part of the proof -/
import Derived.Test.YtamldngoemdfgaaGreatDoorZ21
set_option linter.all false
set_option maxRecDepth 100000
set_option maxHeartbeats 16000000
namespace Go.Proofs.YtamldngoemdfgaaGreatDoor
open Go Go.RowKit
theorem Q69 {W : World} {σ : Sg} {w : World} (hW : GW W) (h : St W σ w) {b bu bk p md : Nat} {mx mn : Int} {tr : Nat} (hk : Ctx σ bk p mx mn (tr : Int) md) (htr : tr < 4096) {e : Int} {n : Bool} {c c' : Nat} (hb : σ b = some (.dec 0 n e (c : Int))) (hu : σ bu = some (.dec 0 false e (c' : Int))) (n2 : b ≠ bu) (hc : c < BB ^ 19) (hc' : c' < BB ^ 19) (he : e.natAbs ≤ 200) (g2 : c + c' = 0 → (e < mn → mn - ((p : Int) - 1) ≤ e) ∧ e ≤ mx) :
  Calls Tryz.prog 54 #[.pointer (some ⟨bk, 0, none⟩), .pointer (some ⟨b, 0, none⟩), .pointer (some ⟨b, 0, none⟩), .pointer (some ⟨bu, 0, none⟩), .bool n] w fun r w' => (∃ v, r = .returned (.tuple #[.int .u32 ((rndF p mx mn md 0 n e (c + c')).k : Int), v]) ∧ ErrV (badK (rndF p mx mn md 0 n e (c + c')).k tr) v) ∧ St W (upd σ b (rndF p mx mn md 0 n e (c + c')).ob) w' := by
 have HN := Lh (Q1w (bk := bk) h hb hu (by decide) (by decide))
 obtain ⟨x0, x1, x2, _, _, _⟩ := h.dec hb
 obtain ⟨u0, u1, u2, _, _, _⟩ := h.dec hu
 have hcc : c + c' < BB ^ 20 := Nat.lt_of_lt_of_le (Nat.add_lt_add hc hc') (by unfold BB; decide)
 have HU : Hid (∀ w1 t, SM w w1 → Calls Tryz.prog 78 #[.pointer (some ⟨b, 0, none⟩), .pointer (some ⟨bu, 0, none⟩), t] (w1.alloc (.cells #[.bool false, .slice none 0 0] 58)) fun r w' => r = .returned (.tuple #[.pointer (some ⟨b, 3, none⟩), .pointer (some ⟨bu, 3, none⟩), .int .i32 e, .nilIface]) ∧ (w'.cell? ⟨b, 1, none⟩ = some (.bool n) ∧ w'.frozen? ⟨b, 1, none⟩ = false) ∧ St W (upd σ b (.dec 0 n e (c : Int))) (w'.setCell ⟨b, 1, none⟩ (.bool n))) := fun w1 t hw => by
  refine (Q1R ((h.sm hw).alloc_any _) hb hu t).mono ?_
  rintro r w' ⟨rfl, q⟩
  obtain ⟨_, d1, _, _, g1, _⟩ := q.dec hb
  exact ⟨rfl, ⟨d1, g1⟩, q.setNeg hb n⟩
 have HA : Hid (∀ w1, St W (upd σ b (.dec 0 n e (c : Int))) w1 → Calls Tryz.prog 76 #[.pointer (some ⟨b, 3, none⟩), .pointer (some ⟨b, 3, none⟩), .pointer (some ⟨bu, 3, none⟩)] w1 fun r w' => r = .returned (.pointer (some ⟨b, 3, none⟩)) ∧ (w'.cell? ⟨b, 2, none⟩ = some (.int .i32 e) ∧ w'.frozen? ⟨b, 2, none⟩ = false) ∧ (w'.cell? ⟨b, 0, none⟩ = some (.int .i8 0) ∧ w'.frozen? ⟨b, 0, none⟩ = false) ∧ St W (upd σ b (.dec 0 n e ((c + c' : Nat) : Int))) ((w'.setCell ⟨b, 2, none⟩ (.int .i32 e)).setCell ⟨b, 0, none⟩ (.int .i8 0))) := fun w1 q1 => by
  refine Q41 ((Q22 hW q1.drew (x := c) (y := c') (Num.dec (Qa _ _ _)) (Num.dec (by rw [Qc _ _ n2.symm]; exact hu)) n2 (Q0I hc (by decide)) (Q0I hc' (by decide))).mono ?_)
  rintro r w' ⟨rfl, q⟩
  have q2 := q.decN
  obtain ⟨d0, _, d2, g0, _, g2⟩ := q2.dec (Qa _ _ _)
  exact ⟨rfl, ⟨d2, g2⟩, ⟨d0, g0⟩, ((q2.setExp (Qa _ _ _) e).setForm (Qa _ _ _) 0).upd2.upd2⟩
 have HR : Hid (∀ w1, St W (upd σ b (.dec 0 n e ((c + c' : Nat) : Int))) w1 → Calls Tryz.prog 64 #[.pointer (some ⟨bk, 0, none⟩), .pointer (some ⟨b, 0, none⟩), .pointer (some ⟨b, 0, none⟩)] w1 fun r w' => r = .returned (.int .u32 (((rndF p mx mn md 0 n e (c + c')).k : Nat) : Int)) ∧ St W (upd σ b (rndF p mx mn md 0 n e (c + c')).ob) w') := fun w1 q1 =>
  (Q4M hW q1 (Qa _ _ _) (hk.upd hb _) hcc he (.inl rfl) g2).mono fun r w' ⟨a, q⟩ => ⟨a, q.upd2⟩
 have HK := Lh (hk.upd hb (rndF p mx mn md 0 n e (c + c')).ob)
 have hl : (rndF p mx mn md 0 n e (c + c')).k < 4096 := Q68
 generalize rndF p mx mn md 0 n e (c + c') = X at HR HK hl ⊢
 clear h hb hu hk hc hc' hcc g2
 cases n
 all_goals
  go_enter Tryz.func54, Tryz.ntmps54
  go_wp2_with fail
  refine HN.out.mono ?_
  rintro r w_ ⟨rfl, hw_⟩
  subst hw_
  clear HN
  go_wp2_with fail
  go_quiet (fail)
  go_wp2_with fail
  refine (HU.out _ _ (by exact ⟨rfl, rfl, rfl, rfl⟩)).mono ?_
  rintro r w1 ⟨rfl, ⟨d1, g1⟩, q1⟩
  have H1 := Lh (HA.out _ q1); clear q1 HU HA
  go_wp2_with fail
  refine H1.out.mono ?_
  rintro r w2 ⟨rfl, ⟨d2, g2⟩, ⟨d0, g0⟩, q2⟩
  have H2 := Lh (HR.out _ q2); clear q2 H1 HR
  go_wp2_with fail
  refine H2.out.mono ?_
  rintro r w3 ⟨rfl, q3⟩
  have H3 := Lh (Q49 q3 HK.out hl htr); clear q3 H2
  go_wp2_with fail
  refine H3.out.mono ?_
  rintro r w4 ⟨⟨v, rfl, hv⟩, q4⟩
  have H4 := Lh q4; have HV := Lh hv; clear q4 hv H3
  go_wp2_with fail
  go_ret2
  exact ⟨⟨_, rfl, HV.out⟩, H4.out⟩
theorem Q3C {p md q : Nat} {mx mn : Int} {n : Bool} (hq : p = 0 ∨ ndg q ≤ p) (hm : (ndg q : Int) - 1 ≤ mx) (hmn : mn ≤ 0) : rndF p mx mn md 0 n 0 q = ⟨0, n, 0, q, 0⟩ := by
 have hp := Qj q
 have hs : sxF p mx mn md 0 n q (ndg q) 0 0 = ⟨0, n, 0, q, 0⟩ := by
  unfold sxF
  rw [if_neg (by omega), if_neg (by omega), show finK 0 = 0 by decide]
 unfold rndF
 by_cases h0 : p = 0
 ·rw [if_pos h0, hs]
 ·rw [if_neg h0, if_neg (by omega), if_neg (by omega), hs]
theorem Q5w {W : World} {σ : Sg} {w : World} (hW : GW W) (h : St W σ w) {b bu bk p md : Nat} {mx mn : Int} {tr : Nat} (hk : Ctx σ bk p mx mn (tr : Int) md) (htr : tr < 4096) {c : Nat} (hb : σ b = some (.dec 0 false 0 (c : Int))) (hu : σ bu = some (.dec 0 false 0 1)) (n2 : b ≠ bu) (hc : c < BB ^ 19) (hq : p = 0 ∨ ndg (c + 1) ≤ p) (hm : (ndg (c + 1) : Int) - 1 ≤ mx) (hmn : mn ≤ 0) :
  Calls Tryz.prog 20 #[.pointer (some ⟨bk, 0, none⟩), .pointer (some ⟨b, 0, none⟩), .pointer (some ⟨b, 0, none⟩), .pointer (some ⟨bu, 0, none⟩)] w fun r w' => (∃ v, r = .returned (.tuple #[.int .u32 ((0 : Nat) : Int), v]) ∧ ErrV (badK 0 tr) v) ∧ St W (upd σ b (.dec 0 false 0 ((c + 1 : Nat) : Int))) w' := by
 have HA := Lh (Q69 hW h hk htr (c' := 1) hb hu n2 hc (by unfold BB; decide) (by decide) (fun h => by omega))
 rw [Q3C hq hm hmn] at HA
 unfold DR.ob at HA
 clear h hb hu hk hc hq hm
 go_enter Tryz.func20, Tryz.ntmps20
 go_wp2_with fail
 refine HA.out.mono ?_
 rintro r w4 ⟨⟨v, rfl, hv⟩, q4⟩
 have H4 := Lh q4; have HV := Lh hv; clear q4 hv HA
 go_wp2_with fail
 go_ret2
 exact ⟨⟨_, rfl, HV.out⟩, H4.out⟩
theorem Q5x {W : World} {σ : Sg} {w : World} (hW : GW W) (h : St W σ w) {b bu bk p md : Nat} {mx mn : Int} {tr : Nat} (hk : Ctx σ bk p mx mn (tr : Int) md) (htr : tr < 4096) {c : Nat} (hb : σ b = some (.dec 0 true 0 (c : Int))) (hu : σ bu = some (.dec 0 false 0 1)) (n2 : b ≠ bu) (hc : c < BB ^ 19) (hq : p = 0 ∨ ndg (c + 1) ≤ p) (hm : (ndg (c + 1) : Int) - 1 ≤ mx) (hmn : mn ≤ 0) :
  Calls Tryz.prog 21 #[.pointer (some ⟨bk, 0, none⟩), .pointer (some ⟨b, 0, none⟩), .pointer (some ⟨b, 0, none⟩), .pointer (some ⟨bu, 0, none⟩)] w fun r w' => (∃ v, r = .returned (.tuple #[.int .u32 ((0 : Nat) : Int), v]) ∧ ErrV (badK 0 tr) v) ∧ St W (upd σ b (.dec 0 true 0 ((c + 1 : Nat) : Int))) w' := by
 have HA := Lh (Q69 hW h hk htr (c' := 1) hb hu n2 hc (by unfold BB; decide) (by decide) (fun h => by omega))
 rw [Q3C hq hm hmn] at HA
 unfold DR.ob at HA
 clear h hb hu hk hc hq hm
 go_enter Tryz.func21, Tryz.ntmps21
 go_wp2_with fail
 refine HA.out.mono ?_
 rintro r w4 ⟨⟨v, rfl, hv⟩, q4⟩
 have H4 := Lh q4; have HV := Lh hv; clear q4 hv HA
 go_wp2_with fail
 go_ret2
 exact ⟨⟨_, rfl, HV.out⟩, H4.out⟩
def clQ (s n : Bool) (k c : Nat) : Nat := if c % 10 ^ k ≠ 0 ∧ n = s then c / 10 ^ k + 1 else c / 10 ^ k
theorem Q8Q {W : World} {σ : Sg} {w : World} (hW : GW W) (h : St W σ w) {b bx bk p md : Nat} {mx mn : Int} {tr : Nat} (hk : Ctx σ bk p mx mn (tr : Int) md) (htr : tr < 4096) {nb n : Bool} {eb cb : Int} {k c : Nat} (hb : σ b = some (.dec 0 nb eb cb)) (hx : σ bx = some (.dec 0 n (-(k : Int)) (c : Int))) (ne : b ≠ bx) (hc : c < BB ^ 18) (hk4 : k ≤ 200) (hq : clQ false n k c = c / 10 ^ k + 1 → (p = 0 ∨ ndg (clQ false n k c) ≤ p) ∧ (ndg (clQ false n k c) : Int) - 1 ≤ mx) (hmn : mn ≤ 0) :
  Calls Tryz.prog 31 #[.pointer (some ⟨bk, 0, none⟩), .pointer (some ⟨b, 0, none⟩), .pointer (some ⟨bx, 0, none⟩)] w fun r w' => (∃ v, r = .returned (.tuple #[.int .u32 ((0 : Nat) : Int), v]) ∧ ErrV (badK 0 tr) v) ∧ St W (upd σ b (.dec 0 n 0 ((clQ false n k c : Nat) : Int))) w' := by
 have hn := h.none_new
 have h1 := h.alloc_dec 60 0 0 false
 generalize hbf : w.heap.size = bf at hn h1
 have HBF := Lh hbf
 have e1 : bf ≠ b := by rintro rfl; rw [hb] at hn; cases hn
 have e2 : bf ≠ bx := by rintro rfl; rw [hx] at hn; cases hn
 have HM := Lh (Q2S hW h1 (by rw [Qc _ _ e2.symm]; exact hx) (by rw [Qc _ _ e1.symm]; exact hb) (Qa _ _ _) ne.symm e2.symm e1.symm (Nat.lt_of_lt_of_le hc (Nat.pow_le_pow_right (by unfold BB; decide) (by decide))) (by omega))
 have hE : Ext (upd σ b (.dec 0 n 0 ((c / 10 ^ k : Nat) : Int))) (upd (upd (upd σ bf (.dec 0 false 0 0)) b (.dec 0 n 0 ((c / 10 ^ k : Nat) : Int))) bf (.dec 0 n (-(k : Int)) ((c % 10 ^ k : Nat) : Int))) := fun i ob hi => by
  by_cases q : i = bf
  ·subst q; rw [Qc _ _ e1, hn] at hi; cases hi
  ·rw [Qc _ _ q]
   by_cases q2 : i = b
   ·subst q2; rw [Qa] at hi ⊢; exact hi
   ·rw [Qc _ _ q2] at hi ⊢; rw [Qc _ _ q]; exact hi
 have hfr := Qa (upd (upd σ bf (.dec 0 false 0 0)) b (.dec 0 n 0 ((c / 10 ^ k : Nat) : Int))) bf (.dec 0 n (-(k : Int)) ((c % 10 ^ k : Nat) : Int))
 generalize upd (upd (upd σ bf (.dec 0 false 0 0)) b (.dec 0 n 0 ((c / 10 ^ k : Nat) : Int))) bf (.dec 0 n (-(k : Int)) ((c % 10 ^ k : Nat) : Int)) = τ at HM hE hfr
 have HE := Lh hE
 have HSg : Hid (∀ w1, St W τ w1 → Calls Tryz.prog 87 #[.pointer (some ⟨bf, 0, none⟩)] w1 fun r w' => r = .returned (.int .i64 (decSgn 0 n (c % 10 ^ k))) ∧ w' = w1) := Lh (fun w1 q1 => QF q1 hfr)
 have hIl : c / 10 ^ k < BB ^ 19 := Nat.lt_of_le_of_lt (Nat.div_le_self _ _) (Nat.lt_of_lt_of_le hc (Nat.pow_le_pow_right (by unfold BB; decide) (by decide)))
 have HA : Hid (clQ false n k c = c / 10 ^ k + 1 → n = false → ∀ w1 bu, τ bu = none → St W (upd τ bu (.dec 0 false 0 1)) w1 → Calls Tryz.prog 20 #[.pointer (some ⟨bk, 0, none⟩), .pointer (some ⟨b, 0, none⟩), .pointer (some ⟨b, 0, none⟩), .pointer (some ⟨bu, 0, none⟩)] w1 fun r w' => (∃ v, r = .returned (.tuple #[.int .u32 ((0 : Nat) : Int), v]) ∧ ErrV (badK 0 tr) v) ∧ St W (upd σ b (.dec 0 n 0 ((c / 10 ^ k + 1 : Nat) : Int))) w') := Lh (fun hcl hns w1 bu hbu q1 => by
  subst hns
  obtain ⟨hq, hm⟩ := hq hcl
  rw [hcl] at hq hm
  have ht := hE b _ (Qa _ _ _)
  have e3 : b ≠ bu := by rintro rfl; rw [ht] at hbu; cases hbu
  have e4 : Ext (upd σ b (.dec 0 false 0 ((c / 10 ^ k : Nat) : Int))) (upd τ bu (.dec 0 false 0 1)) := hE.trans (Ext.new hbu _)
  refine (Q5w hW q1 ((hk.upd hb _).ext e4) htr (by rw [Qc _ _ e3]; exact ht) (Qa _ _ _) e3 hIl hq hm hmn).mono ?_
  rintro r w' ⟨a, q2⟩
  exact ⟨a, (q2.less (e4.upd b _)).upd2⟩)
 have HF : Hid (∀ w1, St W τ w1 → St W (upd σ b (.dec 0 n 0 ((c / 10 ^ k : Nat) : Int))) w1) := Lh (fun w1 q1 => q1.less hE)
 unfold clQ at HA ⊢
 generalize c / 10 ^ k = I at HA HF ⊢
 generalize c % 10 ^ k = F at HSg HA ⊢
 have hb0 : badK 0 tr = false := by unfold badK; simp
 clear h h1 hb hx hk hc hq hn hE hfr hIl hbf
 by_cases hF : F = 0
 ·rw [if_neg (fun g => g.1 hF)]
  have hs : decSgn 0 n F = 0 := by unfold decSgn; rw [if_pos ⟨rfl, hF⟩]
  rw [hs] at HSg
  clear hF hs HA
  go_enter Tryz.func31, Tryz.ntmps31
  go_wp2_with fail
  rw [HBF.out]
  refine HM.out.mono ?_
  rintro r w1 ⟨rfl, q1⟩
  have H1 := Lh (HF.out _ q1); have H2 := Lh (HSg.out _ q1); clear q1 HM HF HSg
  go_wp2_with fail
  refine H2.out.mono ?_
  rintro r w_ ⟨rfl, hw_⟩
  subst hw_
  clear H2
  go_wp2_with fail
  go_ret2
  exact ⟨⟨_, rfl, .inr ⟨hb0, rfl⟩⟩, H1.out⟩
 ·cases n
  all_goals
   first
   | rw [if_pos (⟨hF, rfl⟩ : F ≠ 0 ∧ _)]
     rw [if_pos (⟨hF, rfl⟩ : F ≠ 0 ∧ _)] at HA
     have H0 := Lh (HA.out rfl rfl)
     clear HA HF
   | rw [if_neg (fun g => by cases g.2)]
     clear HA
     have H0 := Lh hF
  all_goals
   unfold decSgn at HSg
   rw [if_neg (fun g : (0 : Int) = 0 ∧ F = 0 => hF g.2)] at HSg
   try simp only [Bool.false_eq_true, if_false, if_true] at HSg
   clear hF
   go_enter Tryz.func31, Tryz.ntmps31
   go_wp2_with fail
   rw [HBF.out]
   refine HM.out.mono ?_
   rintro r w1 ⟨rfl, q1⟩
   have H1 := Lh q1; have H2 := Lh (HSg.out _ q1); clear q1 HM HSg
   go_wp2_with fail
   refine H2.out.mono ?_
   rintro r w_ ⟨rfl, hw_⟩
   subst hw_
   clear H2
   go_wp2_with fail
   first
   | refine (Q1M H1.out).mono ?_
     rintro r w3 ⟨bu, rfl, hbu, q3⟩
     have H3 := Lh (H0.out _ bu hbu q3); clear q3 H1 hbu
     go_wp2_with fail
     refine H3.out.mono ?_
     rintro r w4 ⟨⟨v, rfl, hv⟩, q4⟩
     have H4 := Lh q4; have HV := Lh hv; clear q4 hv H3
     go_wp2_with fail
     go_ret2
     exact ⟨⟨_, rfl, HV.out⟩, H4.out⟩
   | go_ret2
     exact ⟨⟨_, rfl, .inr ⟨hb0, rfl⟩⟩, HF.out _ H1.out⟩
theorem Q7N {W : World} {σ : Sg} {w : World} (hW : GW W) (h : St W σ w) {b bx bk p md : Nat} {mx mn : Int} {tr : Nat} (hk : Ctx σ bk p mx mn (tr : Int) md) (htr : tr < 4096) {nb n : Bool} {eb cb : Int} {k c : Nat} (hb : σ b = some (.dec 0 nb eb cb)) (hx : σ bx = some (.dec 0 n (-(k : Int)) (c : Int))) (ne : b ≠ bx) (hc : c < BB ^ 18) (hk4 : k ≤ 200) (hq : clQ true n k c = c / 10 ^ k + 1 → (p = 0 ∨ ndg (clQ true n k c) ≤ p) ∧ (ndg (clQ true n k c) : Int) - 1 ≤ mx) (hmn : mn ≤ 0) :
  Calls Tryz.prog 32 #[.pointer (some ⟨bk, 0, none⟩), .pointer (some ⟨b, 0, none⟩), .pointer (some ⟨bx, 0, none⟩)] w fun r w' => (∃ v, r = .returned (.tuple #[.int .u32 ((0 : Nat) : Int), v]) ∧ ErrV (badK 0 tr) v) ∧ St W (upd σ b (.dec 0 n 0 ((clQ true n k c : Nat) : Int))) w' := by
 have hn := h.none_new
 have h1 := h.alloc_dec 60 0 0 false
 generalize hbf : w.heap.size = bf at hn h1
 have HBF := Lh hbf
 have e1 : bf ≠ b := by rintro rfl; rw [hb] at hn; cases hn
 have e2 : bf ≠ bx := by rintro rfl; rw [hx] at hn; cases hn
 have HM := Lh (Q2S hW h1 (by rw [Qc _ _ e2.symm]; exact hx) (by rw [Qc _ _ e1.symm]; exact hb) (Qa _ _ _) ne.symm e2.symm e1.symm (Nat.lt_of_lt_of_le hc (Nat.pow_le_pow_right (by unfold BB; decide) (by decide))) (by omega))
 have hE : Ext (upd σ b (.dec 0 n 0 ((c / 10 ^ k : Nat) : Int))) (upd (upd (upd σ bf (.dec 0 false 0 0)) b (.dec 0 n 0 ((c / 10 ^ k : Nat) : Int))) bf (.dec 0 n (-(k : Int)) ((c % 10 ^ k : Nat) : Int))) := fun i ob hi => by
  by_cases q : i = bf
  ·subst q; rw [Qc _ _ e1, hn] at hi; cases hi
  ·rw [Qc _ _ q]
   by_cases q2 : i = b
   ·subst q2; rw [Qa] at hi ⊢; exact hi
   ·rw [Qc _ _ q2] at hi ⊢; rw [Qc _ _ q]; exact hi
 have hfr := Qa (upd (upd σ bf (.dec 0 false 0 0)) b (.dec 0 n 0 ((c / 10 ^ k : Nat) : Int))) bf (.dec 0 n (-(k : Int)) ((c % 10 ^ k : Nat) : Int))
 generalize upd (upd (upd σ bf (.dec 0 false 0 0)) b (.dec 0 n 0 ((c / 10 ^ k : Nat) : Int))) bf (.dec 0 n (-(k : Int)) ((c % 10 ^ k : Nat) : Int)) = τ at HM hE hfr
 have HE := Lh hE
 have HSg : Hid (∀ w1, St W τ w1 → Calls Tryz.prog 87 #[.pointer (some ⟨bf, 0, none⟩)] w1 fun r w' => r = .returned (.int .i64 (decSgn 0 n (c % 10 ^ k))) ∧ w' = w1) := Lh (fun w1 q1 => QF q1 hfr)
 have hIl : c / 10 ^ k < BB ^ 19 := Nat.lt_of_le_of_lt (Nat.div_le_self _ _) (Nat.lt_of_lt_of_le hc (Nat.pow_le_pow_right (by unfold BB; decide) (by decide)))
 have HA : Hid (clQ true n k c = c / 10 ^ k + 1 → n = true → ∀ w1 bu, τ bu = none → St W (upd τ bu (.dec 0 false 0 1)) w1 → Calls Tryz.prog 21 #[.pointer (some ⟨bk, 0, none⟩), .pointer (some ⟨b, 0, none⟩), .pointer (some ⟨b, 0, none⟩), .pointer (some ⟨bu, 0, none⟩)] w1 fun r w' => (∃ v, r = .returned (.tuple #[.int .u32 ((0 : Nat) : Int), v]) ∧ ErrV (badK 0 tr) v) ∧ St W (upd σ b (.dec 0 n 0 ((c / 10 ^ k + 1 : Nat) : Int))) w') := Lh (fun hcl hns w1 bu hbu q1 => by
  subst hns
  obtain ⟨hq, hm⟩ := hq hcl
  rw [hcl] at hq hm
  have ht := hE b _ (Qa _ _ _)
  have e3 : b ≠ bu := by rintro rfl; rw [ht] at hbu; cases hbu
  have e4 : Ext (upd σ b (.dec 0 true 0 ((c / 10 ^ k : Nat) : Int))) (upd τ bu (.dec 0 false 0 1)) := hE.trans (Ext.new hbu _)
  refine (Q5x hW q1 ((hk.upd hb _).ext e4) htr (by rw [Qc _ _ e3]; exact ht) (Qa _ _ _) e3 hIl hq hm hmn).mono ?_
  rintro r w' ⟨a, q2⟩
  exact ⟨a, (q2.less (e4.upd b _)).upd2⟩)
 have HF : Hid (∀ w1, St W τ w1 → St W (upd σ b (.dec 0 n 0 ((c / 10 ^ k : Nat) : Int))) w1) := Lh (fun w1 q1 => q1.less hE)
 unfold clQ at HA ⊢
 generalize c / 10 ^ k = I at HA HF ⊢
 generalize c % 10 ^ k = F at HSg HA ⊢
 have hb0 : badK 0 tr = false := by unfold badK; simp
 clear h h1 hb hx hk hc hq hn hE hfr hIl hbf
 by_cases hF : F = 0
 ·rw [if_neg (fun g => g.1 hF)]
  have hs : decSgn 0 n F = 0 := by unfold decSgn; rw [if_pos ⟨rfl, hF⟩]
  rw [hs] at HSg
  clear hF hs HA
  go_enter Tryz.func32, Tryz.ntmps32
  go_wp2_with fail
  rw [HBF.out]
  refine HM.out.mono ?_
  rintro r w1 ⟨rfl, q1⟩
  have H1 := Lh (HF.out _ q1); have H2 := Lh (HSg.out _ q1); clear q1 HM HF HSg
  go_wp2_with fail
  refine H2.out.mono ?_
  rintro r w_ ⟨rfl, hw_⟩
  subst hw_
  clear H2
  go_wp2_with fail
  go_ret2
  exact ⟨⟨_, rfl, .inr ⟨hb0, rfl⟩⟩, H1.out⟩
 ·cases n
  all_goals
   first
   | rw [if_pos (⟨hF, rfl⟩ : F ≠ 0 ∧ _)]
     rw [if_pos (⟨hF, rfl⟩ : F ≠ 0 ∧ _)] at HA
     have H0 := Lh (HA.out rfl rfl)
     clear HA HF
   | rw [if_neg (fun g => by cases g.2)]
     clear HA
     have H0 := Lh hF
  all_goals
   unfold decSgn at HSg
   rw [if_neg (fun g : (0 : Int) = 0 ∧ F = 0 => hF g.2)] at HSg
   try simp only [Bool.false_eq_true, if_false, if_true] at HSg
   clear hF
   go_enter Tryz.func32, Tryz.ntmps32
   go_wp2_with fail
   rw [HBF.out]
   refine HM.out.mono ?_
   rintro r w1 ⟨rfl, q1⟩
   have H1 := Lh q1; have H2 := Lh (HSg.out _ q1); clear q1 HM HSg
   go_wp2_with fail
   refine H2.out.mono ?_
   rintro r w_ ⟨rfl, hw_⟩
   subst hw_
   clear H2
   go_wp2_with fail
   first
   | refine (Q1M H1.out).mono ?_
     rintro r w3 ⟨bu, rfl, hbu, q3⟩
     have H3 := Lh (H0.out _ bu hbu q3); clear q3 H1 hbu
     go_wp2_with fail
     refine H3.out.mono ?_
     rintro r w4 ⟨⟨v, rfl, hv⟩, q4⟩
     have H4 := Lh q4; have HV := Lh hv; clear q4 hv H3
     go_wp2_with fail
     go_ret2
     exact ⟨⟨_, rfl, HV.out⟩, H4.out⟩
   | go_ret2
     exact ⟨⟨_, rfl, .inr ⟨hb0, rfl⟩⟩, HF.out _ H1.out⟩
end Go.Proofs.YtamldngoemdfgaaGreatDoor
