/- a part of the proof: what functions that the statement reaches do -/
import Derived.Test.YtegjllplmnpbdaaGreatDoorZ21
import Derived.Test.YtegjllplmnpbdaaGreatDoorZ26
set_option linter.all false
set_option maxRecDepth 100000
set_option maxHeartbeats 16000000
namespace Go.Proofs.YtegjllplmnpbdaaGreatDoor
open Go Go.RowKit
theorem St.belowH {W : World} {σ : Sg} {w w' : World} (h : St W σ w) (hB : Below w.heap.size w w') : St W σ w' :=
 h.frame (fun _ => False) ⟨hB.os, hB.tape, hB.output, hB.size, fun k hk _ => hB.block k hk, fun k hk => by unfold hd; rw [hB.block k hk]⟩ (fun _ e => e)
def ErrV (bad : Bool) (v : Value) : Prop := (bad = true ∧ ∃ T x, v = .iface T x) ∨ (bad = false ∧ v = .nilIface)
def badK (k tr : Nat) : Bool := decide (k &&& 3 ≠ 0) || decide (k &&& tr ≠ 0)
theorem Q7Q {W : World} {σ : Sg} {w : World} (h : St W σ w) (s : ByteArray) : Calls Tryz.prog 78 #[.string s] w fun r w' => (∃ T x, r = .returned (.iface T x)) ∧ St W σ w' := by
 have H := Lh (fun o => h.alloc_any o)
 clear h
 go_enter Tryz.func78, Tryz.ntmps78
 go_wp2_with fail
 go_ret
 exact ⟨⟨_, _, rfl⟩, H.out _⟩
theorem Q9T {W : World} {σ : Sg} {w : World} (h : St W σ w) {k tr : Nat} (hk : k < 4096) (htr : tr < 4096) : Calls Tryz.prog 109 #[.int .u32 (k : Int), .int .u32 (tr : Int)] w fun r w' => (∃ v, r = .returned (.tuple #[.int .u32 (k : Int), v]) ∧ ErrV (badK k tr) v) ∧ St W σ w' := by
 have H := Lh h
 have hA := Q1b k 3 hk (by decide)
 have hT := Q1b k tr hk htr
 have hB := badK k tr
 have hl : k &&& tr < 4096 := Nat.lt_of_le_of_lt Nat.and_le_left hk
 have hA' : bits .and .u32 (k : Int) 3 = ((k &&& 3 : Nat) : Int) := hA
 clear hA h
 by_cases h3 : k &&& 3 = 0
 ·rw [h3] at hA'
  by_cases ht : k &&& tr = 0
  ·have hbad : badK k tr = false := by unfold badK; simp [h3, ht]
   rw [hbad]
   rw [ht] at hT
   clear hbad h3 ht hl
   go_enter Tryz.func109, Tryz.ntmps109
   go_wp2_with fail
   go_ret2
   exact ⟨⟨_, rfl, .inr ⟨rfl, rfl⟩⟩, H.out⟩
  ·have hbad : badK k tr = true := by unfold badK; simp [h3, ht]
   rw [hbad]
   have HS := Lh (fun w1 => Q5w (k &&& tr) hl w1)
   generalize k &&& tr = z at hT ht HS
   have hz : ((z : Int) = 0) = False := by simp; omega
   clear hbad h3 hl
   go_enter Tryz.func109, Tryz.ntmps109
   go_wp2_with fail
   refine (HS.out _).mono ?_
   rintro r w1 ⟨⟨s, rfl⟩, hb⟩
   have H1 := Lh (H.out.belowH hb)
   clear hb HS
   go_wp2_with fail
   refine (Q7Q H1.out s).mono ?_
   rintro r w2 ⟨⟨T, x, rfl⟩, q⟩
   have H2 := Lh q
   clear q
   go_wp2_with fail
   go_ret2
   exact ⟨⟨_, rfl, .inl ⟨rfl, _, _, rfl⟩⟩, H2.out⟩
 ·have hbad : badK k tr = true := by unfold badK; simp [h3]
  rw [hbad]
  generalize k &&& 3 = z at hA' h3
  have hz : ((z : Int) = 0) = False := by simp; omega
  clear hbad hl
  go_enter Tryz.func109, Tryz.ntmps109
  go_wp2_with fail
  refine (Q7Q H.out _).mono ?_
  rintro r w2 ⟨⟨T, x, rfl⟩, q⟩
  have H2 := Lh q
  clear q
  go_wp2_with fail
  go_ret2
  exact ⟨⟨_, rfl, .inl ⟨rfl, _, _, rfl⟩⟩, H2.out⟩
theorem Q22 {W : World} {σ : Sg} {w : World} (h : St W σ w) {bk p md : Nat} {mx mn : Int} {k tr : Nat} (hc : Ctx σ bk p mx mn (tr : Int) md) (hk : k < 4096) (htr : tr < 4096) : Calls Tryz.prog 59 #[.pointer (some ⟨bk, 0, none⟩), .int .u32 (k : Int)] w fun r w' => (∃ v, r = .returned (.tuple #[.int .u32 (k : Int), v]) ∧ ErrV (badK k tr) v) ∧ St W σ w' := by
 have H := Lh h
 have k3 := (h.ctx hc).2.2.2.1
 by_cases h0 : k = 0
 ·subst h0
  rw [show badK 0 tr = false by unfold badK; simp]
  clear h hc
  go_enter Tryz.func59, Tryz.ntmps59
  go_wp2_with fail
  go_ret2
  exact ⟨⟨_, rfl, .inr ⟨rfl, rfl⟩⟩, H.out⟩
 ·have HG := Lh (Q9T h hk htr)
  have hz : ((k : Int) == 0) = false := by simp; omega
  generalize badK k tr = bad at HG ⊢
  clear h hc h0
  go_enter Tryz.func59, Tryz.ntmps59
  go_wp2_with fail
  refine HG.out.mono ?_
  rintro r w1 ⟨⟨v, rfl, hv⟩, q⟩
  have H2 := Lh q; have HV := Lh hv
  clear q hv HG
  go_wp2_with fail
  go_ret2
  exact ⟨⟨_, rfl, HV.out⟩, H2.out⟩
theorem Q3z {W : World} {σ : Sg} {w : World} (h : St W σ w) {bk b : Nat} {f : Int} {n : Bool} {e c : Int} (hb : σ b = some (.dec f n e c)) :
  Calls Tryz.prog 54 #[.pointer (some ⟨bk, 0, none⟩), .pointer (some ⟨b, 0, none⟩), .pointer none] w fun r w' => r = .returned (.bool (decide (f = 2 ∨ f = 3))) ∧ w' = w := by
 obtain ⟨c0, _, _, _, _, _⟩ := h.dec hb
 clear h hb
 by_cases h2 : f = 2
 ·subst h2
  go_enter Tryz.func54, Tryz.ntmps54
  go_wp2_with fail
  go_ret
  exact ⟨rfl, rfl⟩
 ·by_cases h3 : f = 3
  ·subst h3
   go_enter Tryz.func54, Tryz.ntmps54
   go_wp2_with fail
   go_ret
   exact ⟨rfl, rfl⟩
  ·have e2 : (f == 2) = false := by simpa using h2
   have e3 : (f == 3) = false := by simpa using h3
   rw [decide_eq_false (by omega)]
   go_enter Tryz.func54, Tryz.ntmps54
   go_wp2_with fail
   go_ret
   exact ⟨rfl, rfl⟩
theorem Q9K {W : World} {σ : Sg} {w : World} (h : St W σ w) {bk b bx p md : Nat} {mx mn : Int} {tr : Nat} (hk : Ctx σ bk p mx mn (tr : Int) md) (htr : tr < 4096) {f f' : Int} {n n' : Bool} {e e' c c' : Int} (hb : σ b = some (.dec f n e c)) (hx : σ bx = some (.dec f' n' e' c')) (hc : c'.natAbs < BB ^ 100) (hf : f' = 2 ∨ f' = 3) :
  Calls Tryz.prog 55 #[.pointer (some ⟨bk, 0, none⟩), .pointer (some ⟨b, 0, none⟩), .pointer (some ⟨bx, 0, none⟩), .pointer none] w fun r w' => (∃ v, r = .returned (.tuple #[.int .u32 ((if f' = 2 then 1024 else 0 : Nat) : Int), v]) ∧ ErrV (badK (if f' = 2 then 1024 else 0) tr) v) ∧ St W (upd σ b (.dec 3 n' e' c')) w' := by
 obtain ⟨x0, _, _, _, _, _⟩ := h.dec hx
 have HS : Hid (Calls Tryz.prog 57 #[.pointer (some ⟨b, 0, none⟩), .pointer (some ⟨bx, 0, none⟩)] w fun r w' => r = .returned (.pointer (some ⟨b, 0, none⟩)) ∧ (w'.cell? ⟨bx, 0, none⟩ = some (.int .i8 f') ∧ w'.cell? ⟨b, 0, none⟩ = some (.int .i8 f') ∧ w'.frozen? ⟨b, 0, none⟩ = false) ∧ St W (upd σ b (.dec f' n' e' c')) w') := by
  by_cases hne : b = bx
  ·subst hne
   rw [hb] at hx
   obtain ⟨rfl, rfl, rfl, rfl⟩ : f = f' ∧ n = n' ∧ e = e' ∧ c = c' := by
    have := Option.some.inj hx
    injection this with a1 a2 a3 a4
    exact ⟨a1, a2, a3, a4⟩
   refine (QH h hb).mono ?_
   rintro r w' ⟨rfl, rfl⟩
   obtain ⟨d0, _, _, g0, _, _⟩ := h.dec hb
   exact ⟨rfl, ⟨d0, d0, g0⟩, h.ext fun k => by
    by_cases e : k = b
    ·subst e; rw [Q1, hb]
    ·rw [Qc _ _ e]⟩
  ·refine (Q1y h hb hx hne hc).mono ?_
   rintro r w' ⟨rfl, q⟩
   obtain ⟨d0, _, _, g0, _, _⟩ := q.dec (Q1 _ _ _)
   obtain ⟨y0, _⟩ := q.dec (b := bx) (by rw [Qc _ _ (Ne.symm hne)]; exact hx)
   exact ⟨rfl, ⟨y0, d0, g0⟩, q⟩
 have HK := Lh (hk.upd hb (.dec 3 n' e' c'))
 clear h hb hx hc hk
 rcases hf with rfl | rfl
 ·have HF : Hid (∀ w1, St W (upd σ b (.dec 2 n' e' c')) w1 → St W (upd σ b (.dec 3 n' e' c')) (w1.setCell ⟨b, 0, none⟩ (.int .i8 3))) := fun w1 q => (q.setForm (Q1 _ _ _) 3).upd2
  go_enter Tryz.func55, Tryz.ntmps55
  go_wp2_with fail
  refine HS.out.mono ?_
  rintro r w1 ⟨rfl, ⟨y0, y1, y2⟩, q1⟩
  have H1 := Lh (HF.out _ q1); clear q1 HS HF
  go_wp2_with fail
  refine (Q22 H1.out HK.out (k := 1024) (by decide) htr).mono ?_
  rintro r w2 ⟨⟨v, rfl, hv⟩, q2⟩
  have H2 := Lh q2; have HV := Lh hv; clear q2 hv
  go_wp2_with fail
  go_ret2
  exact ⟨⟨_, rfl, HV.out⟩, H2.out⟩
 ·go_enter Tryz.func55, Tryz.ntmps55
  go_wp2_with fail
  refine HS.out.mono ?_
  rintro r w1 ⟨rfl, ⟨y0, y1, y2⟩, q1⟩
  have H1 := Lh q1; clear q1 HS
  go_wp2_with fail
  refine (Q22 H1.out HK.out (k := 0) (by decide) htr).mono ?_
  rintro r w2 ⟨⟨v, rfl, hv⟩, q2⟩
  have H2 := Lh q2; have HV := Lh hv; clear q2 hv
  go_wp2_with fail
  go_ret2
  exact ⟨⟨_, rfl, HV.out⟩, H2.out⟩
theorem Q1Q {p : Nat} {mx mn : Int} {md : Nat} {f : Int} {n : Bool} {e : Int} {c : Nat} : (rndF p mx mn md f n e c).k < 4096 := by
 unfold rndF
 split
 ·exact Q0D (by decide)
 ·split
  ·exact Qu (by decide) (Q0D (by decide))
  ·split
   ·exact Qu (Q65 _ _) (Q0D (Q65 _ _))
   ·exact Q0D (by decide)
theorem Q4J {W : World} {σ : Sg} {w : World} (hW : GW W) (h : St W σ w) {b bk : Nat} {f : Int} {n : Bool} {e : Int} {c p md : Nat} {mx mn tr : Int} (hb : σ b = some (.dec f n e (c : Int))) (hk : Ctx σ bk p mx mn tr md) (hc : c < BB ^ 20) (he : e.natAbs ≤ 200)
  (g1 : f = 0 ∨ (c = 0 ∧ mn ≤ e ∧ e ≤ mx)) (g2 : c = 0 → (e < mn → mn - ((p : Int) - 1) ≤ e) ∧ e ≤ mx) :
  Calls Tryz.prog 63 #[.pointer (some ⟨bk, 0, none⟩), .pointer (some ⟨b, 0, none⟩), .pointer (some ⟨b, 0, none⟩)] w fun r w' => r = .returned (.int .u32 (((rndF p mx mn md f n e c).k : Nat) : Int)) ∧ St W (upd σ b (rndF p mx mn md f n e c).ob) w' := by
 have HR := Lh (Q6P hW h hb hk hc he g1 g2)
 have k4 := (h.ctx hk).2.2.2.2
 generalize rndF p mx mn md f n e c = X at HR ⊢
 clear h hb hk hc g1 g2
 go_enter Tryz.func63, Tryz.ntmps63
 go_wp2_with fail
 refine HR.out.mono ?_
 rintro r w1 ⟨rfl, q⟩
 have H1 := Lh q; clear q HR
 go_wp2_with fail
 go_ret
 exact ⟨rfl, H1.out⟩
theorem Q7R {W : World} {σ : Sg} {w : World} (hW : GW W) (h : St W σ w) {b bx bk p md : Nat} {mx mn : Int} {tr : Nat} (hk : Ctx σ bk p mx mn (tr : Int) md) (htr : tr < 4096) {f f' : Int} {n n' : Bool} {e e' : Int} {c : Int} {c' : Nat} (hb : σ b = some (.dec f n e c)) (hx : σ bx = some (.dec f' n' e' (c' : Int))) (hc : c' < BB ^ 20) (he : e'.natAbs ≤ 200)
  (hf : ¬ (f' = 2 ∨ f' = 3)) (g1 : f' = 0 ∨ (c' = 0 ∧ mn ≤ e' ∧ e' ≤ mx)) (g2 : c' = 0 → (e' < mn → mn - ((p : Int) - 1) ≤ e') ∧ e' ≤ mx) :
  Calls Tryz.prog 25 #[.pointer (some ⟨bk, 0, none⟩), .pointer (some ⟨b, 0, none⟩), .pointer (some ⟨bx, 0, none⟩)] w fun r w' => (∃ v, r = .returned (.tuple #[.int .u32 ((rndF p mx mn md f' false e' c').k : Int), v]) ∧ ErrV (badK (rndF p mx mn md f' false e' c').k tr) v) ∧ St W (upd σ b (rndF p mx mn md f' false e' c').ob) w' := by
 have HN := Lh (Q3z (bk := bk) h hx)
 rw [decide_eq_false hf] at HN
 have HA : Hid (Calls Tryz.prog 81 #[.pointer (some ⟨b, 0, none⟩), .pointer (some ⟨bx, 0, none⟩)] w fun r w' => r = .returned (.pointer (some ⟨b, 0, none⟩)) ∧ St W (upd σ b (.dec f' false e' (c' : Int))) w') := by
  by_cases hne : b = bx
  ·subst hne
   rw [hb] at hx
   obtain ⟨rfl, rfl, rfl, rfl⟩ : f = f' ∧ n = n' ∧ e = e' ∧ c = (c' : Int) := by
    have := Option.some.inj hx
    injection this with a1 a2 a3 a4
    exact ⟨a1, a2, a3, a4⟩
   exact Q28 h hb
  ·exact Q5k h hb hx hne (by rw [Int.natAbs_natCast]; exact Q0S hc (by decide))
 have HR : Hid (∀ w1, St W (upd σ b (.dec f' false e' (c' : Int))) w1 → Calls Tryz.prog 63 #[.pointer (some ⟨bk, 0, none⟩), .pointer (some ⟨b, 0, none⟩), .pointer (some ⟨b, 0, none⟩)] w1 fun r w' => r = .returned (.int .u32 (((rndF p mx mn md f' false e' c').k : Nat) : Int)) ∧ St W (upd σ b (rndF p mx mn md f' false e' c').ob) w') := fun w1 q1 =>
  (Q4J hW q1 (Q1 _ _ _) (hk.upd hb _) hc he g1 g2).mono fun r w' ⟨a, q⟩ => ⟨a, q.upd2⟩
 have HK := Lh (hk.upd hb (rndF p mx mn md f' false e' c').ob)
 have hl : (rndF p mx mn md f' false e' c').k < 4096 := Q1Q
 generalize rndF p mx mn md f' false e' c' = X at HR HK hl ⊢
 clear h hb hx hk hc g1 g2
 go_enter Tryz.func25, Tryz.ntmps25
 go_wp2_with fail
 refine HN.out.mono ?_
 rintro r w_ ⟨rfl, hw_⟩
 subst hw_
 clear HN
 go_wp2_with fail
 refine HA.out.mono ?_
 rintro r w1 ⟨rfl, q1⟩
 have H1 := Lh (HR.out _ q1); clear q1 HA HR
 go_wp2_with fail
 refine H1.out.mono ?_
 rintro r w2 ⟨rfl, q2⟩
 have H2 := Lh (Q22 q2 HK.out hl htr); clear q2 H1
 go_wp2_with fail
 refine H2.out.mono ?_
 rintro r w3 ⟨⟨v, rfl, hv⟩, q3⟩
 have H3 := Lh q3; have HV := Lh hv; clear q3 hv H2
 go_wp2_with fail
 go_ret2
 exact ⟨⟨_, rfl, HV.out⟩, H3.out⟩
theorem Q3A {W : World} {σ : Sg} {w : World} (h : St W σ w) {b bx bk p md : Nat} {mx mn : Int} {tr : Nat} (hk : Ctx σ bk p mx mn (tr : Int) md) (htr : tr < 4096) {f f' : Int} {n n' : Bool} {e e' : Int} {c c' : Int} (hb : σ b = some (.dec f n e c)) (hx : σ bx = some (.dec f' n' e' c')) (hc : c'.natAbs < BB ^ 100) (hf : f' = 2 ∨ f' = 3) :
  Calls Tryz.prog 25 #[.pointer (some ⟨bk, 0, none⟩), .pointer (some ⟨b, 0, none⟩), .pointer (some ⟨bx, 0, none⟩)] w fun r w' => (∃ v, r = .returned (.tuple #[.int .u32 ((if f' = 2 then 1024 else 0 : Nat) : Int), v]) ∧ ErrV (badK (if f' = 2 then 1024 else 0) tr) v) ∧ St W (upd σ b (.dec 3 n' e' c')) w' := by
 have HN := Lh (Q3z (bk := bk) h hx)
 rw [decide_eq_true hf] at HN
 have HS := Lh (Q9K h hk htr hb hx hc hf)
 generalize (if f' = 2 then 1024 else 0 : Nat) = k at HS ⊢
 clear h hb hx hk hc
 go_enter Tryz.func25, Tryz.ntmps25
 go_wp2_with fail
 refine HN.out.mono ?_
 rintro r w_ ⟨rfl, hw_⟩
 subst hw_
 clear HN
 go_wp2_with fail
 refine HS.out.mono ?_
 rintro r w3 ⟨⟨v, rfl, hv⟩, q3⟩
 have H3 := Lh q3; have HV := Lh hv; clear q3 hv HS
 go_wp2_with fail
 go_ret2
 exact ⟨⟨_, rfl, HV.out⟩, H3.out⟩
theorem Q0T {fn : Func} {t u v x : Tmp} (h : fn.results = #[.tmp t, .tmp u, .tmp v, .tmp x]) (tmps : Array Value) (P : Program) (w : World) :
  (results fn tmps).run P w = .ok (.tuple #[tmps.getD t undef, tmps.getD u undef, tmps.getD v undef, tmps.getD x undef]) w := by
 simp [results, h]
theorem Q47 {W : World} {σ : Sg} {w : World} (h : St W σ w) {b b' : Nat} {f f' : Int} {n n' : Bool} {e c c' : Int} (hb : σ b = some (.dec f n e c)) (hx : σ b' = some (.dec f' n' e c')) (t : Value) :
  Calls Tryz.prog 77 #[.pointer (some ⟨b, 0, none⟩), .pointer (some ⟨b', 0, none⟩), t] w fun r w' => r = .returned (.tuple #[.pointer (some ⟨b, 3, none⟩), .pointer (some ⟨b', 3, none⟩), .int .i32 e, .nilIface]) ∧ St W σ w' := by
 obtain ⟨_, _, c2, _, _, _⟩ := h.dec hb
 obtain ⟨_, _, x2, _, _, _⟩ := h.dec hx
 have H := Lh h
 clear h hb hx
 go_enter Tryz.func77, Tryz.ntmps77
 go_wp2_with fail
 go_quiet (fail)
 go_wp2_with fail
 go_quiet (fail)
 go_wp2_with fail
 refine bodyPost_ret (Q0T rfl _ _ _) rfl ?_
 exact ⟨rfl, H.out.sm ⟨rfl, rfl, rfl, rfl⟩⟩
theorem Q30 {W : World} {σ : Sg} {w : World} (h : St W σ w) {bk b b' : Nat} {n n' : Bool} {e c e' c' f f' : Int} (hb : σ b = some (.dec f n e c)) (hx : σ b' = some (.dec f' n' e' c')) (hf : f ≠ 2 ∧ f ≠ 3) (hf' : f' ≠ 2 ∧ f' ≠ 3) :
  Calls Tryz.prog 54 #[.pointer (some ⟨bk, 0, none⟩), .pointer (some ⟨b, 0, none⟩), .pointer (some ⟨b', 0, none⟩)] w fun r w' => r = .returned (.bool false) ∧ w' = w := by
 obtain ⟨c0, _, _, _, _, _⟩ := h.dec hb
 obtain ⟨x0, _, _, _, _, _⟩ := h.dec hx
 have e2 : (f == 2) = false := by simpa using hf.1
 have e3 : (f == 3) = false := by simpa using hf.2
 have e4 : (f' == 2) = false := by simpa using hf'.1
 have e5 : (f' == 3) = false := by simpa using hf'.2
 clear h hb hx hf hf'
 go_enter Tryz.func54, Tryz.ntmps54
 go_wp2_with fail
 go_ret
 exact ⟨rfl, rfl⟩
theorem Q98 {W : World} {σ : Sg} {w : World} (hW : GW W) (h : St W σ w) {b bx bu bk p md : Nat} {mx mn : Int} {tr : Nat} (hk : Ctx σ bk p mx mn (tr : Int) md) (htr : tr < 4096) {f ed cd e : Int} {nd n : Bool} {c c' : Nat} (hb : σ b = some (.dec f nd ed cd)) (hx : σ bx = some (.dec 0 n e (c : Int))) (hu : σ bu = some (.dec 0 n e (c' : Int))) (n1 : b ≠ bx) (n2 : b ≠ bu) (hc : c < BB ^ 19) (hc' : c' < BB ^ 19) (he : e.natAbs ≤ 200) (g2 : c + c' = 0 → (e < mn → mn - ((p : Int) - 1) ≤ e) ∧ e ≤ mx) :
  Calls Tryz.prog 53 #[.pointer (some ⟨bk, 0, none⟩), .pointer (some ⟨b, 0, none⟩), .pointer (some ⟨bx, 0, none⟩), .pointer (some ⟨bu, 0, none⟩), .bool false] w fun r w' => (∃ v, r = .returned (.tuple #[.int .u32 ((rndF p mx mn md 0 n e (c + c')).k : Int), v]) ∧ ErrV (badK (rndF p mx mn md 0 n e (c + c')).k tr) v) ∧ St W (upd σ b (rndF p mx mn md 0 n e (c + c')).ob) w' := by
 have HN := Lh (Q30 (bk := bk) h hx hu (by decide) (by decide))
 obtain ⟨x0, x1, x2, _, _, _⟩ := h.dec hx
 obtain ⟨u0, u1, u2, _, _, _⟩ := h.dec hu
 have hcc : c + c' < BB ^ 20 := Nat.lt_of_lt_of_le (Nat.add_lt_add hc hc') (by unfold BB; decide)
 have HU : Hid (∀ w1 t, SM w w1 → Calls Tryz.prog 77 #[.pointer (some ⟨bx, 0, none⟩), .pointer (some ⟨bu, 0, none⟩), t] (w1.alloc (.cells #[.bool false, .slice none 0 0] 58)) fun r w' => r = .returned (.tuple #[.pointer (some ⟨bx, 3, none⟩), .pointer (some ⟨bu, 3, none⟩), .int .i32 e, .nilIface]) ∧ (w'.cell? ⟨b, 1, none⟩ = some (.bool nd) ∧ w'.frozen? ⟨b, 1, none⟩ = false) ∧ St W (upd σ b (.dec f n ed cd)) (w'.setCell ⟨b, 1, none⟩ (.bool n))) := fun w1 t hw => by
  refine (Q47 ((h.sm hw).alloc_any _) hx hu t).mono ?_
  rintro r w' ⟨rfl, q⟩
  obtain ⟨_, d1, _, _, g1, _⟩ := q.dec hb
  exact ⟨rfl, ⟨d1, g1⟩, q.setNeg hb n⟩
 have HA : Hid (∀ w1, St W (upd σ b (.dec f n ed cd)) w1 → Calls Tryz.prog 75 #[.pointer (some ⟨b, 3, none⟩), .pointer (some ⟨bx, 3, none⟩), .pointer (some ⟨bu, 3, none⟩)] w1 fun r w' => r = .returned (.pointer (some ⟨b, 3, none⟩)) ∧ (w'.cell? ⟨b, 2, none⟩ = some (.int .i32 ed) ∧ w'.frozen? ⟨b, 2, none⟩ = false) ∧ (w'.cell? ⟨b, 0, none⟩ = some (.int .i8 f) ∧ w'.frozen? ⟨b, 0, none⟩ = false) ∧ St W (upd σ b (.dec 0 n e ((c + c' : Nat) : Int))) ((w'.setCell ⟨b, 2, none⟩ (.int .i32 e)).setCell ⟨b, 0, none⟩ (.int .i8 0))) := fun w1 q1 => by
  refine Q5i ((Q5p hW q1.drew (Num.dec (Q1 _ _ _)) (Num.dec (by rw [Qc _ _ n1.symm]; exact hx)) n1 (Num.dec (by rw [Qc _ _ n2.symm]; exact hu)) n2 (Q0S hc (by decide)) (Q0S hc' (by decide))).mono ?_)
  rintro r w' ⟨rfl, q⟩
  have q2 := q.decN
  obtain ⟨d0, _, d2, g0, _, g2⟩ := q2.dec (Q1 _ _ _)
  exact ⟨rfl, ⟨d2, g2⟩, ⟨d0, g0⟩, ((q2.setExp (Q1 _ _ _) e).setForm (Q1 _ _ _) 0).upd2.upd2⟩
 have HR : Hid (∀ w1, St W (upd σ b (.dec 0 n e ((c + c' : Nat) : Int))) w1 → Calls Tryz.prog 63 #[.pointer (some ⟨bk, 0, none⟩), .pointer (some ⟨b, 0, none⟩), .pointer (some ⟨b, 0, none⟩)] w1 fun r w' => r = .returned (.int .u32 (((rndF p mx mn md 0 n e (c + c')).k : Nat) : Int)) ∧ St W (upd σ b (rndF p mx mn md 0 n e (c + c')).ob) w') := fun w1 q1 =>
  (Q4J hW q1 (Q1 _ _ _) (hk.upd hb _) hcc he (.inl rfl) g2).mono fun r w' ⟨a, q⟩ => ⟨a, q.upd2⟩
 have HK := Lh (hk.upd hb (rndF p mx mn md 0 n e (c + c')).ob)
 have hl : (rndF p mx mn md 0 n e (c + c')).k < 4096 := Q1Q
 generalize rndF p mx mn md 0 n e (c + c') = X at HR HK hl ⊢
 have HM := Lh (fun k => (SM.refl w).drewN k)
 clear h hb hx hu hk hc hc' hcc g2
 go_enter Tryz.func53, Tryz.ntmps53
 go_wp2_with fail
 refine HN.out.mono ?_
 rintro r w_ ⟨rfl, hw_⟩
 subst hw_
 clear HN
 cases n
 ·go_wp2_with fail
  go_quiet (fail)
  go_wp2_with fail
  refine (HU.out _ _ (by exact ⟨rfl, rfl, rfl, rfl⟩)).mono ?_
  rintro r w1 ⟨rfl, ⟨d1, g1⟩, q1⟩
  have H1 := Lh (HA.out _ q1); clear q1 HU HA
  go_wp2_with fail
  refine H1.out.mono ?_
  rintro r w2 ⟨rfl, ⟨d2, g2⟩, ⟨d0, g0⟩, q2⟩
  have H2 := Lh (HR.out _ q2); clear q2 H1 HR
  go_wp2_with fail
  refine H2.out.mono ?_
  rintro r w3 ⟨rfl, q3⟩
  have H3 := Lh (Q22 q3 HK.out hl htr); clear q3 H2
  go_wp2_with fail
  refine H3.out.mono ?_
  rintro r w4 ⟨⟨v, rfl, hv⟩, q4⟩
  have H4 := Lh q4; have HV := Lh hv; clear q4 hv H3
  go_wp2_with fail
  go_ret2
  exact ⟨⟨_, rfl, HV.out⟩, H4.out⟩
 ·go_wp2_with fail
  go_quiet (fail)
  go_wp2_with fail
  refine (HU.out _ _ (by exact ⟨rfl, rfl, rfl, rfl⟩)).mono ?_
  rintro r w1 ⟨rfl, ⟨d1, g1⟩, q1⟩
  have H1 := Lh (HA.out _ q1); clear q1 HU HA
  go_wp2_with fail
  refine H1.out.mono ?_
  rintro r w2 ⟨rfl, ⟨d2, g2⟩, ⟨d0, g0⟩, q2⟩
  have H2 := Lh (HR.out _ q2); clear q2 H1 HR
  go_wp2_with fail
  refine H2.out.mono ?_
  rintro r w3 ⟨rfl, q3⟩
  have H3 := Lh (Q22 q3 HK.out hl htr); clear q3 H2
  go_wp2_with fail
  refine H3.out.mono ?_
  rintro r w4 ⟨⟨v, rfl, hv⟩, q4⟩
  have H4 := Lh q4; have HV := Lh hv; clear q4 hv H3
  go_wp2_with fail
  go_ret2
  exact ⟨⟨_, rfl, HV.out⟩, H4.out⟩
theorem Q5y {W : World} {σ : Sg} {w : World} (hW : GW W) (h : St W σ w) {b bx bu bk p md : Nat} {mx mn : Int} {tr : Nat} (hk : Ctx σ bk p mx mn (tr : Int) md) (htr : tr < 4096) {f ed cd e : Int} {nd n : Bool} {c c' : Nat} (hb : σ b = some (.dec f nd ed cd)) (hx : σ bx = some (.dec 0 n e (c : Int))) (hu : σ bu = some (.dec 0 n e (c' : Int))) (n1 : b ≠ bx) (n2 : b ≠ bu) (hc : c < BB ^ 19) (hc' : c' < BB ^ 19) (he : e.natAbs ≤ 200) (g2 : c + c' = 0 → (e < mn → mn - ((p : Int) - 1) ≤ e) ∧ e ≤ mx) :
  Calls Tryz.prog 19 #[.pointer (some ⟨bk, 0, none⟩), .pointer (some ⟨b, 0, none⟩), .pointer (some ⟨bx, 0, none⟩), .pointer (some ⟨bu, 0, none⟩)] w fun r w' => (∃ v, r = .returned (.tuple #[.int .u32 ((rndF p mx mn md 0 n e (c + c')).k : Int), v]) ∧ ErrV (badK (rndF p mx mn md 0 n e (c + c')).k tr) v) ∧ St W (upd σ b (rndF p mx mn md 0 n e (c + c')).ob) w' := by
 have HA := Lh (Q98 hW h hk htr hb hx hu n1 n2 hc hc' he g2)
 generalize rndF p mx mn md 0 n e (c + c') = X at HA ⊢
 clear h hb hx hu hk hc hc' g2
 go_enter Tryz.func19, Tryz.ntmps19
 go_wp2_with fail
 refine HA.out.mono ?_
 rintro r w4 ⟨⟨v, rfl, hv⟩, q4⟩
 have H4 := Lh q4; have HV := Lh hv; clear q4 hv HA
 go_wp2_with fail
 go_ret2
 exact ⟨⟨_, rfl, HV.out⟩, H4.out⟩
theorem Q4N {W : World} {σ : Sg} {w : World} (h : St W σ w) {bk b b' : Nat} {n n' : Bool} {e c e' c' : Int} (hb : σ b = some (.dec 0 n e c)) (hx : σ b' = some (.dec 0 n' e' c')) :
  Calls Tryz.prog 54 #[.pointer (some ⟨bk, 0, none⟩), .pointer (some ⟨b, 0, none⟩), .pointer (some ⟨b', 0, none⟩)] w fun r w' => r = .returned (.bool false) ∧ w' = w := Q30 h hb hx (by decide) (by decide)
theorem Q99 {W : World} {σ : Sg} {w : World} (h : St W σ w) {b bx bu bk p md : Nat} {mx mn tr : Int} (hk : Ctx σ bk p mx mn tr md) (hp : p ≠ 0) {e e' : Int} {n n' : Bool} {c c' : Nat} (hx : σ bx = some (.dec 0 n e (c : Int))) (hu : σ bu = some (.dec 0 n' e' (c' : Int))) (c0 : 0 < c') :
  Calls Tryz.prog 64 #[.pointer (some ⟨bk, 0, none⟩), .pointer (some ⟨b, 0, none⟩), .pointer (some ⟨bx, 0, none⟩), .pointer (some ⟨bu, 0, none⟩), .bool true] w fun r w' => r = .returned (.tuple #[.bool false, .int .u32 0, .nilIface]) ∧ St W σ w' := by
 have HN := Lh (Q4N (bk := bk) h hx hu)
 obtain ⟨x0, x1, x2, _, _, _⟩ := h.dec hx
 obtain ⟨u0, u1, u2, _, _, _⟩ := h.dec hu
 have H := Lh h
 have HZ : Hid (∀ w1, St W σ w1 → w1.cell? ⟨bk, 0, none⟩ = some (.int .u32 (p : Int)) ∧ Calls Tryz.prog 56 #[.pointer (some ⟨bu, 0, none⟩)] w1 fun r w' => r = .returned (.bool false) ∧ w' = w1) := fun w1 q1 => by
  have := QC q1 hu
  rw [decide_eq_false (by omega)] at this
  exact ⟨(q1.ctx hk).1, this⟩
 have hp1 : ((p : Int) == 0) = false := by simp; omega
 clear h hx hu hk
 go_enter Tryz.func64, Tryz.ntmps64
 go_wp2_with fail
 refine HN.out.mono ?_
 rintro r w_ ⟨rfl, hw_⟩
 subst hw_
 clear HN
 go_wp2_with fail
 go_quiet (fail)
 go_wp2_with fail
 go_quiet (fail)
 go_wp2_with fail
 have p0 := (HZ.out _ H.out).1
 refine (HZ.out _ (by exact H.out.sm ⟨rfl, rfl, rfl, rfl⟩)).2.mono ?_
 rintro r w2 ⟨rfl, hw2⟩
 subst hw2
 clear HZ
 go_wp2_with fail
 go_ret3
 exact ⟨rfl, H.out.sm ⟨rfl, rfl, rfl, rfl⟩⟩
def Q2 (σ : Sg) (a g : Nat) (A G : Nat) : Sg := upd (upd σ a (.big (A : Int))) g (.big (G : Int))
def Q3 (σ : Sg) (a g m : Nat) (A G M : Nat) : Sg := upd (Q2 σ a g A G) m (.big (M : Int))
def Q4 (σ : Sg) (a g m t : Nat) (A G M R : Nat) : Sg := upd (Q3 σ a g m A G M) t (.big (R : Int))
theorem Q2.ga (σ : Sg) {a g : Nat} (h : a ≠ g) (A G : Nat) : Q2 σ a g A G a = some (.big (A : Int)) := by unfold Q2; rw [Qc _ _ h, Q1]
theorem Q2.gg (σ : Sg) (a g A G : Nat) : Q2 σ a g A G g = some (.big (G : Int)) := Q1 _ _ _
theorem Q2.sa (σ : Sg) {a g : Nat} (h : a ≠ g) (A G A' : Nat) : setN (Q2 σ a g A G) a (A' : Int) = Q2 σ a g A' G := by unfold Q2; rw [QI _ _ _ h, Q0p]
theorem Q2.sg (σ : Sg) (a g A G G' : Nat) : setN (Q2 σ a g A G) g (G' : Int) = Q2 σ a g A G' := by unfold Q2; rw [Q0p]
theorem Q3.ga (σ : Sg) {a g m : Nat} (h : a ≠ g) (h2 : a ≠ m) (A G M : Nat) : Q3 σ a g m A G M a = some (.big (A : Int)) := by unfold Q3; rw [Qc _ _ h2, Q2.ga _ h]
theorem Q3.gg (σ : Sg) {a g m : Nat} (h2 : g ≠ m) (A G M : Nat) : Q3 σ a g m A G M g = some (.big (G : Int)) := by unfold Q3; rw [Qc _ _ h2, Q2.gg]
theorem Q3.gm (σ : Sg) (a g m A G M : Nat) : Q3 σ a g m A G M m = some (.big (M : Int)) := Q1 _ _ _
theorem Q3.sa (σ : Sg) {a g m : Nat} (h : a ≠ g) (h2 : a ≠ m) (A G M A' : Nat) : setN (Q3 σ a g m A G M) a (A' : Int) = Q3 σ a g m A' G M := by unfold Q3; rw [QI _ _ _ h2, Q2.sa _ h]
theorem Q3.sm (σ : Sg) (a g m A G M M' : Nat) : setN (Q3 σ a g m A G M) m (M' : Int) = Q3 σ a g m A G M' := by unfold Q3; rw [Q0p]
theorem Q3.ext {σ : Sg} {a g m : Nat} (na : σ a = none) (ng : σ g = none) (nm : σ m = none) (A G M : Nat) : Ext σ (Q3 σ a g m A G M) := ((Ext.new na _).upd_skip ng _).upd_skip nm _
theorem Q83 {W : World} {τ : Sg} {w : World} (hW : GW W) {a b A v : Nat} (hb : τ b = none) (h : St W (upd τ b (.big (v : Int))) w) (ha : τ a = some (.big (A : Int))) (lA : A < BB ^ 39) (lv : v < BB ^ 100) :
  Calls Tryz.prog 61 #[.pointer (some ⟨a, 0, none⟩), .pointer (some ⟨a, 0, none⟩), .pointer (some ⟨b, 0, none⟩)] w fun r w' => r = .returned (.pointer (some ⟨a, 0, none⟩)) ∧ St W (setN τ a ((A * v : Nat) : Int)) w' := by
 have ne : a ≠ b := by rintro rfl; rw [ha] at hb; cases hb
 refine Q5j ((Q2N hW h.drew (Num.big (by rw [Qc _ _ ne]; exact ha)) (Num.big (Q1 _ _ _)) ne lA lv).mono ?_)
 rintro r w' ⟨rfl, k⟩
 rw [QI _ _ _ ne] at k
 exact ⟨rfl, k.less (Ext.new (by rw [Ql _ _ ne.symm]; exact hb) _)⟩
theorem Q9V {W : World} {σ : Sg} {w : World} (hW : GW W) (h : St W σ w) {b bx bu bk : Nat} (hk : Ctx σ bk 3 500 (-500) ((0 : Nat) : Int) 2) {f ed : Int} {nd : Bool} {cd : Int} (hb : σ b = some (.dec f nd ed cd)) (hx : σ bx = some (.dec 0 false 0 ((1 : Nat) : Int))) (hu : σ bu = some (.dec 0 false 0 ((3 : Nat) : Int))) (nx : b ≠ bx) (nu : b ≠ bu) :
  Calls Tryz.prog 22 #[.pointer (some ⟨bk, 0, none⟩), .pointer (some ⟨b, 0, none⟩), .pointer (some ⟨bx, 0, none⟩), .pointer (some ⟨bu, 0, none⟩)] w fun r w' => r = .returned (.tuple #[.int .u32 80, .nilIface]) ∧ St W (upd σ b (.dec 0 false (-3) ((333 : Nat) : Int))) w' := by
 have HQ := Lh (Q99 (b := b) h hk (by decide) hx hu (by decide))
 have HF : Hid (∀ w1, St W σ w1 → (w1.cell? ⟨bx, 1, none⟩ = some (.bool false) ∧ w1.cell? ⟨bx, 2, none⟩ = some (.int .i32 0) ∧ w1.cell? ⟨bu, 1, none⟩ = some (.bool false) ∧ w1.cell? ⟨bu, 2, none⟩ = some (.int .i32 0)) ∧ Calls Tryz.prog 56 #[.pointer (some ⟨bx, 0, none⟩)] w1 fun r w' => r = .returned (.bool false) ∧ w' = w1) := fun w1 q1 =>
  ⟨⟨(q1.dec hx).2.1, (q1.dec hx).2.2.1, (q1.dec hu).2.1, (q1.dec hu).2.2.1⟩, by
   have := QC (c := 1) q1 hx
   rw [decide_eq_false (by omega)] at this
   exact this⟩
 have HK := Lh hk; have HB := Lh hb; have HX := Lh hx; have HU := Lh hu
 clear h hk hb hx hu
 go_enter Tryz.func22, Tryz.ntmps22
 go_wp2_with fail
 refine HQ.out.mono ?_
 rintro r w1 ⟨rfl, q1⟩
 obtain ⟨⟨x1, x2, u1, u2⟩, hz⟩ := HF.out _ q1
 have H1 := Lh q1; clear q1 HQ hz
 go_wp2_with fail
 go_quiet (fail)
 go_wp2_with fail
 go_quiet (fail)
 go_wp2_with fail
 refine (HF.out _ (by exact H1.out.sm ⟨rfl, rfl, rfl, rfl⟩)).2.mono ?_
 rintro r w2 ⟨rfl, hw2⟩
 have H2 := Lh (show St W σ w2 by rw [hw2]; exact H1.out.sm ⟨rfl, rfl, rfl, rfl⟩)
 clear hw2 H1 x1 x2 u1 u2 HF
 obtain ⟨a, ha⟩ : ∃ a, a = w2.heap.size := ⟨_, rfl⟩
 obtain ⟨g, hg⟩ : ∃ g, g = a + 1 := ⟨_, rfl⟩
 have hA0 := H2.out.two_big 58
 rw [← ha, ← hg] at hA0
 obtain ⟨na, ng, q2⟩ := hA0
 have ag : a ≠ g := by omega
 have ab : a ≠ b := by rintro rfl; rw [HB.out] at na; cases na
 have gb : g ≠ b := by rintro rfl; rw [HB.out] at ng; cases ng
 have ax : a ≠ bx := by rintro rfl; rw [HX.out] at na; cases na
 have gx : g ≠ bx := by rintro rfl; rw [HX.out] at ng; cases ng
 have au : a ≠ bu := by rintro rfl; rw [HU.out] at na; cases na
 have gu : g ≠ bu := by rintro rfl; rw [HU.out] at ng; cases ng
 have q3 : St W (Q2 σ a g 0 0) ((w2.alloc (.cells #[.bool false, .slice none 0 0] 58)).alloc (.cells #[.bool false, .slice none 0 0] 58)) := q2
 have HA1 := Lh (Q3Y (R := fun w' => St W (Q2 σ a g 1 0) w') ((Q1w q3.drew (Num.big (Q2.ga σ ag 0 0)) (Num.dec (v := ((1 : Nat) : Int)) (by unfold Q2; rw [Qc _ _ gx.symm, Qc _ _ ax.symm]; exact HX.out)) ax (by unfold BB; decide)).mono (fun r w' ⟨e, k⟩ => ⟨e, by rw [Q2.sa σ ag] at k; exact k⟩)))
 have Hag := Lh ag; have Hna := Lh na; have Hng := Lh ng; have Hgu := Lh gu; have Hau := Lh au; have Hab := Lh ab; have Hgb := Lh gb
 clear q2 q3 H2 ag na ng gu au gx ax ab gb
 go_wp2_with fail
 rw [← ha, ← hg]
 clear ha hg
 refine HA1.out.mono ?_
 rintro r w3 ⟨rfl, q3⟩
 have HA2 := Lh (Q3Y (R := fun w' => St W (Q2 σ a g 1 3) w') ((Q1w q3.drew (Num.big (Q2.gg σ a g 1 0)) (Num.dec (v := ((3 : Nat) : Int)) (by unfold Q2; rw [Qc _ _ Hgu.out.symm, Qc _ _ Hau.out.symm]; exact HU.out)) Hgu.out (by unfold BB; decide)).mono (fun r w' ⟨e, k⟩ => ⟨e, by rw [Q2.sg] at k; exact k⟩)))
 clear q3 HA1
 go_wp2_with fail
 refine HA2.out.mono ?_
 rintro r w4 ⟨rfl, q4⟩
 have HD1 := Lh (QQ hW q4 (Num.big (Q2.ga σ Hag.out 1 3)) (by unfold BB; decide))
 rw [Qk (by decide)] at HD1
 clear q4 HA2
 go_wp2_with fail
 refine HD1.out.mono ?_
 rintro r w5 ⟨rfl, q5⟩
 have HD2 := Lh (QQ hW q5 (Num.big (Q2.gg σ a g 1 3)) (by unfold BB; decide))
 rw [Qk (by decide)] at HD2
 clear q5 HD1
 go_wp2_with fail
 refine HD2.out.mono ?_
 rintro r w6 ⟨rfl, q6⟩
 obtain ⟨m, hm⟩ : ∃ m, m = w6.heap.size := ⟨_, rfl⟩
 have nm := q6.none_new
 have q7 : St W (Q3 σ a g m 1 3 0) (w6.alloc (.cells #[.bool false, .slice none 0 0] 58)) := by rw [hm]; exact q6.alloc_big 58
 rw [← hm] at nm
 have am : a ≠ m := by rintro rfl; rw [Q2.ga σ Hag.out] at nm; cases nm
 have gm : g ≠ m := by rintro rfl; rw [Q2.gg] at nm; cases nm
 have bm : m ≠ b := by rintro rfl; unfold Q2 at nm; rw [Qc _ _ Hgb.out.symm, Qc _ _ Hab.out.symm, HB.out] at nm; cases nm
 have HC1 := Lh (Q1Z (R := fun w' => St W (Q3 σ a g m 1 3 0) w') ((Q1W q7.drew (x := 1) (u := 3) (Num.big (Q3.ga σ Hag.out am 1 3 0)) (Num.big (Q3.gg σ gm 1 3 0)) Hag.out).mono (fun r w' ⟨e, q, hw⟩ => ⟨e, by rw [hw]; exact q7.drew.drewN q⟩)))
 rw [show cmpI 1 3 = -1 by decide] at HC1
 have Hnm : Hid (σ m = none) := by
  unfold Q2 at nm
  rw [Qc _ _ gm.symm, Qc _ _ am.symm] at nm
  exact nm
 have Ham := Lh am; have Hgm := Lh gm; have Hbm := Lh bm
 clear q6 q7 HD2 nm am gm bm
 go_wp2_with fail
 try rw [← hm]
 clear hm
 refine HC1.out.mono ?_
 rintro r w7 ⟨rfl, q7⟩
 have H7 := Lh q7; clear q7 HC1
 go_wp2_with fail
 refine (Q1L H7.out).mono ?_
 rintro r w8 ⟨b1, rfl, hb1, q8⟩
 have HM1 := Lh (Q83 hW hb1 (v := 10) q8 (Q3.ga σ Hag.out Ham.out 1 3 0) (by unfold BB; decide) (by unfold BB; decide))
 rw [Q3.sa σ Hag.out Ham.out] at HM1
 clear q8 hb1 H7
 go_wp2_with fail
 refine HM1.out.mono ?_
 rintro r w9 ⟨rfl, q9⟩
 have H9 := Lh (show St W (Q3 σ a g m 10 3 0) w9 from q9)
 have p0 := (H9.out.ctx (HK.out.ext (Q3.ext Hna.out Hng.out Hnm.out 10 3 0))).1
 clear q9 HM1
 go_wp2_with fail
 refine (QW hW H9.out (Num.big (Q3.gm σ a g m 10 3 0)) 2 (by decide)).mono ?_
 rintro r w10 ⟨rfl, q10⟩
 rw [Q3.sm] at q10
 have HM2 := Lh (Q5j (R := fun w' => St W (Q3 σ a g m 1000 3 100) w') ((Q2N hW (St.drew q10) (x := 10) (y := 100) (Num.big (Q3.ga σ Hag.out Ham.out 10 3 (10 ^ 2))) (Num.big (Q3.gm σ a g m 10 3 (10 ^ 2))) Ham.out (by unfold BB; decide) (by unfold BB; decide)).mono (fun r w' ⟨e, k⟩ => ⟨e, by rw [Q3.sa σ Hag.out Ham.out] at k; exact k⟩)))
 clear q10 H9
 go_wp2_with fail
 refine HM2.out.mono ?_
 rintro r w11 ⟨rfl, q11⟩
 obtain ⟨t, ht⟩ : ∃ t, t = w11.heap.size := ⟨_, rfl⟩
 have nt := q11.none_new
 have q12 : St W (Q4 σ a g m t 1000 3 100 0) (w11.alloc (.cells #[.bool false, .slice none 0 0] 58)) := by rw [ht]; exact q11.alloc_big 58
 rw [← ht] at nt
 have tt : t ≠ a ∧ t ≠ g ∧ t ≠ m ∧ t ≠ b ∧ σ t = none := by
  have e1 : t ≠ a := by rintro rfl; rw [Q3.ga σ Hag.out Ham.out] at nt; cases nt
  have e2 : t ≠ g := by rintro rfl; rw [Q3.gg σ Hgm.out] at nt; cases nt
  have e3 : t ≠ m := by rintro rfl; rw [Q3.gm] at nt; cases nt
  unfold Q3 Q2 at nt
  rw [Qc _ _ e3, Qc _ _ e2, Qc _ _ e1] at nt
  exact ⟨e1, e2, e3, (by rintro rfl; rw [HB.out] at nt; cases nt), nt⟩
 have HT := Lh tt
 have HQR : Hid (Calls Tryz.prog 71 #[.pointer (some ⟨b, 3, none⟩), .pointer (some ⟨a, 0, none⟩), .pointer (some ⟨g, 0, none⟩), .pointer (some ⟨t, 0, none⟩)] (w11.alloc (.cells #[.bool false, .slice none 0 0] 58)) fun r w' => r = .returned (.tuple #[.pointer (some ⟨b, 3, none⟩), .pointer (some ⟨t, 0, none⟩)]) ∧ (w'.cell? ⟨b, 0, none⟩ = some (.int .i8 f) ∧ w'.frozen? ⟨b, 0, none⟩ = false) ∧ (w'.cell? ⟨b, 1, none⟩ = some (.bool nd) ∧ w'.frozen? ⟨b, 1, none⟩ = false) ∧ St W (Q4 (upd σ b (.dec 0 false ed ((333 : Nat) : Int))) a g m t 1000 3 100 1) ((w'.setCell ⟨b, 0, none⟩ (.int .i8 0)).setCell ⟨b, 1, none⟩ (.bool false))) := by
  obtain ⟨t1, t2, t3, t4, t5⟩ := tt
  refine Q1X ((Q1o hW q12.drew (x := 1000) (y := 3) (bz := b) (br := t) (bx := a) (bu := g) (Num.dec (f := f) (n := nd) (e := ed) (v := cd) (by unfold Q4 Q3 Q2; rw [Qc _ _ t4.symm, Qc _ _ Hbm.out.symm, Qc _ _ Hgb.out.symm, Qc _ _ Hab.out.symm]; exact HB.out)) (Num.big (v := ((0 : Nat) : Int)) (Q1 _ _ _)) (Num.big (by unfold Q4; rw [Qc _ _ t1.symm, Q3.ga σ Hag.out Ham.out])) t4.symm Hab.out.symm t1 (Num.big (v := ((3 : Nat) : Int)) (by unfold Q4; rw [Qc _ _ t2.symm, Q3.gg σ Hgm.out])) Hgb.out.symm t2 (by decide) (by unfold BB; decide) (by unfold BB; decide)).mono ?_)
  rintro r w' ⟨rfl, k⟩
  have k2 : St W (Q4 (upd σ b (.dec f nd ed ((333 : Nat) : Int))) a g m t 1000 3 100 1) w' := k.ext fun i => by
   have hab := Hab.out; have hgb := Hgb.out; have hbm := Hbm.out
   by_cases e1 : i = t
   ·subst e1
    unfold Q4; rw [Q1, Q00 (u := ((0 : Nat) : Int)) (by rw [Ql _ _ t4]; exact Q1 _ _ _)]
   ·rw [Ql _ _ e1]
    by_cases e2 : i = b
    ·subst e2
     rw [Q0f (f := f) (n := nd) (e := ed) (u := cd) (by unfold Q4 Q3 Q2; rw [Qc _ _ t4.symm, Qc _ _ hbm.symm, Qc _ _ hgb.symm, Qc _ _ hab.symm]; exact HB.out)]
     unfold Q4 Q3 Q2; rw [Qc _ _ t4.symm, Qc _ _ hbm.symm, Qc _ _ hgb.symm, Qc _ _ hab.symm, Q1]
    ·rw [Ql _ _ e2]
     unfold Q4 Q3 Q2
     rw [Qc _ _ e1, Qc _ _ e1]
     by_cases e3 : i = m
     ·subst e3; rw [Q1, Q1]
     ·rw [Qc _ _ e3, Qc _ _ e3]
      by_cases e4 : i = g
      ·subst e4; rw [Q1, Q1]
      ·rw [Qc _ _ e4, Qc _ _ e4]
       by_cases e5 : i = a
       ·subst e5; rw [Q1, Q1]
       ·rw [Qc _ _ e5, Qc _ _ e5, Qc _ _ e2]
  have hbb : (Q4 (upd σ b (.dec f nd ed ((333 : Nat) : Int))) a g m t 1000 3 100 1) b = some (.dec f nd ed ((333 : Nat) : Int)) := by unfold Q4 Q3 Q2; rw [Qc _ _ t4.symm, Qc _ _ Hbm.out.symm, Qc _ _ Hgb.out.symm, Qc _ _ Hab.out.symm, Q1]
  obtain ⟨d0, d1, _, g0, g1, _⟩ := k2.dec hbb
  refine ⟨rfl, ⟨d0, g0⟩, ⟨d1, g1⟩, ((k2.setForm hbb 0).setNeg (Q1 _ _ _) false).upd2.ext fun i => ?_⟩
  by_cases e2 : i = b
  ·subst e2
   rw [Q1]
   unfold Q4 Q3 Q2; rw [Qc _ _ t4.symm, Qc _ _ Hbm.out.symm, Qc _ _ Hgb.out.symm, Qc _ _ Hab.out.symm, Q1]
  ·rw [Qc _ _ e2]
   unfold Q4 Q3 Q2
   simp only [upd, if_neg e2]
 clear q11 q12 HM2 nt tt
 go_wp2_with fail
 try rw [← ht]
 clear ht
 refine HQR.out.mono ?_
 rintro r w12 ⟨rfl, ⟨d0, g0⟩, ⟨d1, g1⟩, q13⟩
 have H13 := Lh q13; clear q13 HQR
 have HS5 : Hid ((Q4 (upd σ b (.dec 0 false ed ((333 : Nat) : Int))) a g m t 1000 3 100 1) b = some (.dec 0 false ed ((333 : Nat) : Int)) ∧ (Q4 (upd σ b (.dec 0 false ed ((333 : Nat) : Int))) a g m t 1000 3 100 1) t = some (.big ((1 : Nat) : Int)) ∧ (Q4 (upd σ b (.dec 0 false ed ((333 : Nat) : Int))) a g m t 1000 3 100 1) g = some (.big ((3 : Nat) : Int)) ∧ Ext (upd σ b (.dec 0 false ed ((333 : Nat) : Int))) (Q4 (upd σ b (.dec 0 false ed ((333 : Nat) : Int))) a g m t 1000 3 100 1)) := by
  obtain ⟨t1, t2, t3, t4, t5⟩ := HT.out
  refine ⟨?_, Q1 _ _ _, ?_, ?_⟩
  ·unfold Q4 Q3 Q2; rw [Qc _ _ t4.symm, Qc _ _ Hbm.out.symm, Qc _ _ Hgb.out.symm, Qc _ _ Hab.out.symm, Q1]
  ·unfold Q4; rw [Qc _ _ t2.symm, Q3.gg _ Hgm.out]
  ·exact (Q3.ext (by rw [Qc _ _ Hab.out]; exact Hna.out) (by rw [Qc _ _ Hgb.out]; exact Hng.out) (by rw [Qc _ _ Hbm.out]; exact Hnm.out) _ _ _).upd_skip (by rw [Qc _ _ t4]; exact t5) _
 generalize Q4 (upd σ b (.dec 0 false ed ((333 : Nat) : Int))) a g m t 1000 3 100 1 = τ at H13 HS5
 have HD3 := Lh (QQ hW H13.out (Num.dec HS5.out.1) (by unfold BB; decide))
 rw [show ndg 333 = 3 by rw [QO (by decide), QO (by decide), Qk (by decide)]] at HD3
 clear Hna Hng Hnm Hau Hgu Hag Ham Hgm Hab Hgb Hbm p0
 go_wp2_with fail
 refine HD3.out.mono ?_
 rintro r w13 ⟨rfl, q14⟩
 have HSg := Lh (Q1k (Q1j q14 (Num.big HS5.out.2.1)))
 rw [show signI ((1 : Nat) : Int) = 1 by decide] at HSg
 have H14 := Lh q14
 clear q14 HD3 H13
 go_wp2_with fail
 refine HSg.out.mono ?_
 rintro r w_ ⟨rfl, hw_⟩
 subst hw_
 clear HSg
 have p2 : w_.cell? ⟨bk, 2, none⟩ = some (.int .i32 (-500)) := (H14.out.ctx ((HK.out.upd HB.out _).ext HS5.out.2.2.2)).2.2.1
 go_wp2_with fail
 refine (Q7z H14.out).mono ?_
 rintro r w14 ⟨b1, rfl, hb1, q15⟩
 have HM3 := Lh (Q83 hW hb1 (v := 2) q15 HS5.out.2.1 (by unfold BB; decide) (by unfold BB; decide))
 clear q15 hb1 H14
 go_wp2_with fail
 refine HM3.out.mono ?_
 rintro r w15 ⟨rfl, q16⟩
 have HS6 : Hid ((setN τ t ((1 * 2 : Nat) : Int)) b = some (.dec 0 false ed ((333 : Nat) : Int)) ∧ (setN τ t ((1 * 2 : Nat) : Int)) t = some (.big ((2 : Nat) : Int)) ∧ (setN τ t ((1 * 2 : Nat) : Int)) g = some (.big ((3 : Nat) : Int)) ∧ Ext (upd σ b (.dec 0 false ed ((333 : Nat) : Int))) (setN τ t ((1 * 2 : Nat) : Int))) := by
  obtain ⟨t1, t2, t3, t4, t5⟩ := HT.out
  refine ⟨by rw [Ql _ _ t4.symm]; exact HS5.out.1, Q00 HS5.out.2.1 _, by rw [Ql _ _ t2.symm]; exact HS5.out.2.2.1, HS5.out.2.2.2.setN_skip (by rw [Qc _ _ t4]; exact t5) _⟩
 generalize setN τ t ((1 * 2 : Nat) : Int) = τ2 at q16 HS6
 have HC2 := Lh (Q1Z (R := fun w' => St W τ2 w') ((Q1W q16.drew (x := 2) (u := 3) (Num.big HS6.out.2.1) (Num.big HS6.out.2.2.1) HT.out.2.1).mono (fun r w' ⟨e, q, hw⟩ => ⟨e, by rw [hw]; exact q16.drew.drewN q⟩)))
 rw [show cmpI 2 3 = -1 by decide] at HC2
 clear q16 HM3 HS5
 go_wp2_with fail
 refine HC2.out.mono ?_
 rintro r w16 ⟨rfl, q17⟩
 have H17 := Lh q17
 have HK6 := Lh ((HK.out.upd HB.out (.dec 0 false ed ((333 : Nat) : Int))).ext HS6.out.2.2.2)
 have g1 := (q17.ctx HK6.out).2.2.2.2
 have g2 := (q17.dec HS6.out.1).2.1
 clear q17 HC2 p2
 go_wp2_with fail
 go_region_held3 (fun x => x.cell? ⟨bk, 4, none⟩ = some (.string (rndS 2)) ∧ x.cell? ⟨b, 1, none⟩ = some (.bool false)) (first | exact ⟨g1, g2⟩ | exact ⟨g3, g4⟩) (first | (go_at_call 74; refine (Q09 hW (by exact H17.out.sm ⟨rfl, rfl, rfl, rfl⟩) (q := 333) (Num.dec HS6.out.1) (by unfold BB; decide) 2 (by decide) false (-1)).mono ?_; rintro r w17 ⟨rfl, q18⟩; have H18 := Lh q18; have g3 := (q18.ctx HK6.out).2.2.2.2; have g4 := (q18.dec HS6.out.1).2.1; clear q18; rw [show upR 2 false 333 (-1) = false by decide]))
 go_wp2_with fail
 have hbit : bits .or .u32 0 80 = ((80 : Nat) : Int) := (Qq 0 80 (by decide) (by decide)).trans (by decide)
 rw [hbit]
 have hnn := H18.out.none_new
 have hnb : b ≠ w17.heap.size := by intro e; rw [← e, HS6.out.1] at hnn; cases hnn
 have HXX := Lh (Q48 hW (H18.out.alloc (.cells #[.int .i64 0, .int .i64 (-1), .int .i64 (-2)] 2)) (b := b) (bk := bk) (ba := w17.heap.size) (s1 := 0) (s2 := -1) (s3 := -2) (nd := 3) (res := 80) (f := 0) (n := false) (e0 := ed) (c := 333) (by rw [Qc _ _ hnb]; exact HS6.out.1) (HK6.out.ext (Ext.new hnn _)) (Q1 _ _ _) (by decide) (by decide) (by decide) (by decide) (by decide) (by unfold BB; decide) (by decide) (by decide))
 rw [show finK 80 = 80 by decide] at HXX
 have HFin : Hid (∀ w1, St W (upd (upd τ2 w17.heap.size (.raw (.cells #[.int .i64 0, .int .i64 (-1), .int .i64 (-2)] 2))) b (.dec 0 false (0 + -1 + -2) ((333 : Nat) : Int))) w1 → St W (upd σ b (.dec 0 false (-3) ((333 : Nat) : Int))) w1) := fun w1 q => by
  have := q.less ((HS6.out.2.2.2.trans (Ext.new hnn _)).upd b _)
  rw [Q0J] at this
  exact this
 clear hnn hnb H17 H18
 refine HXX.out.mono ?_
 rintro r w18 ⟨rfl, q19⟩
 have H19 := Lh (Q22 (HFin.out _ q19) (HK.out.upd HB.out _) (k := 80) (by decide) (by decide))
 rw [show badK 80 0 = false by decide] at H19
 clear q19 HXX HFin
 have hbit2 : bits .or .u32 80 80 = ((80 : Nat) : Int) := (Qq 80 80 (by decide) (by decide)).trans (by decide)
 go_wp2_with fail
 refine H19.out.mono ?_
 rintro r w19 ⟨⟨v, rfl, hv⟩, q20⟩
 have H20 := Lh q20
 rcases hv with ⟨hv, _⟩ | ⟨_, rfl⟩
 ·cases hv
 ·clear q20 H19
  go_wp2_with fail
  go_ret2
  exact ⟨rfl, H20.out⟩
end Go.Proofs.YtegjllplmnpbdaaGreatDoor
