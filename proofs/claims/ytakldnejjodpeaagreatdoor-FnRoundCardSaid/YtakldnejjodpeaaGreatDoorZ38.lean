/- a part of the proof -/
import Derived.Test.YtakldnejjodpeaaGreatDoorZ31
import Derived.Test.YtakldnejjodpeaaGreatDoorZ36
set_option linter.all false
set_option maxRecDepth 100000
set_option maxHeartbeats 16000000
namespace Go.Proofs.YtakldnejjodpeaaGreatDoor
open Go Go.RowKit
theorem Q8I (p md tr : Nat) (mx mn : Int) (hmd : md < 8) (n : Bool) (e : Int) (c : Nat) (hk : (finS p mx mn md n e c).known = true) :
  (∃ f' n' e' s' k' v' o', SRV (finS p mx mn md n e c) = RsV f' n' e' s' k' true v' o') ∧ (∃ rf : Nat, rf < 4 ∧ (rndF p mx mn md 0 n e c).f = (rf : Int)) ∧ (rndF p mx mn md 0 n e c).k < 4096 ∧
   badK (rndF p mx mn md 0 n e c).k (tr % 4096) = decide ((rndF p mx mn md 0 n e c).k &&& tr ≠ 0) ∧ (c = 0 → (e < mn → mn - ((p : Int) - 1) ≤ e) ∧ e ≤ mx) ∧
   ∀ w : World, Calls Tryz.prog 16 #[CV p mx mn tr md, SRV (finS p mx mn md n e c), DV (rndF p mx mn md 0 n e c).f (rndF p mx mn md 0 n e c).n (rndF p mx mn md 0 n e c).e (decS (rndF p mx mn md 0 n e c).c), .int .u32 ((rndF p mx mn md 0 n e c).k : Int)] w fun r w' => r = .returned (.bool true) ∧ Below w.heap.size w w' := by
 obtain ⟨k1, k2, k3, k4⟩ := Q59 hk
 refine ⟨Q3W hk, ?_, Q0y, Q1c _ _ Q0y k4, k3, fun w => ?_⟩
 ·rcases (Q2d p mx mn md 0 n e c).2 with q | q
  ·exact ⟨0, by decide, q⟩
  ·exact ⟨1, by decide, q⟩
 ·cases ho : (finS p mx mn md n e c).over with
  | false =>
   have q := k1 ho
   have hV : SRV (finS p mx mn md n e c) = RsV 0 (finS p mx mn md n e c).d.n (finS p mx mn md n e c).d.e (txS (finS p mx mn md n e c).d.c) (finS p mx mn md n e c).d.k true false false := by
    unfold SRV; rw [if_pos hk, if_neg (by rw [ho]; decide)]
   have hf0 : (rndF p mx mn md 0 n e c).f = 0 := by
    rw [q]; exact Q3Y hk ho
   rw [hV, hf0, q, Q2b]
   exact Q2a p md tr mx mn _ _ _ _ w
  | true =>
   obtain ⟨q1, q2, q3, q4⟩ := k2 ho
   have hV : SRV (finS p mx mn md n e c) = RsV 1 n 0 ⟨#[]⟩ 4 true false true := by
    unfold SRV; rw [if_pos hk, if_pos ho, q1]
   rw [hV, q2, q3]
   exact Q3U p md tr mx mn hmd n _ Q0y q4 _ _ w
theorem Q7u (p md tr : Nat) (mx mn : Int) (hmd : md < 8) (f : Nat) (n : Bool) (e : Int) (c : Nat) :
  arR p mx mn md (f : Int) n e c = RsV 0 false 0 ⟨#[]⟩ 0 false false false ∨
  f = 0 ∧ ((∃ f' n' e' s' k' v' o', arR p mx mn md (f : Int) n e c = RsV f' n' e' s' k' true v' o') ∧ (∃ rf : Nat, rf < 4 ∧ (rndF p mx mn md (f : Int) n e c).f = (rf : Int)) ∧ (rndF p mx mn md (f : Int) n e c).k < 4096 ∧
   badK (rndF p mx mn md (f : Int) n e c).k (tr % 4096) = decide ((rndF p mx mn md (f : Int) n e c).k &&& tr ≠ 0) ∧ (c = 0 → (e < mn → mn - ((p : Int) - 1) ≤ e) ∧ e ≤ mx) ∧
   ∀ w : World, Calls Tryz.prog 16 #[CV p mx mn tr md, arR p mx mn md (f : Int) n e c, DV (rndF p mx mn md (f : Int) n e c).f (rndF p mx mn md (f : Int) n e c).n (rndF p mx mn md (f : Int) n e c).e (decS (rndF p mx mn md (f : Int) n e c).c), .int .u32 ((rndF p mx mn md (f : Int) n e c).k : Int)] w fun r w' => r = .returned (.bool true) ∧ Below w.heap.size w w') := by
 by_cases h0 : f = 0
 ·subst h0
  have hA : arR p mx mn md ((0 : Nat) : Int) n e c = SRV (finS p mx mn md n e c) := by unfold arR; rw [if_pos (show ((0 : Nat) : Int) = 0 from rfl)]
  rw [hA]
  by_cases hk : (finS p mx mn md n e c).known = true
  ·exact .inr ⟨rfl, Q8I p md tr mx mn hmd n e c hk⟩
  ·left; exact Q2x hk
 ·left
  unfold arR
  rw [if_neg (by omega)]
theorem Q8J {w : World} (hW : GW w) {Tv : TypeId} {av : Value} (hE : EOFv w Tv av) (p md tr : Nat) (mx mn : Int) (hp : p ≤ 60) (hmx : 0 ≤ mx ∧ mx ≤ 500) (hmn : mn ≤ 0 ∧ -500 ≤ mn) (hmd : md < 8) (htr : tr < 4294967296) (fy al : Nat) (hal : al < 3) (hfy : fy < 4) (n ny : Bool) (e ey : Int) (s sy : ByteArray)
  (hs : Canon s ∧ s.size ≤ 40) (hsy : Canon sy ∧ sy.size ≤ 40) (he : e.natAbs ≤ 200)
  (g2 : vl (sdL s 0) = 0 → (e < mn → mn - ((p : Int) - 1) ≤ e) ∧ e ≤ mx) (D : DR) (hD : D = rndF p mx mn md ((0 : Nat) : Int) n e (vl (sdL s 0))) (rf : Nat) (hr4 : rf < 4) (hrf : D.f = (rf : Int)) (hk : D.k < 4096) :
  Calls Tryz.prog 13 #[.int .i64 8, CV p mx mn tr md, DV ((0 : Nat) : Int) n e s, DV fy ny ey sy, .int .i64 (al : Int)] w fun r w' => r = .returned (.tuple #[DV D.f D.n D.e (decS D.c), .int .u32 (D.k : Int), .bool (badK D.k (tr % 4096))]) ∧ Below w.heap.size w w' := by
 have hv := hs.1.val_lt hs.2
 have hc : D.c < BB ^ 8 := by
  have := (Q2d p mx mn md ((0 : Nat) : Int) n e (vl (sdL s 0))).1
  rw [← hD] at this
  have h2 : 10 ^ 40 + 2 < BB ^ 8 := by unfold BB; decide
  omega
 have hrun : ∀ cy, RunOp 30 (fun bk bz bx bu => #[.pointer (some ⟨bk, 0, none⟩), .pointer (some ⟨bz, 0, none⟩), .pointer (some ⟨bx, 0, none⟩)]) w p mx mn (tr % 4096) md al 0 n e (vl (sdL s 0)) fy ny ey cy rf D.n D.e D.c D.k := by
  intro cy τ w1 bk bz bx bu f' n' e' c' h hk hb hx _ _
  rw [← hrf, hD]
  exact Q7t hW h hk (Nat.mod_lt _ (by decide)) hb hx (Nat.lt_trans hv (by unfold BB; decide)) he (.inl rfl) g2
 rw [hrf]
 exact Q40 8 al p mx mn tr md ((0 : Nat) : Int) n e s fy ny ey sy rf _ _ _ _ _ (fun σ w1 bC bX bY bA bO bD bK bF h B => Q2r hW h hE 8 p md tr mx mn hmd htr (by omega) 0 fy al (by decide) hfy n ny e ey s sy (hs.1.digs hs.2) (hsy.1.digs hsy.2) hal B rf _ _ _ _ hr4 hc hk (.inr (.inr (.inr (.inr (.inl ⟨rfl, by rw [Q2c]; exact hrun _⟩))))))
theorem Q7v {w : World} (hW : GW w) {Tv : TypeId} {av : Value} (hE : EOFv w Tv av) (p md tr : Nat) (mx mn : Int) (hp : p ≤ 60) (hmx : 0 ≤ mx ∧ mx ≤ 500) (hmn : mn ≤ 0 ∧ -500 ≤ mn) (hmd : md < 8) (htr : tr < 4294967296) (f fy al : Nat) (hal : al < 3) (n ny : Bool) (e ey : Int) (s sy : ByteArray) (hx : ArOk 200 f e s) (hy : ArOk 200 fy ey sy) :
  Calls Tryz.prog 10 #[.int .i64 8, CV p mx mn tr md, DV f n e s, DV fy ny ey sy, .int .i64 (al : Int)] w fun r w' => r = .returned (.bool true) ∧ Below w.heap.size w w' :=
 Q4C hW hE 8 rfl rfl p md tr mx mn htr f fy al n ny e ey s sy (arR p mx mn md (f : Int) n e (vl (sdL s 0))) (fun w2 => Q5j p md tr mx mn hp hmx hmn hmd (E := 200) (by decide) f n e s fy ny ey sy hx hy) (by
  obtain ⟨hs, h40, he1, he2, hf0, hf3⟩ := hx.canon (by decide)
  obtain ⟨hsy, h40y, _, _, hf0y, hf3y⟩ := hy.canon (by decide)
  rcases Q7u p md tr mx mn hmd f n e (vl (sdL s 0)) with h | ⟨rfl, h1, ⟨rf, hr4, hrf⟩, hk, hbad, hg, hS⟩
  ·exact .inl ⟨_, _, _, _, _, _, _, h⟩
  ·refine .inr ⟨rndF p mx mn md ((0 : Nat) : Int) n e (vl (sdL s 0)), _, h1, hk, fun w2 h2 => ?_, hS⟩
   have h3 := Q8J (hW.later h2) (hE.next h2) p md tr mx mn hp hmx hmn hmd htr fy al hal (by omega) n ny e ey s sy ⟨hs, h40⟩ ⟨hsy, h40y⟩ (by omega) hg _ rfl rf hr4 hrf hk
   rw [hbad] at h3
   exact h3)
theorem fn_round {w : World} (hW : GW w) {Tv : TypeId} {av : Value} (hE : EOFv w Tv av) (p mx mn tr md fx : Int) (nx : Bool) (ex : Int) (sx : ByteArray) (fy : Int) (ny : Bool) (ey : Int) (sy : ByteArray) (a : Nat) (ha : a < 256)
  (hp : 0 ≤ p) (htr : 0 ≤ tr ∧ tr < 4294967296) (hex : -2147483648 ≤ ex ∧ ex ≤ 2147483647) (hey : -2147483648 ≤ ey ∧ ey ≤ 2147483647) :
  Calls Tryz.prog 6 #[CV p mx mn tr md, DV fx nx ex sx, DV fy ny ey sy, .int .u8 (a : Int)] w fun r w' => r = .returned (.bool true) ∧ Below w.heap.size w w' := by
 have HS := Lh (BS.start w #[.int .u32 p, .int .i32 mx, .int .i32 mn, .int .u32 tr, .int .i64 md] #[.int .i64 fx, .bool nx, .int .i32 ex, .string sx] #[.int .i64 fy, .bool ny, .int .i32 ey, .string sy])
 have HAl : Hid (∀ w2, Below w.heap.size w w2 → Calls Tryz.prog 9 #[] w2 fun r w' => r = .returned (.bool true) ∧ Below w2.heap.size w2 w') := Lh (fun w2 h => Q1v (hW.later h) (hE.next h))
 have HFX : Hid (∀ w2, Calls Tryz.prog 7 #[.agg #[.int .i64 fx, .bool nx, .int .i32 ex, .string sx]] w2 (Says (sx.size ≤ 2147483647) w2)) := Lh (fun w2 => Q0o fx nx ex sx w2)
 have HFY : Hid (∀ w2, Calls Tryz.prog 7 #[.agg #[.int .i64 fy, .bool ny, .int .i32 ey, .string sy]] w2 (Says (sy.size ≤ 2147483647) w2)) := Lh (fun w2 => Q0o fy ny ey sy w2)
 have HO : Hid (sx.size ≤ 2147483647 → sy.size ≤ 2147483647 → ∀ w2, Calls Tryz.prog 8 #[.agg #[.int .u32 p, .int .i32 mx, .int .i32 mn, .int .u32 tr, .int .i64 md], .agg #[.int .i64 fx, .bool nx, .int .i32 ex, .string sx], .agg #[.int .i64 fy, .bool ny, .int .i32 ey, .string sy]] w2 (Says (CtxOk p mx mn md ∧ ArOk 200 fx ex sx ∧ ArOk 200 fy ey sy) w2)) := Lh (fun h1 h2 w2 => Q0N p mx mn tr md fx nx ex sx fy ny ey sy hex h1 hey h2 w2)
 have HDid : Hid (CtxOk p mx mn md ∧ ArOk 200 fx ex sx ∧ ArOk 200 fy ey sy → ∀ w2, Below w.heap.size w w2 → Calls Tryz.prog 10 #[.int .i64 8, .agg #[.int .u32 p, .int .i32 mx, .int .i32 mn, .int .u32 tr, .int .i64 md], .agg #[.int .i64 fx, .bool nx, .int .i32 ex, .string sx], .agg #[.int .i64 fy, .bool ny, .int .i32 ey, .string sy], .int .i64 ((a % 3 : Nat) : Int)] w2 fun r w' => r = .returned (.bool true) ∧ Below w2.heap.size w2 w') := Lh (fun h w2 h2 => by
  obtain ⟨⟨k1, k2, k3, k4, k5, k6, k7⟩, hx, hy⟩ := h
  obtain ⟨_, _, _, _, hf0, _⟩ := hx.canon (by decide)
  obtain ⟨_, _, _, _, hf0y, _⟩ := hy.canon (by decide)
  obtain ⟨p', rfl⟩ := Int.eq_ofNat_of_zero_le hp
  obtain ⟨tr', rfl⟩ := Int.eq_ofNat_of_zero_le htr.1
  obtain ⟨md', rfl⟩ := Int.eq_ofNat_of_zero_le k6
  obtain ⟨fx', rfl⟩ := Int.eq_ofNat_of_zero_le hf0
  obtain ⟨fy', rfl⟩ := Int.eq_ofNat_of_zero_le hf0y
  exact Q7v (hW.later h2) (hE.next h2) p' md' tr' mx mn (by omega) ⟨k2, k3⟩ ⟨k4, k5⟩ (by omega) (by omega) fx' fy' (a % 3) (Nat.mod_lt _ (by decide)) nx ny ex ey sx sy hx hy)
 have hm3 : ((a : Int)).tmod 3 = ((a % 3 : Nat) : Int) := by rw [Int.tmod_eq_emod_of_nonneg (by omega)]; rfl
 obtain ⟨wA, hwA⟩ : ∃ wA, wA = ((w.alloc (.cells #[.int .u32 p, .int .i32 mx, .int .i32 mn, .int .u32 tr, .int .i64 md] 24)).alloc (.cells #[.int .i64 fx, .bool nx, .int .i32 ex, .string sx] 26)).alloc (.cells #[.int .i64 fy, .bool ny, .int .i32 ey, .string sy] 26) := ⟨_, rfl⟩
 rw [← hwA] at HS
 unfold CV DV
 clear hW hE hp htr hex hey
 have x0 := Q1 HS.out.xb 0 rfl; have x1 := Q1 HS.out.xb 1 rfl; have x2 := Q1 HS.out.xb 2 rfl; have x3 := Q1 HS.out.xb 3 rfl
 go_enter Tryz.func6, Tryz.ntmps6
 go_upto_region 1 with (fail)
 rw [← hwA]
 clear hwA
 go_wp2_with fail
 refine (HFX.out _).mono ?_
 rintro r w1 ⟨b1, rfl, hb1, hB⟩
 have HS1 := Lh (HS.out.later hB)
 have HB1 := Lh hb1
 clear hB hb1 x0 x1 x2 x3 HS
 cases b1
 ·go_wp2_with fail
  go_ret
  exact ⟨rfl, HS1.out.bw⟩
 ·have y0 := Q1 HS1.out.yb 0 rfl; have y1 := Q1 HS1.out.yb 1 rfl; have y2 := Q1 HS1.out.yb 2 rfl; have y3 := Q1 HS1.out.yb 3 rfl
  go_wp2_with fail
  refine (HFY.out _).mono ?_
  rintro r w2 ⟨b2, rfl, hb2, hB⟩
  have HS2 := Lh (HS1.out.later hB)
  have HB2 := Lh hb2
  clear hB hb2 y0 y1 y2 y3 HS1
  cases b2
  ·go_wp2_with fail
   go_ret
   exact ⟨rfl, HS2.out.bw⟩
  ·have c0 := Q1 HS2.out.cb 0 rfl; have c1 := Q1 HS2.out.cb 1 rfl; have c2 := Q1 HS2.out.cb 2 rfl; have c3 := Q1 HS2.out.cb 3 rfl; have c4 := Q1 HS2.out.cb 4 rfl
   have x0 := Q1 HS2.out.xb 0 rfl; have x1 := Q1 HS2.out.xb 1 rfl; have x2 := Q1 HS2.out.xb 2 rfl; have x3 := Q1 HS2.out.xb 3 rfl
   have y0 := Q1 HS2.out.yb 0 rfl; have y1 := Q1 HS2.out.yb 1 rfl; have y2 := Q1 HS2.out.yb 2 rfl; have y3 := Q1 HS2.out.yb 3 rfl
   go_wp2_with fail
   refine (HO.out (HB1.out.1 trivial) (HB2.out.1 trivial) _).mono ?_
   rintro r w3 ⟨b3, rfl, hb3, hB⟩
   have HS3 := Lh (HS2.out.later hB)
   have HB3 := Lh hb3
   clear hB hb3 c0 c1 c2 c3 c4 x0 x1 x2 x3 y0 y1 y2 y3 HS2
   cases b3
   ·go_wp2_with fail
    refine (HAl.out _ HS3.out.bw).mono ?_
    rintro r w4 ⟨rfl, hB⟩
    have HS4 := Lh (HS3.out.later hB)
    clear hB HS3
    go_wp2_with fail
    go_ret
    exact ⟨rfl, HS4.out.bw⟩
   ·have c0 := Q1 HS3.out.cb 0 rfl; have c1 := Q1 HS3.out.cb 1 rfl; have c2 := Q1 HS3.out.cb 2 rfl; have c3 := Q1 HS3.out.cb 3 rfl; have c4 := Q1 HS3.out.cb 4 rfl
    have x0 := Q1 HS3.out.xb 0 rfl; have x1 := Q1 HS3.out.xb 1 rfl; have x2 := Q1 HS3.out.xb 2 rfl; have x3 := Q1 HS3.out.xb 3 rfl
    have y0 := Q1 HS3.out.yb 0 rfl; have y1 := Q1 HS3.out.yb 1 rfl; have y2 := Q1 HS3.out.yb 2 rfl; have y3 := Q1 HS3.out.yb 3 rfl
    go_wp2_with fail
    refine (HDid.out (HB3.out.1 trivial) _ HS3.out.bw).mono ?_
    rintro r w4 ⟨rfl, hB⟩
    have HS4 := Lh (HS3.out.later hB)
    clear hB HS3 c0 c1 c2 c3 c4 x0 x1 x2 x3 y0 y1 y2 y3
    go_wp2_with fail
    go_ret
    exact ⟨rfl, HS4.out.bw⟩
end Go.Proofs.YtakldnejjodpeaaGreatDoor
