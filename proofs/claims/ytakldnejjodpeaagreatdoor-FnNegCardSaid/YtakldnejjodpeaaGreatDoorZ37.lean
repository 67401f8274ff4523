/- a part of the proof -/
import Derived.Test.YtakldnejjodpeaaGreatDoorZ30
import Derived.Test.YtakldnejjodpeaaGreatDoorZ36
set_option linter.all false
set_option maxRecDepth 100000
set_option maxHeartbeats 16000000
namespace Go.Proofs.YtakldnejjodpeaaGreatDoor
open Go Go.RowKit
theorem Q9M (p md tr : Nat) (mx mn : Int) (hmd : md < 8) (n : Bool) (e : Int) (c : Nat) (hk : (finS p mx mn md n e c).known = true) :
  (∃ f' n' e' s' k' v' o', SRV (finS p mx mn md n e c) = RsV f' n' e' s' k' true v' o') ∧ (∃ rf : Nat, rf < 4 ∧ (rndF p mx mn md 0 n e c).f = (rf : Int)) ∧ (rndF p mx mn md 0 n e c).k < 4096 ∧
   badK (rndF p mx mn md 0 n e c).k (tr % 4096) = decide ((rndF p mx mn md 0 n e c).k &&& tr ≠ 0) ∧ (c = 0 → (e < mn → mn - ((p : Int) - 1) ≤ e) ∧ e ≤ mx) ∧
   ∀ w : World, Calls Tryz.prog 16 #[CV p mx mn tr md, SRV (finS p mx mn md n e c), DV (rndF p mx mn md 0 n e c).f (rndF p mx mn md 0 n e c).n (rndF p mx mn md 0 n e c).e (decS (rndF p mx mn md 0 n e c).c), .int .u32 ((rndF p mx mn md 0 n e c).k : Int)] w fun r w' => r = .returned (.bool true) ∧ Below w.heap.size w w' := by
 obtain ⟨k1, k2, k3, k4⟩ := Q59 hk
 refine ⟨Q3W hk, ?_, Q0y, Q1c _ _ Q0y k4, k3, fun w => ?_⟩
 ·rcases (Q2d p mx mn md 0 n e c).2 with q | q
  ·exact ⟨0, by decide, q⟩
  ·exact ⟨1, by decide, q⟩
 ·cases ho : (finS p mx mn md n e c).over with
  | false =>
   have q := k1 ho
   have hV : SRV (finS p mx mn md n e c) = RsV 0 (finS p mx mn md n e c).d.n (finS p mx mn md n e c).d.e (txS (finS p mx mn md n e c).d.c) (finS p mx mn md n e c).d.k true false false := by
    unfold SRV; rw [if_pos hk, if_neg (by rw [ho]; decide)]
   have hf0 : (rndF p mx mn md 0 n e c).f = 0 := by
    rw [q]; exact Q3Y hk ho
   rw [hV, hf0, q, Q2b]
   exact Q2a p md tr mx mn _ _ _ _ w
  | true =>
   obtain ⟨q1, q2, q3, q4⟩ := k2 ho
   have hV : SRV (finS p mx mn md n e c) = RsV 1 n 0 ⟨#[]⟩ 4 true false true := by
    unfold SRV; rw [if_pos hk, if_pos ho, q1]
   rw [hV, q2, q3]
   exact Q3U p md tr mx mn hmd n _ Q0y q4 _ _ w
def ngR (p : Nat) (mx mn : Int) (md : Nat) (f : Nat) (n : Bool) (e : Int) (c : Nat) : DR :=
 if f = 2 then ⟨3, n, e, c, 1024⟩ else if f = 3 then ⟨3, n, e, c, 0⟩ else rndF p mx mn md (f : Int) (ngS (f : Int) n c) e c
theorem Q9N (p md tr : Nat) (mx mn : Int) (hmd : md < 8) (hmx : 0 ≤ mx) (hmn : mn ≤ 0) (f : Nat) (hf : f < 4) (n : Bool) (e : Int) (c : Nat) (h0 : f ≠ 0 → c = 0 ∧ e = 0) :
  arN p mx mn md (f : Int) n e c = RsV 0 false 0 ⟨#[]⟩ 0 false false false ∨
  ((∃ f' n' e' s' k' v' o', arN p mx mn md (f : Int) n e c = RsV f' n' e' s' k' true v' o') ∧ (∃ rf : Nat, rf < 4 ∧ (ngR p mx mn md f n e c).f = (rf : Int)) ∧ (ngR p mx mn md f n e c).k < 4096 ∧
   badK (ngR p mx mn md f n e c).k (tr % 4096) = decide ((ngR p mx mn md f n e c).k &&& tr ≠ 0) ∧ (f = 0 ∨ f = 1 → c = 0 → (e < mn → mn - ((p : Int) - 1) ≤ e) ∧ e ≤ mx) ∧
   ∀ w : World, Calls Tryz.prog 16 #[CV p mx mn tr md, arN p mx mn md (f : Int) n e c, DV (ngR p mx mn md f n e c).f (ngR p mx mn md f n e c).n (ngR p mx mn md f n e c).e (decS (ngR p mx mn md f n e c).c), .int .u32 ((ngR p mx mn md f n e c).k : Int)] w fun r w' => r = .returned (.bool true) ∧ Below w.heap.size w w') := by
 rcases (show f = 0 ∨ f = 1 ∨ f = 2 ∨ f = 3 by omega) with rfl | rfl | rfl | rfl
 ·have hR : ngR p mx mn md 0 n e c = rndF p mx mn md 0 (ngS 0 n c) e c := by
   unfold ngR; rw [if_neg (by decide), if_neg (by decide)]; rfl
  have hA : arN p mx mn md ((0 : Nat) : Int) n e c = RsV 0 false 0 ⟨#[]⟩ 0 false false false ∨ arN p mx mn md ((0 : Nat) : Int) n e c = SRV (finS p mx mn md (ngS 0 n c) e c) := by
   unfold arN ngS
   rw [if_neg (by decide), if_neg (by decide), if_neg (by decide)]
   by_cases c0 : c = 0
   ·rw [if_pos c0, if_pos (show (0 : Int) = 0 ∧ c = 0 from ⟨rfl, c0⟩)]
    by_cases hm : md = 4
    ·rw [if_pos hm]; exact .inl rfl
    ·rw [if_neg hm]; exact .inr rfl
   ·rw [if_neg c0, if_neg (fun h : (0 : Int) = 0 ∧ c = 0 => c0 h.2)]; exact .inr rfl
  rcases hA with hA | hA
  ·exact .inl hA
  ·rw [hA, hR]
   by_cases hk : (finS p mx mn md (ngS 0 n c) e c).known = true
   ·obtain ⟨q1, q2, q3, q4, q5, q6⟩ := Q9M p md tr mx mn hmd (ngS 0 n c) e c hk
    exact .inr ⟨q1, q2, q3, q4, fun _ => q5, q6⟩
   ·left; exact Q2x hk
 ·obtain ⟨rfl, rfl⟩ := h0 (by decide)
  have hA : arN p mx mn md ((1 : Nat) : Int) n 0 0 = RsV 1 (!n) 0 ⟨#[]⟩ 0 true false false := by
   unfold arN; rw [if_neg (by decide), if_neg (by decide), if_pos (by decide)]
  have hR : ngR p mx mn md 1 n 0 0 = ⟨1, !n, 0, 0, 0⟩ := by
   unfold ngR; rw [if_neg (by decide), if_neg (by decide)]; unfold ngS; rw [if_neg (by decide)]; exact Q8E p mx mn md (!n) hmx hmn
  rw [hA, hR]
  exact .inr ⟨⟨_, _, _, _, _, _, _, rfl⟩, ⟨1, by decide, rfl⟩, by show 0 < 4096; decide, Q1c _ _ (by show 0 < 4096; decide) (by show 0 &&& 3 = 0; decide), fun _ _ => ⟨fun h => by omega, hmx⟩, fun w => Q8l p md tr mx mn _ _ _ _ _ _ w⟩
 ·have hA : arN p mx mn md ((2 : Nat) : Int) n e c = RsV 3 false 0 ⟨#[]⟩ 1024 true false false := by
   unfold arN; rw [if_pos (by decide)]
  have hR : ngR p mx mn md 2 n e c = ⟨3, n, e, c, 1024⟩ := by unfold ngR; rw [if_pos rfl]
  rw [hA, hR]
  exact .inr ⟨⟨_, _, _, _, _, _, _, rfl⟩, ⟨3, by decide, rfl⟩, by show 1024 < 4096; decide, Q1c _ _ (by show 1024 < 4096; decide) (by show 1024 &&& 3 = 0; decide), fun h => by omega, fun w => Q58 p md tr mx mn _ _ _ _ _ _ _ w⟩
 ·have hA : arN p mx mn md ((3 : Nat) : Int) n e c = RsV 3 false 0 ⟨#[]⟩ 0 true false false := by
   unfold arN; rw [if_neg (by decide), if_pos (by decide)]
  have hR : ngR p mx mn md 3 n e c = ⟨3, n, e, c, 0⟩ := by unfold ngR; rw [if_neg (by decide), if_pos rfl]
  rw [hA, hR]
  exact .inr ⟨⟨_, _, _, _, _, _, _, rfl⟩, ⟨3, by decide, rfl⟩, by show 0 < 4096; decide, Q1c _ _ (by show 0 < 4096; decide) (by show 0 &&& 3 = 0; decide), fun h => by omega, fun w => Q58 p md tr mx mn _ _ _ _ _ _ _ w⟩
theorem Qab {W : World} (hW : GW W) (p md tr : Nat) (mx mn : Int) (hmx : 0 ≤ mx) (hmn : mn ≤ 0) (f : Nat) (hf : f < 4) (n : Bool) (e : Int) (c : Nat) (h0 : f ≠ 0 → c = 0 ∧ e = 0) (hc : c < 10 ^ 40) (he : e.natAbs ≤ 200)
  (g2 : f = 0 ∨ f = 1 → c = 0 → (e < mn → mn - ((p : Int) - 1) ≤ e) ∧ e ≤ mx) (al fy : Nat) (ny : Bool) (ey : Int) (cy rf : Nat) (hrf : (ngR p mx mn md f n e c).f = (rf : Int)) :
  RunOp 29 (fun bk bz bx bu => #[.pointer (some ⟨bk, 0, none⟩), .pointer (some ⟨bz, 0, none⟩), .pointer (some ⟨bx, 0, none⟩)]) W p mx mn (tr % 4096) md al f n e c fy ny ey cy rf (ngR p mx mn md f n e c).n (ngR p mx mn md f n e c).e (ngR p mx mn md f n e c).c (ngR p mx mn md f n e c).k := by
 intro τ w1 bk bz bx bu f' n' e' c' h hk hb hx _ _
 have htr : tr % 4096 < 4096 := Nat.mod_lt _ (by decide)
 have hcB : c < BB ^ 20 := Nat.lt_trans hc (by unfold BB; decide)
 have hcB' : (c : Int).natAbs < BB ^ 100 := by
  rw [Int.natAbs_natCast]; exact Nat.lt_of_lt_of_le hcB (Nat.pow_le_pow_right (by unfold BB; decide) (by decide))
 rw [← hrf]
 rcases (show f = 0 ∨ f = 1 ∨ f = 2 ∨ f = 3 by omega) with rfl | rfl | rfl | rfl
 ·have hR : ngR p mx mn md 0 n e c = rndF p mx mn md ((0 : Nat) : Int) (ngS ((0 : Nat) : Int) n c) e c := by unfold ngR; rw [if_neg (by decide), if_neg (by decide)]
  rw [hR]
  exact Q8F hW h hk htr hb hx hcB he (by omega) (.inl rfl) (g2 (.inl rfl))
 ·obtain ⟨rfl, rfl⟩ := h0 (by decide)
  have hR : ngR p mx mn md 1 n 0 0 = rndF p mx mn md ((1 : Nat) : Int) (ngS ((1 : Nat) : Int) n 0) 0 0 := by unfold ngR; rw [if_neg (by decide), if_neg (by decide)]
  rw [hR]
  exact Q8F hW h hk htr hb hx hcB he (by omega) (.inr ⟨rfl, hmn, hmx⟩) (g2 (.inr rfl))
 ·have hR : ngR p mx mn md 2 n e c = ⟨3, n, e, c, 1024⟩ := by unfold ngR; rw [if_pos rfl]
  rw [hR]
  exact Q3Z h hk htr hb hx hcB' (.inl rfl)
 ·have hR : ngR p mx mn md 3 n e c = ⟨3, n, e, c, 0⟩ := by unfold ngR; rw [if_neg (by decide), if_pos rfl]
  rw [hR]
  exact Q3Z h hk htr hb hx hcB' (.inr rfl)
theorem Qac {w : World} (hW : GW w) {Tv : TypeId} {av : Value} (hE : EOFv w Tv av) (p md tr : Nat) (mx mn : Int) (hp : p ≤ 60) (hmx : 0 ≤ mx ∧ mx ≤ 500) (hmn : mn ≤ 0 ∧ -500 ≤ mn) (hmd : md < 8) (htr : tr < 4294967296) (f fy al : Nat) (hal : al < 3) (hf : f < 4) (hfy : fy < 4) (n ny : Bool) (e ey : Int) (s sy : ByteArray)
  (hs : Canon s ∧ s.size ≤ 40) (hsy : Canon sy ∧ sy.size ≤ 40) (h0 : f ≠ 0 → vl (sdL s 0) = 0 ∧ e = 0) (he : e.natAbs ≤ 200)
  (g2 : f = 0 ∨ f = 1 → vl (sdL s 0) = 0 → (e < mn → mn - ((p : Int) - 1) ≤ e) ∧ e ≤ mx) (rf : Nat) (hr4 : rf < 4) (hrf : (ngR p mx mn md f n e (vl (sdL s 0))).f = (rf : Int)) (hk : (ngR p mx mn md f n e (vl (sdL s 0))).k < 4096) :
  Calls Tryz.prog 13 #[.int .i64 7, CV p mx mn tr md, DV f n e s, DV fy ny ey sy, .int .i64 (al : Int)] w fun r w' => r = .returned (.tuple #[DV (ngR p mx mn md f n e (vl (sdL s 0))).f (ngR p mx mn md f n e (vl (sdL s 0))).n (ngR p mx mn md f n e (vl (sdL s 0))).e (decS (ngR p mx mn md f n e (vl (sdL s 0))).c), .int .u32 ((ngR p mx mn md f n e (vl (sdL s 0))).k : Int), .bool (badK (ngR p mx mn md f n e (vl (sdL s 0))).k (tr % 4096))]) ∧ Below w.heap.size w w' := by
 have hv := hs.1.val_lt hs.2
 have hrun := fun (W : World) (hW : GW W) (cy : Nat) => Qab hW p md tr mx mn hmx.1 hmn.1 f hf n e (vl (sdL s 0)) h0 hv he g2 al fy ny ey cy rf hrf
 have hc : (ngR p mx mn md f n e (vl (sdL s 0))).c < BB ^ 8 := by
  have : (ngR p mx mn md f n e (vl (sdL s 0))).c ≤ vl (sdL s 0) + 2 := by
   unfold ngR; split
   ·exact Nat.le_add_right _ _
   ·split
    ·exact Nat.le_add_right _ _
    ·exact (Q2d p mx mn md (f : Int) (ngS (f : Int) n (vl (sdL s 0))) e (vl (sdL s 0))).1
  have h2 : 10 ^ 40 + 2 < BB ^ 8 := by unfold BB; decide
  omega
 rw [hrf]
 exact Q40 7 al p mx mn tr md f n e s fy ny ey sy rf _ _ _ _ _ (fun σ w1 bC bX bY bA bO bD bK bF h B => Q2r hW h hE 7 p md tr mx mn hmd htr (by omega) f fy al hf hfy n ny e ey s sy (hs.1.digs hs.2) (hsy.1.digs hsy.2) hal B rf _ _ _ _ hr4 hc hk (.inr (.inr (.inr (.inl ⟨rfl, by rw [Q2c]; exact hrun w hW _⟩)))))
theorem Q9P {w : World} (hW : GW w) {Tv : TypeId} {av : Value} (hE : EOFv w Tv av) (p md tr : Nat) (mx mn : Int) (hp : p ≤ 60) (hmx : 0 ≤ mx ∧ mx ≤ 500) (hmn : mn ≤ 0 ∧ -500 ≤ mn) (hmd : md < 8) (htr : tr < 4294967296) (f fy al : Nat) (hal : al < 3) (n ny : Bool) (e ey : Int) (s sy : ByteArray) (hx : ArOk 200 f e s) (hy : ArOk 200 fy ey sy) :
  Calls Tryz.prog 10 #[.int .i64 7, CV p mx mn tr md, DV f n e s, DV fy ny ey sy, .int .i64 (al : Int)] w fun r w' => r = .returned (.bool true) ∧ Below w.heap.size w w' :=
 Q4C hW hE 7 rfl rfl p md tr mx mn htr f fy al n ny e ey s sy (arN p mx mn md (f : Int) n e (vl (sdL s 0))) (fun w2 => Q7s p md tr mx mn hp hmx hmn hmd (E := 200) (by decide) f n e s fy ny ey sy hx hy) (by
  obtain ⟨hs, h40, he1, he2, hf0, hf3⟩ := hx.canon (by decide)
  obtain ⟨hsy, h40y, _, _, hf0y, hf3y⟩ := hy.canon (by decide)
  have h0 : f ≠ 0 → vl (sdL s 0) = 0 ∧ e = 0 := fun h => hx.other (by omega)
  rcases Q9N p md tr mx mn hmd hmx.1 hmn.1 f (by omega) n e (vl (sdL s 0)) h0 with h | ⟨h1, ⟨rf, hr4, hrf⟩, hk, hbad, hg, hS⟩
  ·exact .inl ⟨_, _, _, _, _, _, _, h⟩
  ·refine .inr ⟨ngR p mx mn md f n e (vl (sdL s 0)), _, h1, hk, fun w2 h2 => ?_, hS⟩
   have h3 := Qac (hW.later h2) (hE.next h2) p md tr mx mn hp hmx hmn hmd htr f fy al hal (by omega) (by omega) n ny e ey s sy ⟨hs, h40⟩ ⟨hsy, h40y⟩ h0 (by omega) hg rf hr4 hrf hk
   rw [hbad] at h3
   exact h3)
theorem fn_neg {w : World} (hW : GW w) {Tv : TypeId} {av : Value} (hE : EOFv w Tv av) (p mx mn tr md fx : Int) (nx : Bool) (ex : Int) (sx : ByteArray) (fy : Int) (ny : Bool) (ey : Int) (sy : ByteArray) (a : Nat) (ha : a < 256)
  (hp : 0 ≤ p) (htr : 0 ≤ tr ∧ tr < 4294967296) (hex : -2147483648 ≤ ex ∧ ex ≤ 2147483647) (hey : -2147483648 ≤ ey ∧ ey ≤ 2147483647) :
  Calls Tryz.prog 5 #[CV p mx mn tr md, DV fx nx ex sx, DV fy ny ey sy, .int .u8 (a : Int)] w fun r w' => r = .returned (.bool true) ∧ Below w.heap.size w w' := by
 have HS := Lh (BS.start w #[.int .u32 p, .int .i32 mx, .int .i32 mn, .int .u32 tr, .int .i64 md] #[.int .i64 fx, .bool nx, .int .i32 ex, .string sx] #[.int .i64 fy, .bool ny, .int .i32 ey, .string sy])
 have HAl : Hid (∀ w2, Below w.heap.size w w2 → Calls Tryz.prog 9 #[] w2 fun r w' => r = .returned (.bool true) ∧ Below w2.heap.size w2 w') := Lh (fun w2 h => Q1v (hW.later h) (hE.next h))
 have HFX : Hid (∀ w2, Calls Tryz.prog 7 #[.agg #[.int .i64 fx, .bool nx, .int .i32 ex, .string sx]] w2 (Says (sx.size ≤ 2147483647) w2)) := Lh (fun w2 => Q0o fx nx ex sx w2)
 have HFY : Hid (∀ w2, Calls Tryz.prog 7 #[.agg #[.int .i64 fy, .bool ny, .int .i32 ey, .string sy]] w2 (Says (sy.size ≤ 2147483647) w2)) := Lh (fun w2 => Q0o fy ny ey sy w2)
 have HO : Hid (sx.size ≤ 2147483647 → sy.size ≤ 2147483647 → ∀ w2, Calls Tryz.prog 8 #[.agg #[.int .u32 p, .int .i32 mx, .int .i32 mn, .int .u32 tr, .int .i64 md], .agg #[.int .i64 fx, .bool nx, .int .i32 ex, .string sx], .agg #[.int .i64 fy, .bool ny, .int .i32 ey, .string sy]] w2 (Says (CtxOk p mx mn md ∧ ArOk 200 fx ex sx ∧ ArOk 200 fy ey sy) w2)) := Lh (fun h1 h2 w2 => Q0N p mx mn tr md fx nx ex sx fy ny ey sy hex h1 hey h2 w2)
 have HDid : Hid (CtxOk p mx mn md ∧ ArOk 200 fx ex sx ∧ ArOk 200 fy ey sy → ∀ w2, Below w.heap.size w w2 → Calls Tryz.prog 10 #[.int .i64 7, .agg #[.int .u32 p, .int .i32 mx, .int .i32 mn, .int .u32 tr, .int .i64 md], .agg #[.int .i64 fx, .bool nx, .int .i32 ex, .string sx], .agg #[.int .i64 fy, .bool ny, .int .i32 ey, .string sy], .int .i64 ((a % 3 : Nat) : Int)] w2 fun r w' => r = .returned (.bool true) ∧ Below w2.heap.size w2 w') := Lh (fun h w2 h2 => by
  obtain ⟨⟨k1, k2, k3, k4, k5, k6, k7⟩, hx, hy⟩ := h
  obtain ⟨_, _, _, _, hf0, _⟩ := hx.canon (by decide)
  obtain ⟨_, _, _, _, hf0y, _⟩ := hy.canon (by decide)
  obtain ⟨p', rfl⟩ := Int.eq_ofNat_of_zero_le hp
  obtain ⟨tr', rfl⟩ := Int.eq_ofNat_of_zero_le htr.1
  obtain ⟨md', rfl⟩ := Int.eq_ofNat_of_zero_le k6
  obtain ⟨fx', rfl⟩ := Int.eq_ofNat_of_zero_le hf0
  obtain ⟨fy', rfl⟩ := Int.eq_ofNat_of_zero_le hf0y
  exact Q9P (hW.later h2) (hE.next h2) p' md' tr' mx mn (by omega) ⟨k2, k3⟩ ⟨k4, k5⟩ (by omega) (by omega) fx' fy' (a % 3) (Nat.mod_lt _ (by decide)) nx ny ex ey sx sy hx hy)
 have hm3 : ((a : Int)).tmod 3 = ((a % 3 : Nat) : Int) := by rw [Int.tmod_eq_emod_of_nonneg (by omega)]; rfl
 obtain ⟨wA, hwA⟩ : ∃ wA, wA = ((w.alloc (.cells #[.int .u32 p, .int .i32 mx, .int .i32 mn, .int .u32 tr, .int .i64 md] 24)).alloc (.cells #[.int .i64 fx, .bool nx, .int .i32 ex, .string sx] 26)).alloc (.cells #[.int .i64 fy, .bool ny, .int .i32 ey, .string sy] 26) := ⟨_, rfl⟩
 rw [← hwA] at HS
 unfold CV DV
 clear hW hE hp htr hex hey
 have x0 := Q1 HS.out.xb 0 rfl; have x1 := Q1 HS.out.xb 1 rfl; have x2 := Q1 HS.out.xb 2 rfl; have x3 := Q1 HS.out.xb 3 rfl
 go_enter Tryz.func5, Tryz.ntmps5
 go_upto_region 1 with (fail)
 rw [← hwA]
 clear hwA
 go_wp2_with fail
 refine (HFX.out _).mono ?_
 rintro r w1 ⟨b1, rfl, hb1, hB⟩
 have HS1 := Lh (HS.out.later hB)
 have HB1 := Lh hb1
 clear hB hb1 x0 x1 x2 x3 HS
 cases b1
 ·go_wp2_with fail
  go_ret
  exact ⟨rfl, HS1.out.bw⟩
 ·have y0 := Q1 HS1.out.yb 0 rfl; have y1 := Q1 HS1.out.yb 1 rfl; have y2 := Q1 HS1.out.yb 2 rfl; have y3 := Q1 HS1.out.yb 3 rfl
  go_wp2_with fail
  refine (HFY.out _).mono ?_
  rintro r w2 ⟨b2, rfl, hb2, hB⟩
  have HS2 := Lh (HS1.out.later hB)
  have HB2 := Lh hb2
  clear hB hb2 y0 y1 y2 y3 HS1
  cases b2
  ·go_wp2_with fail
   go_ret
   exact ⟨rfl, HS2.out.bw⟩
  ·have c0 := Q1 HS2.out.cb 0 rfl; have c1 := Q1 HS2.out.cb 1 rfl; have c2 := Q1 HS2.out.cb 2 rfl; have c3 := Q1 HS2.out.cb 3 rfl; have c4 := Q1 HS2.out.cb 4 rfl
   have x0 := Q1 HS2.out.xb 0 rfl; have x1 := Q1 HS2.out.xb 1 rfl; have x2 := Q1 HS2.out.xb 2 rfl; have x3 := Q1 HS2.out.xb 3 rfl
   have y0 := Q1 HS2.out.yb 0 rfl; have y1 := Q1 HS2.out.yb 1 rfl; have y2 := Q1 HS2.out.yb 2 rfl; have y3 := Q1 HS2.out.yb 3 rfl
   go_wp2_with fail
   refine (HO.out (HB1.out.1 trivial) (HB2.out.1 trivial) _).mono ?_
   rintro r w3 ⟨b3, rfl, hb3, hB⟩
   have HS3 := Lh (HS2.out.later hB)
   have HB3 := Lh hb3
   clear hB hb3 c0 c1 c2 c3 c4 x0 x1 x2 x3 y0 y1 y2 y3 HS2
   cases b3
   ·go_wp2_with fail
    refine (HAl.out _ HS3.out.bw).mono ?_
    rintro r w4 ⟨rfl, hB⟩
    have HS4 := Lh (HS3.out.later hB)
    clear hB HS3
    go_wp2_with fail
    go_ret
    exact ⟨rfl, HS4.out.bw⟩
   ·have c0 := Q1 HS3.out.cb 0 rfl; have c1 := Q1 HS3.out.cb 1 rfl; have c2 := Q1 HS3.out.cb 2 rfl; have c3 := Q1 HS3.out.cb 3 rfl; have c4 := Q1 HS3.out.cb 4 rfl
    have x0 := Q1 HS3.out.xb 0 rfl; have x1 := Q1 HS3.out.xb 1 rfl; have x2 := Q1 HS3.out.xb 2 rfl; have x3 := Q1 HS3.out.xb 3 rfl
    have y0 := Q1 HS3.out.yb 0 rfl; have y1 := Q1 HS3.out.yb 1 rfl; have y2 := Q1 HS3.out.yb 2 rfl; have y3 := Q1 HS3.out.yb 3 rfl
    go_wp2_with fail
    refine (HDid.out (HB3.out.1 trivial) _ HS3.out.bw).mono ?_
    rintro r w4 ⟨rfl, hB⟩
    have HS4 := Lh (HS3.out.later hB)
    clear hB HS3 c0 c1 c2 c3 c4 x0 x1 x2 x3 y0 y1 y2 y3
    go_wp2_with fail
    go_ret
    exact ⟨rfl, HS4.out.bw⟩
end Go.Proofs.YtakldnejjodpeaaGreatDoor
