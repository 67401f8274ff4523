/- a part of the proof -/
import Derived.Test.YtamldngoemdfgaaGreatDoorZ29
import Derived.Test.YtamldngoemdfgaaGreatDoorZ31
import Derived.Test.YtamldngoemdfgaaGreatDoorZ37
set_option linter.all false
set_option maxRecDepth 100000
set_option maxHeartbeats 16000000
namespace Go.Proofs.YtamldngoemdfgaaGreatDoor
open Go Go.RowKit
theorem Q8a {w : World} (hW : GW w) {Tv : TypeId} {av : Value} (hE : EOFv w Tv av) (p md tr : Nat) (mx mn : Int) (hp : p ≤ 60) (hmx : 0 ≤ mx ∧ mx ≤ 500) (hmn : mn ≤ 0 ∧ -500 ≤ mn) (hmd : md < 8) (htr : tr < 4294967296) (fy : Nat) (hfy : fy < 4) (n ny : Bool) (e ey : Int) (s sy : ByteArray)
  (hs : Canon s ∧ s.size ≤ 40) (hsy : Canon sy ∧ sy.size ≤ 40) (he : -200 ≤ e) (hw : ClOk true p mx n e (vl (sdL s 0))) :
  Calls Tryz.prog 11 #[.int .i64 12, CV p mx mn tr md, DV ((0 : Nat) : Int) n e s, DV fy ny ey sy, .int .i64 ((0 : Nat) : Int)] w fun r w' => r = .returned (.tuple #[DV 0 n 0 (decS (clQ true n (-e).toNat (vl (sdL s 0)))), .int .u32 ((0 : Nat) : Int), .bool (badK 0 (tr % 4096))]) ∧ Below w.heap.size w w' := by
 have hv := hs.1.val_lt hs.2
 obtain ⟨k, hk⟩ : ∃ k, k = (-e).toNat := ⟨_, rfl⟩
 have hek : e = -(k : Int) := by have := hw.1; omega
 have hw2 := hw.2
 rw [← hk] at hw2 ⊢
 have hc : clQ true n k (vl (sdL s 0)) < BB ^ 8 := by
  have := Q7Q true n k (vl (sdL s 0))
  have h2 : 10 ^ 40 + 2 < BB ^ 8 := by unfold BB; decide
  omega
 have hrun : ∀ cy, RunOp 32 (fun bk bz bx bu => #[.pointer (some ⟨bk, 0, none⟩), .pointer (some ⟨bz, 0, none⟩), .pointer (some ⟨bx, 0, none⟩)]) w p mx mn (tr % 4096) md 0 0 n e (vl (sdL s 0)) fy ny ey cy 0 n 0 (clQ true n k (vl (sdL s 0))) 0 := by
  intro cy τ w1 bk bz bx bu f' n' e' c' h hk hb hx _ hn
  obtain ⟨rfl, ne, _⟩ := hn rfl
  rw [hek] at hx
  exact Q7N hW h hk (Nat.mod_lt _ (by decide)) hb hx ne (Nat.lt_trans hv (by unfold BB; decide)) (by omega) hw2 hmn.1
 exact Q6c 12 ((0 : Nat) : Int) p mx mn tr md ((0 : Nat) : Int) n e s fy ny ey sy ((0 : Nat) : Int) _ _ _ _ _ (fun σ w1 bC bX bY bA bO bD bK bF h B => Q4g hW h hE 12 p md tr mx mn hmd htr (by omega) 0 fy 0 (by decide) hfy n ny e ey s sy (hs.1.digs hs.2) (hsy.1.digs hsy.2) (by decide) B 0 _ _ _ _ (by decide) hc (by decide) (.inr (.inr (.inr (.inr (.inr (.inr (.inr (.inr ⟨rfl, by rw [Q4W]; exact hrun _⟩)))))))))
theorem Q73 {w : World} (hW : GW w) {Tv : TypeId} {av : Value} (hE : EOFv w Tv av) (p md tr : Nat) (mx mn : Int) (hp : p ≤ 60) (hmx : 0 ≤ mx ∧ mx ≤ 500) (hmn : mn ≤ 0 ∧ -500 ≤ mn) (hmd : md < 8) (htr : tr < 4294967296) (f fy al : Nat) (hal : al < 3) (n ny : Bool) (e ey : Int) (s sy : ByteArray) (hx : ArOk 200 f e s) (hy : ArOk 200 fy ey sy) :
  Calls Tryz.prog 8 #[.int .i64 12, CV p mx mn tr md, DV f n e s, DV fy ny ey sy, .int .i64 (al : Int)] w fun r w' => r = .returned (.bool true) ∧ Below w.heap.size w w' :=
 Q88 hW hE 12 (al' := 0) (.inr (.inr ⟨rfl, rfl, rfl⟩)) p md tr mx mn htr f fy n ny e ey s sy (arIf p mx mn md (f : Int) n e (vl (sdL s 0))) (fun w2 => Q4X p md tr mx mn hp hmx hmn hmd (E := 200) (by decide) f n e s fy ny ey sy hx hy) (by
  obtain ⟨hs, h40, he1, he2, hf0, hf3⟩ := hx.canon (by decide)
  obtain ⟨hsy, h40y, _, _, hf0y, hf3y⟩ := hy.canon (by decide)
  unfold arIf
  by_cases h0 : f = 0
  ·subst h0
   rw [if_pos (by rfl)]
   rcases Q6a true p mx hmx.1 n e (vl (sdL s 0)) with h | ⟨hw, hV⟩
   ·exact .inl h
   ·right
    have hV' : inW 4 p mx n e (vl (sdL s 0)) = _ := hV
    rw [hV']
    refine ⟨⟨0, n, 0, clQ true n (-e).toNat (vl (sdL s 0)), 0⟩, 0, ⟨_, _, _, _, _, _, _, rfl⟩, by decide, fun w2 h2 => ?_, fun w2 => ?_⟩
    ·have h3 := Q8a (hW.later h2) (hE.next h2) p md tr mx mn hp hmx hmn hmd htr fy (by omega) n ny e ey s sy ⟨hs, h40⟩ ⟨hsy, h40y⟩ (by omega) hw
     rw [Q6d _ _ (by decide) (by decide)] at h3
     exact h3
    ·rw [← Q4V]
     exact Q4O p md tr mx mn n 0 0 (decS (clQ true n (-e).toNat (vl (sdL s 0)))) w2
  ·rw [if_neg (by omega)]
   exact .inl ⟨_, _, _, _, _, _, _, rfl⟩)
theorem fn_floor {w : World} (hW : GW w) {Tv : TypeId} {av : Value} (hE : EOFv w Tv av) (p mx mn tr md fx : Int) (nx : Bool) (ex : Int) (sx : ByteArray) (fy : Int) (ny : Bool) (ey : Int) (sy : ByteArray) (a : Nat) (ha : a < 256)
  (hp : 0 ≤ p) (htr : 0 ≤ tr ∧ tr < 4294967296) (hex : -2147483648 ≤ ex ∧ ex ≤ 2147483647) (hey : -2147483648 ≤ ey ∧ ey ≤ 2147483647) :
  Calls Tryz.prog 4 #[CV p mx mn tr md, DV fx nx ex sx, DV fy ny ey sy, .int .u8 (a : Int)] w fun r w' => r = .returned (.bool true) ∧ Below w.heap.size w w' := by
 have HS := Lh (BS.start w #[.int .u32 p, .int .i32 mx, .int .i32 mn, .int .u32 tr, .int .i64 md] #[.int .i64 fx, .bool nx, .int .i32 ex, .string sx] #[.int .i64 fy, .bool ny, .int .i32 ey, .string sy])
 have HAl : Hid (∀ w2, Below w.heap.size w w2 → Calls Tryz.prog 7 #[] w2 fun r w' => r = .returned (.bool true) ∧ Below w2.heap.size w2 w') := Lh (fun w2 h => Q35 (hW.later h) (hE.next h))
 have HFX : Hid (∀ w2, Calls Tryz.prog 5 #[.agg #[.int .i64 fx, .bool nx, .int .i32 ex, .string sx]] w2 (Says (sx.size ≤ 2147483647) w2)) := Lh (fun w2 => Q1S fx nx ex sx w2)
 have HFY : Hid (∀ w2, Calls Tryz.prog 5 #[.agg #[.int .i64 fy, .bool ny, .int .i32 ey, .string sy]] w2 (Says (sy.size ≤ 2147483647) w2)) := Lh (fun w2 => Q1S fy ny ey sy w2)
 have HO : Hid (sx.size ≤ 2147483647 → sy.size ≤ 2147483647 → ∀ w2, Calls Tryz.prog 6 #[.agg #[.int .u32 p, .int .i32 mx, .int .i32 mn, .int .u32 tr, .int .i64 md], .agg #[.int .i64 fx, .bool nx, .int .i32 ex, .string sx], .agg #[.int .i64 fy, .bool ny, .int .i32 ey, .string sy]] w2 (Says (CtxOk p mx mn md ∧ ArOk 200 fx ex sx ∧ ArOk 200 fy ey sy) w2)) := Lh (fun h1 h2 w2 => Q2c p mx mn tr md fx nx ex sx fy ny ey sy hex h1 hey h2 w2)
 have HDid : Hid (CtxOk p mx mn md ∧ ArOk 200 fx ex sx ∧ ArOk 200 fy ey sy → ∀ w2, Below w.heap.size w w2 → Calls Tryz.prog 8 #[.int .i64 12, .agg #[.int .u32 p, .int .i32 mx, .int .i32 mn, .int .u32 tr, .int .i64 md], .agg #[.int .i64 fx, .bool nx, .int .i32 ex, .string sx], .agg #[.int .i64 fy, .bool ny, .int .i32 ey, .string sy], .int .i64 ((a % 3 : Nat) : Int)] w2 fun r w' => r = .returned (.bool true) ∧ Below w2.heap.size w2 w') := Lh (fun h w2 h2 => by
  obtain ⟨⟨k1, k2, k3, k4, k5, k6, k7⟩, hx, hy⟩ := h
  obtain ⟨_, _, _, _, hf0, _⟩ := hx.canon (by decide)
  obtain ⟨_, _, _, _, hf0y, _⟩ := hy.canon (by decide)
  obtain ⟨p', rfl⟩ := Int.eq_ofNat_of_zero_le hp
  obtain ⟨tr', rfl⟩ := Int.eq_ofNat_of_zero_le htr.1
  obtain ⟨md', rfl⟩ := Int.eq_ofNat_of_zero_le k6
  obtain ⟨fx', rfl⟩ := Int.eq_ofNat_of_zero_le hf0
  obtain ⟨fy', rfl⟩ := Int.eq_ofNat_of_zero_le hf0y
  exact Q73 (hW.later h2) (hE.next h2) p' md' tr' mx mn (by omega) ⟨k2, k3⟩ ⟨k4, k5⟩ (by omega) (by omega) fx' fy' (a % 3) (Nat.mod_lt _ (by decide)) nx ny ex ey sx sy hx hy)
 have hm3 : ((a : Int)).tmod 3 = ((a % 3 : Nat) : Int) := by rw [Int.tmod_eq_emod_of_nonneg (by omega)]; rfl
 obtain ⟨wA, hwA⟩ : ∃ wA, wA = ((w.alloc (.cells #[.int .u32 p, .int .i32 mx, .int .i32 mn, .int .u32 tr, .int .i64 md] 24)).alloc (.cells #[.int .i64 fx, .bool nx, .int .i32 ex, .string sx] 26)).alloc (.cells #[.int .i64 fy, .bool ny, .int .i32 ey, .string sy] 26) := ⟨_, rfl⟩
 rw [← hwA] at HS
 unfold CV DV
 clear hW hE hp htr hex hey
 have x0 := Q1 HS.out.xb 0 rfl; have x1 := Q1 HS.out.xb 1 rfl; have x2 := Q1 HS.out.xb 2 rfl; have x3 := Q1 HS.out.xb 3 rfl
 go_enter Tryz.func4, Tryz.ntmps4
 go_upto_region 1 with (fail)
 rw [← hwA]
 clear hwA
 go_wp2_with fail
 refine (HFX.out _).mono ?_
 rintro r w1 ⟨b1, rfl, hb1, hB⟩
 have HS1 := Lh (HS.out.later hB)
 have HB1 := Lh hb1
 clear hB hb1 x0 x1 x2 x3 HS
 cases b1
 ·go_wp2_with fail
  go_ret
  exact ⟨rfl, HS1.out.bw⟩
 ·have y0 := Q1 HS1.out.yb 0 rfl; have y1 := Q1 HS1.out.yb 1 rfl; have y2 := Q1 HS1.out.yb 2 rfl; have y3 := Q1 HS1.out.yb 3 rfl
  go_wp2_with fail
  refine (HFY.out _).mono ?_
  rintro r w2 ⟨b2, rfl, hb2, hB⟩
  have HS2 := Lh (HS1.out.later hB)
  have HB2 := Lh hb2
  clear hB hb2 y0 y1 y2 y3 HS1
  cases b2
  ·go_wp2_with fail
   go_ret
   exact ⟨rfl, HS2.out.bw⟩
  ·have c0 := Q1 HS2.out.cb 0 rfl; have c1 := Q1 HS2.out.cb 1 rfl; have c2 := Q1 HS2.out.cb 2 rfl; have c3 := Q1 HS2.out.cb 3 rfl; have c4 := Q1 HS2.out.cb 4 rfl
   have x0 := Q1 HS2.out.xb 0 rfl; have x1 := Q1 HS2.out.xb 1 rfl; have x2 := Q1 HS2.out.xb 2 rfl; have x3 := Q1 HS2.out.xb 3 rfl
   have y0 := Q1 HS2.out.yb 0 rfl; have y1 := Q1 HS2.out.yb 1 rfl; have y2 := Q1 HS2.out.yb 2 rfl; have y3 := Q1 HS2.out.yb 3 rfl
   go_wp2_with fail
   refine (HO.out (HB1.out.1 trivial) (HB2.out.1 trivial) _).mono ?_
   rintro r w3 ⟨b3, rfl, hb3, hB⟩
   have HS3 := Lh (HS2.out.later hB)
   have HB3 := Lh hb3
   clear hB hb3 c0 c1 c2 c3 c4 x0 x1 x2 x3 y0 y1 y2 y3 HS2
   cases b3
   ·go_wp2_with fail
    refine (HAl.out _ HS3.out.bw).mono ?_
    rintro r w4 ⟨rfl, hB⟩
    have HS4 := Lh (HS3.out.later hB)
    clear hB HS3
    go_wp2_with fail
    go_ret
    exact ⟨rfl, HS4.out.bw⟩
   ·have c0 := Q1 HS3.out.cb 0 rfl; have c1 := Q1 HS3.out.cb 1 rfl; have c2 := Q1 HS3.out.cb 2 rfl; have c3 := Q1 HS3.out.cb 3 rfl; have c4 := Q1 HS3.out.cb 4 rfl
    have x0 := Q1 HS3.out.xb 0 rfl; have x1 := Q1 HS3.out.xb 1 rfl; have x2 := Q1 HS3.out.xb 2 rfl; have x3 := Q1 HS3.out.xb 3 rfl
    have y0 := Q1 HS3.out.yb 0 rfl; have y1 := Q1 HS3.out.yb 1 rfl; have y2 := Q1 HS3.out.yb 2 rfl; have y3 := Q1 HS3.out.yb 3 rfl
    go_wp2_with fail
    refine (HDid.out (HB3.out.1 trivial) _ HS3.out.bw).mono ?_
    rintro r w4 ⟨rfl, hB⟩
    have HS4 := Lh (HS3.out.later hB)
    clear hB HS3 c0 c1 c2 c3 c4 x0 x1 x2 x3 y0 y1 y2 y3
    go_wp2_with fail
    go_ret
    exact ⟨rfl, HS4.out.bw⟩
end Go.Proofs.YtamldngoemdfgaaGreatDoor
