/- a part of the proof -/
import Derived.Test.YtamldngoemdfgaaGreatDoorZ28
set_option linter.all false
set_option maxRecDepth 100000
set_option maxHeartbeats 16000000
namespace Go.Proofs.YtamldngoemdfgaaGreatDoor
open Go Go.RowKit
def arIf (p : Nat) (mx _mn : Int) (_md : Nat) (f : Int) (n : Bool) (e : Int) (c : Nat) : Value :=
 if f = 0 then inW 4 p mx n e c else RsV 0 false 0 ⟨#[]⟩ 0 false false false
theorem Q36 (p : Nat) (mx : Int) (n : Bool) (e : Int) (c : Nat) : ∃ f n' e' s k a b o, inW 4 p mx n e c = RsV f n' e' s k a b o := by
 unfold inW
 split
 ·exact ⟨_, _, _, _, _, _, _, _, rfl⟩
 ·split
  ·exact ⟨_, _, _, _, _, _, _, _, rfl⟩
  ·exact ⟨_, _, _, _, _, _, _, _, rfl⟩
theorem Q4X {w : World} (p md tr : Nat) (mx mn : Int) (hp : p ≤ 60) (hmx : 0 ≤ mx ∧ mx ≤ 500) (hmn : mn ≤ 0 ∧ -500 ≤ mn) (hmd : md < 8) {E : Int} (hE : 0 ≤ E ∧ E ≤ 1000) (fx : Int) (nx : Bool) (ex : Int) (sx : ByteArray) (fy : Int) (ny : Bool) (ey : Int) (sy : ByteArray) (hx : ArOk E fx ex sx) (hy : ArOk E fy ey sy) :
  Calls Tryz.prog 13 #[.int .i64 12, CV p mx mn tr md, DV fx nx ex sx, DV fy ny ey sy] w fun r w' => r = .returned (arIf p mx mn md fx nx ex (vl (sdL sx 0))) ∧ Below w.heap.size w w' := by
 obtain ⟨hx1, hx2, hx3, hx4, hx5, hx6⟩ := hx.canon hE.1
 obtain ⟨hy1, hy2, hy3, hy4, hy5, hy6⟩ := hy.canon hE.1
 have hxl := hx1.len
 have HX : Hid (∀ w2, Calls Tryz.prog 37 #[.agg #[.int .i64 fx, .bool nx, .int .i32 ex, .string sx]] w2 fun r w' => ∃ v', r = .returned v' ∧ FinV w' v' nx (vl (sdL sx 0)) ex ∧ Below w2.heap.size w2 w') := Lh (fun w2 => Q1I fx nx ex sx (by omega) hx1 (by omega) w2)
 have HY : Hid (∀ w2, Calls Tryz.prog 37 #[.agg #[.int .i64 fy, .bool ny, .int .i32 ey, .string sy]] w2 fun r w' => ∃ v', r = .returned v' ∧ FinV w' v' ny (vl (sdL sy 0)) ey ∧ Below w2.heap.size w2 w') := Lh (fun w2 => Q1I fy ny ey sy (by omega) hy1 (by omega) w2)
 generalize vl (sdL sx 0) = cx at HX hxl ⊢
 generalize vl (sdL sy 0) = cy at HY
 have HF : Hid (∀ w2 p1 l1 c1, FinV w2 (.agg #[.bool nx, .bool false, .slice p1 l1 c1, .int .i64 ex]) nx cx ex → Calls Tryz.prog 48 #[.int .i64 12, .agg #[.int .u32 (p : Int), .int .i32 mx, .int .i32 mn, .int .u32 (tr : Int), .int .i64 (md : Int)], .agg #[.bool nx, .bool false, .slice p1 l1 c1, .int .i64 ex]] w2 fun r w' => r = .returned (inW 4 p mx nx ex cx) ∧ Below w2.heap.size w2 w') := Lh (fun w2 p1 l1 c1 h => Q3l p md tr mx mn hp hmx hmn ⟨_, rfl, h.slice.1⟩ (by omega) (by omega))
 have HN1 : Hid (∀ w2, Calls Tryz.prog 36 #[.int .u32 1024] w2 fun r w' => r = .returned (.agg #[.int .i64 3, .bool false, .int .i32 0, .string ⟨#[]⟩, .int .u32 1024, .bool true, .bool false, .bool false]) ∧ Below w2.heap.size w2 w') := Lh (fun w2 => Q40 1024 w2)
 have HN0 : Hid (∀ w2, Calls Tryz.prog 36 #[.int .u32 0] w2 fun r w' => r = .returned (.agg #[.int .i64 3, .bool false, .int .i32 0, .string ⟨#[]⟩, .int .u32 0, .bool true, .bool false, .bool false]) ∧ Below w2.heap.size w2 w') := Lh (fun w2 => Q40 0 w2)
 have HI : Hid (∀ b w2, Calls Tryz.prog 38 #[.bool b, .int .u32 0] w2 fun r w' => r = .returned (.agg #[.int .i64 1, .bool b, .int .i32 0, .string ⟨#[]⟩, .int .u32 0, .bool true, .bool false, .bool false]) ∧ Below w2.heap.size w2 w') := Lh (fun b w2 => Q29 b 0 w2)
 obtain ⟨A, hA⟩ : ∃ A, A = arIf p mx mn md fx nx ex cx := ⟨_, rfl⟩
 rw [← hA]
 have HAV := Lh hA
 have HA0 := Lh (AS.start (w := w) (C := #[.int .u32 (p : Int), .int .i32 mx, .int .i32 mn, .int .u32 (tr : Int), .int .i64 (md : Int)]) (X := #[.int .i64 fx, .bool nx, .int .i32 ex, .string sx]) (Y := #[.int .i64 fy, .bool ny, .int .i32 ey, .string sy]))
 obtain ⟨wA, hwA⟩ : ∃ wA, wA = (((w.alloc (.cells #[.int .u32 (p : Int), .int .i32 mx, .int .i32 mn, .int .u32 (tr : Int), .int .i64 (md : Int)] 24)).alloc (.cells #[.int .i64 fx, .bool nx, .int .i32 ex, .string sx] 26)).alloc (.cells #[.int .i64 fy, .bool ny, .int .i32 ey, .string sy] 26)).alloc (.cells #[.int .i64 0, .bool false, .int .i32 0, .string ⟨#[]⟩, .int .u32 0, .bool false, .bool false, .bool false] 38) := ⟨_, rfl⟩
 rw [← hwA] at HA0
 have HP : IntKind.i64.wrap (p : Int) = (p : Int) := IntWalk.i64_in _ (by omega)
 have HX5 := Lh hx5; have HX6 := Lh hx6
 unfold CV DV
 clear hx hy hA hE hmx hmn hx1 hx2 hx3 hx4 hx5 hx6 hy1 hy2 hy3 hy4 hy5 hy6 hxl hp hmd
 have cb := (Ql HA0.out.cb).1
 have c0 := Q1 HA0.out.cb 0 rfl; have c1' := Q1 HA0.out.cb 1 rfl; have c2' := Q1 HA0.out.cb 2 rfl; have c3' := Q1 HA0.out.cb 3 rfl; have c4' := Q1 HA0.out.cb 4 rfl
 clear cb
 have x0 := Q1 HA0.out.xb 0 rfl; have x1 := Q1 HA0.out.xb 1 rfl; have x2 := Q1 HA0.out.xb 2 rfl; have x3 := Q1 HA0.out.xb 3 rfl
 have y0 := Q1 HA0.out.yb 0 rfl; have y1 := Q1 HA0.out.yb 1 rfl; have y2 := Q1 HA0.out.yb 2 rfl; have y3 := Q1 HA0.out.yb 3 rfl
 have HC : Hid (∀ w2, Below wA.heap.size wA w2 → w2.cell? ⟨w.heap.size + 1, 0, none⟩ = some (.int .i64 fx) ∧ w2.cell? ⟨w.heap.size + 1, 1, none⟩ = some (.bool nx) ∧ w2.cell? ⟨w.heap.size + 1, 2, none⟩ = some (.int .i32 ex) ∧ w2.cell? ⟨w.heap.size + 1, 3, none⟩ = some (.string sx) ∧ w2.cell? ⟨w.heap.size + 1 + 1, 0, none⟩ = some (.int .i64 fy) ∧ w2.cell? ⟨w.heap.size + 1 + 1, 1, none⟩ = some (.bool ny) ∧ w2.cell? ⟨w.heap.size + 1 + 1, 2, none⟩ = some (.int .i32 ey) ∧ w2.cell? ⟨w.heap.size + 1 + 1, 3, none⟩ = some (.string sy)) := Lh (fun w2 h => by
  have k := HA0.out.later h
  exact ⟨Q1 k.xb 0 rfl, Q1 k.xb 1 rfl, Q1 k.xb 2 rfl, Q1 k.xb 3 rfl, Q1 k.yb 0 rfl, Q1 k.yb 1 rfl, Q1 k.yb 2 rfl, Q1 k.yb 3 rfl⟩)
 by_cases h0 : fx = 0
 rotate_left
 ·have HV : Hid (A = RsV 0 false 0 ⟨#[]⟩ 0 false false false) := Lh (by rw [HAV.out]; unfold arIf; rw [if_neg h0])
  have b0 : (fx != 0) = true := by simpa using h0
  go_enter Tryz.func13, Tryz.ntmps13
  go_upto_region 1 with (fail)
  rw [← hwA]
  clear hwA
  obtain ⟨r0, r1, r2, r3, r4, r5, r6, r7⟩ := HA0.out.rc
  have rf := HA0.out.rf
  have f0 := rf 0; have f1 := rf 1; have f2 := rf 2; have f3 := rf 3; have f4 := rf 4; have f5 := rf 5; have f6 := rf 6; have f7 := rf 7
  clear rf
  go_wp2_with fail
  have h8 := QV HA0.out.rb (.int .i64 0) (.bool false) (.int .i32 0) (.string ⟨#[]⟩) (.int .u32 0) (.bool false) (.bool false) (.bool false)
  have hb := HA0.out.done (.int .i64 0) (.bool false) (.int .i32 0) (.string ⟨#[]⟩) (.int .u32 0) (.bool false) (.bool false) (.bool false)
  unfold set8 at h8 hb
  exact bodyPost_ret (v := .agg #[.int .i64 0, .bool false, .int .i32 0, .string ⟨#[]⟩, .int .u32 0, .bool false, .bool false, .bool false]) (by simp [results, Tryz.results13, go_sem, h8]) rfl ⟨QM (by rw [HV.out]; rfl), hb⟩
 have HV0 : Hid (A = inW 4 p mx nx ex cx) := Lh (by rw [HAV.out]; unfold arIf; rw [if_pos h0])
 have b0 : (fx != 0) = false := by rw [h0]; rfl
 have b1 : (fx == 1) = false := by rw [h0]; rfl
 have b2 : (fx == 2) = false := by rw [h0]; rfl
 have b3 : (fx == 3) = false := by rw [h0]; rfl
 clear h0
 go_enter Tryz.func13, Tryz.ntmps13
 go_wp2_with fail
 rw [← hwA]
 have HwA := Lh hwA
 clear hwA
 go_upto_region 8 with (fail)
 clear b0 b2 b3
 go_cut [10, 11] from 60 to 63 (fun tq tr wx => TwoF wA nx cx ex ny cy ey tq tr wx)
 case first =>
  refine AH.start (fun x => x.cell? ⟨w.heap.size + 1, 0, none⟩ = some (.int .i64 fx) ∧ x.cell? ⟨w.heap.size + 1, 1, none⟩ = some (.bool nx) ∧ x.cell? ⟨w.heap.size + 1, 2, none⟩ = some (.int .i32 ex) ∧ x.cell? ⟨w.heap.size + 1, 3, none⟩ = some (.string sx) ∧ x.cell? ⟨w.heap.size + 1 + 1, 0, none⟩ = some (.int .i64 fy) ∧ x.cell? ⟨w.heap.size + 1 + 1, 1, none⟩ = some (.bool ny) ∧ x.cell? ⟨w.heap.size + 1 + 1, 2, none⟩ = some (.int .i32 ey) ∧ x.cell? ⟨w.heap.size + 1 + 1, 3, none⟩ = some (.string sy)) (by kernel_rfl) ?_
  generalize hw0 : wA.drew = w0
  have HB0 : Hid (Below wA.heap.size wA w0) := by rw [← hw0]; exact Lh ((Below.refl _ _).drew)
  clear hw0 HF HN0 HN1 HI c0 c1' c2' c3' c4' x0 x1 x2 x3 y0 y1 y2 y3
  have s_0 := HC.out _ HB0.out
  refine AH.z 0 s_0 ?_
  refine AH.z 2 s_0 ?_
  clear s_0
  refine AH.three (i := 1) (j := 4) (k := 5) (by kernel_rfl) rfl rfl rfl (by kernel_rfl) (by kernel_rfl) (by kernel_rfl) (fun K hK => ?n3X) (fun K hK => ?n3A) (fun K hK => ?n3B)
  case' n3X =>
   go_simp
   refine (HX.out w0).mono ?_
   rintro r w1 ⟨v1, rfl, ⟨s1, rfl, k1⟩, hB⟩
   have HB1 := Lh (Qf HB0.out hB)
   have k1' := k1
   obtain ⟨p1, c1, rfl, _⟩ := k1'
   have FX1 : Hid (FinV w1 (.agg #[.bool nx, .bool false, .slice p1 (dgs cx).length c1, .int .i64 ex]) nx cx ex) := Lh ⟨_, rfl, k1⟩
   refine hK _ _ (HC.out _ HB1.out) ?_
   clear hK K hB k1
   try simp only [Act.put,Zp_]
   refine AH.three (i := 3) (j := 4) (k := 5) (by kernel_rfl) rfl rfl rfl (by kernel_rfl) (by kernel_rfl) (by kernel_rfl) (fun K hK => ?n4Y) (fun K hK => ?n4A) (fun K hK => ?n4B)
   case' n4Y =>
    go_simp
    refine (HY.out w1).mono ?_
    rintro r w2 ⟨v2, rfl, ⟨s2, rfl, k2⟩, hB⟩
    have HB2 := Lh (Qf HB1.out hB)
    have k2' := k2
    obtain ⟨p2, c2, rfl, _⟩ := k2'
    have FY2 : Hid (FinV w2 (.agg #[.bool ny, .bool false, .slice p2 (dgs cy).length c2, .int .i64 ey]) ny cy ey) := Lh ⟨_, rfl, k2⟩
    have FX2 := Lh (FX1.out.later hB)
    refine hK _ _ (HC.out _ HB2.out) ?_
    clear hK K hB k2
    try simp only [Act.put,Zp_]
    refine AH.t 4 5 (fun K hK => ?n5A) (fun K hK => ?n5B)
    case' n5A =>
     go_simp
     have HB3 := Lh (bal HB2.out (.cells #[.bool false, .bool false, .slice none 0 0, .int .i64 0] 71))
     have FA3 := Lh (gal w2 (.cells #[.bool false, .bool false, .slice none 0 0, .int .i64 0] 71))
     have LA := HB2.out.size
     have FX3 := Lh (FX2.out.later (Qe w2 (.cells #[.bool false, .bool false, .slice none 0 0, .int .i64 0] 71)))
     have FY3 := Lh (FY2.out.later (Qe w2 (.cells #[.bool false, .bool false, .slice none 0 0, .int .i64 0] 71)))
     refine hK _ _ (HC.out _ HB3.out) ?_
     clear hK K
     try simp only [Act.put,Zp_]
     generalize hg : w2.heap.size = gA at FA3 LA ⊢
     generalize hw : w2.alloc (.cells #[.bool false, .bool false, .slice none 0 0, .int .i64 0] 71) = w3 at HB3 FA3 FX3 FY3 ⊢
     clear hg hw
     refine AH.o 5 (fun K hK => ?_)
     go_simp
     have HB4 := Lh (bal HB3.out (.cells #[.bool false, .bool false, .slice none 0 0, .int .i64 0] 71))
     have FB4 := Lh (gal w3 (.cells #[.bool false, .bool false, .slice none 0 0, .int .i64 0] 71))
     have LB := HB3.out.size
     have FA4 := Lh (Qb FA3.out (Qe w3 (.cells #[.bool false, .bool false, .slice none 0 0, .int .i64 0] 71)))
     have FX4 := Lh (FX3.out.later (Qe w3 (.cells #[.bool false, .bool false, .slice none 0 0, .int .i64 0] 71)))
     have FY4 := Lh (FY3.out.later (Qe w3 (.cells #[.bool false, .bool false, .slice none 0 0, .int .i64 0] 71)))
     have NE : gA ≠ w3.heap.size := by have := (Array.getElem?_eq_some_iff.1 FA3.out).1; omega
     refine hK _ _ (HC.out _ HB4.out) ?_
     clear hK K
     try simp only [Act.put,Zp_]
     generalize hg : w3.heap.size = gB at FB4 LB NE ⊢
     generalize hw : w3.alloc (.cells #[.bool false, .bool false, .slice none 0 0, .int .i64 0] 71) = w4 at HB4 FA4 FB4 FX4 FY4 ⊢
     clear hg hw
    case' n5B =>
     go_simp
     have HB3 := Lh (bal HB2.out (.cells #[.bool false, .bool false, .slice none 0 0, .int .i64 0] 71))
     have FB3 := Lh (gal w2 (.cells #[.bool false, .bool false, .slice none 0 0, .int .i64 0] 71))
     have LB := HB2.out.size
     have FX3 := Lh (FX2.out.later (Qe w2 (.cells #[.bool false, .bool false, .slice none 0 0, .int .i64 0] 71)))
     have FY3 := Lh (FY2.out.later (Qe w2 (.cells #[.bool false, .bool false, .slice none 0 0, .int .i64 0] 71)))
     refine hK _ _ (HC.out _ HB3.out) ?_
     clear hK K
     try simp only [Act.put,Zp_]
     generalize hg : w2.heap.size = gB at FB3 LB ⊢
     generalize hw : w2.alloc (.cells #[.bool false, .bool false, .slice none 0 0, .int .i64 0] 71) = w3 at HB3 FB3 FX3 FY3 ⊢
     clear hg hw
     refine AH.o 4 (fun K hK => ?_)
     go_simp
     have HB4 := Lh (bal HB3.out (.cells #[.bool false, .bool false, .slice none 0 0, .int .i64 0] 71))
     have FA4 := Lh (gal w3 (.cells #[.bool false, .bool false, .slice none 0 0, .int .i64 0] 71))
     have LA := HB3.out.size
     have FB4 := Lh (Qb FB3.out (Qe w3 (.cells #[.bool false, .bool false, .slice none 0 0, .int .i64 0] 71)))
     have FX4 := Lh (FX3.out.later (Qe w3 (.cells #[.bool false, .bool false, .slice none 0 0, .int .i64 0] 71)))
     have FY4 := Lh (FY3.out.later (Qe w3 (.cells #[.bool false, .bool false, .slice none 0 0, .int .i64 0] 71)))
     have NE : w3.heap.size ≠ gB := by have := (Array.getElem?_eq_some_iff.1 FB3.out).1; omega
     refine hK _ _ (HC.out _ HB4.out) ?_
     clear hK K
     try simp only [Act.put,Zp_]
     generalize hg : w3.heap.size = gA at FA4 LA NE ⊢
     generalize hw : w3.alloc (.cells #[.bool false, .bool false, .slice none 0 0, .int .i64 0] 71) = w4 at HB4 FA4 FB4 FX4 FY4 ⊢
     clear hg hw
   case' n4A =>
    go_simp
    have HB2 := Lh (bal HB1.out (.cells #[.bool false, .bool false, .slice none 0 0, .int .i64 0] 71))
    have FA2 := Lh (gal w1 (.cells #[.bool false, .bool false, .slice none 0 0, .int .i64 0] 71))
    have LA := HB1.out.size
    have FX2 := Lh (FX1.out.later (Qe w1 (.cells #[.bool false, .bool false, .slice none 0 0, .int .i64 0] 71)))
    refine hK _ _ (HC.out _ HB2.out) ?_
    clear hK K
    try simp only [Act.put,Zp_]
    generalize hg : w1.heap.size = gA at FA2 LA ⊢
    generalize hw : w1.alloc (.cells #[.bool false, .bool false, .slice none 0 0, .int .i64 0] 71) = w2 at HB2 FA2 FX2 ⊢
    clear hg hw
    refine AH.t 3 5 (fun K hK => ?n6Y) (fun K hK => ?n6B)
    case' n6Y =>
     go_simp
     refine (HY.out w2).mono ?_
     rintro r w3 ⟨v2, rfl, ⟨s2, rfl, k2⟩, hB⟩
     have HB3 := Lh (Qf HB2.out hB)
     have k2' := k2
     obtain ⟨p2, c2, rfl, _⟩ := k2'
     have FY3 : Hid (FinV w3 (.agg #[.bool ny, .bool false, .slice p2 (dgs cy).length c2, .int .i64 ey]) ny cy ey) := Lh ⟨_, rfl, k2⟩
     have FA3 := Lh (Qb FA2.out hB)
     have FX3 := Lh (FX2.out.later hB)
     refine hK _ _ (HC.out _ HB3.out) ?_
     clear hK K hB k2
     try simp only [Act.put,Zp_]
     refine AH.o 5 (fun K hK => ?_)
     go_simp
     have HB4 := Lh (bal HB3.out (.cells #[.bool false, .bool false, .slice none 0 0, .int .i64 0] 71))
     have FB4 := Lh (gal w3 (.cells #[.bool false, .bool false, .slice none 0 0, .int .i64 0] 71))
     have LB := HB3.out.size
     have FA4 := Lh (Qb FA3.out (Qe w3 (.cells #[.bool false, .bool false, .slice none 0 0, .int .i64 0] 71)))
     have FX4 := Lh (FX3.out.later (Qe w3 (.cells #[.bool false, .bool false, .slice none 0 0, .int .i64 0] 71)))
     have FY4 := Lh (FY3.out.later (Qe w3 (.cells #[.bool false, .bool false, .slice none 0 0, .int .i64 0] 71)))
     have NE : gA ≠ w3.heap.size := by have := (Array.getElem?_eq_some_iff.1 FA3.out).1; omega
     refine hK _ _ (HC.out _ HB4.out) ?_
     clear hK K
     try simp only [Act.put,Zp_]
     generalize hg : w3.heap.size = gB at FB4 LB NE ⊢
     generalize hw : w3.alloc (.cells #[.bool false, .bool false, .slice none 0 0, .int .i64 0] 71) = w4 at HB4 FA4 FB4 FX4 FY4 ⊢
     clear hg hw
    case' n6B =>
     go_simp
     have HB3 := Lh (bal HB2.out (.cells #[.bool false, .bool false, .slice none 0 0, .int .i64 0] 71))
     have FB3 := Lh (gal w2 (.cells #[.bool false, .bool false, .slice none 0 0, .int .i64 0] 71))
     have LB := HB2.out.size
     have FA3 := Lh (Qb FA2.out (Qe w2 (.cells #[.bool false, .bool false, .slice none 0 0, .int .i64 0] 71)))
     have FX3 := Lh (FX2.out.later (Qe w2 (.cells #[.bool false, .bool false, .slice none 0 0, .int .i64 0] 71)))
     have NE : gA ≠ w2.heap.size := by have := (Array.getElem?_eq_some_iff.1 FA2.out).1; omega
     refine hK _ _ (HC.out _ HB3.out) ?_
     clear hK K
     try simp only [Act.put,Zp_]
     generalize hg : w2.heap.size = gB at FB3 LB NE ⊢
     generalize hw : w2.alloc (.cells #[.bool false, .bool false, .slice none 0 0, .int .i64 0] 71) = w3 at HB3 FA3 FB3 FX3 ⊢
     clear hg hw
     refine AH.o 3 (fun K hK => ?_)
     go_simp
     refine (HY.out w3).mono ?_
     rintro r w4 ⟨v2, rfl, ⟨s2, rfl, k2⟩, hB⟩
     have HB4 := Lh (Qf HB3.out hB)
     have k2' := k2
     obtain ⟨p2, c2, rfl, _⟩ := k2'
     have FY4 : Hid (FinV w4 (.agg #[.bool ny, .bool false, .slice p2 (dgs cy).length c2, .int .i64 ey]) ny cy ey) := Lh ⟨_, rfl, k2⟩
     have FA4 := Lh (Qb FA3.out hB)
     have FB4 := Lh (Qb FB3.out hB)
     have FX4 := Lh (FX3.out.later hB)
     refine hK _ _ (HC.out _ HB4.out) ?_
     clear hK K hB k2
     try simp only [Act.put,Zp_]
   case' n4B =>
    go_simp
    have HB2 := Lh (bal HB1.out (.cells #[.bool false, .bool false, .slice none 0 0, .int .i64 0] 71))
    have FB2 := Lh (gal w1 (.cells #[.bool false, .bool false, .slice none 0 0, .int .i64 0] 71))
    have LB := HB1.out.size
    have FX2 := Lh (FX1.out.later (Qe w1 (.cells #[.bool false, .bool false, .slice none 0 0, .int .i64 0] 71)))
    refine hK _ _ (HC.out _ HB2.out) ?_
    clear hK K
    try simp only [Act.put,Zp_]
    generalize hg : w1.heap.size = gB at FB2 LB ⊢
    generalize hw : w1.alloc (.cells #[.bool false, .bool false, .slice none 0 0, .int .i64 0] 71) = w2 at HB2 FB2 FX2 ⊢
    clear hg hw
    refine AH.t 3 4 (fun K hK => ?n7Y) (fun K hK => ?n7A)
    case' n7Y =>
     go_simp
     refine (HY.out w2).mono ?_
     rintro r w3 ⟨v2, rfl, ⟨s2, rfl, k2⟩, hB⟩
     have HB3 := Lh (Qf HB2.out hB)
     have k2' := k2
     obtain ⟨p2, c2, rfl, _⟩ := k2'
     have FY3 : Hid (FinV w3 (.agg #[.bool ny, .bool false, .slice p2 (dgs cy).length c2, .int .i64 ey]) ny cy ey) := Lh ⟨_, rfl, k2⟩
     have FB3 := Lh (Qb FB2.out hB)
     have FX3 := Lh (FX2.out.later hB)
     refine hK _ _ (HC.out _ HB3.out) ?_
     clear hK K hB k2
     try simp only [Act.put,Zp_]
     refine AH.o 4 (fun K hK => ?_)
     go_simp
     have HB4 := Lh (bal HB3.out (.cells #[.bool false, .bool false, .slice none 0 0, .int .i64 0] 71))
     have FA4 := Lh (gal w3 (.cells #[.bool false, .bool false, .slice none 0 0, .int .i64 0] 71))
     have LA := HB3.out.size
     have FB4 := Lh (Qb FB3.out (Qe w3 (.cells #[.bool false, .bool false, .slice none 0 0, .int .i64 0] 71)))
     have FX4 := Lh (FX3.out.later (Qe w3 (.cells #[.bool false, .bool false, .slice none 0 0, .int .i64 0] 71)))
     have FY4 := Lh (FY3.out.later (Qe w3 (.cells #[.bool false, .bool false, .slice none 0 0, .int .i64 0] 71)))
     have NE : w3.heap.size ≠ gB := by have := (Array.getElem?_eq_some_iff.1 FB3.out).1; omega
     refine hK _ _ (HC.out _ HB4.out) ?_
     clear hK K
     try simp only [Act.put,Zp_]
     generalize hg : w3.heap.size = gA at FA4 LA NE ⊢
     generalize hw : w3.alloc (.cells #[.bool false, .bool false, .slice none 0 0, .int .i64 0] 71) = w4 at HB4 FA4 FB4 FX4 FY4 ⊢
     clear hg hw
    case' n7A =>
     go_simp
     have HB3 := Lh (bal HB2.out (.cells #[.bool false, .bool false, .slice none 0 0, .int .i64 0] 71))
     have FA3 := Lh (gal w2 (.cells #[.bool false, .bool false, .slice none 0 0, .int .i64 0] 71))
     have LA := HB2.out.size
     have FB3 := Lh (Qb FB2.out (Qe w2 (.cells #[.bool false, .bool false, .slice none 0 0, .int .i64 0] 71)))
     have FX3 := Lh (FX2.out.later (Qe w2 (.cells #[.bool false, .bool false, .slice none 0 0, .int .i64 0] 71)))
     have NE : w2.heap.size ≠ gB := by have := (Array.getElem?_eq_some_iff.1 FB2.out).1; omega
     refine hK _ _ (HC.out _ HB3.out) ?_
     clear hK K
     try simp only [Act.put,Zp_]
     generalize hg : w2.heap.size = gA at FA3 LA NE ⊢
     generalize hw : w2.alloc (.cells #[.bool false, .bool false, .slice none 0 0, .int .i64 0] 71) = w3 at HB3 FA3 FB3 FX3 ⊢
     clear hg hw
     refine AH.o 3 (fun K hK => ?_)
     go_simp
     refine (HY.out w3).mono ?_
     rintro r w4 ⟨v2, rfl, ⟨s2, rfl, k2⟩, hB⟩
     have HB4 := Lh (Qf HB3.out hB)
     have k2' := k2
     obtain ⟨p2, c2, rfl, _⟩ := k2'
     have FY4 : Hid (FinV w4 (.agg #[.bool ny, .bool false, .slice p2 (dgs cy).length c2, .int .i64 ey]) ny cy ey) := Lh ⟨_, rfl, k2⟩
     have FA4 := Lh (Qb FA3.out hB)
     have FB4 := Lh (Qb FB3.out hB)
     have FX4 := Lh (FX3.out.later hB)
     refine hK _ _ (HC.out _ HB4.out) ?_
     clear hK K hB k2
     try simp only [Act.put,Zp_]
  case' n3A =>
   go_simp
   have HB1 := Lh (bal HB0.out (.cells #[.bool false, .bool false, .slice none 0 0, .int .i64 0] 71))
   have FA1 := Lh (gal w0 (.cells #[.bool false, .bool false, .slice none 0 0, .int .i64 0] 71))
   have LA := HB0.out.size
   refine hK _ _ (HC.out _ HB1.out) ?_
   clear hK K
   try simp only [Act.put,Zp_]
   generalize hg : w0.heap.size = gA at FA1 LA ⊢
   generalize hw : w0.alloc (.cells #[.bool false, .bool false, .slice none 0 0, .int .i64 0] 71) = w1 at HB1 FA1 ⊢
   clear hg hw
   refine AH.t 1 5 (fun K hK => ?n8X) (fun K hK => ?n8B)
   case' n8X =>
    go_simp
    refine (HX.out w1).mono ?_
    rintro r w2 ⟨v1, rfl, ⟨s1, rfl, k1⟩, hB⟩
    have HB2 := Lh (Qf HB1.out hB)
    have k1' := k1
    obtain ⟨p1, c1, rfl, _⟩ := k1'
    have FX2 : Hid (FinV w2 (.agg #[.bool nx, .bool false, .slice p1 (dgs cx).length c1, .int .i64 ex]) nx cx ex) := Lh ⟨_, rfl, k1⟩
    have FA2 := Lh (Qb FA1.out hB)
    refine hK _ _ (HC.out _ HB2.out) ?_
    clear hK K hB k1
    try simp only [Act.put,Zp_]
    refine AH.t 3 5 (fun K hK => ?n9Y) (fun K hK => ?n9B)
    case' n9Y =>
     go_simp
     refine (HY.out w2).mono ?_
     rintro r w3 ⟨v2, rfl, ⟨s2, rfl, k2⟩, hB⟩
     have HB3 := Lh (Qf HB2.out hB)
     have k2' := k2
     obtain ⟨p2, c2, rfl, _⟩ := k2'
     have FY3 : Hid (FinV w3 (.agg #[.bool ny, .bool false, .slice p2 (dgs cy).length c2, .int .i64 ey]) ny cy ey) := Lh ⟨_, rfl, k2⟩
     have FA3 := Lh (Qb FA2.out hB)
     have FX3 := Lh (FX2.out.later hB)
     refine hK _ _ (HC.out _ HB3.out) ?_
     clear hK K hB k2
     try simp only [Act.put,Zp_]
     refine AH.o 5 (fun K hK => ?_)
     go_simp
     have HB4 := Lh (bal HB3.out (.cells #[.bool false, .bool false, .slice none 0 0, .int .i64 0] 71))
     have FB4 := Lh (gal w3 (.cells #[.bool false, .bool false, .slice none 0 0, .int .i64 0] 71))
     have LB := HB3.out.size
     have FA4 := Lh (Qb FA3.out (Qe w3 (.cells #[.bool false, .bool false, .slice none 0 0, .int .i64 0] 71)))
     have FX4 := Lh (FX3.out.later (Qe w3 (.cells #[.bool false, .bool false, .slice none 0 0, .int .i64 0] 71)))
     have FY4 := Lh (FY3.out.later (Qe w3 (.cells #[.bool false, .bool false, .slice none 0 0, .int .i64 0] 71)))
     have NE : gA ≠ w3.heap.size := by have := (Array.getElem?_eq_some_iff.1 FA3.out).1; omega
     refine hK _ _ (HC.out _ HB4.out) ?_
     clear hK K
     try simp only [Act.put,Zp_]
     generalize hg : w3.heap.size = gB at FB4 LB NE ⊢
     generalize hw : w3.alloc (.cells #[.bool false, .bool false, .slice none 0 0, .int .i64 0] 71) = w4 at HB4 FA4 FB4 FX4 FY4 ⊢
     clear hg hw
    case' n9B =>
     go_simp
     have HB3 := Lh (bal HB2.out (.cells #[.bool false, .bool false, .slice none 0 0, .int .i64 0] 71))
     have FB3 := Lh (gal w2 (.cells #[.bool false, .bool false, .slice none 0 0, .int .i64 0] 71))
     have LB := HB2.out.size
     have FA3 := Lh (Qb FA2.out (Qe w2 (.cells #[.bool false, .bool false, .slice none 0 0, .int .i64 0] 71)))
     have FX3 := Lh (FX2.out.later (Qe w2 (.cells #[.bool false, .bool false, .slice none 0 0, .int .i64 0] 71)))
     have NE : gA ≠ w2.heap.size := by have := (Array.getElem?_eq_some_iff.1 FA2.out).1; omega
     refine hK _ _ (HC.out _ HB3.out) ?_
     clear hK K
     try simp only [Act.put,Zp_]
     generalize hg : w2.heap.size = gB at FB3 LB NE ⊢
     generalize hw : w2.alloc (.cells #[.bool false, .bool false, .slice none 0 0, .int .i64 0] 71) = w3 at HB3 FA3 FB3 FX3 ⊢
     clear hg hw
     refine AH.o 3 (fun K hK => ?_)
     go_simp
     refine (HY.out w3).mono ?_
     rintro r w4 ⟨v2, rfl, ⟨s2, rfl, k2⟩, hB⟩
     have HB4 := Lh (Qf HB3.out hB)
     have k2' := k2
     obtain ⟨p2, c2, rfl, _⟩ := k2'
     have FY4 : Hid (FinV w4 (.agg #[.bool ny, .bool false, .slice p2 (dgs cy).length c2, .int .i64 ey]) ny cy ey) := Lh ⟨_, rfl, k2⟩
     have FA4 := Lh (Qb FA3.out hB)
     have FB4 := Lh (Qb FB3.out hB)
     have FX4 := Lh (FX3.out.later hB)
     refine hK _ _ (HC.out _ HB4.out) ?_
     clear hK K hB k2
     try simp only [Act.put,Zp_]
   case' n8B =>
    go_simp
    have HB2 := Lh (bal HB1.out (.cells #[.bool false, .bool false, .slice none 0 0, .int .i64 0] 71))
    have FB2 := Lh (gal w1 (.cells #[.bool false, .bool false, .slice none 0 0, .int .i64 0] 71))
    have LB := HB1.out.size
    have FA2 := Lh (Qb FA1.out (Qe w1 (.cells #[.bool false, .bool false, .slice none 0 0, .int .i64 0] 71)))
    have NE : gA ≠ w1.heap.size := by have := (Array.getElem?_eq_some_iff.1 FA1.out).1; omega
    refine hK _ _ (HC.out _ HB2.out) ?_
    clear hK K
    try simp only [Act.put,Zp_]
    generalize hg : w1.heap.size = gB at FB2 LB NE ⊢
    generalize hw : w1.alloc (.cells #[.bool false, .bool false, .slice none 0 0, .int .i64 0] 71) = w2 at HB2 FA2 FB2 ⊢
    clear hg hw
    refine AH.o 1 (fun K hK => ?_)
    go_simp
    refine (HX.out w2).mono ?_
    rintro r w3 ⟨v1, rfl, ⟨s1, rfl, k1⟩, hB⟩
    have HB3 := Lh (Qf HB2.out hB)
    have k1' := k1
    obtain ⟨p1, c1, rfl, _⟩ := k1'
    have FX3 : Hid (FinV w3 (.agg #[.bool nx, .bool false, .slice p1 (dgs cx).length c1, .int .i64 ex]) nx cx ex) := Lh ⟨_, rfl, k1⟩
    have FA3 := Lh (Qb FA2.out hB)
    have FB3 := Lh (Qb FB2.out hB)
    refine hK _ _ (HC.out _ HB3.out) ?_
    clear hK K hB k1
    try simp only [Act.put,Zp_]
    refine AH.o 3 (fun K hK => ?_)
    go_simp
    refine (HY.out w3).mono ?_
    rintro r w4 ⟨v2, rfl, ⟨s2, rfl, k2⟩, hB⟩
    have HB4 := Lh (Qf HB3.out hB)
    have k2' := k2
    obtain ⟨p2, c2, rfl, _⟩ := k2'
    have FY4 : Hid (FinV w4 (.agg #[.bool ny, .bool false, .slice p2 (dgs cy).length c2, .int .i64 ey]) ny cy ey) := Lh ⟨_, rfl, k2⟩
    have FA4 := Lh (Qb FA3.out hB)
    have FB4 := Lh (Qb FB3.out hB)
    have FX4 := Lh (FX3.out.later hB)
    refine hK _ _ (HC.out _ HB4.out) ?_
    clear hK K hB k2
    try simp only [Act.put,Zp_]
  case' n3B =>
   go_simp
   have HB1 := Lh (bal HB0.out (.cells #[.bool false, .bool false, .slice none 0 0, .int .i64 0] 71))
   have FB1 := Lh (gal w0 (.cells #[.bool false, .bool false, .slice none 0 0, .int .i64 0] 71))
   have LB := HB0.out.size
   refine hK _ _ (HC.out _ HB1.out) ?_
   clear hK K
   try simp only [Act.put,Zp_]
   generalize hg : w0.heap.size = gB at FB1 LB ⊢
   generalize hw : w0.alloc (.cells #[.bool false, .bool false, .slice none 0 0, .int .i64 0] 71) = w1 at HB1 FB1 ⊢
   clear hg hw
   refine AH.t 1 4 (fun K hK => ?n10X) (fun K hK => ?n10A)
   case' n10X =>
    go_simp
    refine (HX.out w1).mono ?_
    rintro r w2 ⟨v1, rfl, ⟨s1, rfl, k1⟩, hB⟩
    have HB2 := Lh (Qf HB1.out hB)
    have k1' := k1
    obtain ⟨p1, c1, rfl, _⟩ := k1'
    have FX2 : Hid (FinV w2 (.agg #[.bool nx, .bool false, .slice p1 (dgs cx).length c1, .int .i64 ex]) nx cx ex) := Lh ⟨_, rfl, k1⟩
    have FB2 := Lh (Qb FB1.out hB)
    refine hK _ _ (HC.out _ HB2.out) ?_
    clear hK K hB k1
    try simp only [Act.put,Zp_]
    refine AH.t 3 4 (fun K hK => ?n11Y) (fun K hK => ?n11A)
    case' n11Y =>
     go_simp
     refine (HY.out w2).mono ?_
     rintro r w3 ⟨v2, rfl, ⟨s2, rfl, k2⟩, hB⟩
     have HB3 := Lh (Qf HB2.out hB)
     have k2' := k2
     obtain ⟨p2, c2, rfl, _⟩ := k2'
     have FY3 : Hid (FinV w3 (.agg #[.bool ny, .bool false, .slice p2 (dgs cy).length c2, .int .i64 ey]) ny cy ey) := Lh ⟨_, rfl, k2⟩
     have FB3 := Lh (Qb FB2.out hB)
     have FX3 := Lh (FX2.out.later hB)
     refine hK _ _ (HC.out _ HB3.out) ?_
     clear hK K hB k2
     try simp only [Act.put,Zp_]
     refine AH.o 4 (fun K hK => ?_)
     go_simp
     have HB4 := Lh (bal HB3.out (.cells #[.bool false, .bool false, .slice none 0 0, .int .i64 0] 71))
     have FA4 := Lh (gal w3 (.cells #[.bool false, .bool false, .slice none 0 0, .int .i64 0] 71))
     have LA := HB3.out.size
     have FB4 := Lh (Qb FB3.out (Qe w3 (.cells #[.bool false, .bool false, .slice none 0 0, .int .i64 0] 71)))
     have FX4 := Lh (FX3.out.later (Qe w3 (.cells #[.bool false, .bool false, .slice none 0 0, .int .i64 0] 71)))
     have FY4 := Lh (FY3.out.later (Qe w3 (.cells #[.bool false, .bool false, .slice none 0 0, .int .i64 0] 71)))
     have NE : w3.heap.size ≠ gB := by have := (Array.getElem?_eq_some_iff.1 FB3.out).1; omega
     refine hK _ _ (HC.out _ HB4.out) ?_
     clear hK K
     try simp only [Act.put,Zp_]
     generalize hg : w3.heap.size = gA at FA4 LA NE ⊢
     generalize hw : w3.alloc (.cells #[.bool false, .bool false, .slice none 0 0, .int .i64 0] 71) = w4 at HB4 FA4 FB4 FX4 FY4 ⊢
     clear hg hw
    case' n11A =>
     go_simp
     have HB3 := Lh (bal HB2.out (.cells #[.bool false, .bool false, .slice none 0 0, .int .i64 0] 71))
     have FA3 := Lh (gal w2 (.cells #[.bool false, .bool false, .slice none 0 0, .int .i64 0] 71))
     have LA := HB2.out.size
     have FB3 := Lh (Qb FB2.out (Qe w2 (.cells #[.bool false, .bool false, .slice none 0 0, .int .i64 0] 71)))
     have FX3 := Lh (FX2.out.later (Qe w2 (.cells #[.bool false, .bool false, .slice none 0 0, .int .i64 0] 71)))
     have NE : w2.heap.size ≠ gB := by have := (Array.getElem?_eq_some_iff.1 FB2.out).1; omega
     refine hK _ _ (HC.out _ HB3.out) ?_
     clear hK K
     try simp only [Act.put,Zp_]
     generalize hg : w2.heap.size = gA at FA3 LA NE ⊢
     generalize hw : w2.alloc (.cells #[.bool false, .bool false, .slice none 0 0, .int .i64 0] 71) = w3 at HB3 FA3 FB3 FX3 ⊢
     clear hg hw
     refine AH.o 3 (fun K hK => ?_)
     go_simp
     refine (HY.out w3).mono ?_
     rintro r w4 ⟨v2, rfl, ⟨s2, rfl, k2⟩, hB⟩
     have HB4 := Lh (Qf HB3.out hB)
     have k2' := k2
     obtain ⟨p2, c2, rfl, _⟩ := k2'
     have FY4 : Hid (FinV w4 (.agg #[.bool ny, .bool false, .slice p2 (dgs cy).length c2, .int .i64 ey]) ny cy ey) := Lh ⟨_, rfl, k2⟩
     have FA4 := Lh (Qb FA3.out hB)
     have FB4 := Lh (Qb FB3.out hB)
     have FX4 := Lh (FX3.out.later hB)
     refine hK _ _ (HC.out _ HB4.out) ?_
     clear hK K hB k2
     try simp only [Act.put,Zp_]
   case' n10A =>
    go_simp
    have HB2 := Lh (bal HB1.out (.cells #[.bool false, .bool false, .slice none 0 0, .int .i64 0] 71))
    have FA2 := Lh (gal w1 (.cells #[.bool false, .bool false, .slice none 0 0, .int .i64 0] 71))
    have LA := HB1.out.size
    have FB2 := Lh (Qb FB1.out (Qe w1 (.cells #[.bool false, .bool false, .slice none 0 0, .int .i64 0] 71)))
    have NE : w1.heap.size ≠ gB := by have := (Array.getElem?_eq_some_iff.1 FB1.out).1; omega
    refine hK _ _ (HC.out _ HB2.out) ?_
    clear hK K
    try simp only [Act.put,Zp_]
    generalize hg : w1.heap.size = gA at FA2 LA NE ⊢
    generalize hw : w1.alloc (.cells #[.bool false, .bool false, .slice none 0 0, .int .i64 0] 71) = w2 at HB2 FA2 FB2 ⊢
    clear hg hw
    refine AH.o 1 (fun K hK => ?_)
    go_simp
    refine (HX.out w2).mono ?_
    rintro r w3 ⟨v1, rfl, ⟨s1, rfl, k1⟩, hB⟩
    have HB3 := Lh (Qf HB2.out hB)
    have k1' := k1
    obtain ⟨p1, c1, rfl, _⟩ := k1'
    have FX3 : Hid (FinV w3 (.agg #[.bool nx, .bool false, .slice p1 (dgs cx).length c1, .int .i64 ex]) nx cx ex) := Lh ⟨_, rfl, k1⟩
    have FA3 := Lh (Qb FA2.out hB)
    have FB3 := Lh (Qb FB2.out hB)
    refine hK _ _ (HC.out _ HB3.out) ?_
    clear hK K hB k1
    try simp only [Act.put,Zp_]
    refine AH.o 3 (fun K hK => ?_)
    go_simp
    refine (HY.out w3).mono ?_
    rintro r w4 ⟨v2, rfl, ⟨s2, rfl, k2⟩, hB⟩
    have HB4 := Lh (Qf HB3.out hB)
    have k2' := k2
    obtain ⟨p2, c2, rfl, _⟩ := k2'
    have FY4 : Hid (FinV w4 (.agg #[.bool ny, .bool false, .slice p2 (dgs cy).length c2, .int .i64 ey]) ny cy ey) := Lh ⟨_, rfl, k2⟩
    have FA4 := Lh (Qb FA3.out hB)
    have FB4 := Lh (Qb FB3.out hB)
    have FX4 := Lh (FX3.out.later hB)
    refine hK _ _ (HC.out _ HB4.out) ?_
    clear hK K hB k2
    try simp only [Act.put,Zp_]
  all_goals
   obtain ⟨hBs, hb5, hBt, hT2⟩ := Q3E HB4.out FA4.out FB4.out LA LB NE FX4.out FY4.out
   have a0 := Q1 FA4.out 0 rfl; have a1 := Q1 FA4.out 1 rfl; have a2 := Q1 FA4.out 2 rfl; have a3 := Q1 FA4.out 3 rfl
   have fa := (Ql FA4.out).2
   have fa0 := fa 0; have fa1 := fa 1; have fa2 := fa 2; have fa3 := fa 3
   have HT2 := Lh hT2; have HBs := Lh hBs; have HBt := Lh hBt; have Hb5 := Lh hb5
   unfold set4 at HT2 HBs HBt Hb5
   clear hT2 hBs hBt hb5 fa
   refine AH.o 6 (fun K hK => ?_)
   go_simp
   refine hK _ _ (HC.out _ HBs.out) ?_
   clear hK K a0 a1 a2 a3 fa0 fa1 fa2 fa3
   try simp only [Act.put,Zp_]
   generalize (((w4.setCell ⟨gA, 0, none⟩ (.bool nx)).setCell ⟨gA, 1, none⟩ (.bool false)).setCell ⟨gA, 2, none⟩ (.slice p1 (dgs cx).length c1)).setCell ⟨gA, 3, none⟩ (.int .i64 ex) = ws at HT2 HBs HBt Hb5 ⊢
   have b0 := Q1 Hb5.out 0 rfl; have b1 := Q1 Hb5.out 1 rfl; have b2 := Q1 Hb5.out 2 rfl; have b3 := Q1 Hb5.out 3 rfl
   have fb := (Ql Hb5.out).2
   have fb0 := fb 0; have fb1 := fb 1; have fb2 := fb 2; have fb3 := fb 3
   clear fb
   refine AH.o 7 (fun K hK => ?_)
   go_simp
   refine hK _ _ (HC.out _ HBt.out) ?_
   clear hK K
   try simp only [Act.put,Zp_]
   refine AH.done (by kernel_rfl) ?_
   go_wp2_with fail
   go_meet
   exact HT2.out
 case rest =>
  obtain ⟨gA, gB, p1, l1, c1, p2, l2, c2, rfl, rfl, ⟨hA, hB⟩, n1, n2, lA, lB, ne, hBx⟩ := hcut
  have HAc := Lh (HA0.out.later hBx)
  have FXc : Hid (∀ k, FinV (wc.drewN k) (.agg #[.bool nx, .bool false, .slice p1 l1 c1, .int .i64 ex]) nx cx ex) := Lh (fun k => n1.later ⟨rfl, rfl, rfl, Nat.le_refl _, fun _ _ => rfl⟩)
  have a0 := Q1 hA 0 rfl; have a1 := Q1 hA 1 rfl; have a2 := Q1 hA 2 rfl; have a3 := Q1 hA 3 rfl
  have HZ := Lh (fun k => Q1H (w := wc.drewN k) (v := .agg #[.bool false, .slice p1 l1 c1]) (neg := false) (n := cx) ⟨_, rfl, (FXc.out k).slice.1⟩)
  have HgA : Hid (∀ k, (wc.drewN k).heap[gA]? = some (.cells #[.bool nx, .bool false, .slice p1 l1 c1, .int .i64 ex] 71 (0, 0))) := Lh (fun k => hA)
  clear hA hB n1 n2 lA lB ne hBx HC c0 c1' c2' c3' c4' x0 x1 x2 x3 y0 y1 y2 y3
  have cb := (Ql HAc.out.cb).1
  have c0 := Q1 HAc.out.cb 0 rfl; have c1' := Q1 HAc.out.cb 1 rfl; have c2' := Q1 HAc.out.cb 2 rfl; have c3' := Q1 HAc.out.cb 3 rfl; have c4' := Q1 HAc.out.cb 4 rfl
  clear cb
  have x0 := Q1 HAc.out.xb 0 rfl; have x1 := Q1 HAc.out.xb 1 rfl; have x2 := Q1 HAc.out.xb 2 rfl; have x3 := Q1 HAc.out.xb 3 rfl
  have y0 := Q1 HAc.out.yb 0 rfl; have y1 := Q1 HAc.out.yb 1 rfl; have y2 := Q1 HAc.out.yb 2 rfl; have y3 := Q1 HAc.out.yb 3 rfl
  cases nx
  ·have HV : Hid (A = inW 4 p mx false ex cx) := HV0
   obtain ⟨f', n', e', s', k', a', b', c', hR⟩ := Q36 p mx false ex cx
   have HFb := Lh (fun w2 p1 l1 c1 h => HF.out w2 p1 l1 c1 h)
   rw [hR] at HFb HV
   unfold RsV at HFb
   clear hR
   go_wp2_with fail
   go_quiet (fail)
   go_wp2_with fail
   refine (HFb.out _ _ _ _ (FXc.out _)).mono ?_
   rintro r w9 ⟨rfl, hB⟩
   have HA9 := Lh ((HAc.out.drewN _).later hB)
   clear hB HAc a0 a1 a2 a3 c0 c1' c2' c3' c4' x0 x1 x2 x3 y0 y1 y2 y3
   obtain ⟨r0, r1, r2, r3, r4, r5, r6, r7⟩ := HA9.out.rc
   have rf := HA9.out.rf
   have f0 := rf 0; have f1 := rf 1; have f2 := rf 2; have f3 := rf 3; have f4 := rf 4; have f5 := rf 5; have f6 := rf 6; have f7 := rf 7
   clear rf
   go_wp2_with fail
   have h8 := QV HA9.out.rb (.int .i64 f') (.bool n') (.int .i32 e') (.string s') (.int .u32 (k' : Int)) (.bool a') (.bool b') (.bool c')
   have hb := HA9.out.done (.int .i64 f') (.bool n') (.int .i32 e') (.string s') (.int .u32 (k' : Int)) (.bool a') (.bool b') (.bool c')
   unfold set8 at h8 hb
   exact bodyPost_ret (v := .agg #[.int .i64 f', .bool n', .int .i32 e', .string s', .int .u32 (k' : Int), .bool a', .bool b', .bool c']) (by simp [results, Tryz.results13, go_sem, h8]) rfl ⟨QM (by rw [HV.out]; rfl), hb⟩
  ·have HV : Hid (A = inW 4 p mx true ex cx) := HV0
   obtain ⟨f', n', e', s', k', a', b', c', hR⟩ := Q36 p mx true ex cx
   have HFb := Lh (fun w2 p1 l1 c1 h => HF.out w2 p1 l1 c1 h)
   rw [hR] at HFb HV
   unfold RsV at HFb
   clear hR
   go_wp2_with fail
   go_quiet (fail)
   go_wp2_with fail
   refine (HFb.out _ _ _ _ (FXc.out _)).mono ?_
   rintro r w9 ⟨rfl, hB⟩
   have HA9 := Lh ((HAc.out.drewN _).later hB)
   clear hB HAc a0 a1 a2 a3 c0 c1' c2' c3' c4' x0 x1 x2 x3 y0 y1 y2 y3
   obtain ⟨r0, r1, r2, r3, r4, r5, r6, r7⟩ := HA9.out.rc
   have rf := HA9.out.rf
   have f0 := rf 0; have f1 := rf 1; have f2 := rf 2; have f3 := rf 3; have f4 := rf 4; have f5 := rf 5; have f6 := rf 6; have f7 := rf 7
   clear rf
   go_wp2_with fail
   have h8 := QV HA9.out.rb (.int .i64 f') (.bool n') (.int .i32 e') (.string s') (.int .u32 (k' : Int)) (.bool a') (.bool b') (.bool c')
   have hb := HA9.out.done (.int .i64 f') (.bool n') (.int .i32 e') (.string s') (.int .u32 (k' : Int)) (.bool a') (.bool b') (.bool c')
   unfold set8 at h8 hb
   exact bodyPost_ret (v := .agg #[.int .i64 f', .bool n', .int .i32 e', .string s', .int .u32 (k' : Int), .bool a', .bool b', .bool c']) (by simp [results, Tryz.results13, go_sem, h8]) rfl ⟨QM (by rw [HV.out]; rfl), hb⟩
end Go.Proofs.YtamldngoemdfgaaGreatDoor
