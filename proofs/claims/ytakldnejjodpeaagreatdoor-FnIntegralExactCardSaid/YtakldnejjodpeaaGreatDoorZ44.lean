/- a part of the proof -/
import Derived.Test.YtakldnejjodpeaaGreatDoorZ39
set_option linter.all false
set_option maxRecDepth 100000
set_option maxHeartbeats 16000000
namespace Go.Proofs.YtakldnejjodpeaaGreatDoor
open Go Go.RowKit
theorem Q3B {w : World} (p md tr : Nat) (mx mn : Int) (hp : p ≤ 60) (hmx : 0 ≤ mx ∧ mx ≤ 500) (hmn : mn ≤ 0 ∧ -500 ≤ mn) (hmd : md < 8) {v : Value} {n : Bool} {c : Nat} {e : Int} (hx : FinV w v n c e) (he : -10000 ≤ e ∧ e ≤ 10000) (hlen : (dgs c).length ≤ 10000) :
  Calls Tryz.prog 50 #[.int .i64 10, CV p mx mn tr md, v] w fun r w' => r = .returned (inV true mx mn md n e c) ∧ Below w.heap.size w w' := by
 obtain ⟨s, rfl, hs⟩ := hx
 have hs0 := Lh hs
 obtain ⟨q, cap, rfl, _⟩ := hs
 obtain ⟨hmx1, hmx2⟩ := hmx
 obtain ⟨hmn1, hmn2⟩ := hmn
 obtain ⟨he1, he2⟩ := he
 have H0 := Lh (FS.start (w := w) (p := (p : Int)) (mx := mx) (mn := mn) (tr := (tr : Int)) (md := (md : Int)) (n := n) (s := .slice q (dgs c).length cap) (e := e))
 have HD0 : Hid (∀ w2, Below w.heap.size w w2 → NumV w2 (.agg #[.bool false, .slice q (dgs c).length cap]) false c) := Lh (fun w2 h => ⟨_, rfl, hs0.out.later h⟩)
 have HF0 : Hid (∀ w2, Below w.heap.size w w2 → FinV w2 (.agg #[.bool n, .bool false, .slice q (dgs c).length cap, .int .i64 e]) n c e) := Lh (fun w2 h => ⟨_, rfl, hs0.out.later h⟩)
 have i2 : IntKind.i64.wrap mn = mn := IntWalk.i64_in _ (by omega)
 have i5 : IntKind.i64.wrap mx = mx := IntWalk.i64_in _ (by omega)
 have i1 : IntKind.i64.wrap (p : Int) = (p : Int) := IntWalk.i64_in _ (by omega)
 have o7 : bits .or .u32 64 16 = 80 := by kernel_rfl
 obtain ⟨S, hS⟩ : ∃ S, S = inV true mx mn md n e c := ⟨_, rfl⟩
 rw [← hS]
 have HS := Lh hS
 generalize hL : (dgs c).length = L at H0 HD0 HF0 hlen ⊢
 have HL := Lh hL
 obtain ⟨wA, hwA⟩ : ∃ wA, wA = ((w.alloc (.cells #[.int .u32 (p : Int), .int .i32 mx, .int .i32 mn, .int .u32 (tr : Int), .int .i64 (md : Int)] 24)).alloc (.cells #[.bool n, .bool false, .slice q L cap, .int .i64 e] 71)).alloc (.cells #[.int .i64 0, .bool false, .int .i32 0, .string ⟨#[]⟩, .int .u32 0, .bool false, .bool false, .bool false] 38) := ⟨_, rfl⟩
 rw [← hwA] at H0
 unfold CV
 clear hs0 hS hL
 obtain ⟨c0, c1, c2, c4⟩ := H0.out.cc
 obtain ⟨x0, x1, x2, x3⟩ := H0.out.xc
 go_enter Tryz.func50, Tryz.ntmps50
 go_upto_region 1 with (fail)
 rw [← hwA]
 clear hwA
 by_cases h0 : 0 ≤ e
 ·have b0 : decide (0 ≤ e) = true := decide_eq_true h0
  have HV : Hid (S = RsV 0 n e (txS c) 0 (e == 0) false false) := Lh (by rw [HS.out]; unfold inV; rw [if_pos h0])
  have HT : Hid (∀ w2, Below w.heap.size w w2 → Calls Tryz.prog 49 #[.agg #[.bool n, .bool false, .slice q L cap, .int .i64 e]] w2 fun r w' => r = .returned (DV 0 n e (txS c)) ∧ Below w2.heap.size w2 w') := Lh (fun w2 h => Q0c (HF0.out w2 h) (by omega) (by rw [HL.out]; omega))
  unfold DV at HT
  generalize txS c = T0 at HT HV
  clear h0
  go_upto_region 8 with (fail)
  clear c0 c1 c2 c4
  refine AH.start (fun x => x.cell? ⟨w.heap.size + 1, 0, none⟩ = some (.bool n) ∧ x.cell? ⟨w.heap.size + 1, 1, none⟩ = some (.bool false) ∧ x.cell? ⟨w.heap.size + 1, 2, none⟩ = some (.slice q L cap) ∧ x.cell? ⟨w.heap.size + 1, 3, none⟩ = some (.int .i64 e)) (by kernel_rfl) ?_
  clear x0 x1 x2 x3
  generalize hw2 : wA.drew = w2
  have H2 : Hid (FS w (p : Int) mx mn (tr : Int) (md : Int) n (.slice q L cap) e w2) := by rw [← hw2]; exact Lh H0.out.drew
  clear hw2 H0
  have s2 := H2.out.xc
  refine AH.z 0 s2 ?_
  refine AH.z 2 s2 ?_
  refine AH.z 3 s2 ?_
  refine AH.z 4 s2 ?_
  refine AH.o 1 (fun K hK => ?_)
  go_simp
  refine (HT.out _ H2.out.bw).mono ?_
  rintro r w3 ⟨rfl, hB⟩
  have H3 := Lh (H2.out.later hB)
  have s3 := H3.out.xc
  refine hK _ _ s3 ?_
  clear hK K hB s2 H2
  try simp only [Act.put,Zp_]
  refine AH.z 5 s3 ?_
  obtain ⟨r0, r1, r2, r3, r4, r5, r6, r7⟩ := H3.out.rc
  obtain ⟨f0, f1, f2, f3, f4, f5, f6, f7⟩ := H3.out.rf
  refine AH.o 6 (fun K hK => ?_)
  go_simp
  refine hK _ _ (by have hx := Qf (Q5k H3.out.xb (by omega : w.heap.size + 1 ≠ w.heap.size + 1 + 1) (.int .i64 0) (.bool n) (.int .i32 e) (.string T0) (.int .u32 0) (.bool (e == 0)) (.bool false) (.bool false)); exact ⟨hx.1 0, hx.1 1, hx.1 2, hx.1 3⟩) ?_
  clear hK K s3 r0 r1 r2 r3 r4 r5 r6 r7 f0 f1 f2 f3 f4 f5 f6 f7
  try simp only [Act.put,Zp_]
  refine AH.done (by kernel_rfl) ?_
  go_wp2_with fail
  have h8 := Ql H3.out.rb (.int .i64 0) (.bool n) (.int .i32 e) (.string T0) (.int .u32 0) (.bool (e == 0)) (.bool false) (.bool false)
  have hb := H3.out.done (.int .i64 0) (.bool n) (.int .i32 e) (.string T0) (.int .u32 0) (.bool (e == 0)) (.bool false) (.bool false)
  unfold set8 at h8 hb
  exact bodyPost_ret (v := .agg #[.int .i64 0, .bool n, .int .i32 e, .string T0, .int .u32 0, .bool (e == 0), .bool false, .bool false]) (by simp [results, Tryz.results50, go_sem, h8]) rfl ⟨Qk (by rw [HV.out]; rfl), hb⟩
 ·have b0 : decide (0 ≤ e) = false := decide_eq_false h0
  obtain ⟨k, hk⟩ : ∃ k, k = (-e).toNat := ⟨_, rfl⟩
  have hki : -e = (k : Int) := by omega
  have i8 : IntKind.i64.wrap (-e) = (k : Int) := by rw [hki]; exact IntWalk.i64_in _ (by omega)
  have HV : Hid (S = if lostP md c k ∨ c = 0 ∨ e + ndg c - 1 < mn ∨ (rdiv md n c k ≠ 0 ∧ mx < (ndg (rdiv md n c k) : Int) - 1) then RsV 0 false 0 ⟨#[]⟩ 0 false false false else RsV 0 n 0 (txS (rdiv md n c k)) (if decide (c % 10 ^ k = 0) = true then 64 else 80) true false false) := Lh (by
   rw [HS.out]; unfold inV; rw [if_neg h0, ← hk]
   by_cases hz : c % 10 ^ k = 0
   ·rw [decide_eq_true hz, if_pos hz]; rfl
   ·rw [decide_eq_false hz, if_neg hz]; rfl)
  have HR : Hid (∀ w2, Below w.heap.size w w2 → Calls Tryz.prog 96 #[.int .i64 (md : Int), .bool n, .agg #[.bool false, .slice q L cap], .int .i64 (k : Int)] w2 fun e w' => ∃ v', e = .returned (.tuple #[v', .bool (decide (c % 10 ^ k = 0))]) ∧ NumV w' v' false (rdiv md n c k) ∧ Below w2.heap.size w2 w') := Lh (fun w2 h => Q0F md hmd n c (HD0.out w2 h) k (by omega) (by rw [HL.out]; omega))
  have HLo : Hid (∀ w2, Below w.heap.size w w2 → Calls Tryz.prog 107 #[.int .i64 (md : Int), .agg #[.bool n, .bool false, .slice q L cap, .int .i64 e], .int .i64 (k : Int)] w2 (Says (lostP md c k) w2)) := Lh (fun w2 h => Q6B md (HF0.out w2 h) k)
  have HNQ : Hid (ndg (rdiv md n c k) ≤ 10001 ∧ (dgs (rdiv md n c k)).length ≤ 4000000000) := Lh (by
   have h2 := (Q0K md n c k).2
   have h3 := Nat.div_le_self c (10 ^ k)
   have h4 := QI c
   rw [HL.out] at h4
   have h5 : ndg (rdiv md n c k) ≤ L + 1 := Q0D (by omega) (by rw [Nat.pow_succ]; omega)
   refine ⟨by omega, ?_⟩
   by_cases e0 : rdiv md n c k = 0
   ·rw [e0, Qr]; simp
   ·rw [Qw _ e0]; omega)
  have HTo : Hid (∀ w2 s' c', Below w.heap.size w w2 → NumV w2 (.agg #[.bool false, s']) false c' → (dgs c').length ≤ 4000000000 → Calls Tryz.prog 49 #[.agg #[.bool n, .bool false, s', .int .i64 0]] w2 fun r w' => r = .returned (.agg #[.int .i64 0, .bool n, .int .i32 0, .string (txS c')]) ∧ Below w2.heap.size w2 w') := Lh (fun w2 s' c' h hN hl => by
   obtain ⟨s'', hs', hd⟩ := hN
   have hq : s' = s'' := by
    have := congrArg (fun v => match v with | Value.agg cs => cs.toList | _ => []) hs'
    simpa using this
   exact Q0c ⟨_, rfl, by rw [hq]; exact hd⟩ (by omega) hl)
  have HNc : Hid (c ≠ 0 → ndg c ≤ 10000) := Lh (fun h => by have := Qw c h; rw [HL.out] at this; omega)
  generalize decide (c % 10 ^ k = 0) = ex at HR HV
  generalize rdiv md n c k = Q at HR HV HNQ
  clear hk hki h0
  go_wp2_with fail
  refine (HR.out _ H0.out.bw).mono ?_
  rintro r w4 ⟨v4, rfl, ⟨s4, rfl, k4⟩, hB⟩
  have H4 := Lh (H0.out.later hB)
  have N4 : Hid (NumV w4 (.agg #[.bool false, s4]) false Q) := Lh ⟨s4, rfl, k4⟩
  obtain ⟨p4, cp4, rfl, _⟩ := k4
  generalize hl4 : (dgs Q).length = l4 at N4 ⊢
  clear hB c0 c1 c2 c4 x0 x1 x2 x3 H0 hl4 HR
  go_upto_region 10 with (fail)
  have H5 := Lh (H4.out.al (.cells #[.bool false, .slice p4 l4 cp4] 43))
  have N5 := Lh (N4.out.later (Qd w4 (.cells #[.bool false, .slice p4 l4 cp4] 43)))
  have Q5 := Lh (gal w4 (.cells #[.bool false, .slice p4 l4 cp4] 43))
  have G5 : Hid (w4.heap.size ≠ w.heap.size + 1 + 1) := Lh (by have := H4.out.size; omega)
  generalize hg : w4.heap.size = gq at Q5 G5 ⊢
  generalize hw5 : w4.alloc (.cells #[.bool false, .slice p4 l4 cp4] 43) = w5 at H5 N5 Q5 ⊢
  clear hg hw5 H4 N4
  refine AH.start (fun x => (x.cell? ⟨w.heap.size + 1, 0, none⟩ = some (.bool n) ∧ x.cell? ⟨w.heap.size + 1, 1, none⟩ = some (.bool false) ∧ x.cell? ⟨w.heap.size + 1, 2, none⟩ = some (.slice q L cap) ∧ x.cell? ⟨w.heap.size + 1, 3, none⟩ = some (.int .i64 e)) ∧ x.cell? ⟨w.heap.size, 1, none⟩ = some (.int .i32 mx) ∧ x.cell? ⟨w.heap.size, 2, none⟩ = some (.int .i32 mn) ∧ x.cell? ⟨w.heap.size, 4, none⟩ = some (.int .i64 (md : Int))) (by kernel_rfl) ?_
  generalize hw6 : w5.drew = w6
  have hs6 : Below w5.heap.size w5 w6 := by rw [← hw6]; exact (Below.refl _ _).drew
  have H6 := Lh (H5.out.later hs6); have N6 := Lh (N5.out.later hs6); have Q6 := Lh (Qa Q5.out hs6)
  clear hw6 hs6 H5 N5 Q5
  have s6 : (w6.cell? ⟨w.heap.size + 1, 0, none⟩ = some (.bool n) ∧ w6.cell? ⟨w.heap.size + 1, 1, none⟩ = some (.bool false) ∧ w6.cell? ⟨w.heap.size + 1, 2, none⟩ = some (.slice q L cap) ∧ w6.cell? ⟨w.heap.size + 1, 3, none⟩ = some (.int .i64 e)) ∧ w6.cell? ⟨w.heap.size, 1, none⟩ = some (.int .i32 mx) ∧ w6.cell? ⟨w.heap.size, 2, none⟩ = some (.int .i32 mn) ∧ w6.cell? ⟨w.heap.size, 4, none⟩ = some (.int .i64 (md : Int)) := ⟨H6.out.xc, H6.out.cc.2.1, H6.out.cc.2.2.1, H6.out.cc.2.2.2⟩
  refine AH.z 0 s6 ?_
  refine AH.z 1 s6 ?_
  refine AH.z 2 s6 ?_
  refine AH.z 3 s6 ?_
  refine AH.z 4 s6 ?_
  refine AH.z 5 s6 ?_
  refine AH.z 6 s6 ?_
  refine AH.z 7 s6 ?_
  refine AH.z 8 s6 ?_
  refine AH.o 9 (fun K hK => ?_)
  go_simp
  refine (HLo.out _ H6.out.bw).mono ?_
  rintro r w7 ⟨bl, rfl, hl, hB⟩
  have H7 := Lh (H6.out.later hB); have N7 := Lh (N6.out.later hB); have Q7 := Lh (Qa Q6.out hB)
  have HLP := Lh hl
  have s7 : (w7.cell? ⟨w.heap.size + 1, 0, none⟩ = some (.bool n) ∧ w7.cell? ⟨w.heap.size + 1, 1, none⟩ = some (.bool false) ∧ w7.cell? ⟨w.heap.size + 1, 2, none⟩ = some (.slice q L cap) ∧ w7.cell? ⟨w.heap.size + 1, 3, none⟩ = some (.int .i64 e)) ∧ w7.cell? ⟨w.heap.size, 1, none⟩ = some (.int .i32 mx) ∧ w7.cell? ⟨w.heap.size, 2, none⟩ = some (.int .i32 mn) ∧ w7.cell? ⟨w.heap.size, 4, none⟩ = some (.int .i64 (md : Int)) := ⟨H7.out.xc, H7.out.cc.2.1, H7.out.cc.2.2.1, H7.out.cc.2.2.2⟩
  refine hK _ _ s7 ?_
  clear hK K hB hl s6 H6 N6 Q6 HLo
  try simp only [Act.put,Zp_]
  cases bl
  rotate_left
  ·have HV2 : Hid (S = RsV 0 false 0 ⟨#[]⟩ 0 false false false) := Lh (by rw [HV.out, if_pos (.inl (HLP.out.1 rfl))])
   refine AH.z 10 s7 ?_
   refine AH.p 11 s7 ?_
   refine AH.p 12 s7 ?_
   refine AH.p 13 s7 ?_
   refine AH.z 14 s7 ?_
   refine AH.z 15 s7 ?_
   refine AH.p 16 s7 ?_
   refine AH.p 17 s7 ?_
   refine AH.p 18 s7 ?_
   refine AH.p 19 s7 ?_
   refine AH.p 20 s7 ?_
   refine AH.p 21 s7 ?_
   refine AH.p 22 s7 ?_
   refine AH.p 23 s7 ?_
   refine AH.p 24 s7 ?_
   refine AH.p 25 s7 ?_
   refine AH.p 26 s7 ?_
   refine AH.z 27 s7 ?_
   refine AH.z 28 s7 ?_
   clear s7
   refine AH.done (by kernel_rfl) ?_
   obtain ⟨r0, r1, r2, r3, r4, r5, r6, r7⟩ := H7.out.rc
   obtain ⟨f0, f1, f2, f3, f4, f5, f6, f7⟩ := H7.out.rf
   go_wp2_with fail
   have h8 := Ql H7.out.rb (.int .i64 0) (.bool false) (.int .i32 0) (.string ⟨#[]⟩) (.int .u32 0) (.bool false) (.bool false) (.bool false)
   have hb := H7.out.done (.int .i64 0) (.bool false) (.int .i32 0) (.string ⟨#[]⟩) (.int .u32 0) (.bool false) (.bool false) (.bool false)
   unfold set8 at h8 hb
   exact bodyPost_ret (v := .agg #[.int .i64 0, .bool false, .int .i32 0, .string ⟨#[]⟩, .int .u32 0, .bool false, .bool false, .bool false]) (by simp [results, Tryz.results50, go_sem, h8]) rfl ⟨Qk (by rw [HV2.out]; rfl), hb⟩
  refine AH.z 10 s7 ?_
  refine AH.z 11 s7 ?_
  refine AH.z 12 s7 ?_
  refine AH.o 13 (fun K hK => ?_)
  go_simp
  refine (QJ (HD0.out _ H7.out.bw)).mono ?_
  rintro r w8 ⟨rfl, hB⟩
  have H8 := Lh (H7.out.later hB); have N8 := Lh (N7.out.later hB); have Q8 := Lh (Qa Q7.out hB)
  have s8 : (w8.cell? ⟨w.heap.size + 1, 0, none⟩ = some (.bool n) ∧ w8.cell? ⟨w.heap.size + 1, 1, none⟩ = some (.bool false) ∧ w8.cell? ⟨w.heap.size + 1, 2, none⟩ = some (.slice q L cap) ∧ w8.cell? ⟨w.heap.size + 1, 3, none⟩ = some (.int .i64 e)) ∧ w8.cell? ⟨w.heap.size, 1, none⟩ = some (.int .i32 mx) ∧ w8.cell? ⟨w.heap.size, 2, none⟩ = some (.int .i32 mn) ∧ w8.cell? ⟨w.heap.size, 4, none⟩ = some (.int .i64 (md : Int)) := ⟨H8.out.xc, H8.out.cc.2.1, H8.out.cc.2.2.1, H8.out.cc.2.2.2⟩
  refine hK _ _ s8 ?_
  clear hK K hB s7 H7 N7 Q7
  try simp only [Act.put,Zp_]
  by_cases hc0 : c = 0
  ·have HV2 : Hid (S = RsV 0 false 0 ⟨#[]⟩ 0 false false false) := Lh (by rw [HV.out, if_pos (.inr (.inl hc0))])
   rw [decide_eq_true hc0]
   clear hc0
   refine AH.z 14 s8 ?_
   refine AH.z 15 s8 ?_
   refine AH.p 16 s8 ?_
   refine AH.p 17 s8 ?_
   refine AH.p 18 s8 ?_
   refine AH.p 19 s8 ?_
   refine AH.p 20 s8 ?_
   refine AH.p 21 s8 ?_
   refine AH.p 22 s8 ?_
   refine AH.p 23 s8 ?_
   refine AH.p 24 s8 ?_
   refine AH.p 25 s8 ?_
   refine AH.p 26 s8 ?_
   refine AH.z 27 s8 ?_
   refine AH.z 28 s8 ?_
   clear s8
   refine AH.done (by kernel_rfl) ?_
   obtain ⟨r0, r1, r2, r3, r4, r5, r6, r7⟩ := H8.out.rc
   obtain ⟨f0, f1, f2, f3, f4, f5, f6, f7⟩ := H8.out.rf
   go_wp2_with fail
   have h8 := Ql H8.out.rb (.int .i64 0) (.bool false) (.int .i32 0) (.string ⟨#[]⟩) (.int .u32 0) (.bool false) (.bool false) (.bool false)
   have hb := H8.out.done (.int .i64 0) (.bool false) (.int .i32 0) (.string ⟨#[]⟩) (.int .u32 0) (.bool false) (.bool false) (.bool false)
   unfold set8 at h8 hb
   exact bodyPost_ret (v := .agg #[.int .i64 0, .bool false, .int .i32 0, .string ⟨#[]⟩, .int .u32 0, .bool false, .bool false, .bool false]) (by simp [results, Tryz.results50, go_sem, h8]) rfl ⟨Qk (by rw [HV2.out]; rfl), hb⟩
  rw [decide_eq_false hc0]
  have hN1 := HNc.out hc0
  have hN0 := Qi c
  have HC0 := Lh hc0
  clear hc0
  generalize hN : ndg c = N at hN1 hN0 HV
  have HN := Lh hN
  clear hN
  have i6 : IntKind.i64.wrap (e + (N : Int)) = e + (N : Int) := IntWalk.i64_in _ (by omega)
  have i7 : IntKind.i64.wrap (e + (N : Int) - 1) = e + (N : Int) - 1 := IntWalk.i64_in _ (by omega)
  refine AH.z 14 s8 ?_
  refine AH.z 15 s8 ?_
  refine AH.z 16 s8 ?_
  refine AH.z 17 s8 ?_
  refine AH.z 18 s8 ?_
  refine AH.z 19 s8 ?_
  refine AH.z 23 s8 ?_
  refine AH.z 24 s8 ?_
  refine AH.z 25 s8 ?_
  refine AH.o 20 (fun K hK => ?_)
  go_simp
  refine (Qh (HD0.out _ H8.out.bw)).mono ?_
  rintro r w9 ⟨rfl, hB⟩
  rw [HN.out]
  have H9 := Lh (H8.out.later hB); have N9 := Lh (N8.out.later hB); have Q9 := Lh (Qa Q8.out hB)
  have s9 : (w9.cell? ⟨w.heap.size + 1, 0, none⟩ = some (.bool n) ∧ w9.cell? ⟨w.heap.size + 1, 1, none⟩ = some (.bool false) ∧ w9.cell? ⟨w.heap.size + 1, 2, none⟩ = some (.slice q L cap) ∧ w9.cell? ⟨w.heap.size + 1, 3, none⟩ = some (.int .i64 e)) ∧ w9.cell? ⟨w.heap.size, 1, none⟩ = some (.int .i32 mx) ∧ w9.cell? ⟨w.heap.size, 2, none⟩ = some (.int .i32 mn) ∧ w9.cell? ⟨w.heap.size, 4, none⟩ = some (.int .i64 (md : Int)) := ⟨H9.out.xc, H9.out.cc.2.1, H9.out.cc.2.2.1, H9.out.cc.2.2.2⟩
  refine hK _ _ s9 ?_
  clear hK K hB s8 H8 N8 Q8
  try simp only [Act.put,Zp_]
  refine AH.z 21 s9 ?_
  refine AH.z 22 s9 ?_
  by_cases had : e + (N : Int) - 1 < mn
  ·have HV2 : Hid (S = RsV 0 false 0 ⟨#[]⟩ 0 false false false) := Lh (by rw [HV.out, if_pos (.inr (.inr (.inl had)))])
   have bad : decide (e + (N : Int) - 1 < mn) = true := decide_eq_true had
   refine AH.z 26 s9 ?_
   try rw [bad]
   refine AH.z 27 s9 ?_
   refine AH.z 28 s9 ?_
   clear s9
   refine AH.done (by kernel_rfl) ?_
   obtain ⟨r0, r1, r2, r3, r4, r5, r6, r7⟩ := H9.out.rc
   obtain ⟨f0, f1, f2, f3, f4, f5, f6, f7⟩ := H9.out.rf
   go_wp2_with fail
   have h8 := Ql H9.out.rb (.int .i64 0) (.bool false) (.int .i32 0) (.string ⟨#[]⟩) (.int .u32 0) (.bool false) (.bool false) (.bool false)
   have hb := H9.out.done (.int .i64 0) (.bool false) (.int .i32 0) (.string ⟨#[]⟩) (.int .u32 0) (.bool false) (.bool false) (.bool false)
   unfold set8 at h8 hb
   exact bodyPost_ret (v := .agg #[.int .i64 0, .bool false, .int .i32 0, .string ⟨#[]⟩, .int .u32 0, .bool false, .bool false, .bool false]) (by simp [results, Tryz.results50, go_sem, h8]) rfl ⟨Qk (by rw [HV2.out]; rfl), hb⟩
  have bad : decide (e + (N : Int) - 1 < mn) = false := decide_eq_false had
  refine AH.z 26 s9 ?_
  try rw [bad]
  refine AH.z 27 s9 ?_
  refine AH.z 28 s9 ?_
  clear s9
  refine AH.done (by kernel_rfl) ?_
  have HV3 : Hid (¬ (Q ≠ 0 ∧ mx < (ndg Q : Int) - 1) → S = RsV 0 n 0 (txS Q) (if ex = true then 64 else 80) true false false) := Lh (fun h => by rw [HV.out, if_neg (by rintro (g | g | g | g); exact absurd (HLP.out.2 g) (by decide); exact HC0.out g; exact had g; exact h g)])
  have HV4 : Hid (Q ≠ 0 ∧ mx < (ndg Q : Int) - 1 → S = RsV 0 false 0 ⟨#[]⟩ 0 false false false) := Lh (fun h => by rw [HV.out, if_pos (.inr (.inr (.inr h)))])
  clear had HV HLP
  obtain ⟨c0, c1, c2, c4⟩ := H9.out.cc
  go_upto_region 13 with (fail)
  clear c0 c1 c2 c4
  refine AH.start (fun x => (x.cell? ⟨gq, 0, none⟩ = some (.bool false) ∧ x.cell? ⟨gq, 1, none⟩ = some (.slice p4 l4 cp4)) ∧ x.cell? ⟨w.heap.size, 1, none⟩ = some (.int .i32 mx)) (by kernel_rfl) ?_
  generalize hw10 : w9.drew = w10
  have hs10 : Below w9.heap.size w9 w10 := by rw [← hw10]; exact (Below.refl _ _).drew
  have H10 := Lh (H9.out.later hs10); have N10 := Lh (N9.out.later hs10); have Q10 := Lh (Qa Q9.out hs10)
  clear hw10 hs10 H9 N9 Q9
  have s10 : (w10.cell? ⟨gq, 0, none⟩ = some (.bool false) ∧ w10.cell? ⟨gq, 1, none⟩ = some (.slice p4 l4 cp4)) ∧ w10.cell? ⟨w.heap.size, 1, none⟩ = some (.int .i32 mx) := ⟨⟨Qu Q10.out 0 rfl, Qu Q10.out 1 rfl⟩, H10.out.cc.2.1⟩
  refine AH.z 0 s10 ?_
  refine AH.z 1 s10 ?_
  refine AH.z 2 s10 ?_
  refine AH.p 3 s10 ?_
  refine AH.p 4 s10 ?_
  refine AH.z 5 s10 ?_
  refine AH.z 6 s10 ?_
  refine AH.p 7 s10 ?_
  refine AH.p 8 s10 ?_
  refine AH.p 9 s10 ?_
  refine AH.p 10 s10 ?_
  refine AH.z 11 s10 ?_
  refine AH.z 12 s10 ?_
  refine AH.z 13 s10 ?_
  refine AH.o 14 (fun K hK => ?_)
  go_simp
  refine (QJ N10.out).mono ?_
  rintro r w11 ⟨rfl, hB⟩
  have H11 := Lh (H10.out.later hB); have N11 := Lh (N10.out.later hB); have Q11 := Lh (Qa Q10.out hB)
  have s11 : (w11.cell? ⟨gq, 0, none⟩ = some (.bool false) ∧ w11.cell? ⟨gq, 1, none⟩ = some (.slice p4 l4 cp4)) ∧ w11.cell? ⟨w.heap.size, 1, none⟩ = some (.int .i32 mx) := ⟨⟨Qu Q11.out 0 rfl, Qu Q11.out 1 rfl⟩, H11.out.cc.2.1⟩
  refine hK _ _ s11 ?_
  clear hK K hB s10 H10 N10 Q10
  try simp only [Act.put,Zp_]
  by_cases hq0 : Q = 0
  ·have HV2 := Lh (HV3.out (fun h => h.1 hq0))
   rw [decide_eq_true hq0]
   clear hq0 HV3 HV4
   refine AH.z 15 s11 ?_
   refine AH.z 16 s11 ?_
   refine AH.p 17 s11 ?_
   refine AH.p 18 s11 ?_
   refine AH.p 19 s11 ?_
   refine AH.p 20 s11 ?_
   refine AH.p 21 s11 ?_
   refine AH.p 22 s11 ?_
   refine AH.p 23 s11 ?_
   refine AH.z 24 s11 ?_
   refine AH.z 25 s11 ?_
   clear s11
   refine AH.done (by kernel_rfl) ?_
   cases ex
   ·obtain ⟨x0, x1, x2, x3⟩ := H11.out.xc
    have cq0 := Qu Q11.out 0 rfl; have cq1 := Qu Q11.out 1 rfl
    go_wp2_with fail
    refine (HTo.out _ _ _ H11.out.bw N11.out HNQ.out.2).mono ?_
    rintro r wU ⟨rfl, hB⟩
    have HU := Lh (H11.out.later hB)
    clear hB x0 x1 x2 x3 cq0 cq1 H11 N11 Q11
    generalize txS Q = T0 at HV2 ⊢
    obtain ⟨r0, r1, r2, r3, r4, r5, r6, r7⟩ := HU.out.rc
    obtain ⟨f0, f1, f2, f3, f4, f5, f6, f7⟩ := HU.out.rf
    go_wp2_with fail
    have h8 := Ql HU.out.rb (.int .i64 0) (.bool n) (.int .i32 0) (.string T0) (.int .u32 80) (.bool true) (.bool false) (.bool false)
    have hb := HU.out.done (.int .i64 0) (.bool n) (.int .i32 0) (.string T0) (.int .u32 80) (.bool true) (.bool false) (.bool false)
    unfold set8 at h8 hb
    exact bodyPost_ret (v := .agg #[.int .i64 0, .bool n, .int .i32 0, .string T0, .int .u32 80, .bool true, .bool false, .bool false]) (by simp [results, Tryz.results50, go_sem, h8]) rfl ⟨Qk (by rw [HV2.out]; rfl), hb⟩
   ·obtain ⟨x0, x1, x2, x3⟩ := H11.out.xc
    have cq0 := Qu Q11.out 0 rfl; have cq1 := Qu Q11.out 1 rfl
    go_wp2_with fail
    refine (HTo.out _ _ _ H11.out.bw N11.out HNQ.out.2).mono ?_
    rintro r wU ⟨rfl, hB⟩
    have HU := Lh (H11.out.later hB)
    clear hB x0 x1 x2 x3 cq0 cq1 H11 N11 Q11
    generalize txS Q = T0 at HV2 ⊢
    obtain ⟨r0, r1, r2, r3, r4, r5, r6, r7⟩ := HU.out.rc
    obtain ⟨f0, f1, f2, f3, f4, f5, f6, f7⟩ := HU.out.rf
    go_wp2_with fail
    have h8 := Ql HU.out.rb (.int .i64 0) (.bool n) (.int .i32 0) (.string T0) (.int .u32 64) (.bool true) (.bool false) (.bool false)
    have hb := HU.out.done (.int .i64 0) (.bool n) (.int .i32 0) (.string T0) (.int .u32 64) (.bool true) (.bool false) (.bool false)
    unfold set8 at h8 hb
    exact bodyPost_ret (v := .agg #[.int .i64 0, .bool n, .int .i32 0, .string T0, .int .u32 64, .bool true, .bool false, .bool false]) (by simp [results, Tryz.results50, go_sem, h8]) rfl ⟨Qk (by rw [HV2.out]; rfl), hb⟩
  rw [decide_eq_false hq0]
  have HQ0 := Lh hq0
  clear hq0
  have hM1 := HNQ.out.1
  have hM0 := Qi Q
  generalize hM : ndg Q = M at hM1 hM0 HV3 HV4
  have HM := Lh hM
  clear hM
  have j7 : IntKind.i64.wrap ((M : Int) - 1) = (M : Int) - 1 := IntWalk.i64_in _ (by omega)
  refine AH.z 15 s11 ?_
  refine AH.z 16 s11 ?_
  refine AH.z 17 s11 ?_
  refine AH.z 20 s11 ?_
  refine AH.z 21 s11 ?_
  refine AH.z 22 s11 ?_
  refine AH.o 18 (fun K hK => ?_)
  go_simp
  refine (Qh N11.out).mono ?_
  rintro r w12 ⟨rfl, hB⟩
  rw [HM.out]
  have H12 := Lh (H11.out.later hB); have N12 := Lh (N11.out.later hB); have Q12 := Lh (Qa Q11.out hB)
  have s12 : (w12.cell? ⟨gq, 0, none⟩ = some (.bool false) ∧ w12.cell? ⟨gq, 1, none⟩ = some (.slice p4 l4 cp4)) ∧ w12.cell? ⟨w.heap.size, 1, none⟩ = some (.int .i32 mx) := ⟨⟨Qu Q12.out 0 rfl, Qu Q12.out 1 rfl⟩, H12.out.cc.2.1⟩
  refine hK _ _ s12 ?_
  clear hK K hB s11 H11 N11 Q11
  try simp only [Act.put,Zp_]
  refine AH.z 19 s12 ?_
  by_cases hov : mx < (M : Int) - 1
  ·have HV2 := Lh (HV4.out ⟨HQ0.out, hov⟩)
   have bov : decide (mx < (M : Int) - 1) = true := decide_eq_true hov
   clear HV3 HV4 hov
   refine AH.z 23 s12 ?_
   try rw [bov]
   refine AH.z 24 s12 ?_
   refine AH.z 25 s12 ?_
   clear s12
   refine AH.done (by kernel_rfl) ?_
   obtain ⟨r0, r1, r2, r3, r4, r5, r6, r7⟩ := H12.out.rc
   obtain ⟨f0, f1, f2, f3, f4, f5, f6, f7⟩ := H12.out.rf
   go_wp2_with fail
   have h8 := Ql H12.out.rb (.int .i64 0) (.bool false) (.int .i32 0) (.string ⟨#[]⟩) (.int .u32 0) (.bool false) (.bool false) (.bool false)
   have hb := H12.out.done (.int .i64 0) (.bool false) (.int .i32 0) (.string ⟨#[]⟩) (.int .u32 0) (.bool false) (.bool false) (.bool false)
   unfold set8 at h8 hb
   exact bodyPost_ret (v := .agg #[.int .i64 0, .bool false, .int .i32 0, .string ⟨#[]⟩, .int .u32 0, .bool false, .bool false, .bool false]) (by simp [results, Tryz.results50, go_sem, h8]) rfl ⟨Qk (by rw [HV2.out]; rfl), hb⟩
  have HV2 := Lh (HV3.out (fun h => hov h.2))
  have bov : decide (mx < (M : Int) - 1) = false := decide_eq_false hov
  clear HV3 HV4 hov
  refine AH.z 23 s12 ?_
  try rw [bov]
  refine AH.z 24 s12 ?_
  refine AH.z 25 s12 ?_
  clear s12
  refine AH.done (by kernel_rfl) ?_
  cases ex
  ·obtain ⟨x0, x1, x2, x3⟩ := H12.out.xc
   have cq0 := Qu Q12.out 0 rfl; have cq1 := Qu Q12.out 1 rfl
   go_wp2_with fail
   refine (HTo.out _ _ _ H12.out.bw N12.out HNQ.out.2).mono ?_
   rintro r wU ⟨rfl, hB⟩
   have HU := Lh (H12.out.later hB)
   clear hB x0 x1 x2 x3 cq0 cq1 H12 N12 Q12
   generalize txS Q = T0 at HV2 ⊢
   obtain ⟨r0, r1, r2, r3, r4, r5, r6, r7⟩ := HU.out.rc
   obtain ⟨f0, f1, f2, f3, f4, f5, f6, f7⟩ := HU.out.rf
   go_wp2_with fail
   have h8 := Ql HU.out.rb (.int .i64 0) (.bool n) (.int .i32 0) (.string T0) (.int .u32 80) (.bool true) (.bool false) (.bool false)
   have hb := HU.out.done (.int .i64 0) (.bool n) (.int .i32 0) (.string T0) (.int .u32 80) (.bool true) (.bool false) (.bool false)
   unfold set8 at h8 hb
   exact bodyPost_ret (v := .agg #[.int .i64 0, .bool n, .int .i32 0, .string T0, .int .u32 80, .bool true, .bool false, .bool false]) (by simp [results, Tryz.results50, go_sem, h8]) rfl ⟨Qk (by rw [HV2.out]; rfl), hb⟩
  ·obtain ⟨x0, x1, x2, x3⟩ := H12.out.xc
   have cq0 := Qu Q12.out 0 rfl; have cq1 := Qu Q12.out 1 rfl
   go_wp2_with fail
   refine (HTo.out _ _ _ H12.out.bw N12.out HNQ.out.2).mono ?_
   rintro r wU ⟨rfl, hB⟩
   have HU := Lh (H12.out.later hB)
   clear hB x0 x1 x2 x3 cq0 cq1 H12 N12 Q12
   generalize txS Q = T0 at HV2 ⊢
   obtain ⟨r0, r1, r2, r3, r4, r5, r6, r7⟩ := HU.out.rc
   obtain ⟨f0, f1, f2, f3, f4, f5, f6, f7⟩ := HU.out.rf
   go_wp2_with fail
   have h8 := Ql HU.out.rb (.int .i64 0) (.bool n) (.int .i32 0) (.string T0) (.int .u32 64) (.bool true) (.bool false) (.bool false)
   have hb := HU.out.done (.int .i64 0) (.bool n) (.int .i32 0) (.string T0) (.int .u32 64) (.bool true) (.bool false) (.bool false)
   unfold set8 at h8 hb
   exact bodyPost_ret (v := .agg #[.int .i64 0, .bool n, .int .i32 0, .string T0, .int .u32 64, .bool true, .bool false, .bool false]) (by simp [results, Tryz.results50, go_sem, h8]) rfl ⟨Qk (by rw [HV2.out]; rfl), hb⟩
def arIe (_p : Nat) (mx mn : Int) (md : Nat) (f : Int) (n : Bool) (e : Int) (c : Nat) : Value :=
 if f = 0 then inV true mx mn md n e c else RsV 0 false 0 ⟨#[]⟩ 0 false false false
theorem Q3n (mx mn : Int) (md : Nat) (n : Bool) (e : Int) (c : Nat) : ∃ f n' e' s k a b o, inV true mx mn md n e c = RsV f n' e' s k a b o := by
 unfold inV
 split
 ·exact ⟨_, _, _, _, _, _, _, _, rfl⟩
 ·split
  ·exact ⟨_, _, _, _, _, _, _, _, rfl⟩
  ·exact ⟨_, _, _, _, _, _, _, _, rfl⟩
theorem Q5o {w : World} (p md tr : Nat) (mx mn : Int) (hp : p ≤ 60) (hmx : 0 ≤ mx ∧ mx ≤ 500) (hmn : mn ≤ 0 ∧ -500 ≤ mn) (hmd : md < 8) {E : Int} (hE : 0 ≤ E ∧ E ≤ 1000) (fx : Int) (nx : Bool) (ex : Int) (sx : ByteArray) (fy : Int) (ny : Bool) (ey : Int) (sy : ByteArray) (hx : ArOk E fx ex sx) (hy : ArOk E fy ey sy) :
  Calls Tryz.prog 15 #[.int .i64 10, CV p mx mn tr md, DV fx nx ex sx, DV fy ny ey sy] w fun r w' => r = .returned (arIe p mx mn md fx nx ex (vl (sdL sx 0))) ∧ Below w.heap.size w w' := by
 obtain ⟨hx1, hx2, hx3, hx4, hx5, hx6⟩ := hx.canon hE.1
 obtain ⟨hy1, hy2, hy3, hy4, hy5, hy6⟩ := hy.canon hE.1
 have hxl := hx1.len
 have HX : Hid (∀ w2, Calls Tryz.prog 39 #[.agg #[.int .i64 fx, .bool nx, .int .i32 ex, .string sx]] w2 fun r w' => ∃ v', r = .returned v' ∧ FinV w' v' nx (vl (sdL sx 0)) ex ∧ Below w2.heap.size w2 w') := Lh (fun w2 => Q0l fx nx ex sx (by omega) hx1 (by omega) w2)
 have HY : Hid (∀ w2, Calls Tryz.prog 39 #[.agg #[.int .i64 fy, .bool ny, .int .i32 ey, .string sy]] w2 fun r w' => ∃ v', r = .returned v' ∧ FinV w' v' ny (vl (sdL sy 0)) ey ∧ Below w2.heap.size w2 w') := Lh (fun w2 => Q0l fy ny ey sy (by omega) hy1 (by omega) w2)
 generalize vl (sdL sx 0) = cx at HX hxl ⊢
 generalize vl (sdL sy 0) = cy at HY
 have HF : Hid (∀ w2 p1 l1 c1, FinV w2 (.agg #[.bool nx, .bool false, .slice p1 l1 c1, .int .i64 ex]) nx cx ex → Calls Tryz.prog 50 #[.int .i64 10, .agg #[.int .u32 (p : Int), .int .i32 mx, .int .i32 mn, .int .u32 (tr : Int), .int .i64 (md : Int)], .agg #[.bool nx, .bool false, .slice p1 l1 c1, .int .i64 ex]] w2 fun r w' => r = .returned (inV true mx mn md nx ex cx) ∧ Below w2.heap.size w2 w') := Lh (fun w2 p1 l1 c1 h => Q3B p md tr mx mn hp hmx hmn hmd ⟨_, rfl, h.slice.1⟩ (by omega) (by omega))
 have HN1 : Hid (∀ w2, Calls Tryz.prog 38 #[.int .u32 1024] w2 fun r w' => r = .returned (.agg #[.int .i64 3, .bool false, .int .i32 0, .string ⟨#[]⟩, .int .u32 1024, .bool true, .bool false, .bool false]) ∧ Below w2.heap.size w2 w') := Lh (fun w2 => Q1q 1024 w2)
 have HN0 : Hid (∀ w2, Calls Tryz.prog 38 #[.int .u32 0] w2 fun r w' => r = .returned (.agg #[.int .i64 3, .bool false, .int .i32 0, .string ⟨#[]⟩, .int .u32 0, .bool true, .bool false, .bool false]) ∧ Below w2.heap.size w2 w') := Lh (fun w2 => Q1q 0 w2)
 have HI : Hid (∀ b w2, Calls Tryz.prog 40 #[.bool b, .int .u32 0] w2 fun r w' => r = .returned (.agg #[.int .i64 1, .bool b, .int .i32 0, .string ⟨#[]⟩, .int .u32 0, .bool true, .bool false, .bool false]) ∧ Below w2.heap.size w2 w') := Lh (fun b w2 => Q0M b 0 w2)
 obtain ⟨A, hA⟩ : ∃ A, A = arIe p mx mn md fx nx ex cx := ⟨_, rfl⟩
 rw [← hA]
 have HAV := Lh hA
 have HA0 := Lh (AS.start (w := w) (C := #[.int .u32 (p : Int), .int .i32 mx, .int .i32 mn, .int .u32 (tr : Int), .int .i64 (md : Int)]) (X := #[.int .i64 fx, .bool nx, .int .i32 ex, .string sx]) (Y := #[.int .i64 fy, .bool ny, .int .i32 ey, .string sy]))
 obtain ⟨wA, hwA⟩ : ∃ wA, wA = (((w.alloc (.cells #[.int .u32 (p : Int), .int .i32 mx, .int .i32 mn, .int .u32 (tr : Int), .int .i64 (md : Int)] 24)).alloc (.cells #[.int .i64 fx, .bool nx, .int .i32 ex, .string sx] 26)).alloc (.cells #[.int .i64 fy, .bool ny, .int .i32 ey, .string sy] 26)).alloc (.cells #[.int .i64 0, .bool false, .int .i32 0, .string ⟨#[]⟩, .int .u32 0, .bool false, .bool false, .bool false] 38) := ⟨_, rfl⟩
 rw [← hwA] at HA0
 have HP : IntKind.i64.wrap (p : Int) = (p : Int) := IntWalk.i64_in _ (by omega)
 have HX5 := Lh hx5; have HX6 := Lh hx6
 unfold CV DV
 clear hx hy hA hE hmx hmn hx1 hx2 hx3 hx4 hx5 hx6 hy1 hy2 hy3 hy4 hy5 hy6 hxl hp hmd
 have cb := (Qf HA0.out.cb).1
 have c0 := Q1 HA0.out.cb 0 rfl; have c1' := Q1 HA0.out.cb 1 rfl; have c2' := Q1 HA0.out.cb 2 rfl; have c3' := Q1 HA0.out.cb 3 rfl; have c4' := Q1 HA0.out.cb 4 rfl
 clear cb
 have x0 := Q1 HA0.out.xb 0 rfl; have x1 := Q1 HA0.out.xb 1 rfl; have x2 := Q1 HA0.out.xb 2 rfl; have x3 := Q1 HA0.out.xb 3 rfl
 have y0 := Q1 HA0.out.yb 0 rfl; have y1 := Q1 HA0.out.yb 1 rfl; have y2 := Q1 HA0.out.yb 2 rfl; have y3 := Q1 HA0.out.yb 3 rfl
 have HC : Hid (∀ w2, Below wA.heap.size wA w2 → w2.cell? ⟨w.heap.size + 1, 0, none⟩ = some (.int .i64 fx) ∧ w2.cell? ⟨w.heap.size + 1, 1, none⟩ = some (.bool nx) ∧ w2.cell? ⟨w.heap.size + 1, 2, none⟩ = some (.int .i32 ex) ∧ w2.cell? ⟨w.heap.size + 1, 3, none⟩ = some (.string sx) ∧ w2.cell? ⟨w.heap.size + 1 + 1, 0, none⟩ = some (.int .i64 fy) ∧ w2.cell? ⟨w.heap.size + 1 + 1, 1, none⟩ = some (.bool ny) ∧ w2.cell? ⟨w.heap.size + 1 + 1, 2, none⟩ = some (.int .i32 ey) ∧ w2.cell? ⟨w.heap.size + 1 + 1, 3, none⟩ = some (.string sy)) := Lh (fun w2 h => by
  have k := HA0.out.later h
  exact ⟨Q1 k.xb 0 rfl, Q1 k.xb 1 rfl, Q1 k.xb 2 rfl, Q1 k.xb 3 rfl, Q1 k.yb 0 rfl, Q1 k.yb 1 rfl, Q1 k.yb 2 rfl, Q1 k.yb 3 rfl⟩)
 by_cases h0 : fx = 0
 rotate_left
 ·have HV : Hid (A = RsV 0 false 0 ⟨#[]⟩ 0 false false false) := Lh (by rw [HAV.out]; unfold arIe; rw [if_neg h0])
  have b0 : (fx != 0) = true := by simpa using h0
  go_enter Tryz.func15, Tryz.ntmps15
  go_upto_region 1 with (fail)
  rw [← hwA]
  clear hwA
  obtain ⟨r0, r1, r2, r3, r4, r5, r6, r7⟩ := HA0.out.rc
  have rf := HA0.out.rf
  have f0 := rf 0; have f1 := rf 1; have f2 := rf 2; have f3 := rf 3; have f4 := rf 4; have f5 := rf 5; have f6 := rf 6; have f7 := rf 7
  clear rf
  go_wp2_with fail
  have h8 := Ql HA0.out.rb (.int .i64 0) (.bool false) (.int .i32 0) (.string ⟨#[]⟩) (.int .u32 0) (.bool false) (.bool false) (.bool false)
  have hb := HA0.out.done (.int .i64 0) (.bool false) (.int .i32 0) (.string ⟨#[]⟩) (.int .u32 0) (.bool false) (.bool false) (.bool false)
  unfold set8 at h8 hb
  exact bodyPost_ret (v := .agg #[.int .i64 0, .bool false, .int .i32 0, .string ⟨#[]⟩, .int .u32 0, .bool false, .bool false, .bool false]) (by simp [results, Tryz.results15, go_sem, h8]) rfl ⟨Qk (by rw [HV.out]; rfl), hb⟩
 have HV0 : Hid (A = inV true mx mn md nx ex cx) := Lh (by rw [HAV.out]; unfold arIe; rw [if_pos h0])
 have b0 : (fx != 0) = false := by rw [h0]; rfl
 have b1 : (fx == 1) = false := by rw [h0]; rfl
 have b2 : (fx == 2) = false := by rw [h0]; rfl
 have b3 : (fx == 3) = false := by rw [h0]; rfl
 clear h0
 go_enter Tryz.func15, Tryz.ntmps15
 go_wp2_with fail
 rw [← hwA]
 have HwA := Lh hwA
 clear hwA
 go_upto_region 8 with (fail)
 clear b0 b2 b3
 go_cut [10, 11] from 60 to 63 (fun tq tr wx => TwoF wA nx cx ex ny cy ey tq tr wx)
 case first =>
  refine AH.start (fun x => x.cell? ⟨w.heap.size + 1, 0, none⟩ = some (.int .i64 fx) ∧ x.cell? ⟨w.heap.size + 1, 1, none⟩ = some (.bool nx) ∧ x.cell? ⟨w.heap.size + 1, 2, none⟩ = some (.int .i32 ex) ∧ x.cell? ⟨w.heap.size + 1, 3, none⟩ = some (.string sx) ∧ x.cell? ⟨w.heap.size + 1 + 1, 0, none⟩ = some (.int .i64 fy) ∧ x.cell? ⟨w.heap.size + 1 + 1, 1, none⟩ = some (.bool ny) ∧ x.cell? ⟨w.heap.size + 1 + 1, 2, none⟩ = some (.int .i32 ey) ∧ x.cell? ⟨w.heap.size + 1 + 1, 3, none⟩ = some (.string sy)) (by kernel_rfl) ?_
  generalize hw0 : wA.drew = w0
  have HB0 : Hid (Below wA.heap.size wA w0) := by rw [← hw0]; exact Lh ((Below.refl _ _).drew)
  clear hw0 HF HN0 HN1 HI c0 c1' c2' c3' c4' x0 x1 x2 x3 y0 y1 y2 y3
  have s_0 := HC.out _ HB0.out
  refine AH.z 0 s_0 ?_
  refine AH.z 2 s_0 ?_
  clear s_0
  refine AH.three (i := 1) (j := 4) (k := 5) (by kernel_rfl) rfl rfl rfl (by kernel_rfl) (by kernel_rfl) (by kernel_rfl) (fun K hK => ?n3X) (fun K hK => ?n3A) (fun K hK => ?n3B)
  case' n3X =>
   go_simp
   refine (HX.out w0).mono ?_
   rintro r w1 ⟨v1, rfl, ⟨s1, rfl, k1⟩, hB⟩
   have HB1 := Lh (Qe HB0.out hB)
   have k1' := k1
   obtain ⟨p1, c1, rfl, _⟩ := k1'
   have FX1 : Hid (FinV w1 (.agg #[.bool nx, .bool false, .slice p1 (dgs cx).length c1, .int .i64 ex]) nx cx ex) := Lh ⟨_, rfl, k1⟩
   refine hK _ _ (HC.out _ HB1.out) ?_
   clear hK K hB k1
   try simp only [Act.put,Zp_]
   refine AH.three (i := 3) (j := 4) (k := 5) (by kernel_rfl) rfl rfl rfl (by kernel_rfl) (by kernel_rfl) (by kernel_rfl) (fun K hK => ?n4Y) (fun K hK => ?n4A) (fun K hK => ?n4B)
   case' n4Y =>
    go_simp
    refine (HY.out w1).mono ?_
    rintro r w2 ⟨v2, rfl, ⟨s2, rfl, k2⟩, hB⟩
    have HB2 := Lh (Qe HB1.out hB)
    have k2' := k2
    obtain ⟨p2, c2, rfl, _⟩ := k2'
    have FY2 : Hid (FinV w2 (.agg #[.bool ny, .bool false, .slice p2 (dgs cy).length c2, .int .i64 ey]) ny cy ey) := Lh ⟨_, rfl, k2⟩
    have FX2 := Lh (FX1.out.later hB)
    refine hK _ _ (HC.out _ HB2.out) ?_
    clear hK K hB k2
    try simp only [Act.put,Zp_]
    refine AH.t 4 5 (fun K hK => ?n5A) (fun K hK => ?n5B)
    case' n5A =>
     go_simp
     have HB3 := Lh (bal HB2.out (.cells #[.bool false, .bool false, .slice none 0 0, .int .i64 0] 71))
     have FA3 := Lh (gal w2 (.cells #[.bool false, .bool false, .slice none 0 0, .int .i64 0] 71))
     have LA := HB2.out.size
     have FX3 := Lh (FX2.out.later (Qd w2 (.cells #[.bool false, .bool false, .slice none 0 0, .int .i64 0] 71)))
     have FY3 := Lh (FY2.out.later (Qd w2 (.cells #[.bool false, .bool false, .slice none 0 0, .int .i64 0] 71)))
     refine hK _ _ (HC.out _ HB3.out) ?_
     clear hK K
     try simp only [Act.put,Zp_]
     generalize hg : w2.heap.size = gA at FA3 LA ⊢
     generalize hw : w2.alloc (.cells #[.bool false, .bool false, .slice none 0 0, .int .i64 0] 71) = w3 at HB3 FA3 FX3 FY3 ⊢
     clear hg hw
     refine AH.o 5 (fun K hK => ?_)
     go_simp
     have HB4 := Lh (bal HB3.out (.cells #[.bool false, .bool false, .slice none 0 0, .int .i64 0] 71))
     have FB4 := Lh (gal w3 (.cells #[.bool false, .bool false, .slice none 0 0, .int .i64 0] 71))
     have LB := HB3.out.size
     have FA4 := Lh (Qa FA3.out (Qd w3 (.cells #[.bool false, .bool false, .slice none 0 0, .int .i64 0] 71)))
     have FX4 := Lh (FX3.out.later (Qd w3 (.cells #[.bool false, .bool false, .slice none 0 0, .int .i64 0] 71)))
     have FY4 := Lh (FY3.out.later (Qd w3 (.cells #[.bool false, .bool false, .slice none 0 0, .int .i64 0] 71)))
     have NE : gA ≠ w3.heap.size := by have := (Array.getElem?_eq_some_iff.1 FA3.out).1; omega
     refine hK _ _ (HC.out _ HB4.out) ?_
     clear hK K
     try simp only [Act.put,Zp_]
     generalize hg : w3.heap.size = gB at FB4 LB NE ⊢
     generalize hw : w3.alloc (.cells #[.bool false, .bool false, .slice none 0 0, .int .i64 0] 71) = w4 at HB4 FA4 FB4 FX4 FY4 ⊢
     clear hg hw
    case' n5B =>
     go_simp
     have HB3 := Lh (bal HB2.out (.cells #[.bool false, .bool false, .slice none 0 0, .int .i64 0] 71))
     have FB3 := Lh (gal w2 (.cells #[.bool false, .bool false, .slice none 0 0, .int .i64 0] 71))
     have LB := HB2.out.size
     have FX3 := Lh (FX2.out.later (Qd w2 (.cells #[.bool false, .bool false, .slice none 0 0, .int .i64 0] 71)))
     have FY3 := Lh (FY2.out.later (Qd w2 (.cells #[.bool false, .bool false, .slice none 0 0, .int .i64 0] 71)))
     refine hK _ _ (HC.out _ HB3.out) ?_
     clear hK K
     try simp only [Act.put,Zp_]
     generalize hg : w2.heap.size = gB at FB3 LB ⊢
     generalize hw : w2.alloc (.cells #[.bool false, .bool false, .slice none 0 0, .int .i64 0] 71) = w3 at HB3 FB3 FX3 FY3 ⊢
     clear hg hw
     refine AH.o 4 (fun K hK => ?_)
     go_simp
     have HB4 := Lh (bal HB3.out (.cells #[.bool false, .bool false, .slice none 0 0, .int .i64 0] 71))
     have FA4 := Lh (gal w3 (.cells #[.bool false, .bool false, .slice none 0 0, .int .i64 0] 71))
     have LA := HB3.out.size
     have FB4 := Lh (Qa FB3.out (Qd w3 (.cells #[.bool false, .bool false, .slice none 0 0, .int .i64 0] 71)))
     have FX4 := Lh (FX3.out.later (Qd w3 (.cells #[.bool false, .bool false, .slice none 0 0, .int .i64 0] 71)))
     have FY4 := Lh (FY3.out.later (Qd w3 (.cells #[.bool false, .bool false, .slice none 0 0, .int .i64 0] 71)))
     have NE : w3.heap.size ≠ gB := by have := (Array.getElem?_eq_some_iff.1 FB3.out).1; omega
     refine hK _ _ (HC.out _ HB4.out) ?_
     clear hK K
     try simp only [Act.put,Zp_]
     generalize hg : w3.heap.size = gA at FA4 LA NE ⊢
     generalize hw : w3.alloc (.cells #[.bool false, .bool false, .slice none 0 0, .int .i64 0] 71) = w4 at HB4 FA4 FB4 FX4 FY4 ⊢
     clear hg hw
   case' n4A =>
    go_simp
    have HB2 := Lh (bal HB1.out (.cells #[.bool false, .bool false, .slice none 0 0, .int .i64 0] 71))
    have FA2 := Lh (gal w1 (.cells #[.bool false, .bool false, .slice none 0 0, .int .i64 0] 71))
    have LA := HB1.out.size
    have FX2 := Lh (FX1.out.later (Qd w1 (.cells #[.bool false, .bool false, .slice none 0 0, .int .i64 0] 71)))
    refine hK _ _ (HC.out _ HB2.out) ?_
    clear hK K
    try simp only [Act.put,Zp_]
    generalize hg : w1.heap.size = gA at FA2 LA ⊢
    generalize hw : w1.alloc (.cells #[.bool false, .bool false, .slice none 0 0, .int .i64 0] 71) = w2 at HB2 FA2 FX2 ⊢
    clear hg hw
    refine AH.t 3 5 (fun K hK => ?n6Y) (fun K hK => ?n6B)
    case' n6Y =>
     go_simp
     refine (HY.out w2).mono ?_
     rintro r w3 ⟨v2, rfl, ⟨s2, rfl, k2⟩, hB⟩
     have HB3 := Lh (Qe HB2.out hB)
     have k2' := k2
     obtain ⟨p2, c2, rfl, _⟩ := k2'
     have FY3 : Hid (FinV w3 (.agg #[.bool ny, .bool false, .slice p2 (dgs cy).length c2, .int .i64 ey]) ny cy ey) := Lh ⟨_, rfl, k2⟩
     have FA3 := Lh (Qa FA2.out hB)
     have FX3 := Lh (FX2.out.later hB)
     refine hK _ _ (HC.out _ HB3.out) ?_
     clear hK K hB k2
     try simp only [Act.put,Zp_]
     refine AH.o 5 (fun K hK => ?_)
     go_simp
     have HB4 := Lh (bal HB3.out (.cells #[.bool false, .bool false, .slice none 0 0, .int .i64 0] 71))
     have FB4 := Lh (gal w3 (.cells #[.bool false, .bool false, .slice none 0 0, .int .i64 0] 71))
     have LB := HB3.out.size
     have FA4 := Lh (Qa FA3.out (Qd w3 (.cells #[.bool false, .bool false, .slice none 0 0, .int .i64 0] 71)))
     have FX4 := Lh (FX3.out.later (Qd w3 (.cells #[.bool false, .bool false, .slice none 0 0, .int .i64 0] 71)))
     have FY4 := Lh (FY3.out.later (Qd w3 (.cells #[.bool false, .bool false, .slice none 0 0, .int .i64 0] 71)))
     have NE : gA ≠ w3.heap.size := by have := (Array.getElem?_eq_some_iff.1 FA3.out).1; omega
     refine hK _ _ (HC.out _ HB4.out) ?_
     clear hK K
     try simp only [Act.put,Zp_]
     generalize hg : w3.heap.size = gB at FB4 LB NE ⊢
     generalize hw : w3.alloc (.cells #[.bool false, .bool false, .slice none 0 0, .int .i64 0] 71) = w4 at HB4 FA4 FB4 FX4 FY4 ⊢
     clear hg hw
    case' n6B =>
     go_simp
     have HB3 := Lh (bal HB2.out (.cells #[.bool false, .bool false, .slice none 0 0, .int .i64 0] 71))
     have FB3 := Lh (gal w2 (.cells #[.bool false, .bool false, .slice none 0 0, .int .i64 0] 71))
     have LB := HB2.out.size
     have FA3 := Lh (Qa FA2.out (Qd w2 (.cells #[.bool false, .bool false, .slice none 0 0, .int .i64 0] 71)))
     have FX3 := Lh (FX2.out.later (Qd w2 (.cells #[.bool false, .bool false, .slice none 0 0, .int .i64 0] 71)))
     have NE : gA ≠ w2.heap.size := by have := (Array.getElem?_eq_some_iff.1 FA2.out).1; omega
     refine hK _ _ (HC.out _ HB3.out) ?_
     clear hK K
     try simp only [Act.put,Zp_]
     generalize hg : w2.heap.size = gB at FB3 LB NE ⊢
     generalize hw : w2.alloc (.cells #[.bool false, .bool false, .slice none 0 0, .int .i64 0] 71) = w3 at HB3 FA3 FB3 FX3 ⊢
     clear hg hw
     refine AH.o 3 (fun K hK => ?_)
     go_simp
     refine (HY.out w3).mono ?_
     rintro r w4 ⟨v2, rfl, ⟨s2, rfl, k2⟩, hB⟩
     have HB4 := Lh (Qe HB3.out hB)
     have k2' := k2
     obtain ⟨p2, c2, rfl, _⟩ := k2'
     have FY4 : Hid (FinV w4 (.agg #[.bool ny, .bool false, .slice p2 (dgs cy).length c2, .int .i64 ey]) ny cy ey) := Lh ⟨_, rfl, k2⟩
     have FA4 := Lh (Qa FA3.out hB)
     have FB4 := Lh (Qa FB3.out hB)
     have FX4 := Lh (FX3.out.later hB)
     refine hK _ _ (HC.out _ HB4.out) ?_
     clear hK K hB k2
     try simp only [Act.put,Zp_]
   case' n4B =>
    go_simp
    have HB2 := Lh (bal HB1.out (.cells #[.bool false, .bool false, .slice none 0 0, .int .i64 0] 71))
    have FB2 := Lh (gal w1 (.cells #[.bool false, .bool false, .slice none 0 0, .int .i64 0] 71))
    have LB := HB1.out.size
    have FX2 := Lh (FX1.out.later (Qd w1 (.cells #[.bool false, .bool false, .slice none 0 0, .int .i64 0] 71)))
    refine hK _ _ (HC.out _ HB2.out) ?_
    clear hK K
    try simp only [Act.put,Zp_]
    generalize hg : w1.heap.size = gB at FB2 LB ⊢
    generalize hw : w1.alloc (.cells #[.bool false, .bool false, .slice none 0 0, .int .i64 0] 71) = w2 at HB2 FB2 FX2 ⊢
    clear hg hw
    refine AH.t 3 4 (fun K hK => ?n7Y) (fun K hK => ?n7A)
    case' n7Y =>
     go_simp
     refine (HY.out w2).mono ?_
     rintro r w3 ⟨v2, rfl, ⟨s2, rfl, k2⟩, hB⟩
     have HB3 := Lh (Qe HB2.out hB)
     have k2' := k2
     obtain ⟨p2, c2, rfl, _⟩ := k2'
     have FY3 : Hid (FinV w3 (.agg #[.bool ny, .bool false, .slice p2 (dgs cy).length c2, .int .i64 ey]) ny cy ey) := Lh ⟨_, rfl, k2⟩
     have FB3 := Lh (Qa FB2.out hB)
     have FX3 := Lh (FX2.out.later hB)
     refine hK _ _ (HC.out _ HB3.out) ?_
     clear hK K hB k2
     try simp only [Act.put,Zp_]
     refine AH.o 4 (fun K hK => ?_)
     go_simp
     have HB4 := Lh (bal HB3.out (.cells #[.bool false, .bool false, .slice none 0 0, .int .i64 0] 71))
     have FA4 := Lh (gal w3 (.cells #[.bool false, .bool false, .slice none 0 0, .int .i64 0] 71))
     have LA := HB3.out.size
     have FB4 := Lh (Qa FB3.out (Qd w3 (.cells #[.bool false, .bool false, .slice none 0 0, .int .i64 0] 71)))
     have FX4 := Lh (FX3.out.later (Qd w3 (.cells #[.bool false, .bool false, .slice none 0 0, .int .i64 0] 71)))
     have FY4 := Lh (FY3.out.later (Qd w3 (.cells #[.bool false, .bool false, .slice none 0 0, .int .i64 0] 71)))
     have NE : w3.heap.size ≠ gB := by have := (Array.getElem?_eq_some_iff.1 FB3.out).1; omega
     refine hK _ _ (HC.out _ HB4.out) ?_
     clear hK K
     try simp only [Act.put,Zp_]
     generalize hg : w3.heap.size = gA at FA4 LA NE ⊢
     generalize hw : w3.alloc (.cells #[.bool false, .bool false, .slice none 0 0, .int .i64 0] 71) = w4 at HB4 FA4 FB4 FX4 FY4 ⊢
     clear hg hw
    case' n7A =>
     go_simp
     have HB3 := Lh (bal HB2.out (.cells #[.bool false, .bool false, .slice none 0 0, .int .i64 0] 71))
     have FA3 := Lh (gal w2 (.cells #[.bool false, .bool false, .slice none 0 0, .int .i64 0] 71))
     have LA := HB2.out.size
     have FB3 := Lh (Qa FB2.out (Qd w2 (.cells #[.bool false, .bool false, .slice none 0 0, .int .i64 0] 71)))
     have FX3 := Lh (FX2.out.later (Qd w2 (.cells #[.bool false, .bool false, .slice none 0 0, .int .i64 0] 71)))
     have NE : w2.heap.size ≠ gB := by have := (Array.getElem?_eq_some_iff.1 FB2.out).1; omega
     refine hK _ _ (HC.out _ HB3.out) ?_
     clear hK K
     try simp only [Act.put,Zp_]
     generalize hg : w2.heap.size = gA at FA3 LA NE ⊢
     generalize hw : w2.alloc (.cells #[.bool false, .bool false, .slice none 0 0, .int .i64 0] 71) = w3 at HB3 FA3 FB3 FX3 ⊢
     clear hg hw
     refine AH.o 3 (fun K hK => ?_)
     go_simp
     refine (HY.out w3).mono ?_
     rintro r w4 ⟨v2, rfl, ⟨s2, rfl, k2⟩, hB⟩
     have HB4 := Lh (Qe HB3.out hB)
     have k2' := k2
     obtain ⟨p2, c2, rfl, _⟩ := k2'
     have FY4 : Hid (FinV w4 (.agg #[.bool ny, .bool false, .slice p2 (dgs cy).length c2, .int .i64 ey]) ny cy ey) := Lh ⟨_, rfl, k2⟩
     have FA4 := Lh (Qa FA3.out hB)
     have FB4 := Lh (Qa FB3.out hB)
     have FX4 := Lh (FX3.out.later hB)
     refine hK _ _ (HC.out _ HB4.out) ?_
     clear hK K hB k2
     try simp only [Act.put,Zp_]
  case' n3A =>
   go_simp
   have HB1 := Lh (bal HB0.out (.cells #[.bool false, .bool false, .slice none 0 0, .int .i64 0] 71))
   have FA1 := Lh (gal w0 (.cells #[.bool false, .bool false, .slice none 0 0, .int .i64 0] 71))
   have LA := HB0.out.size
   refine hK _ _ (HC.out _ HB1.out) ?_
   clear hK K
   try simp only [Act.put,Zp_]
   generalize hg : w0.heap.size = gA at FA1 LA ⊢
   generalize hw : w0.alloc (.cells #[.bool false, .bool false, .slice none 0 0, .int .i64 0] 71) = w1 at HB1 FA1 ⊢
   clear hg hw
   refine AH.t 1 5 (fun K hK => ?n8X) (fun K hK => ?n8B)
   case' n8X =>
    go_simp
    refine (HX.out w1).mono ?_
    rintro r w2 ⟨v1, rfl, ⟨s1, rfl, k1⟩, hB⟩
    have HB2 := Lh (Qe HB1.out hB)
    have k1' := k1
    obtain ⟨p1, c1, rfl, _⟩ := k1'
    have FX2 : Hid (FinV w2 (.agg #[.bool nx, .bool false, .slice p1 (dgs cx).length c1, .int .i64 ex]) nx cx ex) := Lh ⟨_, rfl, k1⟩
    have FA2 := Lh (Qa FA1.out hB)
    refine hK _ _ (HC.out _ HB2.out) ?_
    clear hK K hB k1
    try simp only [Act.put,Zp_]
    refine AH.t 3 5 (fun K hK => ?n9Y) (fun K hK => ?n9B)
    case' n9Y =>
     go_simp
     refine (HY.out w2).mono ?_
     rintro r w3 ⟨v2, rfl, ⟨s2, rfl, k2⟩, hB⟩
     have HB3 := Lh (Qe HB2.out hB)
     have k2' := k2
     obtain ⟨p2, c2, rfl, _⟩ := k2'
     have FY3 : Hid (FinV w3 (.agg #[.bool ny, .bool false, .slice p2 (dgs cy).length c2, .int .i64 ey]) ny cy ey) := Lh ⟨_, rfl, k2⟩
     have FA3 := Lh (Qa FA2.out hB)
     have FX3 := Lh (FX2.out.later hB)
     refine hK _ _ (HC.out _ HB3.out) ?_
     clear hK K hB k2
     try simp only [Act.put,Zp_]
     refine AH.o 5 (fun K hK => ?_)
     go_simp
     have HB4 := Lh (bal HB3.out (.cells #[.bool false, .bool false, .slice none 0 0, .int .i64 0] 71))
     have FB4 := Lh (gal w3 (.cells #[.bool false, .bool false, .slice none 0 0, .int .i64 0] 71))
     have LB := HB3.out.size
     have FA4 := Lh (Qa FA3.out (Qd w3 (.cells #[.bool false, .bool false, .slice none 0 0, .int .i64 0] 71)))
     have FX4 := Lh (FX3.out.later (Qd w3 (.cells #[.bool false, .bool false, .slice none 0 0, .int .i64 0] 71)))
     have FY4 := Lh (FY3.out.later (Qd w3 (.cells #[.bool false, .bool false, .slice none 0 0, .int .i64 0] 71)))
     have NE : gA ≠ w3.heap.size := by have := (Array.getElem?_eq_some_iff.1 FA3.out).1; omega
     refine hK _ _ (HC.out _ HB4.out) ?_
     clear hK K
     try simp only [Act.put,Zp_]
     generalize hg : w3.heap.size = gB at FB4 LB NE ⊢
     generalize hw : w3.alloc (.cells #[.bool false, .bool false, .slice none 0 0, .int .i64 0] 71) = w4 at HB4 FA4 FB4 FX4 FY4 ⊢
     clear hg hw
    case' n9B =>
     go_simp
     have HB3 := Lh (bal HB2.out (.cells #[.bool false, .bool false, .slice none 0 0, .int .i64 0] 71))
     have FB3 := Lh (gal w2 (.cells #[.bool false, .bool false, .slice none 0 0, .int .i64 0] 71))
     have LB := HB2.out.size
     have FA3 := Lh (Qa FA2.out (Qd w2 (.cells #[.bool false, .bool false, .slice none 0 0, .int .i64 0] 71)))
     have FX3 := Lh (FX2.out.later (Qd w2 (.cells #[.bool false, .bool false, .slice none 0 0, .int .i64 0] 71)))
     have NE : gA ≠ w2.heap.size := by have := (Array.getElem?_eq_some_iff.1 FA2.out).1; omega
     refine hK _ _ (HC.out _ HB3.out) ?_
     clear hK K
     try simp only [Act.put,Zp_]
     generalize hg : w2.heap.size = gB at FB3 LB NE ⊢
     generalize hw : w2.alloc (.cells #[.bool false, .bool false, .slice none 0 0, .int .i64 0] 71) = w3 at HB3 FA3 FB3 FX3 ⊢
     clear hg hw
     refine AH.o 3 (fun K hK => ?_)
     go_simp
     refine (HY.out w3).mono ?_
     rintro r w4 ⟨v2, rfl, ⟨s2, rfl, k2⟩, hB⟩
     have HB4 := Lh (Qe HB3.out hB)
     have k2' := k2
     obtain ⟨p2, c2, rfl, _⟩ := k2'
     have FY4 : Hid (FinV w4 (.agg #[.bool ny, .bool false, .slice p2 (dgs cy).length c2, .int .i64 ey]) ny cy ey) := Lh ⟨_, rfl, k2⟩
     have FA4 := Lh (Qa FA3.out hB)
     have FB4 := Lh (Qa FB3.out hB)
     have FX4 := Lh (FX3.out.later hB)
     refine hK _ _ (HC.out _ HB4.out) ?_
     clear hK K hB k2
     try simp only [Act.put,Zp_]
   case' n8B =>
    go_simp
    have HB2 := Lh (bal HB1.out (.cells #[.bool false, .bool false, .slice none 0 0, .int .i64 0] 71))
    have FB2 := Lh (gal w1 (.cells #[.bool false, .bool false, .slice none 0 0, .int .i64 0] 71))
    have LB := HB1.out.size
    have FA2 := Lh (Qa FA1.out (Qd w1 (.cells #[.bool false, .bool false, .slice none 0 0, .int .i64 0] 71)))
    have NE : gA ≠ w1.heap.size := by have := (Array.getElem?_eq_some_iff.1 FA1.out).1; omega
    refine hK _ _ (HC.out _ HB2.out) ?_
    clear hK K
    try simp only [Act.put,Zp_]
    generalize hg : w1.heap.size = gB at FB2 LB NE ⊢
    generalize hw : w1.alloc (.cells #[.bool false, .bool false, .slice none 0 0, .int .i64 0] 71) = w2 at HB2 FA2 FB2 ⊢
    clear hg hw
    refine AH.o 1 (fun K hK => ?_)
    go_simp
    refine (HX.out w2).mono ?_
    rintro r w3 ⟨v1, rfl, ⟨s1, rfl, k1⟩, hB⟩
    have HB3 := Lh (Qe HB2.out hB)
    have k1' := k1
    obtain ⟨p1, c1, rfl, _⟩ := k1'
    have FX3 : Hid (FinV w3 (.agg #[.bool nx, .bool false, .slice p1 (dgs cx).length c1, .int .i64 ex]) nx cx ex) := Lh ⟨_, rfl, k1⟩
    have FA3 := Lh (Qa FA2.out hB)
    have FB3 := Lh (Qa FB2.out hB)
    refine hK _ _ (HC.out _ HB3.out) ?_
    clear hK K hB k1
    try simp only [Act.put,Zp_]
    refine AH.o 3 (fun K hK => ?_)
    go_simp
    refine (HY.out w3).mono ?_
    rintro r w4 ⟨v2, rfl, ⟨s2, rfl, k2⟩, hB⟩
    have HB4 := Lh (Qe HB3.out hB)
    have k2' := k2
    obtain ⟨p2, c2, rfl, _⟩ := k2'
    have FY4 : Hid (FinV w4 (.agg #[.bool ny, .bool false, .slice p2 (dgs cy).length c2, .int .i64 ey]) ny cy ey) := Lh ⟨_, rfl, k2⟩
    have FA4 := Lh (Qa FA3.out hB)
    have FB4 := Lh (Qa FB3.out hB)
    have FX4 := Lh (FX3.out.later hB)
    refine hK _ _ (HC.out _ HB4.out) ?_
    clear hK K hB k2
    try simp only [Act.put,Zp_]
  case' n3B =>
   go_simp
   have HB1 := Lh (bal HB0.out (.cells #[.bool false, .bool false, .slice none 0 0, .int .i64 0] 71))
   have FB1 := Lh (gal w0 (.cells #[.bool false, .bool false, .slice none 0 0, .int .i64 0] 71))
   have LB := HB0.out.size
   refine hK _ _ (HC.out _ HB1.out) ?_
   clear hK K
   try simp only [Act.put,Zp_]
   generalize hg : w0.heap.size = gB at FB1 LB ⊢
   generalize hw : w0.alloc (.cells #[.bool false, .bool false, .slice none 0 0, .int .i64 0] 71) = w1 at HB1 FB1 ⊢
   clear hg hw
   refine AH.t 1 4 (fun K hK => ?n10X) (fun K hK => ?n10A)
   case' n10X =>
    go_simp
    refine (HX.out w1).mono ?_
    rintro r w2 ⟨v1, rfl, ⟨s1, rfl, k1⟩, hB⟩
    have HB2 := Lh (Qe HB1.out hB)
    have k1' := k1
    obtain ⟨p1, c1, rfl, _⟩ := k1'
    have FX2 : Hid (FinV w2 (.agg #[.bool nx, .bool false, .slice p1 (dgs cx).length c1, .int .i64 ex]) nx cx ex) := Lh ⟨_, rfl, k1⟩
    have FB2 := Lh (Qa FB1.out hB)
    refine hK _ _ (HC.out _ HB2.out) ?_
    clear hK K hB k1
    try simp only [Act.put,Zp_]
    refine AH.t 3 4 (fun K hK => ?n11Y) (fun K hK => ?n11A)
    case' n11Y =>
     go_simp
     refine (HY.out w2).mono ?_
     rintro r w3 ⟨v2, rfl, ⟨s2, rfl, k2⟩, hB⟩
     have HB3 := Lh (Qe HB2.out hB)
     have k2' := k2
     obtain ⟨p2, c2, rfl, _⟩ := k2'
     have FY3 : Hid (FinV w3 (.agg #[.bool ny, .bool false, .slice p2 (dgs cy).length c2, .int .i64 ey]) ny cy ey) := Lh ⟨_, rfl, k2⟩
     have FB3 := Lh (Qa FB2.out hB)
     have FX3 := Lh (FX2.out.later hB)
     refine hK _ _ (HC.out _ HB3.out) ?_
     clear hK K hB k2
     try simp only [Act.put,Zp_]
     refine AH.o 4 (fun K hK => ?_)
     go_simp
     have HB4 := Lh (bal HB3.out (.cells #[.bool false, .bool false, .slice none 0 0, .int .i64 0] 71))
     have FA4 := Lh (gal w3 (.cells #[.bool false, .bool false, .slice none 0 0, .int .i64 0] 71))
     have LA := HB3.out.size
     have FB4 := Lh (Qa FB3.out (Qd w3 (.cells #[.bool false, .bool false, .slice none 0 0, .int .i64 0] 71)))
     have FX4 := Lh (FX3.out.later (Qd w3 (.cells #[.bool false, .bool false, .slice none 0 0, .int .i64 0] 71)))
     have FY4 := Lh (FY3.out.later (Qd w3 (.cells #[.bool false, .bool false, .slice none 0 0, .int .i64 0] 71)))
     have NE : w3.heap.size ≠ gB := by have := (Array.getElem?_eq_some_iff.1 FB3.out).1; omega
     refine hK _ _ (HC.out _ HB4.out) ?_
     clear hK K
     try simp only [Act.put,Zp_]
     generalize hg : w3.heap.size = gA at FA4 LA NE ⊢
     generalize hw : w3.alloc (.cells #[.bool false, .bool false, .slice none 0 0, .int .i64 0] 71) = w4 at HB4 FA4 FB4 FX4 FY4 ⊢
     clear hg hw
    case' n11A =>
     go_simp
     have HB3 := Lh (bal HB2.out (.cells #[.bool false, .bool false, .slice none 0 0, .int .i64 0] 71))
     have FA3 := Lh (gal w2 (.cells #[.bool false, .bool false, .slice none 0 0, .int .i64 0] 71))
     have LA := HB2.out.size
     have FB3 := Lh (Qa FB2.out (Qd w2 (.cells #[.bool false, .bool false, .slice none 0 0, .int .i64 0] 71)))
     have FX3 := Lh (FX2.out.later (Qd w2 (.cells #[.bool false, .bool false, .slice none 0 0, .int .i64 0] 71)))
     have NE : w2.heap.size ≠ gB := by have := (Array.getElem?_eq_some_iff.1 FB2.out).1; omega
     refine hK _ _ (HC.out _ HB3.out) ?_
     clear hK K
     try simp only [Act.put,Zp_]
     generalize hg : w2.heap.size = gA at FA3 LA NE ⊢
     generalize hw : w2.alloc (.cells #[.bool false, .bool false, .slice none 0 0, .int .i64 0] 71) = w3 at HB3 FA3 FB3 FX3 ⊢
     clear hg hw
     refine AH.o 3 (fun K hK => ?_)
     go_simp
     refine (HY.out w3).mono ?_
     rintro r w4 ⟨v2, rfl, ⟨s2, rfl, k2⟩, hB⟩
     have HB4 := Lh (Qe HB3.out hB)
     have k2' := k2
     obtain ⟨p2, c2, rfl, _⟩ := k2'
     have FY4 : Hid (FinV w4 (.agg #[.bool ny, .bool false, .slice p2 (dgs cy).length c2, .int .i64 ey]) ny cy ey) := Lh ⟨_, rfl, k2⟩
     have FA4 := Lh (Qa FA3.out hB)
     have FB4 := Lh (Qa FB3.out hB)
     have FX4 := Lh (FX3.out.later hB)
     refine hK _ _ (HC.out _ HB4.out) ?_
     clear hK K hB k2
     try simp only [Act.put,Zp_]
   case' n10A =>
    go_simp
    have HB2 := Lh (bal HB1.out (.cells #[.bool false, .bool false, .slice none 0 0, .int .i64 0] 71))
    have FA2 := Lh (gal w1 (.cells #[.bool false, .bool false, .slice none 0 0, .int .i64 0] 71))
    have LA := HB1.out.size
    have FB2 := Lh (Qa FB1.out (Qd w1 (.cells #[.bool false, .bool false, .slice none 0 0, .int .i64 0] 71)))
    have NE : w1.heap.size ≠ gB := by have := (Array.getElem?_eq_some_iff.1 FB1.out).1; omega
    refine hK _ _ (HC.out _ HB2.out) ?_
    clear hK K
    try simp only [Act.put,Zp_]
    generalize hg : w1.heap.size = gA at FA2 LA NE ⊢
    generalize hw : w1.alloc (.cells #[.bool false, .bool false, .slice none 0 0, .int .i64 0] 71) = w2 at HB2 FA2 FB2 ⊢
    clear hg hw
    refine AH.o 1 (fun K hK => ?_)
    go_simp
    refine (HX.out w2).mono ?_
    rintro r w3 ⟨v1, rfl, ⟨s1, rfl, k1⟩, hB⟩
    have HB3 := Lh (Qe HB2.out hB)
    have k1' := k1
    obtain ⟨p1, c1, rfl, _⟩ := k1'
    have FX3 : Hid (FinV w3 (.agg #[.bool nx, .bool false, .slice p1 (dgs cx).length c1, .int .i64 ex]) nx cx ex) := Lh ⟨_, rfl, k1⟩
    have FA3 := Lh (Qa FA2.out hB)
    have FB3 := Lh (Qa FB2.out hB)
    refine hK _ _ (HC.out _ HB3.out) ?_
    clear hK K hB k1
    try simp only [Act.put,Zp_]
    refine AH.o 3 (fun K hK => ?_)
    go_simp
    refine (HY.out w3).mono ?_
    rintro r w4 ⟨v2, rfl, ⟨s2, rfl, k2⟩, hB⟩
    have HB4 := Lh (Qe HB3.out hB)
    have k2' := k2
    obtain ⟨p2, c2, rfl, _⟩ := k2'
    have FY4 : Hid (FinV w4 (.agg #[.bool ny, .bool false, .slice p2 (dgs cy).length c2, .int .i64 ey]) ny cy ey) := Lh ⟨_, rfl, k2⟩
    have FA4 := Lh (Qa FA3.out hB)
    have FB4 := Lh (Qa FB3.out hB)
    have FX4 := Lh (FX3.out.later hB)
    refine hK _ _ (HC.out _ HB4.out) ?_
    clear hK K hB k2
    try simp only [Act.put,Zp_]
  all_goals
   obtain ⟨hBs, hb5, hBt, hT2⟩ := Q1G HB4.out FA4.out FB4.out LA LB NE FX4.out FY4.out
   have a0 := Q1 FA4.out 0 rfl; have a1 := Q1 FA4.out 1 rfl; have a2 := Q1 FA4.out 2 rfl; have a3 := Q1 FA4.out 3 rfl
   have fa := (Qf FA4.out).2
   have fa0 := fa 0; have fa1 := fa 1; have fa2 := fa 2; have fa3 := fa 3
   have HT2 := Lh hT2; have HBs := Lh hBs; have HBt := Lh hBt; have Hb5 := Lh hb5
   unfold set4 at HT2 HBs HBt Hb5
   clear hT2 hBs hBt hb5 fa
   refine AH.o 6 (fun K hK => ?_)
   go_simp
   refine hK _ _ (HC.out _ HBs.out) ?_
   clear hK K a0 a1 a2 a3 fa0 fa1 fa2 fa3
   try simp only [Act.put,Zp_]
   generalize (((w4.setCell ⟨gA, 0, none⟩ (.bool nx)).setCell ⟨gA, 1, none⟩ (.bool false)).setCell ⟨gA, 2, none⟩ (.slice p1 (dgs cx).length c1)).setCell ⟨gA, 3, none⟩ (.int .i64 ex) = ws at HT2 HBs HBt Hb5 ⊢
   have b0 := Q1 Hb5.out 0 rfl; have b1 := Q1 Hb5.out 1 rfl; have b2 := Q1 Hb5.out 2 rfl; have b3 := Q1 Hb5.out 3 rfl
   have fb := (Qf Hb5.out).2
   have fb0 := fb 0; have fb1 := fb 1; have fb2 := fb 2; have fb3 := fb 3
   clear fb
   refine AH.o 7 (fun K hK => ?_)
   go_simp
   refine hK _ _ (HC.out _ HBt.out) ?_
   clear hK K
   try simp only [Act.put,Zp_]
   refine AH.done (by kernel_rfl) ?_
   go_wp2_with fail
   go_meet
   exact HT2.out
 case rest =>
  obtain ⟨gA, gB, p1, l1, c1, p2, l2, c2, rfl, rfl, ⟨hA, hB⟩, n1, n2, lA, lB, ne, hBx⟩ := hcut
  have HAc := Lh (HA0.out.later hBx)
  have FXc : Hid (∀ k, FinV (wc.drewN k) (.agg #[.bool nx, .bool false, .slice p1 l1 c1, .int .i64 ex]) nx cx ex) := Lh (fun k => n1.later ⟨rfl, rfl, rfl, Nat.le_refl _, fun _ _ => rfl⟩)
  have a0 := Q1 hA 0 rfl; have a1 := Q1 hA 1 rfl; have a2 := Q1 hA 2 rfl; have a3 := Q1 hA 3 rfl
  have HZ := Lh (fun k => QJ (w := wc.drewN k) (v := .agg #[.bool false, .slice p1 l1 c1]) (neg := false) (n := cx) ⟨_, rfl, (FXc.out k).slice.1⟩)
  have HgA : Hid (∀ k, (wc.drewN k).heap[gA]? = some (.cells #[.bool nx, .bool false, .slice p1 l1 c1, .int .i64 ex] 71 (0, 0))) := Lh (fun k => hA)
  clear hA hB n1 n2 lA lB ne hBx HC c0 c1' c2' c3' c4' x0 x1 x2 x3 y0 y1 y2 y3
  have cb := (Qf HAc.out.cb).1
  have c0 := Q1 HAc.out.cb 0 rfl; have c1' := Q1 HAc.out.cb 1 rfl; have c2' := Q1 HAc.out.cb 2 rfl; have c3' := Q1 HAc.out.cb 3 rfl; have c4' := Q1 HAc.out.cb 4 rfl
  clear cb
  have x0 := Q1 HAc.out.xb 0 rfl; have x1 := Q1 HAc.out.xb 1 rfl; have x2 := Q1 HAc.out.xb 2 rfl; have x3 := Q1 HAc.out.xb 3 rfl
  have y0 := Q1 HAc.out.yb 0 rfl; have y1 := Q1 HAc.out.yb 1 rfl; have y2 := Q1 HAc.out.yb 2 rfl; have y3 := Q1 HAc.out.yb 3 rfl
  cases nx
  ·have HV : Hid (A = inV true mx mn md false ex cx) := HV0
   obtain ⟨f', n', e', s', k', a', b', c', hR⟩ := Q3n mx mn md false ex cx
   have HFb := Lh (fun w2 p1 l1 c1 h => HF.out w2 p1 l1 c1 h)
   rw [hR] at HFb HV
   unfold RsV at HFb
   clear hR
   go_wp2_with fail
   go_quiet (fail)
   go_wp2_with fail
   refine (HFb.out _ _ _ _ (FXc.out _)).mono ?_
   rintro r w9 ⟨rfl, hB⟩
   have HA9 := Lh ((HAc.out.drewN _).later hB)
   clear hB HAc a0 a1 a2 a3 c0 c1' c2' c3' c4' x0 x1 x2 x3 y0 y1 y2 y3
   obtain ⟨r0, r1, r2, r3, r4, r5, r6, r7⟩ := HA9.out.rc
   have rf := HA9.out.rf
   have f0 := rf 0; have f1 := rf 1; have f2 := rf 2; have f3 := rf 3; have f4 := rf 4; have f5 := rf 5; have f6 := rf 6; have f7 := rf 7
   clear rf
   go_wp2_with fail
   have h8 := Ql HA9.out.rb (.int .i64 f') (.bool n') (.int .i32 e') (.string s') (.int .u32 (k' : Int)) (.bool a') (.bool b') (.bool c')
   have hb := HA9.out.done (.int .i64 f') (.bool n') (.int .i32 e') (.string s') (.int .u32 (k' : Int)) (.bool a') (.bool b') (.bool c')
   unfold set8 at h8 hb
   exact bodyPost_ret (v := .agg #[.int .i64 f', .bool n', .int .i32 e', .string s', .int .u32 (k' : Int), .bool a', .bool b', .bool c']) (by simp [results, Tryz.results15, go_sem, h8]) rfl ⟨Qk (by rw [HV.out]; rfl), hb⟩
  ·have HV : Hid (A = inV true mx mn md true ex cx) := HV0
   obtain ⟨f', n', e', s', k', a', b', c', hR⟩ := Q3n mx mn md true ex cx
   have HFb := Lh (fun w2 p1 l1 c1 h => HF.out w2 p1 l1 c1 h)
   rw [hR] at HFb HV
   unfold RsV at HFb
   clear hR
   go_wp2_with fail
   go_quiet (fail)
   go_wp2_with fail
   refine (HFb.out _ _ _ _ (FXc.out _)).mono ?_
   rintro r w9 ⟨rfl, hB⟩
   have HA9 := Lh ((HAc.out.drewN _).later hB)
   clear hB HAc a0 a1 a2 a3 c0 c1' c2' c3' c4' x0 x1 x2 x3 y0 y1 y2 y3
   obtain ⟨r0, r1, r2, r3, r4, r5, r6, r7⟩ := HA9.out.rc
   have rf := HA9.out.rf
   have f0 := rf 0; have f1 := rf 1; have f2 := rf 2; have f3 := rf 3; have f4 := rf 4; have f5 := rf 5; have f6 := rf 6; have f7 := rf 7
   clear rf
   go_wp2_with fail
   have h8 := Ql HA9.out.rb (.int .i64 f') (.bool n') (.int .i32 e') (.string s') (.int .u32 (k' : Int)) (.bool a') (.bool b') (.bool c')
   have hb := HA9.out.done (.int .i64 f') (.bool n') (.int .i32 e') (.string s') (.int .u32 (k' : Int)) (.bool a') (.bool b') (.bool c')
   unfold set8 at h8 hb
   exact bodyPost_ret (v := .agg #[.int .i64 f', .bool n', .int .i32 e', .string s', .int .u32 (k' : Int), .bool a', .bool b', .bool c']) (by simp [results, Tryz.results15, go_sem, h8]) rfl ⟨Qk (by rw [HV.out]; rfl), hb⟩
end Go.Proofs.YtakldnejjodpeaaGreatDoor
