/- a part of the proof -/
import Derived.Test.YtamldngoemdfgaaGreatDoorZ25
set_option linter.all false
set_option maxRecDepth 100000
set_option maxHeartbeats 16000000
namespace Go.Proofs.YtamldngoemdfgaaGreatDoor
open Go Go.RowKit
theorem Q3l {w : World} (p md tr : Nat) (mx mn : Int) (hp : p ≤ 60) (hmx : 0 ≤ mx ∧ mx ≤ 500) (hmn : mn ≤ 0 ∧ -500 ≤ mn) {v : Value} {n : Bool} {c : Nat} {e : Int} (hx : FinV w v n c e) (he : -10000 ≤ e ∧ e ≤ 10000) (hlen : (dgs c).length ≤ 10000) :
  Calls Tryz.prog 48 #[.int .i64 12, CV p mx mn tr md, v] w fun r w' => r = .returned (inW 4 p mx n e c) ∧ Below w.heap.size w w' := by
 obtain ⟨s, rfl, hs⟩ := hx
 have hs0 := Lh hs
 obtain ⟨q, cap, rfl, _⟩ := hs
 obtain ⟨hmx1, hmx2⟩ := hmx
 obtain ⟨hmn1, hmn2⟩ := hmn
 obtain ⟨he1, he2⟩ := he
 have H0 := Lh (FS.start (w := w) (p := (p : Int)) (mx := mx) (mn := mn) (tr := (tr : Int)) (md := (md : Int)) (n := n) (s := .slice q (dgs c).length cap) (e := e))
 have HD0 : Hid (∀ w2, Below w.heap.size w w2 → NumV w2 (.agg #[.bool false, .slice q (dgs c).length cap]) false c) := Lh (fun w2 h => ⟨_, rfl, hs0.out.later h⟩)
 have HF0 : Hid (∀ w2, Below w.heap.size w w2 → FinV w2 (.agg #[.bool n, .bool false, .slice q (dgs c).length cap, .int .i64 e]) n c e) := Lh (fun w2 h => ⟨_, rfl, hs0.out.later h⟩)
 have i2 : IntKind.i64.wrap mn = mn := IntWalk.i64_in _ (by omega)
 have i5 : IntKind.i64.wrap mx = mx := IntWalk.i64_in _ (by omega)
 have i1 : IntKind.i64.wrap (p : Int) = (p : Int) := IntWalk.i64_in _ (by omega)
 have o7 : bits .or .u32 64 16 = 80 := by kernel_rfl
 obtain ⟨S, hS⟩ : ∃ S, S = inW 4 p mx n e c := ⟨_, rfl⟩
 rw [← hS]
 have HS := Lh hS
 generalize hL : (dgs c).length = L at H0 HD0 HF0 hlen ⊢
 have HL := Lh hL
 obtain ⟨wA, hwA⟩ : ∃ wA, wA = ((w.alloc (.cells #[.int .u32 (p : Int), .int .i32 mx, .int .i32 mn, .int .u32 (tr : Int), .int .i64 (md : Int)] 24)).alloc (.cells #[.bool n, .bool false, .slice q L cap, .int .i64 e] 71)).alloc (.cells #[.int .i64 0, .bool false, .int .i32 0, .string ⟨#[]⟩, .int .u32 0, .bool false, .bool false, .bool false] 38) := ⟨_, rfl⟩
 rw [← hwA] at H0
 unfold CV
 clear hs0 hS hL
 obtain ⟨c0, c1, c2, c4⟩ := H0.out.cc
 obtain ⟨x0, x1, x2, x3⟩ := H0.out.xc
 go_enter Tryz.func48, Tryz.ntmps48
 go_upto_region 1 with (fail)
 rw [← hwA]
 clear hwA
 by_cases h0 : 0 ≤ e
 ·have b0 : decide (0 ≤ e) = true := decide_eq_true h0
  have HV : Hid (S = RsV 0 n e (txS c) 0 (e == 0) false false) := Lh (by rw [HS.out]; unfold inW; rw [if_pos h0])
  have HT : Hid (∀ w2, Below w.heap.size w w2 → Calls Tryz.prog 47 #[.agg #[.bool n, .bool false, .slice q L cap, .int .i64 e]] w2 fun r w' => r = .returned (DV 0 n e (txS c)) ∧ Below w2.heap.size w2 w') := Lh (fun w2 h => Q1J (HF0.out w2 h) (by omega) (by rw [HL.out]; omega))
  unfold DV at HT
  generalize txS c = T0 at HT HV
  clear h0
  go_upto_region 8 with (fail)
  clear c0 c1 c2 c4
  refine AH.start (fun x => x.cell? ⟨w.heap.size + 1, 0, none⟩ = some (.bool n) ∧ x.cell? ⟨w.heap.size + 1, 1, none⟩ = some (.bool false) ∧ x.cell? ⟨w.heap.size + 1, 2, none⟩ = some (.slice q L cap) ∧ x.cell? ⟨w.heap.size + 1, 3, none⟩ = some (.int .i64 e)) (by kernel_rfl) ?_
  clear x0 x1 x2 x3
  generalize hw2 : wA.drew = w2
  have H2 : Hid (FS w (p : Int) mx mn (tr : Int) (md : Int) n (.slice q L cap) e w2) := by rw [← hw2]; exact Lh H0.out.drew
  clear hw2 H0
  have s2 := H2.out.xc
  refine AH.z 0 s2 ?_
  refine AH.z 2 s2 ?_
  refine AH.z 3 s2 ?_
  refine AH.z 4 s2 ?_
  refine AH.o 1 (fun K hK => ?_)
  go_simp
  refine (HT.out _ H2.out.bw).mono ?_
  rintro r w3 ⟨rfl, hB⟩
  have H3 := Lh (H2.out.later hB)
  have s3 := H3.out.xc
  refine hK _ _ s3 ?_
  clear hK K hB s2 H2
  try simp only [Act.put,Zp_]
  refine AH.z 5 s3 ?_
  obtain ⟨r0, r1, r2, r3, r4, r5, r6, r7⟩ := H3.out.rc
  obtain ⟨f0, f1, f2, f3, f4, f5, f6, f7⟩ := H3.out.rf
  refine AH.o 6 (fun K hK => ?_)
  go_simp
  refine hK _ _ (by have hx := Ql (Q4L H3.out.xb (by omega : w.heap.size + 1 ≠ w.heap.size + 1 + 1) (.int .i64 0) (.bool n) (.int .i32 e) (.string T0) (.int .u32 0) (.bool (e == 0)) (.bool false) (.bool false)); exact ⟨hx.1 0, hx.1 1, hx.1 2, hx.1 3⟩) ?_
  clear hK K s3 r0 r1 r2 r3 r4 r5 r6 r7 f0 f1 f2 f3 f4 f5 f6 f7
  try simp only [Act.put,Zp_]
  refine AH.done (by kernel_rfl) ?_
  go_wp2_with fail
  have h8 := QV H3.out.rb (.int .i64 0) (.bool n) (.int .i32 e) (.string T0) (.int .u32 0) (.bool (e == 0)) (.bool false) (.bool false)
  have hb := H3.out.done (.int .i64 0) (.bool n) (.int .i32 e) (.string T0) (.int .u32 0) (.bool (e == 0)) (.bool false) (.bool false)
  unfold set8 at h8 hb
  exact bodyPost_ret (v := .agg #[.int .i64 0, .bool n, .int .i32 e, .string T0, .int .u32 0, .bool (e == 0), .bool false, .bool false]) (by simp [results, Tryz.results48, go_sem, h8]) rfl ⟨QM (by rw [HV.out]; rfl), hb⟩
 ·have b0 : decide (0 ≤ e) = false := decide_eq_false h0
  obtain ⟨k, hk⟩ : ∃ k, k = (-e).toNat := ⟨_, rfl⟩
  have hki : -e = (k : Int) := by omega
  have i8 : IntKind.i64.wrap (-e) = (k : Int) := by rw [hki]; exact IntWalk.i64_in _ (by omega)
  have HV : Hid (S = if (0 < p ∧ p < ndg (rdiv 4 n c k)) ∨ (rdiv 4 n c k ≠ 0 ∧ mx < (ndg (rdiv 4 n c k) : Int) - 1) then RsV 0 false 0 ⟨#[]⟩ 0 false false false else RsV 0 n 0 (txS (rdiv 4 n c k)) 0 true false false) := Lh (by
   rw [HS.out]; unfold inW; rw [if_neg h0, ← hk])
  have HR : Hid (∀ w2, Below w.heap.size w w2 → Calls Tryz.prog 94 #[.int .i64 4, .bool n, .agg #[.bool false, .slice q L cap], .int .i64 (k : Int)] w2 fun e w' => ∃ v', e = .returned (.tuple #[v', .bool (decide (c % 10 ^ k = 0))]) ∧ NumV w' v' false (rdiv 4 n c k) ∧ Below w2.heap.size w2 w') := Lh (fun w2 h => Q2N 4 (by decide) n c (HD0.out w2 h) k (by omega) (by rw [HL.out]; omega))
  have HNQ : Hid (ndg (rdiv 4 n c k) ≤ 10001 ∧ (dgs (rdiv 4 n c k)).length ≤ 4000000000) := Lh (by
   have h2 := (Q5T 4 n c k).2
   have h3 := Nat.div_le_self c (10 ^ k)
   have h4 := QE c
   rw [HL.out] at h4
   have h5 : ndg (rdiv 4 n c k) ≤ L + 1 := Q17 (by omega) (by rw [Nat.pow_succ]; omega)
   refine ⟨by omega, ?_⟩
   by_cases e0 : rdiv 4 n c k = 0
   ·rw [e0, Qv]; simp
   ·rw [Q08 _ e0]; omega)
  have HTo : Hid (∀ w2 s' c', Below w.heap.size w w2 → NumV w2 (.agg #[.bool false, s']) false c' → (dgs c').length ≤ 4000000000 → Calls Tryz.prog 47 #[.agg #[.bool n, .bool false, s', .int .i64 0]] w2 fun r w' => r = .returned (.agg #[.int .i64 0, .bool n, .int .i32 0, .string (txS c')]) ∧ Below w2.heap.size w2 w') := Lh (fun w2 s' c' h hN hl => by
   obtain ⟨s'', hs', hd⟩ := hN
   have hq : s' = s'' := by
    have := congrArg (fun v => match v with | Value.agg cs => cs.toList | _ => []) hs'
    simpa using this
   exact Q1J ⟨_, rfl, by rw [hq]; exact hd⟩ (by omega) hl)
  generalize decide (c % 10 ^ k = 0) = ex at HR
  generalize rdiv 4 n c k = Q at HR HV HNQ
  have hM1 := HNQ.out.1
  have hM0 := Qj Q
  generalize hM : ndg Q = M at hM1 hM0 HV
  have HM := Lh hM
  clear hk hki h0 hM
  go_wp2_with fail
  refine (HR.out _ H0.out.bw).mono ?_
  rintro r w4 ⟨v4, rfl, ⟨s4, rfl, k4⟩, hB⟩
  have H4 := Lh (H0.out.later hB)
  have N4 : Hid (NumV w4 (.agg #[.bool false, s4]) false Q) := Lh ⟨s4, rfl, k4⟩
  obtain ⟨p4, cp4, rfl, _⟩ := k4
  generalize hl4 : (dgs Q).length = l4 at N4 ⊢
  clear hB c0 c1 c2 c4 x0 x1 x2 x3 H0 hl4 HR
  go_upto_region 10 with (fail)
  have H5 := Lh (H4.out.al (.cells #[.bool false, .slice p4 l4 cp4] 43))
  have N5 := Lh (N4.out.later (Qe w4 (.cells #[.bool false, .slice p4 l4 cp4] 43)))
  have Q5 := Lh (gal w4 (.cells #[.bool false, .slice p4 l4 cp4] 43))
  have G5 : Hid (w4.heap.size ≠ w.heap.size + 1 + 1) := Lh (by have := H4.out.size; omega)
  generalize hg : w4.heap.size = gq at Q5 G5 ⊢
  generalize hw5 : w4.alloc (.cells #[.bool false, .slice p4 l4 cp4] 43) = w5 at H5 N5 Q5 ⊢
  clear hg hw5 H4 N4
  refine AH.start (fun _ => True) (by kernel_rfl) ?_
  generalize hw6 : w5.drew = w6
  have hs6 : Below w5.heap.size w5 w6 := by rw [← hw6]; exact (Below.refl _ _).drew
  have H6 := Lh (H5.out.later hs6); have N6 := Lh (N5.out.later hs6); have Q6 := Lh (Qb Q5.out hs6)
  clear hw6 hs6 H5 N5 Q5
  refine AH.z 0 trivial ?_
  refine AH.z 1 trivial ?_
  refine AH.z 2 trivial ?_
  refine AH.p 3 trivial ?_
  refine AH.p 4 trivial ?_
  refine AH.p 5 trivial ?_
  refine AH.p 6 trivial ?_
  refine AH.p 7 trivial ?_
  refine AH.p 8 trivial ?_
  refine AH.p 9 trivial ?_
  refine AH.p 10 trivial ?_
  refine AH.p 11 trivial ?_
  refine AH.p 12 trivial ?_
  refine AH.p 13 trivial ?_
  refine AH.p 14 trivial ?_
  refine AH.p 15 trivial ?_
  refine AH.p 16 trivial ?_
  refine AH.p 17 trivial ?_
  refine AH.p 18 trivial ?_
  refine AH.p 19 trivial ?_
  refine AH.p 20 trivial ?_
  refine AH.p 21 trivial ?_
  refine AH.p 22 trivial ?_
  refine AH.p 23 trivial ?_
  refine AH.p 24 trivial ?_
  refine AH.p 25 trivial ?_
  refine AH.p 26 trivial ?_
  refine AH.p 27 trivial ?_
  refine AH.z 28 trivial ?_
  refine AH.done (by kernel_rfl) ?_
  obtain ⟨c0, c1, c2, c4⟩ := H6.out.cc
  go_upto_region 13 with (fail)
  clear c0 c1 c2 c4
  refine AH.start (fun x => (x.cell? ⟨gq, 0, none⟩ = some (.bool false) ∧ x.cell? ⟨gq, 1, none⟩ = some (.slice p4 l4 cp4)) ∧ x.cell? ⟨w.heap.size, 1, none⟩ = some (.int .i32 mx)) (by kernel_rfl) ?_
  generalize hw10 : w6.drew = w10
  have hs10 : Below w6.heap.size w6 w10 := by rw [← hw10]; exact (Below.refl _ _).drew
  have H10 := Lh (H6.out.later hs10); have N10 := Lh (N6.out.later hs10); have Q10 := Lh (Qb Q6.out hs10)
  clear hw10 hs10 H6 N6 Q6
  have s10 : (w10.cell? ⟨gq, 0, none⟩ = some (.bool false) ∧ w10.cell? ⟨gq, 1, none⟩ = some (.slice p4 l4 cp4)) ∧ w10.cell? ⟨w.heap.size, 1, none⟩ = some (.int .i32 mx) := ⟨⟨Qt Q10.out 0 rfl, Qt Q10.out 1 rfl⟩, H10.out.cc.2.1⟩
  have j7 : IntKind.i64.wrap ((M : Int) - 1) = (M : Int) - 1 := IntWalk.i64_in _ (by omega)
  refine AH.z 0 s10 ?_
  refine AH.z 1 s10 ?_
  refine AH.z 2 s10 ?_
  refine AH.z 3 s10 ?_
  refine (Nat.eq_zero_or_pos p).elim (fun hp0 => ?pz) (fun hp0 => ?pn)
  case' pz =>
   have bp : decide ((0 : Int) < (p : Int)) = false := by simp; omega
   have bp' : decide (0 < p) = false := decide_eq_false (by omega)
   have HPP : Hid (¬ (0 < p ∧ p < M)) := Lh (by omega)
   refine AH.z 4 s10 ?_
   try rw [bp]
   try rw [bp']
   refine AH.z 5 s10 ?_
   refine AH.z 6 s10 ?_
   refine AH.p 7 s10 ?_
   refine AH.p 8 s10 ?_
   refine AH.p 9 s10 ?_
   refine AH.p 10 s10 ?_
   refine AH.z 11 s10 ?_
   refine AH.z 12 s10 ?_
   have H11 := H10; have N11 := N10; have Q11 := Q10; have s11 := s10
   clear H10 N10 Q10 s10 bp bp' hp0
   generalize w10 = w11 at H11 N11 Q11 s11 ⊢
  case' pn =>
   have bp : decide ((0 : Int) < (p : Int)) = true := by simp; omega
   have bp' : decide (0 < p) = true := decide_eq_true hp0
   refine AH.z 4 s10 ?_
   try rw [bp]
   try rw [bp']
   refine AH.z 5 s10 ?_
   refine AH.z 6 s10 ?_
   refine AH.z 7 s10 ?_
   refine AH.z 9 s10 ?_
   refine AH.o 8 (fun K hK => ?_)
   go_simp
   refine (Q04 N10.out).mono ?_
   rintro r w11 ⟨rfl, hB⟩
   rw [HM.out]
   have H11 := Lh (H10.out.later hB); have N11 := Lh (N10.out.later hB); have Q11 := Lh (Qb Q10.out hB)
   have s11 : (w11.cell? ⟨gq, 0, none⟩ = some (.bool false) ∧ w11.cell? ⟨gq, 1, none⟩ = some (.slice p4 l4 cp4)) ∧ w11.cell? ⟨w.heap.size, 1, none⟩ = some (.int .i32 mx) := ⟨⟨Qt Q11.out 0 rfl, Qt Q11.out 1 rfl⟩, H11.out.cc.2.1⟩
   refine hK _ _ s11 ?_
   clear hK K hB s10 H10 N10 Q10
   try simp only [Act.put,Zp_]
   by_cases hlo : p < M
   ·have HV2 : Hid (S = RsV 0 false 0 ⟨#[]⟩ 0 false false false) := Lh (by rw [HV.out, if_pos (.inl ⟨hp0, hlo⟩)])
    have blo : decide ((p : Int) < (M : Int)) = true := by simp; omega
    have blo' : decide (p < M) = true := decide_eq_true hlo
    clear bp bp' hp0 hlo
    refine AH.z 10 s11 ?_
    try rw [blo]
    try rw [blo']
    refine AH.z 11 s11 ?_
    refine AH.z 12 s11 ?_
    refine AH.p 13 s11 ?_
    refine AH.p 14 s11 ?_
    refine AH.p 15 s11 ?_
    refine AH.p 16 s11 ?_
    refine AH.p 17 s11 ?_
    refine AH.p 18 s11 ?_
    refine AH.p 19 s11 ?_
    refine AH.p 20 s11 ?_
    refine AH.p 21 s11 ?_
    refine AH.p 22 s11 ?_
    refine AH.p 23 s11 ?_
    refine AH.p 24 s11 ?_
    refine AH.z 25 s11 ?_
    clear s11
    refine AH.done (by kernel_rfl) ?_
    obtain ⟨r0, r1, r2, r3, r4, r5, r6, r7⟩ := H11.out.rc
    obtain ⟨f0, f1, f2, f3, f4, f5, f6, f7⟩ := H11.out.rf
    go_wp2_with fail
    have h8 := QV H11.out.rb (.int .i64 0) (.bool false) (.int .i32 0) (.string ⟨#[]⟩) (.int .u32 0) (.bool false) (.bool false) (.bool false)
    have hb := H11.out.done (.int .i64 0) (.bool false) (.int .i32 0) (.string ⟨#[]⟩) (.int .u32 0) (.bool false) (.bool false) (.bool false)
    unfold set8 at h8 hb
    exact bodyPost_ret (v := .agg #[.int .i64 0, .bool false, .int .i32 0, .string ⟨#[]⟩, .int .u32 0, .bool false, .bool false, .bool false]) (by simp [results, Tryz.results48, go_sem, h8]) rfl ⟨QM (by rw [HV2.out]; rfl), hb⟩
   have HPP : Hid (¬ (0 < p ∧ p < M)) := Lh (by omega)
   have blo : decide ((p : Int) < (M : Int)) = false := by simp; omega
   have blo' : decide (p < M) = false := decide_eq_false hlo
   refine AH.z 10 s11 ?_
   try rw [blo]
   try rw [blo']
   refine AH.z 11 s11 ?_
   refine AH.z 12 s11 ?_
   clear blo blo' bp bp' hp0 hlo
  all_goals
   have HV3 : Hid (¬ (Q ≠ 0 ∧ mx < (M : Int) - 1) → S = RsV 0 n 0 (txS Q) 0 true false false) := Lh (fun h => by rw [HV.out, if_neg (by rintro (g | g); exact HPP.out g; exact h g)])
   have HV4 : Hid (Q ≠ 0 ∧ mx < (M : Int) - 1 → S = RsV 0 false 0 ⟨#[]⟩ 0 false false false) := Lh (fun h => by rw [HV.out, if_pos (.inr h)])
   clear HV HPP
   refine AH.z 13 s11 ?_
   refine AH.o 14 (fun K hK => ?_)
   go_simp
   refine (Q1H N11.out).mono ?_
   rintro r w12 ⟨rfl, hB⟩
   have H12 := Lh (H11.out.later hB); have N12 := Lh (N11.out.later hB); have Q12 := Lh (Qb Q11.out hB)
   have s12 : (w12.cell? ⟨gq, 0, none⟩ = some (.bool false) ∧ w12.cell? ⟨gq, 1, none⟩ = some (.slice p4 l4 cp4)) ∧ w12.cell? ⟨w.heap.size, 1, none⟩ = some (.int .i32 mx) := ⟨⟨Qt Q12.out 0 rfl, Qt Q12.out 1 rfl⟩, H12.out.cc.2.1⟩
   refine hK _ _ s12 ?_
   clear hK K hB s11 H11 N11 Q11
   try simp only [Act.put,Zp_]
   by_cases hq0 : Q = 0
   ·have HV2 := Lh (HV3.out (fun h => h.1 hq0))
    rw [decide_eq_true hq0]
    clear hq0 HV3 HV4
    refine AH.z 15 s12 ?_
    refine AH.z 16 s12 ?_
    refine AH.p 17 s12 ?_
    refine AH.p 18 s12 ?_
    refine AH.p 19 s12 ?_
    refine AH.p 20 s12 ?_
    refine AH.p 21 s12 ?_
    refine AH.p 22 s12 ?_
    refine AH.p 23 s12 ?_
    refine AH.z 24 s12 ?_
    refine AH.z 25 s12 ?_
    clear s12
    refine AH.done (by kernel_rfl) ?_
    obtain ⟨x0, x1, x2, x3⟩ := H12.out.xc
    have cq0 := Qt Q12.out 0 rfl; have cq1 := Qt Q12.out 1 rfl
    go_wp2_with fail
    refine (HTo.out _ _ _ H12.out.bw N12.out HNQ.out.2).mono ?_
    rintro r wU ⟨rfl, hB⟩
    have HU := Lh (H12.out.later hB)
    clear hB x0 x1 x2 x3 cq0 cq1 H12 N12 Q12
    generalize txS Q = T0 at HV2 ⊢
    obtain ⟨r0, r1, r2, r3, r4, r5, r6, r7⟩ := HU.out.rc
    obtain ⟨f0, f1, f2, f3, f4, f5, f6, f7⟩ := HU.out.rf
    go_wp2_with fail
    have h8 := QV HU.out.rb (.int .i64 0) (.bool n) (.int .i32 0) (.string T0) (.int .u32 0) (.bool true) (.bool false) (.bool false)
    have hb := HU.out.done (.int .i64 0) (.bool n) (.int .i32 0) (.string T0) (.int .u32 0) (.bool true) (.bool false) (.bool false)
    unfold set8 at h8 hb
    exact bodyPost_ret (v := .agg #[.int .i64 0, .bool n, .int .i32 0, .string T0, .int .u32 0, .bool true, .bool false, .bool false]) (by simp [results, Tryz.results48, go_sem, h8]) rfl ⟨QM (by rw [HV2.out]; rfl), hb⟩
   rw [decide_eq_false hq0]
   have HQ0 := Lh hq0
   clear hq0
   refine AH.z 15 s12 ?_
   refine AH.z 16 s12 ?_
   refine AH.z 17 s12 ?_
   refine AH.z 20 s12 ?_
   refine AH.z 21 s12 ?_
   refine AH.z 22 s12 ?_
   refine AH.o 18 (fun K hK => ?_)
   go_simp
   refine (Q04 N12.out).mono ?_
   rintro r w13 ⟨rfl, hB⟩
   rw [HM.out]
   have H13 := Lh (H12.out.later hB); have N13 := Lh (N12.out.later hB); have Q13 := Lh (Qb Q12.out hB)
   have s13 : (w13.cell? ⟨gq, 0, none⟩ = some (.bool false) ∧ w13.cell? ⟨gq, 1, none⟩ = some (.slice p4 l4 cp4)) ∧ w13.cell? ⟨w.heap.size, 1, none⟩ = some (.int .i32 mx) := ⟨⟨Qt Q13.out 0 rfl, Qt Q13.out 1 rfl⟩, H13.out.cc.2.1⟩
   refine hK _ _ s13 ?_
   clear hK K hB s12 H12 N12 Q12
   try simp only [Act.put,Zp_]
   refine AH.z 19 s13 ?_
   by_cases hov : mx < (M : Int) - 1
   ·have HV2 := Lh (HV4.out ⟨HQ0.out, hov⟩)
    have bov : decide (mx < (M : Int) - 1) = true := decide_eq_true hov
    clear HV3 HV4 hov
    refine AH.z 23 s13 ?_
    try rw [bov]
    refine AH.z 24 s13 ?_
    refine AH.z 25 s13 ?_
    clear s13
    refine AH.done (by kernel_rfl) ?_
    obtain ⟨r0, r1, r2, r3, r4, r5, r6, r7⟩ := H13.out.rc
    obtain ⟨f0, f1, f2, f3, f4, f5, f6, f7⟩ := H13.out.rf
    go_wp2_with fail
    have h8 := QV H13.out.rb (.int .i64 0) (.bool false) (.int .i32 0) (.string ⟨#[]⟩) (.int .u32 0) (.bool false) (.bool false) (.bool false)
    have hb := H13.out.done (.int .i64 0) (.bool false) (.int .i32 0) (.string ⟨#[]⟩) (.int .u32 0) (.bool false) (.bool false) (.bool false)
    unfold set8 at h8 hb
    exact bodyPost_ret (v := .agg #[.int .i64 0, .bool false, .int .i32 0, .string ⟨#[]⟩, .int .u32 0, .bool false, .bool false, .bool false]) (by simp [results, Tryz.results48, go_sem, h8]) rfl ⟨QM (by rw [HV2.out]; rfl), hb⟩
   have HV2 := Lh (HV3.out (fun h => hov h.2))
   have bov : decide (mx < (M : Int) - 1) = false := decide_eq_false hov
   clear HV3 HV4 hov
   refine AH.z 23 s13 ?_
   try rw [bov]
   refine AH.z 24 s13 ?_
   refine AH.z 25 s13 ?_
   clear s13
   refine AH.done (by kernel_rfl) ?_
   obtain ⟨x0, x1, x2, x3⟩ := H13.out.xc
   have cq0 := Qt Q13.out 0 rfl; have cq1 := Qt Q13.out 1 rfl
   go_wp2_with fail
   refine (HTo.out _ _ _ H13.out.bw N13.out HNQ.out.2).mono ?_
   rintro r wU ⟨rfl, hB⟩
   have HU := Lh (H13.out.later hB)
   clear hB x0 x1 x2 x3 cq0 cq1 H13 N13 Q13
   generalize txS Q = T0 at HV2 ⊢
   obtain ⟨r0, r1, r2, r3, r4, r5, r6, r7⟩ := HU.out.rc
   obtain ⟨f0, f1, f2, f3, f4, f5, f6, f7⟩ := HU.out.rf
   go_wp2_with fail
   have h8 := QV HU.out.rb (.int .i64 0) (.bool n) (.int .i32 0) (.string T0) (.int .u32 0) (.bool true) (.bool false) (.bool false)
   have hb := HU.out.done (.int .i64 0) (.bool n) (.int .i32 0) (.string T0) (.int .u32 0) (.bool true) (.bool false) (.bool false)
   unfold set8 at h8 hb
   exact bodyPost_ret (v := .agg #[.int .i64 0, .bool n, .int .i32 0, .string T0, .int .u32 0, .bool true, .bool false, .bool false]) (by simp [results, Tryz.results48, go_sem, h8]) rfl ⟨QM (by rw [HV2.out]; rfl), hb⟩
end Go.Proofs.YtamldngoemdfgaaGreatDoor
