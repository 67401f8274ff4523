/- a part of the proof: what functions that the statement reaches do -/
import Derived.Test.YtegjllplmnpbdaaGreatDoorZ15
import Derived.Test.YtegjllplmnpbdaaGreatDoorZ41
set_option linter.all false
set_option maxRecDepth 100000
set_option maxHeartbeats 16000000
namespace Go.Proofs.YtegjllplmnpbdaaGreatDoor
open Go Go.RowKit
theorem Q8h {W : World} {σ : Sg} {w : World} (hW : GW W) (h : St W σ w) {b : Nat} (f : Nat) (hf : f < 4) {n : Bool} {e : Int} {c : Nat} (hb : σ b = some (.dec (f : Int) n e (c : Int))) (hc : c < BB ^ 8) :
  Calls Tryz.prog 33 #[.pointer (some ⟨b, 0, none⟩)] w fun r w' => r = .returned (.agg #[.int .i64 (f : Int), .bool n, .int .i32 e, .string (decS c)]) ∧ St W σ w' := by
 have HC : Hid (∀ w2, St W σ w2 → w2.cell? ⟨b, 1, none⟩ = some (.bool n) ∧ w2.cell? ⟨b, 2, none⟩ = some (.int .i32 e)) := fun w2 q => ⟨(q.dec hb).2.1, (q.dec hb).2.2.1⟩
 have HF : Hid (∀ w2, St W σ w2 → w2.cell? ⟨b, 0, none⟩ = some (.int .i8 (f : Int))) := fun w2 q => (q.dec hb).1
 have HS : Hid (∀ σ' w2, Ext σ σ' → St W σ' w2 → Calls Tryz.prog 90 #[.pointer (some ⟨b, 3, none⟩)] w2 fun r w' => r = .returned (.string (decS c)) ∧ St W σ' w') := fun σ' w2 hx q => Q6Y hW q (Num.dec (hx _ _ hb)) hc
 have hn := h.none_new
 have H0 := Lh (h.alloc (.cells #[.int .i64 0, .bool false, .int .i32 0, .string ⟨#[]⟩] 26))
 obtain ⟨rb, hrb⟩ : ∃ rb, rb = w.heap.size := ⟨_, rfl⟩
 rw [← hrb] at H0 hn
 have HX := Lh (Ext.new hn (.raw (.cells #[.int .i64 0, .bool false, .int .i32 0, .string ⟨#[]⟩] 26)))
 have hrr : upd σ rb (.raw (.cells #[.int .i64 0, .bool false, .int .i32 0, .string ⟨#[]⟩] 26)) rb = some (.raw (.cells #[.int .i64 0, .bool false, .int .i32 0, .string ⟨#[]⟩] 26)) := Q1 _ _ _
 generalize upd σ rb (.raw (.cells #[.int .i64 0, .bool false, .int .i32 0, .string ⟨#[]⟩] 26)) = σX at H0 HX hrr
 have s0 := HC.out _ (H0.out.less HX.out)
 have Hrr := Lh hrr
 clear h hb hc hrr
 generalize decS c = S at HS ⊢
 go_enter Tryz.func33, Tryz.ntmps33
 go_wp2_with fail
 rw [← hrb]
 clear hrb
 generalize w.alloc (.cells #[.int .i64 0, .bool false, .int .i32 0, .string ⟨#[]⟩] 26) = w1 at H0 s0 ⊢
 refine AH.start (fun x => x.cell? ⟨b, 1, none⟩ = some (.bool n) ∧ x.cell? ⟨b, 2, none⟩ = some (.int .i32 e)) (by kernel_rfl) ?_
 refine AH.z 0 s0 ?_
 try simp only [Act.put,Zp_]
 refine AH.z 1 s0 ?_
 try simp only [Act.put,Zp_]
 refine AH.z 2 s0 ?_
 try simp only [Act.put,Zp_]
 refine AH.z 3 s0 ?_
 try simp only [Act.put,Zp_]
 refine AH.z 4 s0 ?_
 try simp only [Act.put,Zp_]
 refine AH.z 5 s0 ?_
 try simp only [Act.put,Zp_]
 refine AH.z 6 s0 ?_
 try simp only [Act.put,Zp_]
 refine AH.z 7 s0 ?_
 try simp only [Act.put,Zp_]
 refine AH.z 8 s0 ?_
 try simp only [Act.put,Zp_]
 refine AH.z 9 s0 ?_
 try simp only [Act.put,Zp_]
 refine AH.z 10 s0 ?_
 try simp only [Act.put,Zp_]
 refine AH.t 11 13 (fun K hK => ?_) (fun K hK => ?_)
 ·go_simp
  refine (HS.out _ w1.drew HX.out (by exact H0.out.drew)).mono ?_
  rintro r w3 ⟨rfl, q⟩
  have H1 := Lh q
  have s1 := HC.out _ (q.less HX.out)
  clear q s0
  refine hK _ _ s1 ?_
  clear hK K
  try simp only [Act.put,Zp_]
  refine AH.z 12 s1 ?_
  try simp only [Act.put,Zp_]
  refine AH.o 13 (fun K hK => ?_)
  go_simp
  refine hK _ _ (HC.out _ ((H1.out.less HX.out).alloc_any _)) ?_
  clear hK K
  try simp only [Act.put,Zp_]
  refine AH.o 14 (fun K hK => ?_)
  go_simp
  refine hK _ _ (HC.out _ ((H1.out.less HX.out).alloc_any _)) ?_
  clear hK K s1
  try simp only [Act.put,Zp_]
  refine AH.done (by kernel_rfl) ?_
  have H5 := Lh (H1.out.alloc (.cells #[.int .i64 0, .bool n, .int .i32 e, .string S] 26))
  have hn2 := H1.out.none_new
  generalize hb2 : w3.heap.size = b2 at H5 hn2 ⊢
  generalize hw5 : w3.alloc (.cells #[.int .i64 0, .bool n, .int .i32 e, .string S] 26) = w5 at H5 ⊢
  clear hb2 hw5 H1
  have HE5 : Hid (Ext σX (upd σX b2 (.raw (.cells #[.int .i64 0, .bool n, .int .i32 e, .string S] 26)))) := Lh (Ext.new hn2 _)
  have r5 := H5.out.raw (HE5.out _ _ Hrr.out)
  have x5 := H5.out.raw (Q1 σX b2 _)
  have c0 := HF.out _ (H5.out.less (HX.out.trans HE5.out))
  have hne : b2 ≠ rb := by rintro rfl; rw [Hrr.out] at hn2; cases hn2
  have hxR : Row w5 b2 4 26 := Row.of_block x5
  have hrR : Row w5 rb 4 26 := Row.of_block r5
  have x0 : w5.cell? ⟨b2, 0, none⟩ = some (.int .i64 0) := by unfold World.cell?; rw [x5]; rfl
  have x1 : w5.cell? ⟨b2, 1, none⟩ = some (.bool n) := by unfold World.cell?; rw [x5]; rfl
  have x2 : w5.cell? ⟨b2, 2, none⟩ = some (.int .i32 e) := by unfold World.cell?; rw [x5]; rfl
  have x3 : w5.cell? ⟨b2, 3, none⟩ = some (.string S) := by unfold World.cell?; rw [x5]; rfl
  have g0 := hxR.free 0
  have r0 : w5.cell? ⟨rb, 0, none⟩ = some (.int .i64 0) := by unfold World.cell?; rw [r5]; rfl
  have r1 : w5.cell? ⟨rb, 1, none⟩ = some (.bool false) := by unfold World.cell?; rw [r5]; rfl
  have r2 : w5.cell? ⟨rb, 2, none⟩ = some (.int .i32 0) := by unfold World.cell?; rw [r5]; rfl
  have r3 : w5.cell? ⟨rb, 3, none⟩ = some (.string ⟨#[]⟩) := by unfold World.cell?; rw [r5]; rfl
  have q0 := hrR.free 0; have q1 := hrR.free 1; have q2 := hrR.free 2; have q3 := hrR.free 3
  have HSt : Hid (∀ (k : Int), St W σ ((((w5.setCell ⟨rb, 0, none⟩ (.int .i64 k)).setCell ⟨rb, 1, none⟩ (.bool n)).setCell ⟨rb, 2, none⟩ (.int .i32 e)).setCell ⟨rb, 3, none⟩ (.string S)) ∧ St W σ (((((w5.setCell ⟨b2, 0, none⟩ (.int .i64 k)).setCell ⟨rb, 0, none⟩ (.int .i64 k)).setCell ⟨rb, 1, none⟩ (.bool n)).setCell ⟨rb, 2, none⟩ (.int .i32 e)).setCell ⟨rb, 3, none⟩ (.string S))) := Lh (fun k => by
   have hrb5 := HE5.out _ _ Hrr.out
   have hE := HX.out.trans HE5.out
   have nb2 : σ b2 = none := by
    cases hc : σ b2 with
    | none => rfl
    | some o => have := HX.out _ _ hc; rw [hn2] at this; cases this
   refine ⟨((((H5.out.setRaw hrb5 0 _).setRaw (Q1 _ _ _) 1 _).setRaw (Q1 _ _ _) 2 _).setRaw (Q1 _ _ _) 3 _).less ((((hE.upd_skip hn _).upd_skip hn _).upd_skip hn _).upd_skip hn _), ?_⟩
   exact (((((H5.out.setRaw (Q1 _ _ _) 0 _).setRaw (by rw [Qc _ _ hne.symm]; exact hrb5) 0 _).setRaw (Q1 _ _ _) 1 _).setRaw (Q1 _ _ _) 2 _).setRaw (Q1 _ _ _) 3 _).less (((((hE.upd_skip nb2 _).upd_skip hn _).upd_skip hn _).upd_skip hn _).upd_skip hn _))
  clear r5 x5 hxR hrR HC HS
  rcases (show f = 0 ∨ f = 1 ∨ f = 2 ∨ f = 3 by omega) with rfl | rfl | rfl | rfl
  ·have c0' : w5.cell? ⟨b, 0, none⟩ = some (.int .i8 0) := c0
   clear c0
   go_wp2_with fail
   exact bodyPost_ret (v := .agg #[.int .i64 0, .bool n, .int .i32 e, .string S]) (by simp [results, Tryz.results33, go_sem, Q0C r0 r1 r2 r3]) rfl ⟨rfl, (HSt.out _).1⟩
  ·have c0' : w5.cell? ⟨b, 0, none⟩ = some (.int .i8 1) := c0
   clear c0
   go_wp2_with fail
   have HW6 := (HSt.out 1).2
   have hoth : ∀ i, (w5.setCell ⟨b2, 0, none⟩ (.int .i64 1)).cell? ⟨rb, i, none⟩ = w5.cell? ⟨rb, i, none⟩ := fun i => World.cell?_setCell_other _ _ _ _ (fun e => hne (by injection e))
   have t0 := (hoth 0).trans r0; have t1 := (hoth 1).trans r1; have t2 := (hoth 2).trans r2; have t3 := (hoth 3).trans r3
   clear hoth
   generalize w5.setCell ⟨b2, 0, none⟩ (.int .i64 1) = w6 at t0 t1 t2 t3 HW6 ⊢
   exact bodyPost_ret (v := .agg #[.int .i64 1, .bool n, .int .i32 e, .string S]) (by simp [results, Tryz.results33, go_sem, Q0C t0 t1 t2 t3]) rfl ⟨rfl, HW6⟩
  ·have c0' : w5.cell? ⟨b, 0, none⟩ = some (.int .i8 2) := c0
   clear c0
   go_wp2_with fail
   have HW6 := (HSt.out 2).2
   have hoth : ∀ i, (w5.setCell ⟨b2, 0, none⟩ (.int .i64 2)).cell? ⟨rb, i, none⟩ = w5.cell? ⟨rb, i, none⟩ := fun i => World.cell?_setCell_other _ _ _ _ (fun e => hne (by injection e))
   have t0 := (hoth 0).trans r0; have t1 := (hoth 1).trans r1; have t2 := (hoth 2).trans r2; have t3 := (hoth 3).trans r3
   clear hoth
   generalize w5.setCell ⟨b2, 0, none⟩ (.int .i64 2) = w6 at t0 t1 t2 t3 HW6 ⊢
   exact bodyPost_ret (v := .agg #[.int .i64 2, .bool n, .int .i32 e, .string S]) (by simp [results, Tryz.results33, go_sem, Q0C t0 t1 t2 t3]) rfl ⟨rfl, HW6⟩
  ·have c0' : w5.cell? ⟨b, 0, none⟩ = some (.int .i8 3) := c0
   clear c0
   go_wp2_with fail
   have HW6 := (HSt.out 3).2
   have hoth : ∀ i, (w5.setCell ⟨b2, 0, none⟩ (.int .i64 3)).cell? ⟨rb, i, none⟩ = w5.cell? ⟨rb, i, none⟩ := fun i => World.cell?_setCell_other _ _ _ _ (fun e => hne (by injection e))
   have t0 := (hoth 0).trans r0; have t1 := (hoth 1).trans r1; have t2 := (hoth 2).trans r2; have t3 := (hoth 3).trans r3
   clear hoth
   generalize w5.setCell ⟨b2, 0, none⟩ (.int .i64 3) = w6 at t0 t1 t2 t3 HW6 ⊢
   exact bodyPost_ret (v := .agg #[.int .i64 3, .bool n, .int .i32 e, .string S]) (by simp [results, Tryz.results33, go_sem, Q0C t0 t1 t2 t3]) rfl ⟨rfl, HW6⟩
 ·go_simp
  have H1 := Lh (H0.out.alloc (.cells #[.int .i64 0, .bool false, .int .i32 0, .string ⟨#[]⟩] 26))
  have hn2 := H0.out.none_new
  generalize hb2 : w1.heap.size = b2 at H1 hn2 ⊢
  refine hK _ _ (HC.out _ ((H0.out.less HX.out).alloc_any (.cells #[.int .i64 0, .bool false, .int .i32 0, .string ⟨#[]⟩] 26)).drew) ?_
  clear hK K
  try simp only [Act.put,Zp_]
  refine AH.o 11 (fun K hK => ?_)
  go_simp
  have HE2 := Lh (Ext.new hn2 (.raw (.cells #[.int .i64 0, .bool false, .int .i32 0, .string ⟨#[]⟩] 26)))
  refine (HS.out _ _ (HX.out.trans HE2.out) (by exact H1.out.drew)).mono ?_
  rintro r w3 ⟨rfl, q⟩
  have H2 := Lh q
  have s1 := HC.out _ (q.less (HX.out.trans HE2.out))
  clear q s0
  refine hK _ _ s1 ?_
  clear hK K
  try simp only [Act.put,Zp_]
  refine AH.z 12 s1 ?_
  try simp only [Act.put,Zp_]
  have x5 := H2.out.raw (Q1 σX b2 _)
  have hxR : Row w3 b2 4 26 := Row.of_block x5
  have x0 : w3.cell? ⟨b2, 0, none⟩ = some (.int .i64 0) := by unfold World.cell?; rw [x5]; rfl
  have x1 : w3.cell? ⟨b2, 1, none⟩ = some (.bool false) := by unfold World.cell?; rw [x5]; rfl
  have x2 : w3.cell? ⟨b2, 2, none⟩ = some (.int .i32 0) := by unfold World.cell?; rw [x5]; rfl
  have x3 : w3.cell? ⟨b2, 3, none⟩ = some (.string ⟨#[]⟩) := by unfold World.cell?; rw [x5]; rfl
  have g0 := hxR.free 0; have g1 := hxR.free 1; have g2 := hxR.free 2; have g3 := hxR.free 3
  have H5 : Hid (St W (upd σX b2 (.raw (.cells #[.int .i64 0, .bool n, .int .i32 e, .string S] 26))) ((((w3.setCell ⟨b2, 0, none⟩ (.int .i64 0)).setCell ⟨b2, 1, none⟩ (.bool n)).setCell ⟨b2, 2, none⟩ (.int .i32 e)).setCell ⟨b2, 3, none⟩ (.string S))) := Lh (by
   refine ((((H2.out.setRaw (Q1 _ _ _) 0 _).setRaw (Q1 _ _ _) 1 _).setRaw (Q1 _ _ _) 2 _).setRaw (Q1 _ _ _) 3 _).ext fun k => ?_
   by_cases hk : k = b2
   ·subst hk; rw [Q1, Q1]; rfl
   ·simp only [Qc _ _ hk])
  have s5 := HC.out _ (H5.out.less (HX.out.trans (Ext.new hn2 _)))
  clear x5 hxR
  refine AH.o 14 (fun K hK => ?_)
  go_simp
  refine hK _ _ s5 ?_
  clear hK K s1 s5 x0 x1 x2 x3 g0 g1 g2 g3
  try simp only [Act.put,Zp_]
  refine AH.done (by kernel_rfl) ?_
  generalize hw5 : (((w3.setCell ⟨b2, 0, none⟩ (.int .i64 0)).setCell ⟨b2, 1, none⟩ (.bool n)).setCell ⟨b2, 2, none⟩ (.int .i32 e)).setCell ⟨b2, 3, none⟩ (.string S) = w5 at H5 ⊢
  clear hb2 hw5 H1 H2 HE2
  have HE5 : Hid (Ext σX (upd σX b2 (.raw (.cells #[.int .i64 0, .bool n, .int .i32 e, .string S] 26)))) := Lh (Ext.new hn2 _)
  have r5 := H5.out.raw (HE5.out _ _ Hrr.out)
  have x5 := H5.out.raw (Q1 σX b2 _)
  have c0 := HF.out _ (H5.out.less (HX.out.trans HE5.out))
  have hne : b2 ≠ rb := by rintro rfl; rw [Hrr.out] at hn2; cases hn2
  have hxR : Row w5 b2 4 26 := Row.of_block x5
  have hrR : Row w5 rb 4 26 := Row.of_block r5
  have x0 : w5.cell? ⟨b2, 0, none⟩ = some (.int .i64 0) := by unfold World.cell?; rw [x5]; rfl
  have x1 : w5.cell? ⟨b2, 1, none⟩ = some (.bool n) := by unfold World.cell?; rw [x5]; rfl
  have x2 : w5.cell? ⟨b2, 2, none⟩ = some (.int .i32 e) := by unfold World.cell?; rw [x5]; rfl
  have x3 : w5.cell? ⟨b2, 3, none⟩ = some (.string S) := by unfold World.cell?; rw [x5]; rfl
  have g0 := hxR.free 0
  have r0 : w5.cell? ⟨rb, 0, none⟩ = some (.int .i64 0) := by unfold World.cell?; rw [r5]; rfl
  have r1 : w5.cell? ⟨rb, 1, none⟩ = some (.bool false) := by unfold World.cell?; rw [r5]; rfl
  have r2 : w5.cell? ⟨rb, 2, none⟩ = some (.int .i32 0) := by unfold World.cell?; rw [r5]; rfl
  have r3 : w5.cell? ⟨rb, 3, none⟩ = some (.string ⟨#[]⟩) := by unfold World.cell?; rw [r5]; rfl
  have q0 := hrR.free 0; have q1 := hrR.free 1; have q2 := hrR.free 2; have q3 := hrR.free 3
  have HSt : Hid (∀ (k : Int), St W σ ((((w5.setCell ⟨rb, 0, none⟩ (.int .i64 k)).setCell ⟨rb, 1, none⟩ (.bool n)).setCell ⟨rb, 2, none⟩ (.int .i32 e)).setCell ⟨rb, 3, none⟩ (.string S)) ∧ St W σ (((((w5.setCell ⟨b2, 0, none⟩ (.int .i64 k)).setCell ⟨rb, 0, none⟩ (.int .i64 k)).setCell ⟨rb, 1, none⟩ (.bool n)).setCell ⟨rb, 2, none⟩ (.int .i32 e)).setCell ⟨rb, 3, none⟩ (.string S))) := Lh (fun k => by
   have hrb5 := HE5.out _ _ Hrr.out
   have hE := HX.out.trans HE5.out
   have nb2 : σ b2 = none := by
    cases hc : σ b2 with
    | none => rfl
    | some o => have := HX.out _ _ hc; rw [hn2] at this; cases this
   refine ⟨((((H5.out.setRaw hrb5 0 _).setRaw (Q1 _ _ _) 1 _).setRaw (Q1 _ _ _) 2 _).setRaw (Q1 _ _ _) 3 _).less ((((hE.upd_skip hn _).upd_skip hn _).upd_skip hn _).upd_skip hn _), ?_⟩
   exact (((((H5.out.setRaw (Q1 _ _ _) 0 _).setRaw (by rw [Qc _ _ hne.symm]; exact hrb5) 0 _).setRaw (Q1 _ _ _) 1 _).setRaw (Q1 _ _ _) 2 _).setRaw (Q1 _ _ _) 3 _).less (((((hE.upd_skip nb2 _).upd_skip hn _).upd_skip hn _).upd_skip hn _).upd_skip hn _))
  clear r5 x5 hxR hrR HC HS
  rcases (show f = 0 ∨ f = 1 ∨ f = 2 ∨ f = 3 by omega) with rfl | rfl | rfl | rfl
  ·have c0' : w5.cell? ⟨b, 0, none⟩ = some (.int .i8 0) := c0
   clear c0
   go_wp2_with fail
   exact bodyPost_ret (v := .agg #[.int .i64 0, .bool n, .int .i32 e, .string S]) (by simp [results, Tryz.results33, go_sem, Q0C r0 r1 r2 r3]) rfl ⟨rfl, (HSt.out _).1⟩
  ·have c0' : w5.cell? ⟨b, 0, none⟩ = some (.int .i8 1) := c0
   clear c0
   go_wp2_with fail
   have HW6 := (HSt.out 1).2
   have hoth : ∀ i, (w5.setCell ⟨b2, 0, none⟩ (.int .i64 1)).cell? ⟨rb, i, none⟩ = w5.cell? ⟨rb, i, none⟩ := fun i => World.cell?_setCell_other _ _ _ _ (fun e => hne (by injection e))
   have t0 := (hoth 0).trans r0; have t1 := (hoth 1).trans r1; have t2 := (hoth 2).trans r2; have t3 := (hoth 3).trans r3
   clear hoth
   generalize w5.setCell ⟨b2, 0, none⟩ (.int .i64 1) = w6 at t0 t1 t2 t3 HW6 ⊢
   exact bodyPost_ret (v := .agg #[.int .i64 1, .bool n, .int .i32 e, .string S]) (by simp [results, Tryz.results33, go_sem, Q0C t0 t1 t2 t3]) rfl ⟨rfl, HW6⟩
  ·have c0' : w5.cell? ⟨b, 0, none⟩ = some (.int .i8 2) := c0
   clear c0
   go_wp2_with fail
   have HW6 := (HSt.out 2).2
   have hoth : ∀ i, (w5.setCell ⟨b2, 0, none⟩ (.int .i64 2)).cell? ⟨rb, i, none⟩ = w5.cell? ⟨rb, i, none⟩ := fun i => World.cell?_setCell_other _ _ _ _ (fun e => hne (by injection e))
   have t0 := (hoth 0).trans r0; have t1 := (hoth 1).trans r1; have t2 := (hoth 2).trans r2; have t3 := (hoth 3).trans r3
   clear hoth
   generalize w5.setCell ⟨b2, 0, none⟩ (.int .i64 2) = w6 at t0 t1 t2 t3 HW6 ⊢
   exact bodyPost_ret (v := .agg #[.int .i64 2, .bool n, .int .i32 e, .string S]) (by simp [results, Tryz.results33, go_sem, Q0C t0 t1 t2 t3]) rfl ⟨rfl, HW6⟩
  ·have c0' : w5.cell? ⟨b, 0, none⟩ = some (.int .i8 3) := c0
   clear c0
   go_wp2_with fail
   have HW6 := (HSt.out 3).2
   have hoth : ∀ i, (w5.setCell ⟨b2, 0, none⟩ (.int .i64 3)).cell? ⟨rb, i, none⟩ = w5.cell? ⟨rb, i, none⟩ := fun i => World.cell?_setCell_other _ _ _ _ (fun e => hne (by injection e))
   have t0 := (hoth 0).trans r0; have t1 := (hoth 1).trans r1; have t2 := (hoth 2).trans r2; have t3 := (hoth 3).trans r3
   clear hoth
   generalize w5.setCell ⟨b2, 0, none⟩ (.int .i64 3) = w6 at t0 t1 t2 t3 HW6 ⊢
   exact bodyPost_ret (v := .agg #[.int .i64 3, .bool n, .int .i32 e, .string S]) (by simp [results, Tryz.results33, go_sem, Q0C t0 t1 t2 t3]) rfl ⟨rfl, HW6⟩
end Go.Proofs.YtegjllplmnpbdaaGreatDoor
