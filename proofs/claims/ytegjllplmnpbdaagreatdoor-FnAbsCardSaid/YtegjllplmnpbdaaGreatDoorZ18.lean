/- a part of the proof: what functions that the statement reaches do -/
import Derived.Laws.FloatArith
import Derived.Test.YtegjllplmnpbdaaGreatDoorZ9
import Derived.Test.YtegjllplmnpbdaaGreatDoorZ13
set_option linter.all false
set_option maxRecDepth 100000
set_option maxHeartbeats 16000000
namespace Go.Proofs.YtegjllplmnpbdaaGreatDoor
open Go Go.RowKit
theorem Q5i {w : World} {bz oz bx ox bu ou : Nat} {R : World → Prop} (h : Calls Tryz.prog 133 #[.pointer (some ⟨bz, oz, none⟩), .pointer (some ⟨bx, ox, none⟩), .pointer (some ⟨bu, ou, none⟩)] w.drew fun e w' => e = .returned (.pointer (some ⟨bz, oz, none⟩)) ∧ R w') :
  Calls Tryz.prog 75 #[.pointer (some ⟨bz, oz, none⟩), .pointer (some ⟨bx, ox, none⟩), .pointer (some ⟨bu, ou, none⟩)] w fun e w' => e = .returned (.pointer (some ⟨bz, oz, none⟩)) ∧ R w' := by
 have H := Lh h
 clear h
 go_enter Tryz.func75, Tryz.ntmps75
 go_wp2_with fail
 go_still_tail 9, (by kernel_rfl)
 go_wp2_with (go_at_call 133; refine H.out.mono ?_; rintro e w1 ⟨rfl, hR⟩; have HR := Lh hR; clear hR)
 go_ret
 exact ⟨rfl, HR.out⟩
theorem Q9B {w : World} {bz oz bx ox bu ou : Nat} {R : World → Prop} (h : Calls Tryz.prog 134 #[.pointer (some ⟨bz, oz, none⟩), .pointer (some ⟨bx, ox, none⟩), .pointer (some ⟨bu, ou, none⟩)] w.drew fun e w' => e = .returned (.pointer (some ⟨bz, oz, none⟩)) ∧ R w') :
  Calls Tryz.prog 79 #[.pointer (some ⟨bz, oz, none⟩), .pointer (some ⟨bx, ox, none⟩), .pointer (some ⟨bu, ou, none⟩)] w fun e w' => e = .returned (.pointer (some ⟨bz, oz, none⟩)) ∧ R w' := by
 have H := Lh h
 clear h
 go_enter Tryz.func79, Tryz.ntmps79
 go_wp2_with fail
 go_still_tail 9, (by kernel_rfl)
 go_wp2_with (go_at_call 134; refine H.out.mono ?_; rintro e w1 ⟨rfl, hR⟩; have HR := Lh hR; clear hR)
 go_ret
 exact ⟨rfl, HR.out⟩
theorem Q5j {w : World} {bz oz bx ox bu ou : Nat} {R : World → Prop} (h : Calls Tryz.prog 110 #[.pointer (some ⟨bz, oz, none⟩), .pointer (some ⟨bx, ox, none⟩), .pointer (some ⟨bu, ou, none⟩)] w.drew fun e w' => e = .returned (.pointer (some ⟨bz, oz, none⟩)) ∧ R w') :
  Calls Tryz.prog 61 #[.pointer (some ⟨bz, oz, none⟩), .pointer (some ⟨bx, ox, none⟩), .pointer (some ⟨bu, ou, none⟩)] w fun e w' => e = .returned (.pointer (some ⟨bz, oz, none⟩)) ∧ R w' := by
 have H := Lh h
 clear h
 go_enter Tryz.func61, Tryz.ntmps61
 go_wp2_with fail
 go_still_tail 9, (by kernel_rfl)
 go_wp2_with (go_at_call 110; refine H.out.mono ?_; rintro e w1 ⟨rfl, hR⟩; have HR := Lh hR; clear hR)
 go_ret
 exact ⟨rfl, HR.out⟩
theorem Q9C {w : World} {bz oz bx ox bu ou : Nat} {R : World → Prop} (h : Calls Tryz.prog 178 #[.pointer (some ⟨bz, oz, none⟩), .pointer (some ⟨bx, ox, none⟩), .pointer (some ⟨bu, ou, none⟩)] w.drew fun e w' => e = .returned (.pointer (some ⟨bz, oz, none⟩)) ∧ R w') :
  Calls Tryz.prog 157 #[.pointer (some ⟨bz, oz, none⟩), .pointer (some ⟨bx, ox, none⟩), .pointer (some ⟨bu, ou, none⟩)] w fun e w' => e = .returned (.pointer (some ⟨bz, oz, none⟩)) ∧ R w' := by
 have H := Lh h
 clear h
 go_enter Tryz.func157, Tryz.ntmps157
 go_wp2_with fail
 go_still_tail 9, (by kernel_rfl)
 go_wp2_with (go_at_call 178; refine H.out.mono ?_; rintro e w1 ⟨rfl, hR⟩; have HR := Lh hR; clear hR)
 go_ret
 exact ⟨rfl, HR.out⟩
theorem Q1X {w : World} {bz oz bx ox bu ou br or : Nat} {R : World → Prop} (h : Calls Tryz.prog 123 #[.pointer (some ⟨bz, oz, none⟩), .pointer (some ⟨bx, ox, none⟩), .pointer (some ⟨bu, ou, none⟩), .pointer (some ⟨br, or, none⟩)] w.drew fun e w' => e = .returned (.tuple #[.pointer (some ⟨bz, oz, none⟩), .pointer (some ⟨br, or, none⟩)]) ∧ R w') :
  Calls Tryz.prog 71 #[.pointer (some ⟨bz, oz, none⟩), .pointer (some ⟨bx, ox, none⟩), .pointer (some ⟨bu, ou, none⟩), .pointer (some ⟨br, or, none⟩)] w fun e w' => e = .returned (.tuple #[.pointer (some ⟨bz, oz, none⟩), .pointer (some ⟨br, or, none⟩)]) ∧ R w' := by
 have H := Lh h
 clear h
 go_enter Tryz.func71, Tryz.ntmps71
 go_wp2_with fail
 go_still_tail 12, (by kernel_rfl)
 go_wp2_with (go_at_call 123; refine H.out.mono ?_; rintro e w1 ⟨rfl, hR⟩; have HR := Lh hR; clear hR)
 go_ret2
 exact ⟨rfl, HR.out⟩
theorem Q1Y {w : World} {bz oz bx ox : Nat} {R : World → Prop} (h : Calls Tryz.prog 150 #[.pointer (some ⟨bz, oz, none⟩), .pointer (some ⟨bx, ox, none⟩)] w.drew fun e w' => e = .returned (.pointer (some ⟨bz, oz, none⟩)) ∧ R w') :
  Calls Tryz.prog 111 #[.pointer (some ⟨bz, oz, none⟩), .pointer (some ⟨bx, ox, none⟩)] w fun e w' => e = .returned (.pointer (some ⟨bz, oz, none⟩)) ∧ R w' := by
 have H := Lh h
 clear h
 go_enter Tryz.func111, Tryz.ntmps111
 go_wp2_with fail
 go_still_tail 6, (by kernel_rfl)
 go_wp2_with (go_at_call 150; refine H.out.mono ?_; rintro e w1 ⟨rfl, hR⟩; have HR := Lh hR; clear hR)
 go_ret
 exact ⟨rfl, HR.out⟩
theorem Q3Y {w : World} {bz oz bx ox : Nat} {R : World → Prop} (h : Calls Tryz.prog 118 #[.pointer (some ⟨bz, oz, none⟩), .pointer (some ⟨bx, ox, none⟩)] w.drew fun e w' => e = .returned (.pointer (some ⟨bz, oz, none⟩)) ∧ R w') :
  Calls Tryz.prog 66 #[.pointer (some ⟨bz, oz, none⟩), .pointer (some ⟨bx, ox, none⟩)] w fun e w' => e = .returned (.pointer (some ⟨bz, oz, none⟩)) ∧ R w' := by
 have H := Lh h
 clear h
 go_enter Tryz.func66, Tryz.ntmps66
 go_wp2_with fail
 go_still_tail 6, (by kernel_rfl)
 go_wp2_with (go_at_call 118; refine H.out.mono ?_; rintro e w1 ⟨rfl, hR⟩; have HR := Lh hR; clear hR)
 go_ret
 exact ⟨rfl, HR.out⟩
theorem Q9D {w : World} {bz oz bx ox bu ou : Nat} {R : World → Prop} (h : Calls Tryz.prog 171 #[.pointer (some ⟨bz, oz, none⟩), .pointer (some ⟨bx, ox, none⟩), .pointer (some ⟨bu, ou, none⟩), .pointer none] w.drew fun e w' => e = .returned (.pointer (some ⟨bz, oz, none⟩)) ∧ R w') :
  Calls Tryz.prog 153 #[.pointer (some ⟨bz, oz, none⟩), .pointer (some ⟨bx, ox, none⟩), .pointer (some ⟨bu, ou, none⟩), .pointer none] w fun e w' => e = .returned (.pointer (some ⟨bz, oz, none⟩)) ∧ R w' := by
 have H := Lh h
 clear h
 go_enter Tryz.func153, Tryz.ntmps153
 go_wp2_with fail
 go_still_tail 9, (by kernel_rfl)
 go_wp2_with (go_at_call 171; refine H.out.mono ?_; rintro e w1 ⟨rfl, hR⟩; have HR := Lh hR; clear hR)
 go_ret
 exact ⟨rfl, HR.out⟩
theorem Q1Z {w : World} {bx ox bu ou : Nat} {v : Int} {R : World → Prop} (h : Calls Tryz.prog 121 #[.pointer (some ⟨bx, ox, none⟩), .pointer (some ⟨bu, ou, none⟩)] w.drew fun e w' => e = .returned (.int .i64 v) ∧ R w') :
  Calls Tryz.prog 69 #[.pointer (some ⟨bx, ox, none⟩), .pointer (some ⟨bu, ou, none⟩)] w fun e w' => e = .returned (.int .i64 v) ∧ R w' := by
 have H := Lh h
 clear h
 go_enter Tryz.func69, Tryz.ntmps69
 go_wp2_with fail
 go_still_tail 6, (by kernel_rfl)
 go_wp2_with (go_at_call 121; refine H.out.mono ?_; rintro e w1 ⟨rfl, hR⟩; have HR := Lh hR; clear hR)
 go_ret
 exact ⟨rfl, HR.out⟩
theorem Q1k {w : World} {bx ox : Nat} {v : Int} {R : World → Prop} (h : Calls Tryz.prog 124 #[.pointer (some ⟨bx, ox, none⟩)] w fun e w' => e = .returned (.int .i64 v) ∧ R w') :
  Calls Tryz.prog 72 #[.pointer (some ⟨bx, ox, none⟩)] w fun e w' => e = .returned (.int .i64 v) ∧ R w' := by
 have H := Lh h
 clear h
 go_enter Tryz.func72, Tryz.ntmps72
 go_wp2_with (go_at_call 124; refine H.out.mono ?_; rintro e w1 ⟨rfl, hR⟩; have HR := Lh hR; clear hR)
 go_ret
 exact ⟨rfl, HR.out⟩
theorem Q3t {w : World} {bx ox : Nat} {v : Int} {R : World → Prop} (h : Calls Tryz.prog 152 #[.pointer (some ⟨bx, ox, none⟩)] w fun e w' => e = .returned (.int .i64 v) ∧ R w') :
  Calls Tryz.prog 119 #[.pointer (some ⟨bx, ox, none⟩)] w fun e w' => e = .returned (.int .i64 v) ∧ R w' := by
 have H := Lh h
 clear h
 go_enter Tryz.func119, Tryz.ntmps119
 go_wp2_with (go_at_call 152; refine H.out.mono ?_; rintro e w1 ⟨rfl, hR⟩; have HR := Lh hR; clear hR)
 go_ret
 exact ⟨rfl, HR.out⟩
theorem Q8W {w : World} {bx ox : Nat} {v : Int} {R : World → Prop} (h : Calls Tryz.prog 177 #[.pointer (some ⟨bx, ox, none⟩), .int .i64 0] w fun e w' => e = .returned (.int .u64 v) ∧ R w') :
  Calls Tryz.prog 156 #[.pointer (some ⟨bx, ox, none⟩), .int .i64 0] w fun e w' => e = .returned (.int .u64 v) ∧ R w' := by
 have H := Lh h
 clear h
 go_enter Tryz.func156, Tryz.ntmps156
 go_wp2_with (go_at_call 177; refine H.out.mono ?_; rintro e w1 ⟨rfl, hR⟩; have HR := Lh hR; clear hR)
 go_ret
 exact ⟨rfl, HR.out⟩
theorem Q0x {w : World} {bz oz : Nat} {v : Int} {R : World → Prop} (h : Calls Tryz.prog 162 #[.pointer (some ⟨bz, oz, none⟩), .int .i64 v] w fun e w' => e = .returned (.pointer (some ⟨bz, oz, none⟩)) ∧ R w') :
  Calls Tryz.prog 136 #[.pointer (some ⟨bz, oz, none⟩), .int .i64 v] w fun e w' => e = .returned (.pointer (some ⟨bz, oz, none⟩)) ∧ R w' := by
 have H := Lh h
 clear h
 go_enter Tryz.func136, Tryz.ntmps136
 go_wp2_with (go_at_call 162; refine H.out.mono ?_; rintro e w1 ⟨rfl, hR⟩; have HR := Lh hR; clear hR)
 go_ret
 exact ⟨rfl, HR.out⟩
def Ext (σ τ : Sg) : Prop := ∀ b ob, σ b = some ob → τ b = some ob
theorem Ext.refl (σ : Sg) : Ext σ σ := fun _ _ h => h
theorem Ext.trans {σ τ υ : Sg} (h : Ext σ τ) (k : Ext τ υ) : Ext σ υ := fun b ob hb => k b ob (h b ob hb)
theorem Ext.new {σ : Sg} {b : Nat} (h : σ b = none) (o : Ob) : Ext σ (upd σ b o) := fun k ob hk => by
 rw [Qc σ o (by rintro rfl; rw [h] at hk; cases hk)]; exact hk
theorem Ext.upd {σ τ : Sg} (h : Ext σ τ) (b : Nat) (o : Ob) : Ext (upd σ b o) (Go.Proofs.YtegjllplmnpbdaaGreatDoor.upd τ b o) := fun k ob hk => by
 by_cases e : k = b
 ·subst e; rw [Q1] at hk ⊢; exact hk
 ·rw [Qc σ o e] at hk; rw [Qc τ o e]; exact h k ob hk
theorem Ext.setN {σ τ : Sg} (h : Ext σ τ) (b : Nat) (v : Int) : Ext (setN σ b v) (Go.Proofs.YtegjllplmnpbdaaGreatDoor.setN τ b v) := fun k ob hk => by
 by_cases e : k = b
 ·subst e
  cases hs : σ k with
  | none => simp [Go.Proofs.YtegjllplmnpbdaaGreatDoor.setN, hs] at hk
  | some o => have ht := h k o hs; simp only [Go.Proofs.YtegjllplmnpbdaaGreatDoor.setN, if_true, hs, ht] at hk ⊢; exact hk
 ·rw [Ql σ v e] at hk; rw [Ql τ v e]; exact h k ob hk
theorem Ext.num {σ τ : Sg} (h : Ext σ τ) {b o : Nat} {v : Int} (k : Num σ b o v) : Num τ b o v := by
 rcases k with ⟨k, rfl⟩ | ⟨f, n, e, k, rfl⟩
 ·exact .inl ⟨h _ _ k, rfl⟩
 ·exact .inr ⟨f, n, e, h _ _ k, rfl⟩
theorem Ext.setN_skip {σ τ : Sg} (h : Ext σ τ) {b : Nat} (hb : σ b = none) (v : Int) : Ext σ (Go.Proofs.YtegjllplmnpbdaaGreatDoor.setN τ b v) := fun k ob hk => by
 rw [Ql τ v (by rintro rfl; rw [hb] at hk; cases hk)]; exact h k ob hk
theorem Ext.upd_skip {σ τ : Sg} (h : Ext σ τ) {b : Nat} (hb : σ b = none) (o : Ob) : Ext σ (Go.Proofs.YtegjllplmnpbdaaGreatDoor.upd τ b o) := fun k ob hk => by
 rw [Qc τ o (by rintro rfl; rw [hb] at hk; cases hk)]; exact h k ob hk
theorem St.less {W : World} {σ τ : Sg} {w : World} (h : St W τ w) (k : Ext σ τ) : St W σ w := h.mono k
theorem Q4A (σ : Sg) (b : Nat) (u v : Int) (k : Nat) : setN (upd σ b (.big u)) b v k = upd σ b (.big v) k := by
 by_cases e : k = b
 ·subst e; rw [Q00 (Q1 _ _ _), Q1]
 ·rw [Ql _ _ e, Qc _ _ e, Qc _ _ e]
theorem St.big_new {W : World} {σ : Sg} {w : World} {b : Nat} {u v : Int} (h : St W (setN (upd σ b (.big u)) b v) w) : St W (upd σ b (.big v)) w := h.ext fun k => (Q4A σ b u v k).symm
def NewBig (W : World) (σ : Sg) (v : Int) (e : Ending) (w' : World) : Prop := ∃ b, e = .returned (.pointer (some ⟨b, 0, none⟩)) ∧ σ b = none ∧ St W (upd σ b (.big v)) w'
theorem Q1l {W : World} {σ : Sg} {w : World} (h : St W σ w) (v : Int) (hv : v.natAbs < 2 ^ 62) :
  Calls Tryz.prog 122 #[.int .i64 v] w (NewBig W σ v) := by
 have hn := h.none_new
 have HA := Lh (Q0x (Q0w (h.alloc_big 58) (Num.big (Q1 _ _ _)) hv))
 clear h hv
 go_enter Tryz.func122, Tryz.ntmps122
 go_wp2_with (go_at_call 136; refine HA.out.mono ?_; rintro e w1 ⟨rfl, hR⟩; have HR := Lh hR; clear hR)
 go_ret
 exact ⟨_, rfl, hn, HR.out.big_new⟩
theorem Q4B {W : World} {σ : Sg} {w : World} (h : St W σ w) : Calls Tryz.prog 76 #[] w (NewBig W σ 1) := by
 have HA := Lh (Q1l h 1 (by decide))
 clear h
 go_enter Tryz.func76, Tryz.ntmps76
 go_wp2_with (go_at_call 122; refine HA.out.mono ?_; rintro e w1 ⟨b, rfl, hR⟩; have HR := Lh hR; clear hR)
 go_ret
 exact ⟨b, rfl, HR.out⟩
theorem Q7z {W : World} {σ : Sg} {w : World} (h : St W σ w) : Calls Tryz.prog 73 #[] w (NewBig W σ 2) := by
 have HA := Lh (Q1l h 2 (by decide))
 clear h
 go_enter Tryz.func73, Tryz.ntmps73
 go_wp2_with (go_at_call 122; refine HA.out.mono ?_; rintro e w1 ⟨b, rfl, hR⟩; have HR := Lh hR; clear hR)
 go_ret
 exact ⟨b, rfl, HR.out⟩
theorem Q6G {W : World} {σ : Sg} {w : World} (h : St W σ w) : Calls Tryz.prog 158 #[] w (NewBig W σ 5) := by
 have HA := Lh (Q1l h 5 (by decide))
 clear h
 go_enter Tryz.func158, Tryz.ntmps158
 go_wp2_with (go_at_call 122; refine HA.out.mono ?_; rintro e w1 ⟨b, rfl, hR⟩; have HR := Lh hR; clear hR)
 go_ret
 exact ⟨b, rfl, HR.out⟩
theorem Q1L {W : World} {σ : Sg} {w : World} (h : St W σ w) : Calls Tryz.prog 70 #[] w (NewBig W σ 10) := by
 have HA := Lh (Q1l h 10 (by decide))
 clear h
 go_enter Tryz.func70, Tryz.ntmps70
 go_wp2_with (go_at_call 122; refine HA.out.mono ?_; rintro e w1 ⟨b, rfl, hR⟩; have HR := Lh hR; clear hR)
 go_ret
 exact ⟨b, rfl, HR.out⟩
set_option exponentiation.threshold 2000 in
theorem Q20 {Y : Nat} (hY : Y ≤ 423) : (10 : Nat) ^ Y < BB ^ 22 := Nat.lt_of_le_of_lt (Nat.pow_le_pow_right (by decide) hY) (by unfold BB; decide)
theorem Q1M {W : World} {σ : Sg} {w : World} (hW : GW W) (h : St W σ w) {bz oz : Nat} {vz : Int} (hz : Num σ bz oz vz) (Y : Nat) (hY : Y ≤ 423) :
  Calls Tryz.prog 120 #[.pointer (some ⟨bz, oz, none⟩), .int .i64 (Y : Int)] w fun e w' => e = .returned (.tuple #[]) ∧ St W (setN σ bz ((10 ^ Y : Nat) : Int)) w' := by
 have hn := h.none_new
 have hlt := Q20 hY
 have HA := Lh (Q0x (Q0w (h.alloc_big 58) (Num.big (Q1 _ _ _)) (v := (Y : Int)) (by rw [Int.natAbs_natCast]; omega)))
 have hzb : bz ≠ w.heap.size := by rintro rfl; exact hz.ne_none hn
 obtain ⟨bt, hbt⟩ : ∃ bt, bt = w.heap.size := ⟨_, rfl⟩
 rw [← hbt] at HA hzb hn
 have HS : Hid (∀ w1, St W (setN (upd σ bt (.big 0)) bt (Y : Int)) w1 → Calls Tryz.prog 70 #[] w1 fun e w2 => ∃ b, e = .returned (.pointer (some ⟨b, 0, none⟩)) ∧ Calls Tryz.prog 153 #[.pointer (some ⟨bz, oz, none⟩), .pointer (some ⟨b, 0, none⟩), .pointer (some ⟨bt, 0, none⟩), .pointer none] w2 fun e w3 => e = .returned (.pointer (some ⟨bz, oz, none⟩)) ∧ St W (setN σ bz ((10 ^ Y : Nat) : Int)) w3) := fun w1 h1 => by
  refine (Q1L h1.big_new).mono ?_
  rintro e w2 ⟨b, rfl, hb, h2⟩
  have hbt' : b ≠ bt := by rintro rfl; rw [Q1] at hb; cases hb
  have hbσ : σ b = none := by rw [Qc _ _ hbt'] at hb; exact hb
  have hbz : bz ≠ b := by rintro rfl; exact hz.ne_none hbσ
  refine ⟨b, rfl, Q9D ((Q9A hW h2.drew ((hz.upd_ne hzb).upd_ne hbz) (Num.big (v := ((10 : Nat) : Int)) (Q1 _ _ _)) hbz (Num.big (v := (Y : Int)) (by rw [Qc _ _ hbt'.symm, Q1])) hzb (by decide) (by unfold BB; decide) (by unfold BB; omega) hlt).mono ?_)⟩
  rintro e w3 ⟨rfl, h3⟩
  refine ⟨rfl, h3.less ?_⟩
  exact (((Ext.new hn _).trans (Ext.new hb _))).setN bz _
 clear h hlt hz hY hW
 obtain ⟨T, hT⟩ : ∃ T : Nat, T = 10 ^ Y := ⟨_, rfl⟩
 rw [← hT] at HS ⊢
 clear hT
 go_enter Tryz.func120, Tryz.ntmps120
 go_wp2_with fail
 rw [← hbt]
 clear hbt
 refine HA.out.mono ?_
 rintro e w1 ⟨rfl, hR⟩
 have HB := Lh (HS.out _ hR); clear hR HS HA
 go_wp2_with fail
 refine HB.out.mono ?_
 rintro e w2 ⟨b, rfl, hE⟩
 have HE := Lh hE; clear hE HB
 go_wp2_with fail
 refine HE.out.mono ?_
 rintro e w3 ⟨rfl, hF⟩
 have HF := Lh hF; clear hF HE
 go_wp2_with fail
 go_returns
 exact ⟨rfl, HF.out⟩
def ndR (bl : Nat) : Option Nat := floatBits .quo .f64 (floatOfInt .f64 (bl : Int)) 4614662735865160561
def ndQ (bl : Nat) : Option Int := (ndR bl).bind fun r => floatToIntVal .f64 r .i64
def ndOk (bl : Nat) : Bool := match ndQ bl with
 | some (.ofNat n) => decide (n ≤ 423) && decide (2 ^ bl ≤ 10 ^ (n + 1)) && (n == 0 || decide (10 ^ (n - 1) ≤ 2 ^ (bl - 1)))
 | _ => false
theorem Q7A : (List.range 1400).all (fun i => ndOk (i + 1)) = true := by kernel_rfl
theorem Q60 {bl : Nat} (h0 : 0 < bl) (h : bl ≤ 1400) : ∃ r n : Nat, floatBits .quo .f64 (floatOfInt .f64 (bl : Int)) 4614662735865160561 = some r ∧ floatToIntVal .f64 r .i64 = some (n : Int) ∧ n ≤ 423 ∧ 2 ^ bl ≤ 10 ^ (n + 1) ∧ (n = 0 ∨ 10 ^ (n - 1) ≤ 2 ^ (bl - 1)) := by
 have := List.all_eq_true.1 Q7A (bl - 1) (List.mem_range.2 (by omega))
 rw [show bl - 1 + 1 = bl by omega] at this
 unfold ndOk at this
 cases hq : ndQ bl with
 | none => rw [hq] at this; cases this
 | some v =>
  rw [hq] at this
  cases v with
  | negSucc n => cases this
  | ofNat n =>
   simp only [Bool.and_eq_true, Bool.or_eq_true, decide_eq_true_eq, beq_iff_eq] at this
   unfold ndQ at hq
   cases hr : ndR bl with
   | none => rw [hr] at hq; cases hq
   | some r =>
    rw [hr] at hq
    exact ⟨r, n, hr, hq, this.1.1, this.1.2, this.2⟩
theorem QW {W : World} {σ : Sg} {w : World} (hW : GW W) (h : St W σ w) {bz oz : Nat} {vz : Int} (hz : Num σ bz oz vz) (Y : Nat) (hY : Y ≤ 423) :
  Calls Tryz.prog 68 #[.int .i64 (Y : Int), .pointer (some ⟨bz, oz, none⟩)] w fun e w' => e = .returned (.pointer (some ⟨bz, oz, none⟩)) ∧ St W (setN σ bz ((10 ^ Y : Nat) : Int)) w' := by
 have HA := Lh (Q1M hW h hz Y hY)
 obtain ⟨T, hT⟩ : ∃ T : Nat, T = 10 ^ Y := ⟨_, rfl⟩
 rw [← hT] at HA ⊢
 clear h hz hY hW hT
 go_enter Tryz.func68, Tryz.ntmps68
 go_wp2_with fail
 refine HA.out.mono ?_
 rintro e w1 ⟨rfl, hR⟩
 have HR := Lh hR; clear hR HA
 go_wp2_with fail
 go_ret
 exact ⟨rfl, HR.out⟩
theorem Q36 {W : World} {σ : Sg} {w : World} (hW : GW W) (h : St W σ w) {bx ox : Nat} {x : Nat} (hx : Num σ bx ox (x : Int)) (hb : 0 < bits2 x) (hl : bits2 x ≤ 1400) (hx100 : x < BB ^ 100) :
  ∃ n d : Nat, 2 ^ bits2 x ≤ 10 ^ (n + 1) ∧ (n = 0 ∨ 10 ^ (n - 1) ≤ 2 ^ (bits2 x - 1)) ∧ d = (if 10 ^ n ≤ x then n + 1 else n) ∧
  Calls Tryz.prog 67 #[.pointer (some ⟨bx, ox, none⟩)] w fun e w' => e = .returned (.int .i64 (d : Int)) ∧ St W σ w' := by
 obtain ⟨r, n, h1, h2, h3, h4, h5⟩ := Q60 hb hl
 obtain ⟨d, hd⟩ : ∃ d : Nat, d = (if 10 ^ n ≤ x then n + 1 else n) := ⟨_, rfl⟩
 refine ⟨n, d, h4, h5, hd, ?_⟩
 have HB := Lh (Q3t (Q3s h hx))
 rw [Int.natAbs_natCast] at HB
 have c1 := fun w1 : World => run_convert_int_float (P := Tryz.prog) w1 3 143 .i64 .f64 ((bits2 x : Nat) : Int) (by kernel_rfl) (by kernel_rfl)
 have c2 := fun w1 : World => run_float_arith (P := Tryz.prog) w1 .quo 143 .f64 _ _ _ h1
 have c3 := fun w1 : World => run_convert_float_int (P := Tryz.prog) w1 143 2 .f64 .i64 r (n : Int) (by kernel_rfl) (by kernel_rfl) h2
 generalize bits2 x = bl at HB hb c1 c2
 generalize floatOfInt .f64 (bl : Int) = fl at c1 c2
 have h6 : (0 : Int) < (bl : Int) := by omega
 clear h1 h2 h4 h5 hl
 obtain ⟨T, hT⟩ : ∃ T : Nat, T = 10 ^ n := ⟨_, rfl⟩
 rw [← hT] at hd
 have HD := Lh hd
 clear hd
 have hlx : ((x : Int)).natAbs < BB ^ 100 := by rw [Int.natAbs_natCast]; exact hx100
 have hn := h.none_new
 obtain ⟨bt, hbt⟩ : ∃ bt, bt = w.heap.size := ⟨_, rfl⟩
 have HS : Hid (Calls Tryz.prog 68 #[.int .i64 (n : Int), .pointer (some ⟨bt, 0, none⟩)] (w.alloc (.cells #[.bool false, .slice none 0 0] 58)) fun e w1 => e = .returned (.pointer (some ⟨bt, 0, none⟩)) ∧ St W (upd σ bt (.big (T : Int))) w1) := by
  rw [hbt, hT]
  refine (QW hW (h.alloc_big 58) (Num.big (Q1 _ _ _)) n h3).mono ?_
  rintro e w1 ⟨rfl, h1⟩
  exact ⟨rfl, h1.big_new⟩
 rw [← hbt] at hn
 have HX : Hid (∀ w1, St W (upd σ bt (.big (T : Int))) w1 → bx ≠ bt ∧ bx ≠ w1.heap.size ∧ bt ≠ w1.heap.size ∧ Calls Tryz.prog 66 #[.pointer (some ⟨w1.heap.size, 0, none⟩), .pointer (some ⟨bx, ox, none⟩)] (w1.alloc (.cells #[.bool false, .slice none 0 0] 58)) fun e w2 => e = .returned (.pointer (some ⟨w1.heap.size, 0, none⟩)) ∧ St W (upd (upd σ bt (.big (T : Int))) w1.heap.size (.big (x : Int))) w2) := fun w1 h1 => by
  have hn1 := h1.none_new
  have e1 : bx ≠ bt := by rintro rfl; exact hx.ne_none hn
  have hx1 := hx.upd_ne (x := .big (T : Int)) e1
  have e2 : bx ≠ w1.heap.size := by rintro e; exact hx1.ne_none (by rw [e]; exact hn1)
  have e3 : bt ≠ w1.heap.size := by rintro e; rw [← e, Q1] at hn1; cases hn1
  refine ⟨e1, e2, e3, Q3Y ((Q1w (h1.alloc_big 58).drew (Num.big (Q1 _ _ _)) (hx1.upd_ne e2) e2.symm hlx).mono ?_)⟩
  rintro e w2 ⟨rfl, h2⟩
  refine ⟨rfl, ?_⟩
  have := h2.big_new
  rw [Int.natAbs_natCast] at this
  exact this
 have HY : Hid (∀ ba w2, ba ≠ bt → St W (upd (upd σ bt (.big (T : Int))) ba (.big (x : Int))) w2 → σ ba = none → Calls Tryz.prog 69 #[.pointer (some ⟨ba, 0, none⟩), .pointer (some ⟨bt, 0, none⟩)] w2 fun e w3 => e = .returned (.int .i64 (cmpI x T)) ∧ St W σ w3) := fun ba w2 hne h2 hb => by
  refine Q1Z ((Q1W h2.drew (Num.big (Q1 _ _ _)) (Num.big (v := ((T : Nat) : Int)) (by rw [Qc _ _ hne.symm, Q1])) hne).mono ?_)
  rintro e w3 ⟨rfl, q, rfl⟩
  exact ⟨rfl, (h2.drew.drewN q).less ((Ext.new hn _).upd_skip hb _)⟩
 have hn423 := h3
 clear h hx hlx h3 hT hx100 hW
 go_enter Tryz.func67, Tryz.ntmps67
 go_wp2_with fail
 refine HB.out.mono ?_
 rintro e w1 ⟨rfl, hR⟩
 subst hR
 go_wp2_with fail
 rw [← hbt]
 refine HS.out.mono ?_
 rintro e w2 ⟨rfl, h2⟩
 have H2 := Lh (HX.out _ h2)
 have hn2 := h2.none_new
 clear h2 HS HX hbt
 obtain ⟨ba, hba⟩ : ∃ ba, ba = w2.heap.size := ⟨_, rfl⟩
 rw [← hba] at hn2 H2
 go_wp2_with fail
 rw [← hba]
 clear hba
 refine H2.out.2.2.2.mono ?_
 rintro e w3 ⟨rfl, h3⟩
 have H3 := Lh (HY.out _ _ H2.out.2.2.1.symm h3 (by rw [Qc _ _ H2.out.2.2.1.symm] at hn2; exact hn2))
 clear h3 H2 hn2 HY
 go_wp2_with fail
 refine H3.out.mono ?_
 rintro e w4 ⟨rfl, h4⟩
 have H4 := Lh h4
 clear h4 H3
 by_cases hc : T ≤ x
 ·have hcm : decide ((0 : Int) ≤ cmpI x T) = true := by
   unfold cmpI; rw [if_neg (by omega)]; split <;> decide
  generalize cmpI x T = cm at hcm ⊢
  have hcm' : (0 : Int) ≤ cm := by simpa using hcm
  have hw : wrap64 ((n : Int) + 1) = ((n + 1 : Nat) : Int) := by unfold wrap64; omega
  clear hcm
  go_wp2_with fail
  go_ret
  have := HD.out
  rw [if_pos hc] at this
  subst this
  exact ⟨by first | rfl | simp, H4.out⟩
 ·have hcm : cmpI x T < 0 := by
   unfold cmpI; rw [if_pos (by omega)]; decide
  generalize cmpI x T = cm at hcm ⊢
  have hcm' : ¬ ((0 : Int) ≤ cm) := by omega
  go_wp2_with fail
  go_ret
  have := HD.out
  rw [if_neg hc] at this
  subst this
  exact ⟨by first | rfl | simp, H4.out⟩
theorem Q61 (σ : Sg) (b : Nat) (x y : Ob) (k : Nat) : upd (upd σ b x) b y k = upd σ b y k := by
 by_cases e : k = b
 ·subst e; rw [Q1, Q1]
 ·rw [Qc _ _ e, Qc _ _ e, Qc _ _ e]
theorem Q3u (σ : Sg) (b : Nat) (f : Int) (n : Bool) (e u v : Int) (k : Nat) : setN (upd σ b (.dec f n e u)) b v k = upd σ b (.dec f n e v) k := by
 by_cases h : k = b
 ·subst h; rw [Q0f (Q1 _ _ _), Q1]
 ·rw [Ql _ _ h, Qc _ _ h, Qc _ _ h]
theorem St.decN {W : World} {σ : Sg} {w : World} {b : Nat} {f : Int} {n : Bool} {e u v : Int} (h : St W (setN (upd σ b (.dec f n e u)) b v) w) : St W (upd σ b (.dec f n e v)) w := h.ext fun k => (Q3u σ b f n e u v k).symm
theorem St.upd2 {W : World} {σ : Sg} {w : World} {b : Nat} {x y : Ob} (h : St W (upd (upd σ b x) b y) w) : St W (upd σ b y) w := h.ext fun k => (Q61 σ b x y k).symm
theorem Q1x {W : World} {σ : Sg} {w : World} (h : St W σ w) {b : Nat} {f : Int} {n : Bool} {e c : Int} (hb : σ b = some (.dec f n e c)) (v : Nat) (hv : v < 2 ^ 62) :
  Calls Tryz.prog 163 #[.pointer (some ⟨b, 0, none⟩), .int .i64 (v : Int)] w fun r w' => r = .returned (.tuple #[]) ∧ St W (upd σ b (.dec 0 false e (v : Int))) w' := by
 obtain ⟨c0, c1, c2, f0, f1, f2⟩ := h.dec hb
 have h1 := h.setNeg hb false
 have HA := Lh (Q0x (Q0w h1 (Num.dec (Q1 _ _ _)) (v := (v : Int)) (by rw [Int.natAbs_natCast]; exact hv)))
 have HS : Hid (∀ w1, St W (upd σ b (.dec f false e (v : Int))) w1 → (Calls Tryz.prog 66 #[.pointer (some ⟨b, 3, none⟩), .pointer (some ⟨b, 3, none⟩)] w1 fun r w2 => r = .returned (.pointer (some ⟨b, 3, none⟩)) ∧ (w2.cell? ⟨b, 0, none⟩ = some (.int .i8 f) ∧ w2.frozen? ⟨b, 0, none⟩ = false) ∧ St W (upd σ b (.dec 0 false e (v : Int))) (w2.setCell ⟨b, 0, none⟩ (.int .i8 0)))) := fun w1 k1 => by
  refine Q3Y ((Q4z k1.drew (Num.dec (Q1 _ _ _))).mono ?_)
  rintro r w2 ⟨rfl, k2⟩
  rw [Int.natAbs_natCast] at k2
  have k3 := k2.decN
  obtain ⟨d0, _, _, g0, _⟩ := k3.dec (Q1 _ _ _)
  exact ⟨rfl, ⟨d0, g0⟩, (k3.setForm (Q1 _ _ _) 0).upd2⟩
 have hn : ¬ ((v : Int) < 0) := by omega
 clear h h1 hb hv
 go_enter Tryz.func163, Tryz.ntmps163
 go_wp2_with fail
 refine HA.out.mono ?_
 rintro r w1 ⟨rfl, k1⟩
 have H1 := Lh (HS.out _ k1.decN.drew)
 clear k1 HA HS
 go_wp2_with fail
 go_still_tail 6, (by kernel_rfl)
 go_wp2_with fail
 refine H1.out.mono ?_
 rintro r w2 ⟨rfl, ⟨d0, g0⟩, k2⟩
 have H2 := Lh k2
 clear k2 H1
 go_wp2_with fail
 go_returns
 exact ⟨rfl, H2.out⟩
theorem Q37 {W : World} {σ : Sg} {w : World} (h : St W σ w) {b : Nat} {f : Int} {n : Bool} {e c : Int} (hb : σ b = some (.dec f n e c)) (v : Nat) (hv : v < 2 ^ 62) (e' : Int) :
  Calls Tryz.prog 137 #[.pointer (some ⟨b, 0, none⟩), .int .i64 (v : Int), .int .i32 e'] w fun r w' => r = .returned (.pointer (some ⟨b, 0, none⟩)) ∧ St W (upd σ b (.dec 0 false e' (v : Int))) w' := by
 have HA := Lh (Q1x h hb v hv)
 clear h hb hv
 go_enter Tryz.func137, Tryz.ntmps137
 go_wp2_with fail
 refine HA.out.mono ?_
 rintro r w1 ⟨rfl, k1⟩
 obtain ⟨_, _, d2, _, _, g2⟩ := k1.dec (Q1 _ _ _)
 have H1 := Lh (k1.setExp (Q1 _ _ _) e').upd2
 clear k1 HA
 go_wp2_with fail
 go_ret
 exact ⟨rfl, H1.out⟩
def NewDec (W : World) (σ : Sg) (f : Int) (n : Bool) (e c : Int) (r : Ending) (w' : World) : Prop := ∃ b, r = .returned (.pointer (some ⟨b, 0, none⟩)) ∧ σ b = none ∧ St W (upd σ b (.dec f n e c)) w'
theorem Q8X {W : World} {σ : Sg} {w : World} (h : St W σ w) (v : Nat) (hv : v < 2 ^ 62) (e' : Int) :
  Calls Tryz.prog 117 #[.int .i64 (v : Int), .int .i32 e'] w (NewDec W σ 0 false e' (v : Int)) := by
 have hn := h.none_new
 have HA := Lh (Q37 (h.alloc_dec 60 0 0 false) (Q1 _ _ _) v hv e')
 clear h hv
 go_enter Tryz.func117, Tryz.ntmps117
 go_wp2_with fail
 refine HA.out.mono ?_
 rintro r w1 ⟨rfl, k1⟩
 have H1 := Lh k1.upd2
 clear k1 HA
 go_wp2_with fail
 go_ret
 exact ⟨_, rfl, hn, H1.out⟩
theorem Q01 {W : World} {σ : Sg} {w : World} (h : St W σ w) : Calls Tryz.prog 112 #[] w (NewDec W σ 0 false (-1) 5) := by
 have HA := Lh (Q8X h 5 (by decide) (-1))
 clear h
 go_enter Tryz.func112, Tryz.ntmps112
 go_wp2_with fail
 refine HA.out.mono ?_
 rintro r w1 ⟨b, rfl, hR⟩
 have HR := Lh hR; clear hR
 go_wp2_with fail
 go_ret
 exact ⟨b, rfl, HR.out⟩
theorem St.decRow {W : World} {σ : Sg} {w : World} (h : St W σ w) {b : Nat} {f : Int} {n : Bool} {e c : Int} (hb : σ b = some (.dec f n e c)) : ∃ N T, Row w b N T := by
 obtain ⟨ab, h⟩ := h
 obtain ⟨_, _, ⟨T, hT⟩, _⟩ := h.holds b _ hb
 exact ⟨_, T, hT⟩
theorem Q8Y : ∃ i, Tryz.prog.info? 60 = some i ∧ i.size = 5 := by
 have h : (Tryz.prog.info? 60).map (·.size) = some 5 := by kernel_rfl
 cases hc : Tryz.prog.info? 60 with
 | none => rw [hc] at h; cases h
 | some i => rw [hc] at h; exact ⟨i, rfl, by simpa using h⟩
theorem Q7B {w : World} {bx by_ N N' : Nat} {T T' : TypeId} (hR : Row w bx N T) (hR' : Row w by_ N' T') :
  (binOp .eql 49 (.pointer (some ⟨bx, 0, none⟩)) (.pointer (some ⟨by_, 0, none⟩))).run Tryz.prog w = .ok (.bool (decide (bx = by_))) w := by
 obtain ⟨i, hi, hs⟩ := Q8Y
 have := Q0Y Tryz.underlying49 hi (by rw [hs]; omega) (a := ⟨bx, 0, none⟩) (b := ⟨by_, 0, none⟩) hR hR'
 rw [this]
 by_cases e : bx = by_ <;> simp [e]
def decSgn (f : Int) (n : Bool) (c : Nat) : Int := if f = 0 ∧ c = 0 then 0 else if n then -1 else 1
theorem QS {W : World} {σ : Sg} {w : World} (h : St W σ w) {b : Nat} {f : Int} {n : Bool} {e : Int} {c : Nat} (hb : σ b = some (.dec f n e (c : Int))) :
  Calls Tryz.prog 86 #[.pointer (some ⟨b, 0, none⟩)] w fun r w' => r = .returned (.int .i64 (decSgn f n c)) ∧ w' = w := by
 obtain ⟨c0, c1, c2, f0, f1, f2⟩ := h.dec hb
 have HA := Lh (Q1k (Q1j h (Num.dec hb)))
 obtain ⟨s, hs⟩ : ∃ s, s = signI (c : Int) := ⟨_, rfl⟩
 rw [← hs] at HA
 have hs1 : s = if c = 0 then 0 else 1 := by
  rw [hs]; unfold signI
  by_cases e : c = 0
  ·rw [if_pos (by omega), if_pos e]
  ·rw [if_neg (by omega), if_neg (by omega), if_neg e]
 clear h hb hs
 unfold decSgn
 by_cases hf : f = 0
 ·subst hf
  by_cases hc : c = 0
  ·rw [if_pos hc] at hs1; subst hs1
   rw [if_pos ⟨rfl, hc⟩]
   clear hc
   go_enter Tryz.func86, Tryz.ntmps86
   go_wp2_with fail
   refine HA.out.mono ?_
   rintro r w1 ⟨rfl, hw⟩
   subst hw
   go_wp2_with fail
   go_ret
   exact ⟨rfl, rfl⟩
  ·rw [if_neg hc] at hs1; subst hs1
   rw [if_neg (fun e => hc e.2)]
   clear hc
   cases n
   ·go_enter Tryz.func86, Tryz.ntmps86
    go_wp2_with fail
    refine HA.out.mono ?_
    rintro r w1 ⟨rfl, hw⟩
    subst hw
    go_wp2_with fail
    go_ret
    exact ⟨rfl, rfl⟩
   ·go_enter Tryz.func86, Tryz.ntmps86
    go_wp2_with fail
    refine HA.out.mono ?_
    rintro r w1 ⟨rfl, hw⟩
    subst hw
    go_wp2_with fail
    go_ret
    exact ⟨rfl, rfl⟩
 ·rw [if_neg (fun e => hf e.1)]
  have hf' : (f == 0) = false := by simpa using hf
  clear hs1
  cases n
  ·go_enter Tryz.func86, Tryz.ntmps86
   go_wp2_with fail
   go_ret
   exact ⟨rfl, rfl⟩
  ·go_enter Tryz.func86, Tryz.ntmps86
   go_wp2_with fail
   go_ret
   exact ⟨rfl, rfl⟩
theorem QC {W : World} {σ : Sg} {w : World} (h : St W σ w) {b : Nat} {f : Int} {n : Bool} {e : Int} {c : Nat} (hb : σ b = some (.dec f n e (c : Int))) :
  Calls Tryz.prog 56 #[.pointer (some ⟨b, 0, none⟩)] w fun r w' => r = .returned (.bool (decide (f = 0 ∧ c = 0))) ∧ w' = w := by
 have HA := Lh (QS h hb)
 obtain ⟨s, hs⟩ : ∃ s, s = decSgn f n c := ⟨_, rfl⟩
 have hz : (s == 0) = decide (f = 0 ∧ c = 0) := by
  rw [hs]; unfold decSgn
  by_cases e : f = 0 ∧ c = 0
  ·rw [if_pos e]; simp [e]
  ·rw [if_neg e]; cases n <;> simp [e]
 rw [← hs] at HA
 rw [← hz]
 clear h hb hs hz
 go_enter Tryz.func56, Tryz.ntmps56
 go_wp2_with fail
 refine HA.out.mono ?_
 rintro r w1 ⟨rfl, hw⟩
 subst hw
 go_wp2_with fail
 go_ret
 exact ⟨rfl, rfl⟩
theorem Q4C {W : World} {σ : Sg} {w : World} (h : St W σ w) {b bx : Nat} {f f' : Int} {n n' : Bool} {e c e' c' : Int} (hb : σ b = some (.dec f n e c)) (hx : σ bx = some (.dec f' n' e' c')) (hne : b ≠ bx) (hc : c'.natAbs < BB ^ 100) :
  Calls Tryz.prog 108 #[.pointer (some ⟨b, 0, none⟩), .pointer (some ⟨bx, 0, none⟩)] w fun r w' => r = .returned (.pointer (some ⟨b, 0, none⟩)) ∧ St W (upd σ b (.dec f' n' e' c')) w' := by
 obtain ⟨x0, x1, x2, _, _, _⟩ := h.dec hx
 obtain ⟨b0, b1, b2, g0, g1, g2⟩ := h.dec hb
 have h1 := h.setForm hb f'
 have h2 := (h1.setNeg (Q1 _ _ _) n').upd2
 have h3 := (h2.setExp (Q1 _ _ _) e').upd2
 have HA := Lh (Q1Y (Q03 h3.drew.drew (Num.dec (Q1 _ _ _)) (Num.dec (by rw [Qc _ _ hne.symm]; exact hx)) hne hc))
 clear h h1 h2 h3 hb hx hc
 go_enter Tryz.func108, Tryz.ntmps108
 go_wp2_with fail
 go_still_tail 6, (by kernel_rfl)
 go_wp2_with fail
 refine HA.out.mono ?_
 rintro r w1 ⟨rfl, hR⟩
 have HR := Lh hR.decN; clear hR HA
 go_wp2_with fail
 go_ret
 exact ⟨rfl, HR.out⟩
theorem QH {W : World} {σ : Sg} {w : World} (h : St W σ w) {b : Nat} {f : Int} {n : Bool} {e c : Int} (hb : σ b = some (.dec f n e c)) :
  Calls Tryz.prog 57 #[.pointer (some ⟨b, 0, none⟩), .pointer (some ⟨b, 0, none⟩)] w fun r w' => r = .returned (.pointer (some ⟨b, 0, none⟩)) ∧ w' = w := by
 obtain ⟨N, T, hR⟩ := h.decRow hb
 have hp := Q7B hR hR
 rw [decide_eq_true rfl] at hp
 clear h hb hR
 go_enter Tryz.func57, Tryz.ntmps57
 go_wp2_with fail
 go_ret
 exact ⟨rfl, rfl⟩
theorem Q1y {W : World} {σ : Sg} {w : World} (h : St W σ w) {b bx : Nat} {f f' : Int} {n n' : Bool} {e c e' c' : Int} (hb : σ b = some (.dec f n e c)) (hx : σ bx = some (.dec f' n' e' c')) (hne : b ≠ bx) (hc : c'.natAbs < BB ^ 100) :
  Calls Tryz.prog 57 #[.pointer (some ⟨b, 0, none⟩), .pointer (some ⟨bx, 0, none⟩)] w fun r w' => r = .returned (.pointer (some ⟨b, 0, none⟩)) ∧ St W (upd σ b (.dec f' n' e' c')) w' := by
 obtain ⟨N, T, hR⟩ := h.decRow hb
 obtain ⟨N', T', hR'⟩ := h.decRow hx
 have hp := Q7B hR hR'
 rw [decide_eq_false hne] at hp
 have HA := Lh (Q4C h hb hx hne hc)
 clear h hb hR hx hR' hc
 go_enter Tryz.func57, Tryz.ntmps57
 go_wp2_with fail
 refine HA.out.mono ?_
 rintro r w1 ⟨rfl, k⟩
 have H1 := Lh k
 clear k HA
 go_wp2_with fail
 go_ret
 exact ⟨rfl, H1.out⟩
theorem Q28 {W : World} {σ : Sg} {w : World} (h : St W σ w) {b : Nat} {f : Int} {n : Bool} {e c : Int} (hb : σ b = some (.dec f n e c)) :
  Calls Tryz.prog 81 #[.pointer (some ⟨b, 0, none⟩), .pointer (some ⟨b, 0, none⟩)] w fun r w' => r = .returned (.pointer (some ⟨b, 0, none⟩)) ∧ St W (upd σ b (.dec f false e c)) w' := by
 have HA := Lh (QH h hb)
 obtain ⟨_, c1, _, _, g1, _⟩ := h.dec hb
 have H1 := Lh (h.setNeg hb false)
 clear h hb
 go_enter Tryz.func81, Tryz.ntmps81
 go_wp2_with fail
 refine HA.out.mono ?_
 rintro r w1 ⟨rfl, hw⟩
 subst hw
 clear HA
 go_wp2_with fail
 go_ret
 exact ⟨rfl, H1.out⟩
theorem Q5k {W : World} {σ : Sg} {w : World} (h : St W σ w) {b bx : Nat} {f f' : Int} {n n' : Bool} {e c e' c' : Int} (hb : σ b = some (.dec f n e c)) (hx : σ bx = some (.dec f' n' e' c')) (hne : b ≠ bx) (hc : c'.natAbs < BB ^ 100) :
  Calls Tryz.prog 81 #[.pointer (some ⟨b, 0, none⟩), .pointer (some ⟨bx, 0, none⟩)] w fun r w' => r = .returned (.pointer (some ⟨b, 0, none⟩)) ∧ St W (upd σ b (.dec f' false e' c')) w' := by
 have HA := Lh (Q1y h hb hx hne hc)
 clear h hb hx hc
 go_enter Tryz.func81, Tryz.ntmps81
 go_wp2_with fail
 refine HA.out.mono ?_
 rintro r w1 ⟨rfl, k⟩
 obtain ⟨_, c1, _, _, g1, _⟩ := k.dec (Q1 _ _ _)
 have H1 := Lh (k.setNeg (Q1 _ _ _) false).upd2
 clear k HA
 go_wp2_with fail
 go_ret
 exact ⟨rfl, H1.out⟩
theorem Q2M {W : World} {σ : Sg} {w : World} (h : St W σ w) {bx ox : Nat} (hx : Num σ bx ox (0 : Int)) :
  Calls Tryz.prog 67 #[.pointer (some ⟨bx, ox, none⟩)] w fun e w' => e = .returned (.int .i64 1) ∧ St W σ w' := by
 have HB := Lh (Q3t (Q3s h hx))
 rw [show bits2 (0 : Int).natAbs = 0 from rfl] at HB
 have H := Lh h
 clear h hx
 go_enter Tryz.func67, Tryz.ntmps67
 go_wp2_with fail
 refine HB.out.mono ?_
 rintro e w1 ⟨rfl, hR⟩
 subst hR
 go_wp2_with fail
 go_ret
 exact ⟨rfl, H.out⟩
set_option exponentiation.threshold 2000 in
theorem Q7C {x : Nat} (h : x < BB ^ 21) : x < 2 ^ 1344 := Nat.lt_of_lt_of_le h (by unfold BB; decide)
theorem QQ {W : World} {σ : Sg} {w : World} (hW : GW W) (h : St W σ w) {bx ox : Nat} {x : Nat} (hx : Num σ bx ox (x : Int)) (hl : x < BB ^ 21) :
  Calls Tryz.prog 67 #[.pointer (some ⟨bx, ox, none⟩)] w fun e w' => e = .returned (.int .i64 (ndg x : Int)) ∧ St W σ w' := by
 by_cases h0 : x = 0
 ·subst h0
  rw [Qk (by decide)]
  exact Q2M h hx
 ·have h1 := Q2G h0
  have h2 := Q4m x
  have hb : bits2 x ≤ 1344 := by
   rcases Nat.lt_or_ge 1344 (bits2 x) with k | k
   ·have := Nat.pow_le_pow_right (n := 2) (by decide) (show 1344 ≤ bits2 x - 1 by omega)
    have := Q7C hl
    omega
   ·exact k
  have hl100 : x < BB ^ 100 := Nat.lt_of_lt_of_le hl (Nat.pow_le_pow_right (by unfold BB; decide) (by decide))
  obtain ⟨n, d, q1, q2, q3, q4⟩ := Q36 hW h hx h1.2 (by omega) hl100
  have e : d = ndg x := by
   rw [q3]
   by_cases hc : 10 ^ n ≤ x
   ·rw [if_pos hc]; exact (Q5a (by omega) hc).symm
   ·rw [if_neg hc]
    rcases q2 with rfl | q2
    ·exfalso; apply hc; simp; omega
    ·rcases n with _ | m
     ·exfalso; apply hc; simp; omega
     ·exact (Q5a (k := m) (by omega) (by rw [Nat.add_sub_cancel] at q2; omega)).symm
  rw [e] at q4
  exact q4
theorem Qs {W : World} {σ : Sg} {w : World} (hW : GW W) (h : St W σ w) {b : Nat} {f : Int} {n : Bool} {e : Int} {c : Nat} (hb : σ b = some (.dec f n e (c : Int))) (hl : c < BB ^ 21) :
  Calls Tryz.prog 80 #[.pointer (some ⟨b, 0, none⟩)] w fun r w' => r = .returned (.int .i64 (ndg c : Int)) ∧ St W σ w' := by
 have HA := Lh (QQ hW h (Num.dec hb) hl)
 generalize ndg c = d at HA ⊢
 clear h hW hb hl
 go_enter Tryz.func80, Tryz.ntmps80
 go_wp2_with fail
 refine HA.out.mono ?_
 rintro r w1 ⟨rfl, k⟩
 have H1 := Lh k
 clear k HA
 go_wp2_with fail
 go_ret
 exact ⟨rfl, H1.out⟩
theorem St.sm {W : World} {σ : Sg} {w w' : World} (h : St W σ w) (k : SM w w') : St W σ w' := k.st h
theorem Q2O (n : Bool) : decSgn 0 n 0 = 0 := by unfold decSgn; rw [if_pos ⟨rfl, rfl⟩]
theorem Q0I {c : Nat} (h : 0 < c) : decSgn 0 false c = 1 := by unfold decSgn; rw [if_neg (by omega)]; rfl
theorem Q5l {W : World} {σ : Sg} {w : World} (h : St W σ w) {b b' : Nat} {e e' : Int} {c c' : Nat} (hb : σ b = some (.dec 0 false e (c : Int))) (hx : σ b' = some (.dec 0 false e' (c' : Int))) (hs : c = 0 ∨ c' = 0) :
  Calls Tryz.prog 88 #[.pointer (some ⟨b, 0, none⟩), .pointer (some ⟨b', 0, none⟩)] w fun r w' => r = .returned (.int .i64 (cmpD e c e' c')) ∧ w' = w := by
 have HA := Lh (QS h hb)
 have HB := Lh (QS h hx)
 rcases Nat.eq_zero_or_pos c with h0 | h0
 ·subst h0
  rw [Q2O] at HA
  rcases Nat.eq_zero_or_pos c' with h1 | h1
  ·subst h1
   rw [Q2O] at HB
   rw [Q90]
   clear h hb hx hs
   go_enter Tryz.func88, Tryz.ntmps88
   go_wp2_with fail
   refine HA.out.mono ?_
   rintro r w1 ⟨rfl, hw⟩
   subst hw
   go_wp2_with fail
   refine HB.out.mono ?_
   rintro r w1 ⟨rfl, hw⟩
   subst hw
   go_wp2_with fail
   go_ret
   exact ⟨rfl, rfl⟩
  ·rw [Q0I h1] at HB
   rw [Q9E _ _ h1]
   clear h hb hx hs
   go_enter Tryz.func88, Tryz.ntmps88
   go_wp2_with fail
   refine HA.out.mono ?_
   rintro r w1 ⟨rfl, hw⟩
   subst hw
   go_wp2_with fail
   refine HB.out.mono ?_
   rintro r w1 ⟨rfl, hw⟩
   subst hw
   go_wp2_with fail
   go_ret
   exact ⟨rfl, rfl⟩
 ·obtain rfl : c' = 0 := by omega
  rw [Q2O] at HB
  rw [Q0I h0] at HA
  rw [Q9F _ _ h0]
  clear h hb hx hs
  go_enter Tryz.func88, Tryz.ntmps88
  go_wp2_with fail
  refine HA.out.mono ?_
  rintro r w1 ⟨rfl, hw⟩
  subst hw
  go_wp2_with fail
  refine HB.out.mono ?_
  rintro r w1 ⟨rfl, hw⟩
  subst hw
  go_wp2_with fail
  go_ret
  exact ⟨rfl, rfl⟩
theorem Q4F {W : World} {σ : Sg} {w : World} (h : St W σ w) {b b' : Nat} {e : Int} {c c' : Nat} (hb : σ b = some (.dec 0 false e (c : Int))) (hx : σ b' = some (.dec 0 false e (c' : Int))) (hne : b ≠ b') (h0 : 0 < c) (h1 : 0 < c') :
  Calls Tryz.prog 88 #[.pointer (some ⟨b, 0, none⟩), .pointer (some ⟨b', 0, none⟩)] w fun r w' => r = .returned (.int .i64 (cmpD e c e c')) ∧ St W σ w' := by
 have HA := Lh (QS h hb)
 have HB := Lh (QS h hx)
 rw [Q0I h0] at HA
 rw [Q0I h1] at HB
 rw [Q6H]
 have HC : Hid (∀ w2, SM w w2 → Calls Tryz.prog 69 #[.pointer (some ⟨b, 3, none⟩), .pointer (some ⟨b', 3, none⟩)] w2 fun r w' => r = .returned (.int .i64 (cmpI c c')) ∧ St W σ w') := fun w2 hw => by
  refine Q1Z ((Q1W (h.sm hw).drew (Num.dec hb) (Num.dec hx) hne).mono ?_)
  rintro e w1 ⟨rfl, q, rfl⟩
  exact ⟨rfl, ((h.sm hw).drew).drewN q⟩
 obtain ⟨c0, c1, c2, _, _, _⟩ := h.dec hb
 obtain ⟨x0, x1, x2, _, _, _⟩ := h.dec hx
 generalize cmpI c c' = v at HC ⊢
 clear h hb hx h0 h1
 go_enter Tryz.func88, Tryz.ntmps88
 go_wp2_with fail
 refine HA.out.mono ?_
 rintro r w1 ⟨rfl, hw⟩
 subst hw
 go_wp2_with fail
 refine HB.out.mono ?_
 rintro r w1 ⟨rfl, hw⟩
 subst hw
 go_wp2_with fail
 go_quiet (fail)
 go_wp2_with fail
 go_still_tail 6, (by kernel_rfl)
 go_wp2_with fail
 refine (HC.out _ (by exact ⟨rfl, rfl, rfl, rfl⟩)).mono ?_
 rintro r w1 ⟨rfl, k⟩
 have H1 := Lh k
 clear k HC
 go_wp2_with fail
 go_ret
 exact ⟨rfl, H1.out⟩
end Go.Proofs.YtegjllplmnpbdaaGreatDoor
