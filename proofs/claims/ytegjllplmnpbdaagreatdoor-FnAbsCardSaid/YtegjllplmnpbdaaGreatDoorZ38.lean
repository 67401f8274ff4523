/- a part of the proof: what functions that the statement reaches do -/
import Derived.Test.YtegjllplmnpbdaaGreatDoorZ37
set_option linter.all false
set_option maxRecDepth 100000
set_option maxHeartbeats 16000000
namespace Go.Proofs.YtegjllplmnpbdaaGreatDoor
open Go Go.RowKit
theorem Q9c (w : World) : Calls Tryz.prog 223 #[.int .u64 10, .int .i64 1] w fun e w' => e = .returned (.int .u64 10) ∧ w' = w := by
 have q0 : bits .and .i64 1 1 = 1 := by kernel_rfl
 have q1 : ∀ w1 : World, (binOp .mul 188 (.int .u64 1) (.int .u64 10)).run Tryz.prog w1 = .ok (.int .u64 10) w1 := fun _ => by kernel_rfl
 have q2 : ∀ w1 : World, (binOp .mul 188 (.int .u64 10) (.int .u64 10)).run Tryz.prog w1 = .ok (.int .u64 100) w1 := fun _ => by kernel_rfl
 have q3 : ∀ w1 : World, (binOp .shr 3 (.int .i64 1) (.int .u64 1)).run Tryz.prog w1 = .ok (.int .i64 0) w1 := fun _ => by kernel_rfl
 go_enter Tryz.func223, Tryz.ntmps223
 go_wp2_with fail
 refine wp_loop_rounds 2 ?_
 rw [rounds_succ]
 go_wp2_with fail
 rw [rounds_succ]
 go_wp2_with fail
 go_ret
 exact ⟨rfl, rfl⟩
theorem Q9d (w : World) : Calls Tryz.prog 223 #[.int .u64 10, .int .i64 2] w fun e w' => e = .returned (.int .u64 100) ∧ w' = w := by
 have q0 : bits .and .i64 2 1 = 0 := by kernel_rfl
 have q1 : ∀ w1 : World, (binOp .mul 188 (.int .u64 10) (.int .u64 10)).run Tryz.prog w1 = .ok (.int .u64 100) w1 := fun _ => by kernel_rfl
 have q2 : ∀ w1 : World, (binOp .shr 3 (.int .i64 2) (.int .u64 1)).run Tryz.prog w1 = .ok (.int .i64 1) w1 := fun _ => by kernel_rfl
 have q3 : bits .and .i64 1 1 = 1 := by kernel_rfl
 have q4 : ∀ w1 : World, (binOp .mul 188 (.int .u64 1) (.int .u64 100)).run Tryz.prog w1 = .ok (.int .u64 100) w1 := fun _ => by kernel_rfl
 have q5 : ∀ w1 : World, (binOp .mul 188 (.int .u64 100) (.int .u64 100)).run Tryz.prog w1 = .ok (.int .u64 10000) w1 := fun _ => by kernel_rfl
 have q6 : ∀ w1 : World, (binOp .shr 3 (.int .i64 1) (.int .u64 1)).run Tryz.prog w1 = .ok (.int .i64 0) w1 := fun _ => by kernel_rfl
 go_enter Tryz.func223, Tryz.ntmps223
 go_wp2_with fail
 refine wp_loop_rounds 3 ?_
 rw [rounds_succ]
 go_wp2_with fail
 rw [rounds_succ]
 go_wp2_with fail
 rw [rounds_succ]
 go_wp2_with fail
 go_ret
 exact ⟨rfl, rfl⟩
theorem Q9e (w : World) : Calls Tryz.prog 223 #[.int .u64 10, .int .i64 3] w fun e w' => e = .returned (.int .u64 1000) ∧ w' = w := by
 have q0 : bits .and .i64 3 1 = 1 := by kernel_rfl
 have q1 : ∀ w1 : World, (binOp .mul 188 (.int .u64 1) (.int .u64 10)).run Tryz.prog w1 = .ok (.int .u64 10) w1 := fun _ => by kernel_rfl
 have q2 : ∀ w1 : World, (binOp .mul 188 (.int .u64 10) (.int .u64 10)).run Tryz.prog w1 = .ok (.int .u64 100) w1 := fun _ => by kernel_rfl
 have q3 : ∀ w1 : World, (binOp .shr 3 (.int .i64 3) (.int .u64 1)).run Tryz.prog w1 = .ok (.int .i64 1) w1 := fun _ => by kernel_rfl
 have q4 : bits .and .i64 1 1 = 1 := by kernel_rfl
 have q5 : ∀ w1 : World, (binOp .mul 188 (.int .u64 10) (.int .u64 100)).run Tryz.prog w1 = .ok (.int .u64 1000) w1 := fun _ => by kernel_rfl
 have q6 : ∀ w1 : World, (binOp .mul 188 (.int .u64 100) (.int .u64 100)).run Tryz.prog w1 = .ok (.int .u64 10000) w1 := fun _ => by kernel_rfl
 have q7 : ∀ w1 : World, (binOp .shr 3 (.int .i64 1) (.int .u64 1)).run Tryz.prog w1 = .ok (.int .i64 0) w1 := fun _ => by kernel_rfl
 go_enter Tryz.func223, Tryz.ntmps223
 go_wp2_with fail
 refine wp_loop_rounds 3 ?_
 rw [rounds_succ]
 go_wp2_with fail
 rw [rounds_succ]
 go_wp2_with fail
 rw [rounds_succ]
 go_wp2_with fail
 go_ret
 exact ⟨rfl, rfl⟩
theorem Q9f (w : World) : Calls Tryz.prog 223 #[.int .u64 10, .int .i64 4] w fun e w' => e = .returned (.int .u64 10000) ∧ w' = w := by
 have q0 : bits .and .i64 4 1 = 0 := by kernel_rfl
 have q1 : ∀ w1 : World, (binOp .mul 188 (.int .u64 10) (.int .u64 10)).run Tryz.prog w1 = .ok (.int .u64 100) w1 := fun _ => by kernel_rfl
 have q2 : ∀ w1 : World, (binOp .shr 3 (.int .i64 4) (.int .u64 1)).run Tryz.prog w1 = .ok (.int .i64 2) w1 := fun _ => by kernel_rfl
 have q3 : bits .and .i64 2 1 = 0 := by kernel_rfl
 have q4 : ∀ w1 : World, (binOp .mul 188 (.int .u64 100) (.int .u64 100)).run Tryz.prog w1 = .ok (.int .u64 10000) w1 := fun _ => by kernel_rfl
 have q5 : ∀ w1 : World, (binOp .shr 3 (.int .i64 2) (.int .u64 1)).run Tryz.prog w1 = .ok (.int .i64 1) w1 := fun _ => by kernel_rfl
 have q6 : bits .and .i64 1 1 = 1 := by kernel_rfl
 have q7 : ∀ w1 : World, (binOp .mul 188 (.int .u64 1) (.int .u64 10000)).run Tryz.prog w1 = .ok (.int .u64 10000) w1 := fun _ => by kernel_rfl
 have q8 : ∀ w1 : World, (binOp .mul 188 (.int .u64 10000) (.int .u64 10000)).run Tryz.prog w1 = .ok (.int .u64 100000000) w1 := fun _ => by kernel_rfl
 have q9 : ∀ w1 : World, (binOp .shr 3 (.int .i64 1) (.int .u64 1)).run Tryz.prog w1 = .ok (.int .i64 0) w1 := fun _ => by kernel_rfl
 go_enter Tryz.func223, Tryz.ntmps223
 go_wp2_with fail
 refine wp_loop_rounds 4 ?_
 rw [rounds_succ]
 go_wp2_with fail
 rw [rounds_succ]
 go_wp2_with fail
 rw [rounds_succ]
 go_wp2_with fail
 rw [rounds_succ]
 go_wp2_with fail
 go_ret
 exact ⟨rfl, rfl⟩
theorem Q9g (w : World) : Calls Tryz.prog 223 #[.int .u64 10, .int .i64 5] w fun e w' => e = .returned (.int .u64 100000) ∧ w' = w := by
 have q0 : bits .and .i64 5 1 = 1 := by kernel_rfl
 have q1 : ∀ w1 : World, (binOp .mul 188 (.int .u64 1) (.int .u64 10)).run Tryz.prog w1 = .ok (.int .u64 10) w1 := fun _ => by kernel_rfl
 have q2 : ∀ w1 : World, (binOp .mul 188 (.int .u64 10) (.int .u64 10)).run Tryz.prog w1 = .ok (.int .u64 100) w1 := fun _ => by kernel_rfl
 have q3 : ∀ w1 : World, (binOp .shr 3 (.int .i64 5) (.int .u64 1)).run Tryz.prog w1 = .ok (.int .i64 2) w1 := fun _ => by kernel_rfl
 have q4 : bits .and .i64 2 1 = 0 := by kernel_rfl
 have q5 : ∀ w1 : World, (binOp .mul 188 (.int .u64 100) (.int .u64 100)).run Tryz.prog w1 = .ok (.int .u64 10000) w1 := fun _ => by kernel_rfl
 have q6 : ∀ w1 : World, (binOp .shr 3 (.int .i64 2) (.int .u64 1)).run Tryz.prog w1 = .ok (.int .i64 1) w1 := fun _ => by kernel_rfl
 have q7 : bits .and .i64 1 1 = 1 := by kernel_rfl
 have q8 : ∀ w1 : World, (binOp .mul 188 (.int .u64 10) (.int .u64 10000)).run Tryz.prog w1 = .ok (.int .u64 100000) w1 := fun _ => by kernel_rfl
 have q9 : ∀ w1 : World, (binOp .mul 188 (.int .u64 10000) (.int .u64 10000)).run Tryz.prog w1 = .ok (.int .u64 100000000) w1 := fun _ => by kernel_rfl
 have q10 : ∀ w1 : World, (binOp .shr 3 (.int .i64 1) (.int .u64 1)).run Tryz.prog w1 = .ok (.int .i64 0) w1 := fun _ => by kernel_rfl
 go_enter Tryz.func223, Tryz.ntmps223
 go_wp2_with fail
 refine wp_loop_rounds 4 ?_
 rw [rounds_succ]
 go_wp2_with fail
 rw [rounds_succ]
 go_wp2_with fail
 rw [rounds_succ]
 go_wp2_with fail
 rw [rounds_succ]
 go_wp2_with fail
 go_ret
 exact ⟨rfl, rfl⟩
theorem Q9h (w : World) : Calls Tryz.prog 223 #[.int .u64 10, .int .i64 6] w fun e w' => e = .returned (.int .u64 1000000) ∧ w' = w := by
 have q0 : bits .and .i64 6 1 = 0 := by kernel_rfl
 have q1 : ∀ w1 : World, (binOp .mul 188 (.int .u64 10) (.int .u64 10)).run Tryz.prog w1 = .ok (.int .u64 100) w1 := fun _ => by kernel_rfl
 have q2 : ∀ w1 : World, (binOp .shr 3 (.int .i64 6) (.int .u64 1)).run Tryz.prog w1 = .ok (.int .i64 3) w1 := fun _ => by kernel_rfl
 have q3 : bits .and .i64 3 1 = 1 := by kernel_rfl
 have q4 : ∀ w1 : World, (binOp .mul 188 (.int .u64 1) (.int .u64 100)).run Tryz.prog w1 = .ok (.int .u64 100) w1 := fun _ => by kernel_rfl
 have q5 : ∀ w1 : World, (binOp .mul 188 (.int .u64 100) (.int .u64 100)).run Tryz.prog w1 = .ok (.int .u64 10000) w1 := fun _ => by kernel_rfl
 have q6 : ∀ w1 : World, (binOp .shr 3 (.int .i64 3) (.int .u64 1)).run Tryz.prog w1 = .ok (.int .i64 1) w1 := fun _ => by kernel_rfl
 have q7 : bits .and .i64 1 1 = 1 := by kernel_rfl
 have q8 : ∀ w1 : World, (binOp .mul 188 (.int .u64 100) (.int .u64 10000)).run Tryz.prog w1 = .ok (.int .u64 1000000) w1 := fun _ => by kernel_rfl
 have q9 : ∀ w1 : World, (binOp .mul 188 (.int .u64 10000) (.int .u64 10000)).run Tryz.prog w1 = .ok (.int .u64 100000000) w1 := fun _ => by kernel_rfl
 have q10 : ∀ w1 : World, (binOp .shr 3 (.int .i64 1) (.int .u64 1)).run Tryz.prog w1 = .ok (.int .i64 0) w1 := fun _ => by kernel_rfl
 go_enter Tryz.func223, Tryz.ntmps223
 go_wp2_with fail
 refine wp_loop_rounds 4 ?_
 rw [rounds_succ]
 go_wp2_with fail
 rw [rounds_succ]
 go_wp2_with fail
 rw [rounds_succ]
 go_wp2_with fail
 rw [rounds_succ]
 go_wp2_with fail
 go_ret
 exact ⟨rfl, rfl⟩
theorem Q9i (w : World) : Calls Tryz.prog 223 #[.int .u64 10, .int .i64 7] w fun e w' => e = .returned (.int .u64 10000000) ∧ w' = w := by
 have q0 : bits .and .i64 7 1 = 1 := by kernel_rfl
 have q1 : ∀ w1 : World, (binOp .mul 188 (.int .u64 1) (.int .u64 10)).run Tryz.prog w1 = .ok (.int .u64 10) w1 := fun _ => by kernel_rfl
 have q2 : ∀ w1 : World, (binOp .mul 188 (.int .u64 10) (.int .u64 10)).run Tryz.prog w1 = .ok (.int .u64 100) w1 := fun _ => by kernel_rfl
 have q3 : ∀ w1 : World, (binOp .shr 3 (.int .i64 7) (.int .u64 1)).run Tryz.prog w1 = .ok (.int .i64 3) w1 := fun _ => by kernel_rfl
 have q4 : bits .and .i64 3 1 = 1 := by kernel_rfl
 have q5 : ∀ w1 : World, (binOp .mul 188 (.int .u64 10) (.int .u64 100)).run Tryz.prog w1 = .ok (.int .u64 1000) w1 := fun _ => by kernel_rfl
 have q6 : ∀ w1 : World, (binOp .mul 188 (.int .u64 100) (.int .u64 100)).run Tryz.prog w1 = .ok (.int .u64 10000) w1 := fun _ => by kernel_rfl
 have q7 : ∀ w1 : World, (binOp .shr 3 (.int .i64 3) (.int .u64 1)).run Tryz.prog w1 = .ok (.int .i64 1) w1 := fun _ => by kernel_rfl
 have q8 : bits .and .i64 1 1 = 1 := by kernel_rfl
 have q9 : ∀ w1 : World, (binOp .mul 188 (.int .u64 1000) (.int .u64 10000)).run Tryz.prog w1 = .ok (.int .u64 10000000) w1 := fun _ => by kernel_rfl
 have q10 : ∀ w1 : World, (binOp .mul 188 (.int .u64 10000) (.int .u64 10000)).run Tryz.prog w1 = .ok (.int .u64 100000000) w1 := fun _ => by kernel_rfl
 have q11 : ∀ w1 : World, (binOp .shr 3 (.int .i64 1) (.int .u64 1)).run Tryz.prog w1 = .ok (.int .i64 0) w1 := fun _ => by kernel_rfl
 go_enter Tryz.func223, Tryz.ntmps223
 go_wp2_with fail
 refine wp_loop_rounds 4 ?_
 rw [rounds_succ]
 go_wp2_with fail
 rw [rounds_succ]
 go_wp2_with fail
 rw [rounds_succ]
 go_wp2_with fail
 rw [rounds_succ]
 go_wp2_with fail
 go_ret
 exact ⟨rfl, rfl⟩
theorem Q9j (w : World) : Calls Tryz.prog 223 #[.int .u64 10, .int .i64 8] w fun e w' => e = .returned (.int .u64 100000000) ∧ w' = w := by
 have q0 : bits .and .i64 8 1 = 0 := by kernel_rfl
 have q1 : ∀ w1 : World, (binOp .mul 188 (.int .u64 10) (.int .u64 10)).run Tryz.prog w1 = .ok (.int .u64 100) w1 := fun _ => by kernel_rfl
 have q2 : ∀ w1 : World, (binOp .shr 3 (.int .i64 8) (.int .u64 1)).run Tryz.prog w1 = .ok (.int .i64 4) w1 := fun _ => by kernel_rfl
 have q3 : bits .and .i64 4 1 = 0 := by kernel_rfl
 have q4 : ∀ w1 : World, (binOp .mul 188 (.int .u64 100) (.int .u64 100)).run Tryz.prog w1 = .ok (.int .u64 10000) w1 := fun _ => by kernel_rfl
 have q5 : ∀ w1 : World, (binOp .shr 3 (.int .i64 4) (.int .u64 1)).run Tryz.prog w1 = .ok (.int .i64 2) w1 := fun _ => by kernel_rfl
 have q6 : bits .and .i64 2 1 = 0 := by kernel_rfl
 have q7 : ∀ w1 : World, (binOp .mul 188 (.int .u64 10000) (.int .u64 10000)).run Tryz.prog w1 = .ok (.int .u64 100000000) w1 := fun _ => by kernel_rfl
 have q8 : ∀ w1 : World, (binOp .shr 3 (.int .i64 2) (.int .u64 1)).run Tryz.prog w1 = .ok (.int .i64 1) w1 := fun _ => by kernel_rfl
 have q9 : bits .and .i64 1 1 = 1 := by kernel_rfl
 have q10 : ∀ w1 : World, (binOp .mul 188 (.int .u64 1) (.int .u64 100000000)).run Tryz.prog w1 = .ok (.int .u64 100000000) w1 := fun _ => by kernel_rfl
 have q11 : ∀ w1 : World, (binOp .mul 188 (.int .u64 100000000) (.int .u64 100000000)).run Tryz.prog w1 = .ok (.int .u64 10000000000000000) w1 := fun _ => by kernel_rfl
 have q12 : ∀ w1 : World, (binOp .shr 3 (.int .i64 1) (.int .u64 1)).run Tryz.prog w1 = .ok (.int .i64 0) w1 := fun _ => by kernel_rfl
 go_enter Tryz.func223, Tryz.ntmps223
 go_wp2_with fail
 refine wp_loop_rounds 5 ?_
 rw [rounds_succ]
 go_wp2_with fail
 rw [rounds_succ]
 go_wp2_with fail
 rw [rounds_succ]
 go_wp2_with fail
 rw [rounds_succ]
 go_wp2_with fail
 rw [rounds_succ]
 go_wp2_with fail
 go_ret
 exact ⟨rfl, rfl⟩
theorem Q9k (w : World) : Calls Tryz.prog 223 #[.int .u64 10, .int .i64 9] w fun e w' => e = .returned (.int .u64 1000000000) ∧ w' = w := by
 have q0 : bits .and .i64 9 1 = 1 := by kernel_rfl
 have q1 : ∀ w1 : World, (binOp .mul 188 (.int .u64 1) (.int .u64 10)).run Tryz.prog w1 = .ok (.int .u64 10) w1 := fun _ => by kernel_rfl
 have q2 : ∀ w1 : World, (binOp .mul 188 (.int .u64 10) (.int .u64 10)).run Tryz.prog w1 = .ok (.int .u64 100) w1 := fun _ => by kernel_rfl
 have q3 : ∀ w1 : World, (binOp .shr 3 (.int .i64 9) (.int .u64 1)).run Tryz.prog w1 = .ok (.int .i64 4) w1 := fun _ => by kernel_rfl
 have q4 : bits .and .i64 4 1 = 0 := by kernel_rfl
 have q5 : ∀ w1 : World, (binOp .mul 188 (.int .u64 100) (.int .u64 100)).run Tryz.prog w1 = .ok (.int .u64 10000) w1 := fun _ => by kernel_rfl
 have q6 : ∀ w1 : World, (binOp .shr 3 (.int .i64 4) (.int .u64 1)).run Tryz.prog w1 = .ok (.int .i64 2) w1 := fun _ => by kernel_rfl
 have q7 : bits .and .i64 2 1 = 0 := by kernel_rfl
 have q8 : ∀ w1 : World, (binOp .mul 188 (.int .u64 10000) (.int .u64 10000)).run Tryz.prog w1 = .ok (.int .u64 100000000) w1 := fun _ => by kernel_rfl
 have q9 : ∀ w1 : World, (binOp .shr 3 (.int .i64 2) (.int .u64 1)).run Tryz.prog w1 = .ok (.int .i64 1) w1 := fun _ => by kernel_rfl
 have q10 : bits .and .i64 1 1 = 1 := by kernel_rfl
 have q11 : ∀ w1 : World, (binOp .mul 188 (.int .u64 10) (.int .u64 100000000)).run Tryz.prog w1 = .ok (.int .u64 1000000000) w1 := fun _ => by kernel_rfl
 have q12 : ∀ w1 : World, (binOp .mul 188 (.int .u64 100000000) (.int .u64 100000000)).run Tryz.prog w1 = .ok (.int .u64 10000000000000000) w1 := fun _ => by kernel_rfl
 have q13 : ∀ w1 : World, (binOp .shr 3 (.int .i64 1) (.int .u64 1)).run Tryz.prog w1 = .ok (.int .i64 0) w1 := fun _ => by kernel_rfl
 go_enter Tryz.func223, Tryz.ntmps223
 go_wp2_with fail
 refine wp_loop_rounds 5 ?_
 rw [rounds_succ]
 go_wp2_with fail
 rw [rounds_succ]
 go_wp2_with fail
 rw [rounds_succ]
 go_wp2_with fail
 rw [rounds_succ]
 go_wp2_with fail
 rw [rounds_succ]
 go_wp2_with fail
 go_ret
 exact ⟨rfl, rfl⟩
theorem Q85 (w : World) : Calls Tryz.prog 223 #[.int .u64 10, .int .i64 10] w fun e w' => e = .returned (.int .u64 10000000000) ∧ w' = w := by
 have q0 : bits .and .i64 10 1 = 0 := by kernel_rfl
 have q1 : ∀ w1 : World, (binOp .mul 188 (.int .u64 10) (.int .u64 10)).run Tryz.prog w1 = .ok (.int .u64 100) w1 := fun _ => by kernel_rfl
 have q2 : ∀ w1 : World, (binOp .shr 3 (.int .i64 10) (.int .u64 1)).run Tryz.prog w1 = .ok (.int .i64 5) w1 := fun _ => by kernel_rfl
 have q3 : bits .and .i64 5 1 = 1 := by kernel_rfl
 have q4 : ∀ w1 : World, (binOp .mul 188 (.int .u64 1) (.int .u64 100)).run Tryz.prog w1 = .ok (.int .u64 100) w1 := fun _ => by kernel_rfl
 have q5 : ∀ w1 : World, (binOp .mul 188 (.int .u64 100) (.int .u64 100)).run Tryz.prog w1 = .ok (.int .u64 10000) w1 := fun _ => by kernel_rfl
 have q6 : ∀ w1 : World, (binOp .shr 3 (.int .i64 5) (.int .u64 1)).run Tryz.prog w1 = .ok (.int .i64 2) w1 := fun _ => by kernel_rfl
 have q7 : bits .and .i64 2 1 = 0 := by kernel_rfl
 have q8 : ∀ w1 : World, (binOp .mul 188 (.int .u64 10000) (.int .u64 10000)).run Tryz.prog w1 = .ok (.int .u64 100000000) w1 := fun _ => by kernel_rfl
 have q9 : ∀ w1 : World, (binOp .shr 3 (.int .i64 2) (.int .u64 1)).run Tryz.prog w1 = .ok (.int .i64 1) w1 := fun _ => by kernel_rfl
 have q10 : bits .and .i64 1 1 = 1 := by kernel_rfl
 have q11 : ∀ w1 : World, (binOp .mul 188 (.int .u64 100) (.int .u64 100000000)).run Tryz.prog w1 = .ok (.int .u64 10000000000) w1 := fun _ => by kernel_rfl
 have q12 : ∀ w1 : World, (binOp .mul 188 (.int .u64 100000000) (.int .u64 100000000)).run Tryz.prog w1 = .ok (.int .u64 10000000000000000) w1 := fun _ => by kernel_rfl
 have q13 : ∀ w1 : World, (binOp .shr 3 (.int .i64 1) (.int .u64 1)).run Tryz.prog w1 = .ok (.int .i64 0) w1 := fun _ => by kernel_rfl
 go_enter Tryz.func223, Tryz.ntmps223
 go_wp2_with fail
 refine wp_loop_rounds 5 ?_
 rw [rounds_succ]
 go_wp2_with fail
 rw [rounds_succ]
 go_wp2_with fail
 rw [rounds_succ]
 go_wp2_with fail
 rw [rounds_succ]
 go_wp2_with fail
 rw [rounds_succ]
 go_wp2_with fail
 go_ret
 exact ⟨rfl, rfl⟩
theorem Q86 (w : World) : Calls Tryz.prog 223 #[.int .u64 10, .int .i64 11] w fun e w' => e = .returned (.int .u64 100000000000) ∧ w' = w := by
 have q0 : bits .and .i64 11 1 = 1 := by kernel_rfl
 have q1 : ∀ w1 : World, (binOp .mul 188 (.int .u64 1) (.int .u64 10)).run Tryz.prog w1 = .ok (.int .u64 10) w1 := fun _ => by kernel_rfl
 have q2 : ∀ w1 : World, (binOp .mul 188 (.int .u64 10) (.int .u64 10)).run Tryz.prog w1 = .ok (.int .u64 100) w1 := fun _ => by kernel_rfl
 have q3 : ∀ w1 : World, (binOp .shr 3 (.int .i64 11) (.int .u64 1)).run Tryz.prog w1 = .ok (.int .i64 5) w1 := fun _ => by kernel_rfl
 have q4 : bits .and .i64 5 1 = 1 := by kernel_rfl
 have q5 : ∀ w1 : World, (binOp .mul 188 (.int .u64 10) (.int .u64 100)).run Tryz.prog w1 = .ok (.int .u64 1000) w1 := fun _ => by kernel_rfl
 have q6 : ∀ w1 : World, (binOp .mul 188 (.int .u64 100) (.int .u64 100)).run Tryz.prog w1 = .ok (.int .u64 10000) w1 := fun _ => by kernel_rfl
 have q7 : ∀ w1 : World, (binOp .shr 3 (.int .i64 5) (.int .u64 1)).run Tryz.prog w1 = .ok (.int .i64 2) w1 := fun _ => by kernel_rfl
 have q8 : bits .and .i64 2 1 = 0 := by kernel_rfl
 have q9 : ∀ w1 : World, (binOp .mul 188 (.int .u64 10000) (.int .u64 10000)).run Tryz.prog w1 = .ok (.int .u64 100000000) w1 := fun _ => by kernel_rfl
 have q10 : ∀ w1 : World, (binOp .shr 3 (.int .i64 2) (.int .u64 1)).run Tryz.prog w1 = .ok (.int .i64 1) w1 := fun _ => by kernel_rfl
 have q11 : bits .and .i64 1 1 = 1 := by kernel_rfl
 have q12 : ∀ w1 : World, (binOp .mul 188 (.int .u64 1000) (.int .u64 100000000)).run Tryz.prog w1 = .ok (.int .u64 100000000000) w1 := fun _ => by kernel_rfl
 have q13 : ∀ w1 : World, (binOp .mul 188 (.int .u64 100000000) (.int .u64 100000000)).run Tryz.prog w1 = .ok (.int .u64 10000000000000000) w1 := fun _ => by kernel_rfl
 have q14 : ∀ w1 : World, (binOp .shr 3 (.int .i64 1) (.int .u64 1)).run Tryz.prog w1 = .ok (.int .i64 0) w1 := fun _ => by kernel_rfl
 go_enter Tryz.func223, Tryz.ntmps223
 go_wp2_with fail
 refine wp_loop_rounds 5 ?_
 rw [rounds_succ]
 go_wp2_with fail
 rw [rounds_succ]
 go_wp2_with fail
 rw [rounds_succ]
 go_wp2_with fail
 rw [rounds_succ]
 go_wp2_with fail
 rw [rounds_succ]
 go_wp2_with fail
 go_ret
 exact ⟨rfl, rfl⟩
theorem Q87 (w : World) : Calls Tryz.prog 223 #[.int .u64 10, .int .i64 12] w fun e w' => e = .returned (.int .u64 1000000000000) ∧ w' = w := by
 have q0 : bits .and .i64 12 1 = 0 := by kernel_rfl
 have q1 : ∀ w1 : World, (binOp .mul 188 (.int .u64 10) (.int .u64 10)).run Tryz.prog w1 = .ok (.int .u64 100) w1 := fun _ => by kernel_rfl
 have q2 : ∀ w1 : World, (binOp .shr 3 (.int .i64 12) (.int .u64 1)).run Tryz.prog w1 = .ok (.int .i64 6) w1 := fun _ => by kernel_rfl
 have q3 : bits .and .i64 6 1 = 0 := by kernel_rfl
 have q4 : ∀ w1 : World, (binOp .mul 188 (.int .u64 100) (.int .u64 100)).run Tryz.prog w1 = .ok (.int .u64 10000) w1 := fun _ => by kernel_rfl
 have q5 : ∀ w1 : World, (binOp .shr 3 (.int .i64 6) (.int .u64 1)).run Tryz.prog w1 = .ok (.int .i64 3) w1 := fun _ => by kernel_rfl
 have q6 : bits .and .i64 3 1 = 1 := by kernel_rfl
 have q7 : ∀ w1 : World, (binOp .mul 188 (.int .u64 1) (.int .u64 10000)).run Tryz.prog w1 = .ok (.int .u64 10000) w1 := fun _ => by kernel_rfl
 have q8 : ∀ w1 : World, (binOp .mul 188 (.int .u64 10000) (.int .u64 10000)).run Tryz.prog w1 = .ok (.int .u64 100000000) w1 := fun _ => by kernel_rfl
 have q9 : ∀ w1 : World, (binOp .shr 3 (.int .i64 3) (.int .u64 1)).run Tryz.prog w1 = .ok (.int .i64 1) w1 := fun _ => by kernel_rfl
 have q10 : bits .and .i64 1 1 = 1 := by kernel_rfl
 have q11 : ∀ w1 : World, (binOp .mul 188 (.int .u64 10000) (.int .u64 100000000)).run Tryz.prog w1 = .ok (.int .u64 1000000000000) w1 := fun _ => by kernel_rfl
 have q12 : ∀ w1 : World, (binOp .mul 188 (.int .u64 100000000) (.int .u64 100000000)).run Tryz.prog w1 = .ok (.int .u64 10000000000000000) w1 := fun _ => by kernel_rfl
 have q13 : ∀ w1 : World, (binOp .shr 3 (.int .i64 1) (.int .u64 1)).run Tryz.prog w1 = .ok (.int .i64 0) w1 := fun _ => by kernel_rfl
 go_enter Tryz.func223, Tryz.ntmps223
 go_wp2_with fail
 refine wp_loop_rounds 5 ?_
 rw [rounds_succ]
 go_wp2_with fail
 rw [rounds_succ]
 go_wp2_with fail
 rw [rounds_succ]
 go_wp2_with fail
 rw [rounds_succ]
 go_wp2_with fail
 rw [rounds_succ]
 go_wp2_with fail
 go_ret
 exact ⟨rfl, rfl⟩
theorem Q88 (w : World) : Calls Tryz.prog 223 #[.int .u64 10, .int .i64 13] w fun e w' => e = .returned (.int .u64 10000000000000) ∧ w' = w := by
 have q0 : bits .and .i64 13 1 = 1 := by kernel_rfl
 have q1 : ∀ w1 : World, (binOp .mul 188 (.int .u64 1) (.int .u64 10)).run Tryz.prog w1 = .ok (.int .u64 10) w1 := fun _ => by kernel_rfl
 have q2 : ∀ w1 : World, (binOp .mul 188 (.int .u64 10) (.int .u64 10)).run Tryz.prog w1 = .ok (.int .u64 100) w1 := fun _ => by kernel_rfl
 have q3 : ∀ w1 : World, (binOp .shr 3 (.int .i64 13) (.int .u64 1)).run Tryz.prog w1 = .ok (.int .i64 6) w1 := fun _ => by kernel_rfl
 have q4 : bits .and .i64 6 1 = 0 := by kernel_rfl
 have q5 : ∀ w1 : World, (binOp .mul 188 (.int .u64 100) (.int .u64 100)).run Tryz.prog w1 = .ok (.int .u64 10000) w1 := fun _ => by kernel_rfl
 have q6 : ∀ w1 : World, (binOp .shr 3 (.int .i64 6) (.int .u64 1)).run Tryz.prog w1 = .ok (.int .i64 3) w1 := fun _ => by kernel_rfl
 have q7 : bits .and .i64 3 1 = 1 := by kernel_rfl
 have q8 : ∀ w1 : World, (binOp .mul 188 (.int .u64 10) (.int .u64 10000)).run Tryz.prog w1 = .ok (.int .u64 100000) w1 := fun _ => by kernel_rfl
 have q9 : ∀ w1 : World, (binOp .mul 188 (.int .u64 10000) (.int .u64 10000)).run Tryz.prog w1 = .ok (.int .u64 100000000) w1 := fun _ => by kernel_rfl
 have q10 : ∀ w1 : World, (binOp .shr 3 (.int .i64 3) (.int .u64 1)).run Tryz.prog w1 = .ok (.int .i64 1) w1 := fun _ => by kernel_rfl
 have q11 : bits .and .i64 1 1 = 1 := by kernel_rfl
 have q12 : ∀ w1 : World, (binOp .mul 188 (.int .u64 100000) (.int .u64 100000000)).run Tryz.prog w1 = .ok (.int .u64 10000000000000) w1 := fun _ => by kernel_rfl
 have q13 : ∀ w1 : World, (binOp .mul 188 (.int .u64 100000000) (.int .u64 100000000)).run Tryz.prog w1 = .ok (.int .u64 10000000000000000) w1 := fun _ => by kernel_rfl
 have q14 : ∀ w1 : World, (binOp .shr 3 (.int .i64 1) (.int .u64 1)).run Tryz.prog w1 = .ok (.int .i64 0) w1 := fun _ => by kernel_rfl
 go_enter Tryz.func223, Tryz.ntmps223
 go_wp2_with fail
 refine wp_loop_rounds 5 ?_
 rw [rounds_succ]
 go_wp2_with fail
 rw [rounds_succ]
 go_wp2_with fail
 rw [rounds_succ]
 go_wp2_with fail
 rw [rounds_succ]
 go_wp2_with fail
 rw [rounds_succ]
 go_wp2_with fail
 go_ret
 exact ⟨rfl, rfl⟩
theorem Q89 (w : World) : Calls Tryz.prog 223 #[.int .u64 10, .int .i64 14] w fun e w' => e = .returned (.int .u64 100000000000000) ∧ w' = w := by
 have q0 : bits .and .i64 14 1 = 0 := by kernel_rfl
 have q1 : ∀ w1 : World, (binOp .mul 188 (.int .u64 10) (.int .u64 10)).run Tryz.prog w1 = .ok (.int .u64 100) w1 := fun _ => by kernel_rfl
 have q2 : ∀ w1 : World, (binOp .shr 3 (.int .i64 14) (.int .u64 1)).run Tryz.prog w1 = .ok (.int .i64 7) w1 := fun _ => by kernel_rfl
 have q3 : bits .and .i64 7 1 = 1 := by kernel_rfl
 have q4 : ∀ w1 : World, (binOp .mul 188 (.int .u64 1) (.int .u64 100)).run Tryz.prog w1 = .ok (.int .u64 100) w1 := fun _ => by kernel_rfl
 have q5 : ∀ w1 : World, (binOp .mul 188 (.int .u64 100) (.int .u64 100)).run Tryz.prog w1 = .ok (.int .u64 10000) w1 := fun _ => by kernel_rfl
 have q6 : ∀ w1 : World, (binOp .shr 3 (.int .i64 7) (.int .u64 1)).run Tryz.prog w1 = .ok (.int .i64 3) w1 := fun _ => by kernel_rfl
 have q7 : bits .and .i64 3 1 = 1 := by kernel_rfl
 have q8 : ∀ w1 : World, (binOp .mul 188 (.int .u64 100) (.int .u64 10000)).run Tryz.prog w1 = .ok (.int .u64 1000000) w1 := fun _ => by kernel_rfl
 have q9 : ∀ w1 : World, (binOp .mul 188 (.int .u64 10000) (.int .u64 10000)).run Tryz.prog w1 = .ok (.int .u64 100000000) w1 := fun _ => by kernel_rfl
 have q10 : ∀ w1 : World, (binOp .shr 3 (.int .i64 3) (.int .u64 1)).run Tryz.prog w1 = .ok (.int .i64 1) w1 := fun _ => by kernel_rfl
 have q11 : bits .and .i64 1 1 = 1 := by kernel_rfl
 have q12 : ∀ w1 : World, (binOp .mul 188 (.int .u64 1000000) (.int .u64 100000000)).run Tryz.prog w1 = .ok (.int .u64 100000000000000) w1 := fun _ => by kernel_rfl
 have q13 : ∀ w1 : World, (binOp .mul 188 (.int .u64 100000000) (.int .u64 100000000)).run Tryz.prog w1 = .ok (.int .u64 10000000000000000) w1 := fun _ => by kernel_rfl
 have q14 : ∀ w1 : World, (binOp .shr 3 (.int .i64 1) (.int .u64 1)).run Tryz.prog w1 = .ok (.int .i64 0) w1 := fun _ => by kernel_rfl
 go_enter Tryz.func223, Tryz.ntmps223
 go_wp2_with fail
 refine wp_loop_rounds 5 ?_
 rw [rounds_succ]
 go_wp2_with fail
 rw [rounds_succ]
 go_wp2_with fail
 rw [rounds_succ]
 go_wp2_with fail
 rw [rounds_succ]
 go_wp2_with fail
 rw [rounds_succ]
 go_wp2_with fail
 go_ret
 exact ⟨rfl, rfl⟩
theorem Q8a (w : World) : Calls Tryz.prog 223 #[.int .u64 10, .int .i64 15] w fun e w' => e = .returned (.int .u64 1000000000000000) ∧ w' = w := by
 have q0 : bits .and .i64 15 1 = 1 := by kernel_rfl
 have q1 : ∀ w1 : World, (binOp .mul 188 (.int .u64 1) (.int .u64 10)).run Tryz.prog w1 = .ok (.int .u64 10) w1 := fun _ => by kernel_rfl
 have q2 : ∀ w1 : World, (binOp .mul 188 (.int .u64 10) (.int .u64 10)).run Tryz.prog w1 = .ok (.int .u64 100) w1 := fun _ => by kernel_rfl
 have q3 : ∀ w1 : World, (binOp .shr 3 (.int .i64 15) (.int .u64 1)).run Tryz.prog w1 = .ok (.int .i64 7) w1 := fun _ => by kernel_rfl
 have q4 : bits .and .i64 7 1 = 1 := by kernel_rfl
 have q5 : ∀ w1 : World, (binOp .mul 188 (.int .u64 10) (.int .u64 100)).run Tryz.prog w1 = .ok (.int .u64 1000) w1 := fun _ => by kernel_rfl
 have q6 : ∀ w1 : World, (binOp .mul 188 (.int .u64 100) (.int .u64 100)).run Tryz.prog w1 = .ok (.int .u64 10000) w1 := fun _ => by kernel_rfl
 have q7 : ∀ w1 : World, (binOp .shr 3 (.int .i64 7) (.int .u64 1)).run Tryz.prog w1 = .ok (.int .i64 3) w1 := fun _ => by kernel_rfl
 have q8 : bits .and .i64 3 1 = 1 := by kernel_rfl
 have q9 : ∀ w1 : World, (binOp .mul 188 (.int .u64 1000) (.int .u64 10000)).run Tryz.prog w1 = .ok (.int .u64 10000000) w1 := fun _ => by kernel_rfl
 have q10 : ∀ w1 : World, (binOp .mul 188 (.int .u64 10000) (.int .u64 10000)).run Tryz.prog w1 = .ok (.int .u64 100000000) w1 := fun _ => by kernel_rfl
 have q11 : ∀ w1 : World, (binOp .shr 3 (.int .i64 3) (.int .u64 1)).run Tryz.prog w1 = .ok (.int .i64 1) w1 := fun _ => by kernel_rfl
 have q12 : bits .and .i64 1 1 = 1 := by kernel_rfl
 have q13 : ∀ w1 : World, (binOp .mul 188 (.int .u64 10000000) (.int .u64 100000000)).run Tryz.prog w1 = .ok (.int .u64 1000000000000000) w1 := fun _ => by kernel_rfl
 have q14 : ∀ w1 : World, (binOp .mul 188 (.int .u64 100000000) (.int .u64 100000000)).run Tryz.prog w1 = .ok (.int .u64 10000000000000000) w1 := fun _ => by kernel_rfl
 have q15 : ∀ w1 : World, (binOp .shr 3 (.int .i64 1) (.int .u64 1)).run Tryz.prog w1 = .ok (.int .i64 0) w1 := fun _ => by kernel_rfl
 go_enter Tryz.func223, Tryz.ntmps223
 go_wp2_with fail
 refine wp_loop_rounds 5 ?_
 rw [rounds_succ]
 go_wp2_with fail
 rw [rounds_succ]
 go_wp2_with fail
 rw [rounds_succ]
 go_wp2_with fail
 rw [rounds_succ]
 go_wp2_with fail
 rw [rounds_succ]
 go_wp2_with fail
 go_ret
 exact ⟨rfl, rfl⟩
theorem Q8b (w : World) : Calls Tryz.prog 223 #[.int .u64 10, .int .i64 16] w fun e w' => e = .returned (.int .u64 10000000000000000) ∧ w' = w := by
 have q0 : bits .and .i64 16 1 = 0 := by kernel_rfl
 have q1 : ∀ w1 : World, (binOp .mul 188 (.int .u64 10) (.int .u64 10)).run Tryz.prog w1 = .ok (.int .u64 100) w1 := fun _ => by kernel_rfl
 have q2 : ∀ w1 : World, (binOp .shr 3 (.int .i64 16) (.int .u64 1)).run Tryz.prog w1 = .ok (.int .i64 8) w1 := fun _ => by kernel_rfl
 have q3 : bits .and .i64 8 1 = 0 := by kernel_rfl
 have q4 : ∀ w1 : World, (binOp .mul 188 (.int .u64 100) (.int .u64 100)).run Tryz.prog w1 = .ok (.int .u64 10000) w1 := fun _ => by kernel_rfl
 have q5 : ∀ w1 : World, (binOp .shr 3 (.int .i64 8) (.int .u64 1)).run Tryz.prog w1 = .ok (.int .i64 4) w1 := fun _ => by kernel_rfl
 have q6 : bits .and .i64 4 1 = 0 := by kernel_rfl
 have q7 : ∀ w1 : World, (binOp .mul 188 (.int .u64 10000) (.int .u64 10000)).run Tryz.prog w1 = .ok (.int .u64 100000000) w1 := fun _ => by kernel_rfl
 have q8 : ∀ w1 : World, (binOp .shr 3 (.int .i64 4) (.int .u64 1)).run Tryz.prog w1 = .ok (.int .i64 2) w1 := fun _ => by kernel_rfl
 have q9 : bits .and .i64 2 1 = 0 := by kernel_rfl
 have q10 : ∀ w1 : World, (binOp .mul 188 (.int .u64 100000000) (.int .u64 100000000)).run Tryz.prog w1 = .ok (.int .u64 10000000000000000) w1 := fun _ => by kernel_rfl
 have q11 : ∀ w1 : World, (binOp .shr 3 (.int .i64 2) (.int .u64 1)).run Tryz.prog w1 = .ok (.int .i64 1) w1 := fun _ => by kernel_rfl
 have q12 : bits .and .i64 1 1 = 1 := by kernel_rfl
 have q13 : ∀ w1 : World, (binOp .mul 188 (.int .u64 1) (.int .u64 10000000000000000)).run Tryz.prog w1 = .ok (.int .u64 10000000000000000) w1 := fun _ => by kernel_rfl
 have q14 : ∀ w1 : World, (binOp .mul 188 (.int .u64 10000000000000000) (.int .u64 10000000000000000)).run Tryz.prog w1 = .ok (.int .u64 9632337040368467968) w1 := fun _ => by kernel_rfl
 have q15 : ∀ w1 : World, (binOp .shr 3 (.int .i64 1) (.int .u64 1)).run Tryz.prog w1 = .ok (.int .i64 0) w1 := fun _ => by kernel_rfl
 go_enter Tryz.func223, Tryz.ntmps223
 go_wp2_with fail
 refine wp_loop_rounds 6 ?_
 rw [rounds_succ]
 go_wp2_with fail
 rw [rounds_succ]
 go_wp2_with fail
 rw [rounds_succ]
 go_wp2_with fail
 rw [rounds_succ]
 go_wp2_with fail
 rw [rounds_succ]
 go_wp2_with fail
 rw [rounds_succ]
 go_wp2_with fail
 go_ret
 exact ⟨rfl, rfl⟩
theorem Q8c (w : World) : Calls Tryz.prog 223 #[.int .u64 10, .int .i64 17] w fun e w' => e = .returned (.int .u64 100000000000000000) ∧ w' = w := by
 have q0 : bits .and .i64 17 1 = 1 := by kernel_rfl
 have q1 : ∀ w1 : World, (binOp .mul 188 (.int .u64 1) (.int .u64 10)).run Tryz.prog w1 = .ok (.int .u64 10) w1 := fun _ => by kernel_rfl
 have q2 : ∀ w1 : World, (binOp .mul 188 (.int .u64 10) (.int .u64 10)).run Tryz.prog w1 = .ok (.int .u64 100) w1 := fun _ => by kernel_rfl
 have q3 : ∀ w1 : World, (binOp .shr 3 (.int .i64 17) (.int .u64 1)).run Tryz.prog w1 = .ok (.int .i64 8) w1 := fun _ => by kernel_rfl
 have q4 : bits .and .i64 8 1 = 0 := by kernel_rfl
 have q5 : ∀ w1 : World, (binOp .mul 188 (.int .u64 100) (.int .u64 100)).run Tryz.prog w1 = .ok (.int .u64 10000) w1 := fun _ => by kernel_rfl
 have q6 : ∀ w1 : World, (binOp .shr 3 (.int .i64 8) (.int .u64 1)).run Tryz.prog w1 = .ok (.int .i64 4) w1 := fun _ => by kernel_rfl
 have q7 : bits .and .i64 4 1 = 0 := by kernel_rfl
 have q8 : ∀ w1 : World, (binOp .mul 188 (.int .u64 10000) (.int .u64 10000)).run Tryz.prog w1 = .ok (.int .u64 100000000) w1 := fun _ => by kernel_rfl
 have q9 : ∀ w1 : World, (binOp .shr 3 (.int .i64 4) (.int .u64 1)).run Tryz.prog w1 = .ok (.int .i64 2) w1 := fun _ => by kernel_rfl
 have q10 : bits .and .i64 2 1 = 0 := by kernel_rfl
 have q11 : ∀ w1 : World, (binOp .mul 188 (.int .u64 100000000) (.int .u64 100000000)).run Tryz.prog w1 = .ok (.int .u64 10000000000000000) w1 := fun _ => by kernel_rfl
 have q12 : ∀ w1 : World, (binOp .shr 3 (.int .i64 2) (.int .u64 1)).run Tryz.prog w1 = .ok (.int .i64 1) w1 := fun _ => by kernel_rfl
 have q13 : bits .and .i64 1 1 = 1 := by kernel_rfl
 have q14 : ∀ w1 : World, (binOp .mul 188 (.int .u64 10) (.int .u64 10000000000000000)).run Tryz.prog w1 = .ok (.int .u64 100000000000000000) w1 := fun _ => by kernel_rfl
 have q15 : ∀ w1 : World, (binOp .mul 188 (.int .u64 10000000000000000) (.int .u64 10000000000000000)).run Tryz.prog w1 = .ok (.int .u64 9632337040368467968) w1 := fun _ => by kernel_rfl
 have q16 : ∀ w1 : World, (binOp .shr 3 (.int .i64 1) (.int .u64 1)).run Tryz.prog w1 = .ok (.int .i64 0) w1 := fun _ => by kernel_rfl
 go_enter Tryz.func223, Tryz.ntmps223
 go_wp2_with fail
 refine wp_loop_rounds 6 ?_
 rw [rounds_succ]
 go_wp2_with fail
 rw [rounds_succ]
 go_wp2_with fail
 rw [rounds_succ]
 go_wp2_with fail
 rw [rounds_succ]
 go_wp2_with fail
 rw [rounds_succ]
 go_wp2_with fail
 rw [rounds_succ]
 go_wp2_with fail
 go_ret
 exact ⟨rfl, rfl⟩
theorem Q8d (w : World) : Calls Tryz.prog 223 #[.int .u64 10, .int .i64 18] w fun e w' => e = .returned (.int .u64 1000000000000000000) ∧ w' = w := by
 have q0 : bits .and .i64 18 1 = 0 := by kernel_rfl
 have q1 : ∀ w1 : World, (binOp .mul 188 (.int .u64 10) (.int .u64 10)).run Tryz.prog w1 = .ok (.int .u64 100) w1 := fun _ => by kernel_rfl
 have q2 : ∀ w1 : World, (binOp .shr 3 (.int .i64 18) (.int .u64 1)).run Tryz.prog w1 = .ok (.int .i64 9) w1 := fun _ => by kernel_rfl
 have q3 : bits .and .i64 9 1 = 1 := by kernel_rfl
 have q4 : ∀ w1 : World, (binOp .mul 188 (.int .u64 1) (.int .u64 100)).run Tryz.prog w1 = .ok (.int .u64 100) w1 := fun _ => by kernel_rfl
 have q5 : ∀ w1 : World, (binOp .mul 188 (.int .u64 100) (.int .u64 100)).run Tryz.prog w1 = .ok (.int .u64 10000) w1 := fun _ => by kernel_rfl
 have q6 : ∀ w1 : World, (binOp .shr 3 (.int .i64 9) (.int .u64 1)).run Tryz.prog w1 = .ok (.int .i64 4) w1 := fun _ => by kernel_rfl
 have q7 : bits .and .i64 4 1 = 0 := by kernel_rfl
 have q8 : ∀ w1 : World, (binOp .mul 188 (.int .u64 10000) (.int .u64 10000)).run Tryz.prog w1 = .ok (.int .u64 100000000) w1 := fun _ => by kernel_rfl
 have q9 : ∀ w1 : World, (binOp .shr 3 (.int .i64 4) (.int .u64 1)).run Tryz.prog w1 = .ok (.int .i64 2) w1 := fun _ => by kernel_rfl
 have q10 : bits .and .i64 2 1 = 0 := by kernel_rfl
 have q11 : ∀ w1 : World, (binOp .mul 188 (.int .u64 100000000) (.int .u64 100000000)).run Tryz.prog w1 = .ok (.int .u64 10000000000000000) w1 := fun _ => by kernel_rfl
 have q12 : ∀ w1 : World, (binOp .shr 3 (.int .i64 2) (.int .u64 1)).run Tryz.prog w1 = .ok (.int .i64 1) w1 := fun _ => by kernel_rfl
 have q13 : bits .and .i64 1 1 = 1 := by kernel_rfl
 have q14 : ∀ w1 : World, (binOp .mul 188 (.int .u64 100) (.int .u64 10000000000000000)).run Tryz.prog w1 = .ok (.int .u64 1000000000000000000) w1 := fun _ => by kernel_rfl
 have q15 : ∀ w1 : World, (binOp .mul 188 (.int .u64 10000000000000000) (.int .u64 10000000000000000)).run Tryz.prog w1 = .ok (.int .u64 9632337040368467968) w1 := fun _ => by kernel_rfl
 have q16 : ∀ w1 : World, (binOp .shr 3 (.int .i64 1) (.int .u64 1)).run Tryz.prog w1 = .ok (.int .i64 0) w1 := fun _ => by kernel_rfl
 go_enter Tryz.func223, Tryz.ntmps223
 go_wp2_with fail
 refine wp_loop_rounds 6 ?_
 rw [rounds_succ]
 go_wp2_with fail
 rw [rounds_succ]
 go_wp2_with fail
 rw [rounds_succ]
 go_wp2_with fail
 rw [rounds_succ]
 go_wp2_with fail
 rw [rounds_succ]
 go_wp2_with fail
 rw [rounds_succ]
 go_wp2_with fail
 go_ret
 exact ⟨rfl, rfl⟩
theorem Q9W (i : Nat) (h0 : 0 < i) (h : i < 19) (w : World) : Calls Tryz.prog 223 #[.int .u64 10, .int .i64 (i : Int)] w fun e w' => e = .returned (.int .u64 ((10 ^ i : Nat) : Int)) ∧ w' = w := by
 rcases (show i = 1 ∨ i = 2 ∨ i = 3 ∨ i = 4 ∨ i = 5 ∨ i = 6 ∨ i = 7 ∨ i = 8 ∨ i = 9 ∨ i = 10 ∨ i = 11 ∨ i = 12 ∨ i = 13 ∨ i = 14 ∨ i = 15 ∨ i = 16 ∨ i = 17 ∨ i = 18 by omega) with rfl | rfl | rfl | rfl | rfl | rfl | rfl | rfl | rfl | rfl | rfl | rfl | rfl | rfl | rfl | rfl | rfl | rfl
 ·exact Q9c w
 ·exact Q9d w
 ·exact Q9e w
 ·exact Q9f w
 ·exact Q9g w
 ·exact Q9h w
 ·exact Q9i w
 ·exact Q9j w
 ·exact Q9k w
 ·exact Q85 w
 ·exact Q86 w
 ·exact Q87 w
 ·exact Q88 w
 ·exact Q89 w
 ·exact Q8a w
 ·exact Q8b w
 ·exact Q8c w
 ·exact Q8d w
theorem St.frameRaw {W : World} {σ : Sg} {w w' : World} (h : St W σ w) (hr : ∀ b ob, σ b = some ob → ∃ o, ob = .raw o) (S : Nat → Prop) (hf : Fr S w w') (hS : ∀ k, S k → W.heap.size ≤ k ∧ σ k = none) : St W σ w' := by
 obtain ⟨ab, h⟩ := h
 refine ⟨ab, h.below.trans ⟨hf.os, hf.tape, hf.output, hf.size, fun k hk => hf.block k (by have := h.below.size; omega) (fun e => by have := (hS k e).1; omega)⟩, h.dom, ?_, ?_, h.inj⟩
 ·intro b ob hb
  obtain ⟨h1, h2, h3⟩ := h.holds b ob hb
  refine ⟨h1, by have := hf.size; omega, h3.congr (hf.block b h2 (fun e => by rw [(hS b e).2] at hb; cases hb)) (fun k hk => ?_)⟩
  obtain ⟨o, rfl⟩ := hr b ob hb
  rw [h3.2] at hk; cases hk
 ·intro b k hk
  obtain ⟨h1, h2, h3⟩ := h.own b k hk
  exact ⟨h1, by have := hf.size; omega, h3⟩
theorem St.know {W : World} {σ : Sg} {w : World} (h : St W σ w) (hr : ∀ b ob, σ b = some ob → ∃ o, ob = .raw o) {b : Nat} {o : Obj} (hb : σ b = none) (hW : W.heap.size ≤ b) (ho : w.heap[b]? = some o) : St W (upd σ b (.raw o)) w := by
 obtain ⟨ab, h⟩ := h
 have hab : ∀ k, ab k = none := by
  intro k
  cases hs : σ k with
  | none => exact h.dom k hs
  | some ob =>
   obtain ⟨o, rfl⟩ := hr k ob hs
   exact (h.holds k _ hs).2.2.2
 refine ⟨ab, h.below, ?_, ?_, ?_, h.inj⟩
 ·intro k hk; exact hab k
 ·intro k ob hk
  by_cases e : k = b
  ·subst e
   rw [Q1] at hk; cases hk
   exact ⟨hW, (Array.getElem?_eq_some_iff.1 ho).1, ho, hab _⟩
  ·rw [Qc _ _ e] at hk; exact h.holds k ob hk
 ·intro k j hj; rw [hab k] at hj; cases hj
def E0 : Sg := fun _ => none
theorem Q5A (br : Nat) (s : ByteArray) (i : Nat) : ∀ b ob, (upd E0 br (Rdr s i)) b = some ob → ∃ o, ob = .raw o := fun b ob hb => by
 by_cases e : b = br
 ·subst e; rw [Q1] at hb; cases hb; exact ⟨_, rfl⟩
 ·rw [Qc _ _ e] at hb; cases hb
def OwnZ (W1 : World) (br : Nat) (p : Option Addr) : Prop := ∀ a, p = some a → W1.heap.size ≤ a.block ∧ a.block ≠ br
structure ZR (W1 : World) (br : Nat) (s : ByteArray) (i : Nat) (p : Option Addr) (l c x : Nat) (w : World) : Prop where
 st : St W1 (upd E0 br (Rdr s i)) w
 nt : Nt w p l c x
 own : OwnZ W1 br p
theorem ZR.read {W1 w : World} {br i l c x : Nat} {s : ByteArray} {p : Option Addr} (h : ZR W1 br s i p l c x w) (hi : i < s.size) (hs : s.size < 2 ^ 62) :
  Calls Tryz.prog 324 #[.pointer (some ⟨br, 0, none⟩)] w fun e w' => e = .returned (.tuple #[.int .u8 ((s[i].toNat : Nat) : Int), .nilIface]) ∧ ZR W1 br s (i + 1) p l c x w' := by
 rcases h.nt.cases with ⟨rfl, rfl, rfl, rfl⟩ | ⟨bz, rfl, n1, n2, n3, n4, n5, n6, n7⟩
 ·refine (Q31 h.st (Q1 _ _ _) hi hs).mono ?_
  rintro e w' ⟨rfl, q⟩
  exact ⟨rfl, q.upd2, ⟨⟨rfl, rfl⟩, rfl⟩, h.own⟩
 ·obtain ⟨o1, o2⟩ := h.own _ rfl
  obtain ⟨C, hC, _⟩ := n4.block
  have hk := h.st.know (Q5A br s i) (b := bz) (by rw [Qc _ _ o2]; rfl) o1 hC
  refine (Q31 hk (b := br) (i := i) (s := s) (by rw [Qc _ _ o2.symm, Q1]) hi hs).mono ?_
  rintro e w' ⟨rfl, q⟩
  have hr := q.raw (b := bz) (by rw [Qc _ _ o2, Q1])
  refine ⟨rfl, ?_, h.nt.congr fun a ha => by cases ha; rw [hr, hC], h.own⟩
  refine q.less ?_
  intro k ob hkk
  by_cases e : k = br
  ·subst e; rw [Q1] at hkk ⊢; exact hkk
  ·rw [Qc _ _ e] at hkk; cases hkk
theorem ZR.readEnd {W1 w : World} {br l c x : Nat} {s : ByteArray} {p : Option Addr} (h : ZR W1 br s s.size p l c x w) (hs : s.size < 2 ^ 62) (v : Value) (hv : W1.cell? ⟨0, 0, none⟩ = some v) :
  Calls Tryz.prog 324 #[.pointer (some ⟨br, 0, none⟩)] w fun e w' => e = .returned (.tuple #[.int .u8 0, v]) ∧ ZR W1 br s s.size p l c x w' := by
 have hlt := World.block_lt_of_cell? _ _ hv
 have hv' : w.cell? ⟨0, 0, none⟩ = some v := by
  rw [World.cell?_of_block (w := W1) (h.st.below.block _ hlt)]; exact hv
 have hbr : br ≠ 0 := by
  have := h.st.ge (Q1 _ _ _)
  intro e; rw [e] at this
  have hlt' : 0 < W1.heap.size := hlt
  omega
 rcases h.nt.cases with ⟨rfl, rfl, rfl, rfl⟩ | ⟨bz, rfl, n1, n2, n3, n4, n5, n6, n7⟩
 ·refine (Go.Proofs.YtegjllplmnpbdaaGreatDoor.Q9b h.st (Q1 _ _ _) hs v hv' hbr).mono ?_
  rintro e w' ⟨rfl, q⟩
  exact ⟨rfl, q, ⟨⟨rfl, rfl⟩, rfl⟩, h.own⟩
 ·obtain ⟨o1, o2⟩ := h.own _ rfl
  obtain ⟨C, hC, _⟩ := n4.block
  have hk := h.st.know (Q5A br s s.size) (b := bz) (by rw [Qc _ _ o2]; rfl) o1 hC
  refine (Go.Proofs.YtegjllplmnpbdaaGreatDoor.Q9b hk (b := br) (s := s) (by rw [Qc _ _ o2.symm, Q1]) hs v hv' hbr).mono ?_
  rintro e w' ⟨rfl, q⟩
  have hr := q.raw (b := bz) (Q1 _ _ _)
  exact ⟨rfl, q.less (Ext.new (by rw [Qc _ _ o2]; rfl) _), h.nt.congr fun a ha => by cases ha; rw [hr, hC], h.own⟩
theorem ZR.mulAdd {W1 w : World} {br i l c x : Nat} {s : ByteArray} {p : Option Addr} (h : ZR W1 br s i p l c x w) (hl : l + 5 ≤ CAP) (y r : Nat) (hy : y < BB) (hr : r < BB) :
  Calls Tryz.prog 197 #[.slice p l c, .slice p l c, .int .u64 (y : Int), .int .u64 (r : Int)] w fun e w' => ∃ p' l' c', e = .returned (.slice p' l' c') ∧ ZR W1 br s i p' l' c' (x * y + r) w' := by
 refine (Q1H p l c p l c x y r w h.nt.1 h.nt hl hy hr).mono ?_
 rintro e w' ⟨p', l', c', rfl, n1, n2, n3⟩
 have hsz := h.st.below.size
 have hbr := h.st.lt (Q1 _ _ _)
 refine ⟨p', l', c', rfl, h.st.frameRaw (Q5A br s i) _ n3 ?_, n1, ?_⟩
 ·rintro k ⟨a, ha, rfl⟩
  obtain ⟨o1, o2⟩ := h.own a ha
  exact ⟨o1, by rw [Qc _ _ o2]; rfl⟩
 ·intro a ha
  rcases n2 with e | ⟨b, e, hb⟩ | e
  ·exact h.own a (by rw [← e]; exact ha)
  ·rw [e] at ha; cases ha
   exact ⟨by simp only; omega, by simp only; omega⟩
  ·rw [e] at ha; cases ha
def valS (s : ByteArray) : Nat → Nat
 | 0 => 0
 | k + 1 => valS s k * 10 + ((s.data[k]?.getD 48).toNat - 48)
theorem Q67 (s : ByteArray) (hd : ∀ k (h : k < s.size), 48 ≤ s[k].toNat ∧ s[k].toNat ≤ 57) (k : Nat) (hk : k ≤ s.size) : valS s k < 10 ^ k := by
 induction k with
 | zero => simp [valS]
 | succ k ih =>
  have h1 := ih (by omega)
  have h2 := hd k (by omega)
  have h3 : s.data[k]?.getD 48 = s[k] := by
   rw [Array.getElem?_eq_getElem (by exact hk)]; rfl
  unfold valS
  rw [h3, Nat.pow_succ]
  omega
end Go.Proofs.YtegjllplmnpbdaaGreatDoor
