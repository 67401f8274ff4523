/- a part of the proof: what functions that the statement reaches do -/
import Derived.Maps.AppendAt
import Derived.Laws.AppendOwn
import Derived.Test.YtegjllplmnpbdaaGreatDoorZ25
set_option linter.all false
set_option maxRecDepth 100000
set_option maxHeartbeats 16000000
namespace Go.Proofs.YtegjllplmnpbdaaGreatDoor
open Go Go.RowKit
def btOk (q k : Nat) : Bool := (q % 2 ^ k != 0) || (((q &&& 2 ^ k) == 0 && q % 2 ^ (k + 1) == 0) || ((q &&& 2 ^ k) == 2 ^ k && (q ^^^ 2 ^ k) % 2 ^ (k + 1) == 0 && decide (q ^^^ 2 ^ k < 4096)))
theorem Q7O : (List.range 12).all (fun k => (List.range 4096).all fun q => btOk q k) = true := by kernel_rfl
theorem bt {q k : Nat} (hk : k < 12) (hq : q < 4096) (h : q % 2 ^ k = 0) : ((q &&& 2 ^ k) = 0 ∧ q % 2 ^ (k + 1) = 0) ∨ ((q &&& 2 ^ k) = 2 ^ k ∧ (q ^^^ 2 ^ k) % 2 ^ (k + 1) = 0 ∧ q ^^^ 2 ^ k < 4096) := by
 have h1 := List.all_eq_true.1 (List.all_eq_true.1 Q7O k (List.mem_range.2 hk)) q (List.mem_range.2 hq)
 unfold btOk at h1
 simp only [Bool.or_eq_true, Bool.and_eq_true, bne_iff_ne, ne_eq, beq_iff_eq, decide_eq_true_eq] at h1
 rcases h1 with h1 | h1 | ⟨⟨h1, h2⟩, h3⟩
 ·exact absurd h h1
 ·exact .inl h1
 ·exact .inr ⟨h1, h2, h3⟩
theorem Q45 (sep : List UInt8) (r : List (List UInt8)) (h : ∀ x ∈ r, x.length ≤ 100) : (Lib.joinTail sep r).length ≤ r.length * (sep.length + 100) := by
 unfold Lib.joinTail
 induction r with
 | nil => simp
 | cons x r ih =>
  have h1 := h x (List.mem_cons_self ..)
  have h2 := ih (fun y hy => h y (List.mem_cons_of_mem _ hy))
  simp only [List.map_cons, List.flatten_cons, List.length_append, List.length_cons]
  rw [Nat.add_mul]; omega
theorem Q7P (sep : List UInt8) (xs : List (List UInt8)) (h : ∀ x ∈ xs, x.length ≤ 100) : (Lib.join xs sep).length ≤ xs.length * (sep.length + 100) := by
 cases xs with
 | nil => simp [Lib.join_nil]
 | cons x r =>
  rw [Lib.join_cons, List.length_append, List.length_cons, Nat.add_mul]
  have h1 := h x (List.mem_cons_self ..)
  have h2 := Q45 sep r (fun y hy => h y (List.mem_cons_of_mem _ hy))
  omega
theorem Q95 : (Tryz.prog.info? 9).map (fun i => (i.zero, i.size, i.bytes)) = some (some (.string ByteArray.empty), 1, 16) := by kernel_rfl
theorem Q5w (q0 : Nat) (hq0 : q0 < 4096) (w : World) : Calls Tryz.prog 148 #[.int .u32 (q0 : Int)] w fun e w' => (∃ s, e = .returned (.string s)) ∧ Below w.heap.size w w' := by
 obtain ⟨i0, hi, hz0, hz1, hz2⟩ := info_parts Q95
 go_enter Tryz.func148, Tryz.ntmps148
 go_wp2_with fail
 go_loopw [0, 3, 4, 5] (fun r v i s wr => ∃ (q k : Nat) (xs : List ByteArray) (vv : Value), k ≤ 12 ∧ v = vv ∧ r = .int .u32 (q : Int) ∧ i = .int .u32 ((2 ^ k : Nat) : Int) ∧ q < 4096 ∧ q % 2 ^ k = 0 ∧ xs.length ≤ k ∧ (∀ x ∈ xs, x.data.toList.length ≤ 100) ∧ wr.ownsRow w.heap.size 9 1 v xs.length (xs.map Value.string) ∧ Below w.heap.size w wr)
  (fun _ _ i _ _ => 4096 - (intOf i).toNat)
 case atStart => exact ⟨q0, 0, [], _, by omega, rfl, rfl, rfl, hq0, by omega, by simp, by simp, World.ownsRow_nil _ _ _ _, Below.refl _ _⟩
 case round =>
  obtain ⟨q, k, xs, v, hk, hve, rfl, hie, hq, hm, hl, hxs, hown, hnx⟩ := hrel
  replace hve := hve.symm
  subst hve
  by_cases hq00 : q = 0
  ·subst hq00
   have HJ : Hid (Calls Tryz.prog 166 #[v, .string ⟨#[44, 32]⟩] wr fun e w' => (∃ s, e = .returned (.string s)) ∧ Below w.heap.size w w') := by
    rcases hown.2 with ⟨e1, e2⟩ | ⟨g, cap, cur, e1, e2, e3, e4, e5, e6, e7⟩
    ·rw [e1]
     exact (Tryz.strings_Join_none none 0 _ wr).mono fun e w' ⟨h1, h2⟩ => ⟨⟨_, h1⟩, h2 ▸ hnx⟩
    ·rw [e1]
     have hg : g < wr.heap.size := (Array.getElem?_eq_some_iff.1 e3).1
     have h5 : (Lib.join (xs.map (·.data.toList)) [44, 32]).length ≤ 140737488355328 := by
      have := Q7P [44, 32] (xs.map (·.data.toList)) (by intro x hx; obtain ⟨y, hy, rfl⟩ := List.mem_map.1 hx; exact hxs y hy)
      rw [List.length_map] at this
      have : xs.length * (([44, 32] : List UInt8).length + 100) ≤ 12 * 102 := Nat.mul_le_mul (by omega) (by decide)
      omega
     refine (Tryz.strings_Join g 0 cap xs ⟨#[44, 32]⟩ wr ?_ hg (by omega) e4 h5).mono fun e w' ⟨h1, h2⟩ => ⟨⟨_, h1⟩, hnx.trans (h2.mono hnx.size)⟩
     intro j x hx
     have hj : j < xs.length := (List.getElem?_eq_some_iff.1 hx).1
     have h7 : (cur.toList.take (xs.length * 1))[j]? = some (.string x) := by rw [e7, List.getElem?_map, hx]; rfl
     rw [List.getElem?_take_of_lt (by omega)] at h7
     unfold World.cell?
     rw [e3]
     simpa using h7
   clear hown hnx hxs hie
   go_wp2_with fail
   refine HJ.out.mono ?_
   rintro r w1 ⟨⟨s1, rfl⟩, hB⟩
   replace hB := Lh hB
   go_wp2_with fail
   go_ret
   exact ⟨⟨_, rfl⟩, hB.out⟩
  ·have hk12 : k < 12 := by
    rcases Nat.lt_or_ge k 12 with h | h
    ·exact h
    ·have : k = 12 := by omega
     subst this; omega
   have hbt := bt hk12 hq hm
   have hq1 : ((q : Int) = 0) = False := by simp; omega
   have hsz := hnx.size
   rcases (show k = 0 ∨ k = 1 ∨ k = 2 ∨ k = 3 ∨ k = 4 ∨ k = 5 ∨ k = 6 ∨ k = 7 ∨ k = 8 ∨ k = 9 ∨ k = 10 ∨ k = 11 by omega) with rfl | rfl | rfl | rfl | rfl | rfl | rfl | rfl | rfl | rfl | rfl | rfl
   ·replace hie : _ = Value.int .u32 1 := hie
    subst hie
    have hS : ∀ w1 : World, (binOp .shl 61 (.int .u32 1) (.int .u64 1)).run Tryz.prog w1 = .ok (.int .u32 2) w1 := fun _ => by kernel_rfl
    have hA := Lh (u32_and_nat q 1 (by omega) (by decide))
    have hX := Lh (u32_xor_nat q 1 (by omega) (by decide))
    rcases hbt with ⟨h1, h2⟩ | ⟨h1, h2, h3⟩
    ·have hA1 : bits .and .u32 (q : Int) 1 = 0 := hA.out.trans (by show ((q &&& 2 ^ 0 : Nat) : Int) = 0; rw [h1]; rfl)
     have HR := Lh (show q % 2 ^ (0 + 1) = 0 from h2)
     have Hown := Lh hown; have Hnx := Lh hnx; have Hxs := Lh hxs
     clear h1 h2 hA hX hown hnx hxs hm
     go_wp2_with fail
     go_roundw
     case rel => exact ⟨q, 0 + 1, xs, _, by omega, rfl, rfl, rfl, hq, HR.out, by omega, Hxs.out, Hown.out, Hnx.out⟩
     case measure => simp [intOf]
    ·have hA1 : bits .and .u32 (q : Int) 1 = 1 := hA.out.trans (by show ((q &&& 2 ^ 0 : Nat) : Int) = 1; rw [h1]; rfl)
     have hX1 : bits .xor .u32 (q : Int) 1 = ((q ^^^ 2 ^ 0 : Nat) : Int) := hX.out
     generalize hz : q ^^^ 2 ^ 0 = z at hX1 h2 h3
     have HR := Lh (show z % 2 ^ (0 + 1) = 0 from h2)
     have Hown := Lh hown; have Hnx := Lh hnx; have Hxs := Lh hxs
     clear h1 h2 hA hX hz hown hnx hxs hm
     go_wp2_with fail
     go_roundw
     case rel => exact ⟨z, 0 + 1, xs, _, by omega, rfl, rfl, rfl, h3, HR.out, by omega, Hxs.out, Hown.out, Hnx.out⟩
     case measure => simp [intOf]
   ·replace hie : _ = Value.int .u32 2 := hie
    subst hie
    have hS : ∀ w1 : World, (binOp .shl 61 (.int .u32 2) (.int .u64 1)).run Tryz.prog w1 = .ok (.int .u32 4) w1 := fun _ => by kernel_rfl
    have hA := Lh (u32_and_nat q 2 (by omega) (by decide))
    have hX := Lh (u32_xor_nat q 2 (by omega) (by decide))
    rcases hbt with ⟨h1, h2⟩ | ⟨h1, h2, h3⟩
    ·have hA1 : bits .and .u32 (q : Int) 2 = 0 := hA.out.trans (by show ((q &&& 2 ^ 1 : Nat) : Int) = 0; rw [h1]; rfl)
     have HR := Lh (show q % 2 ^ (1 + 1) = 0 from h2)
     have Hown := Lh hown; have Hnx := Lh hnx; have Hxs := Lh hxs
     clear h1 h2 hA hX hown hnx hxs hm
     go_wp2_with fail
     go_roundw
     case rel => exact ⟨q, 1 + 1, xs, _, by omega, rfl, rfl, rfl, hq, HR.out, by omega, Hxs.out, Hown.out, Hnx.out⟩
     case measure => simp [intOf]
    ·have hA1 : bits .and .u32 (q : Int) 2 = 2 := hA.out.trans (by show ((q &&& 2 ^ 1 : Nat) : Int) = 2; rw [h1]; rfl)
     have hX1 : bits .xor .u32 (q : Int) 2 = ((q ^^^ 2 ^ 1 : Nat) : Int) := hX.out
     generalize hz : q ^^^ 2 ^ 1 = z at hX1 h2 h3
     have HR := Lh (show z % 2 ^ (1 + 1) = 0 from h2)
     have Hown := Lh hown; have Hnx := Lh hnx; have Hxs := Lh hxs
     clear h1 h2 hA hX hz hown hnx hxs hm
     go_wp2_with fail
     go_roundw
     case rel => exact ⟨z, 1 + 1, xs, _, by omega, rfl, rfl, rfl, h3, HR.out, by omega, Hxs.out, Hown.out, Hnx.out⟩
     case measure => simp [intOf]
   ·replace hie : _ = Value.int .u32 4 := hie
    subst hie
    have hS : ∀ w1 : World, (binOp .shl 61 (.int .u32 4) (.int .u64 1)).run Tryz.prog w1 = .ok (.int .u32 8) w1 := fun _ => by kernel_rfl
    have hA := Lh (u32_and_nat q 4 (by omega) (by decide))
    have hX := Lh (u32_xor_nat q 4 (by omega) (by decide))
    rcases hbt with ⟨h1, h2⟩ | ⟨h1, h2, h3⟩
    ·have hA1 : bits .and .u32 (q : Int) 4 = 0 := hA.out.trans (by show ((q &&& 2 ^ 2 : Nat) : Int) = 0; rw [h1]; rfl)
     have HR := Lh (show q % 2 ^ (2 + 1) = 0 from h2)
     have Hown := Lh hown; have Hnx := Lh hnx; have Hxs := Lh hxs
     clear h1 h2 hA hX hown hnx hxs hm
     go_wp2_with fail
     go_roundw
     case rel => exact ⟨q, 2 + 1, xs, _, by omega, rfl, rfl, rfl, hq, HR.out, by omega, Hxs.out, Hown.out, Hnx.out⟩
     case measure => simp [intOf]
    ·have hA1 : bits .and .u32 (q : Int) 4 = 4 := hA.out.trans (by show ((q &&& 2 ^ 2 : Nat) : Int) = 4; rw [h1]; rfl)
     have hX1 : bits .xor .u32 (q : Int) 4 = ((q ^^^ 2 ^ 2 : Nat) : Int) := hX.out
     generalize hz : q ^^^ 2 ^ 2 = z at hX1 h2 h3
     have HR := Lh (show z % 2 ^ (2 + 1) = 0 from h2)
     have Hnx := Lh hnx; have Hxs := Lh hxs
     clear h1 h2 hA hX hz hnx hxs hm
     go_wp2_with (first
      | (at_builtin; refine wpList_append_own _ rfl _ _ 181 rfl w.heap.size 9 i0 (.string ByteArray.empty) 1 16 Tryz.underlying181 hi hz0 hz1 hz2 rfl (by decide) _ _ _ rfl (hown.alloc _) ⟨wr.heap.size, 0, none⟩ 1 1 [.string ⟨#[111, 118, 101, 114, 102, 108, 111, 119]⟩] rfl rfl (cell_one_new _ _ _) (fun x hx => by simp at hx; subst hx; rfl) (by unfold maxLen; omega) (by omega) (by simp; omega) ?_; intro v' w3 hown' hgrow3 hnil3))
     go_roundw
     case rel => exact ⟨z, 2 + 1, xs ++ [⟨#[111, 118, 101, 114, 102, 108, 111, 119]⟩], _, by omega, rfl, rfl, rfl, h3, HR.out, by simp; omega, by intro x hx; rcases List.mem_append.1 hx with hx | hx; exact Hxs.out x hx; simp at hx; subst hx; decide, by rw [List.map_append, List.length_append]; exact hown', (Hnx.out.alloc hsz _).grown hgrow3 (by simp; omega) (fun q hq => (hown.lt q hq).1)⟩
     case measure => simp [intOf]
   ·replace hie : _ = Value.int .u32 8 := hie
    subst hie
    have hS : ∀ w1 : World, (binOp .shl 61 (.int .u32 8) (.int .u64 1)).run Tryz.prog w1 = .ok (.int .u32 16) w1 := fun _ => by kernel_rfl
    have hA := Lh (u32_and_nat q 8 (by omega) (by decide))
    have hX := Lh (u32_xor_nat q 8 (by omega) (by decide))
    rcases hbt with ⟨h1, h2⟩ | ⟨h1, h2, h3⟩
    ·have hA1 : bits .and .u32 (q : Int) 8 = 0 := hA.out.trans (by show ((q &&& 2 ^ 3 : Nat) : Int) = 0; rw [h1]; rfl)
     have HR := Lh (show q % 2 ^ (3 + 1) = 0 from h2)
     have Hown := Lh hown; have Hnx := Lh hnx; have Hxs := Lh hxs
     clear h1 h2 hA hX hown hnx hxs hm
     go_wp2_with fail
     go_roundw
     case rel => exact ⟨q, 3 + 1, xs, _, by omega, rfl, rfl, rfl, hq, HR.out, by omega, Hxs.out, Hown.out, Hnx.out⟩
     case measure => simp [intOf]
    ·have hA1 : bits .and .u32 (q : Int) 8 = 8 := hA.out.trans (by show ((q &&& 2 ^ 3 : Nat) : Int) = 8; rw [h1]; rfl)
     have hX1 : bits .xor .u32 (q : Int) 8 = ((q ^^^ 2 ^ 3 : Nat) : Int) := hX.out
     generalize hz : q ^^^ 2 ^ 3 = z at hX1 h2 h3
     have HR := Lh (show z % 2 ^ (3 + 1) = 0 from h2)
     have Hnx := Lh hnx; have Hxs := Lh hxs
     clear h1 h2 hA hX hz hnx hxs hm
     go_wp2_with (first
      | (at_builtin; refine wpList_append_own _ rfl _ _ 181 rfl w.heap.size 9 i0 (.string ByteArray.empty) 1 16 Tryz.underlying181 hi hz0 hz1 hz2 rfl (by decide) _ _ _ rfl (hown.alloc _) ⟨wr.heap.size, 0, none⟩ 1 1 [.string ⟨#[117, 110, 100, 101, 114, 102, 108, 111, 119]⟩] rfl rfl (cell_one_new _ _ _) (fun x hx => by simp at hx; subst hx; rfl) (by unfold maxLen; omega) (by omega) (by simp; omega) ?_; intro v' w3 hown' hgrow3 hnil3))
     go_roundw
     case rel => exact ⟨z, 3 + 1, xs ++ [⟨#[117, 110, 100, 101, 114, 102, 108, 111, 119]⟩], _, by omega, rfl, rfl, rfl, h3, HR.out, by simp; omega, by intro x hx; rcases List.mem_append.1 hx with hx | hx; exact Hxs.out x hx; simp at hx; subst hx; decide, by rw [List.map_append, List.length_append]; exact hown', (Hnx.out.alloc hsz _).grown hgrow3 (by simp; omega) (fun q hq => (hown.lt q hq).1)⟩
     case measure => simp [intOf]
   ·replace hie : _ = Value.int .u32 16 := hie
    subst hie
    have hS : ∀ w1 : World, (binOp .shl 61 (.int .u32 16) (.int .u64 1)).run Tryz.prog w1 = .ok (.int .u32 32) w1 := fun _ => by kernel_rfl
    have hA := Lh (u32_and_nat q 16 (by omega) (by decide))
    have hX := Lh (u32_xor_nat q 16 (by omega) (by decide))
    rcases hbt with ⟨h1, h2⟩ | ⟨h1, h2, h3⟩
    ·have hA1 : bits .and .u32 (q : Int) 16 = 0 := hA.out.trans (by show ((q &&& 2 ^ 4 : Nat) : Int) = 0; rw [h1]; rfl)
     have HR := Lh (show q % 2 ^ (4 + 1) = 0 from h2)
     have Hown := Lh hown; have Hnx := Lh hnx; have Hxs := Lh hxs
     clear h1 h2 hA hX hown hnx hxs hm
     go_wp2_with fail
     go_roundw
     case rel => exact ⟨q, 4 + 1, xs, _, by omega, rfl, rfl, rfl, hq, HR.out, by omega, Hxs.out, Hown.out, Hnx.out⟩
     case measure => simp [intOf]
    ·have hA1 : bits .and .u32 (q : Int) 16 = 16 := hA.out.trans (by show ((q &&& 2 ^ 4 : Nat) : Int) = 16; rw [h1]; rfl)
     have hX1 : bits .xor .u32 (q : Int) 16 = ((q ^^^ 2 ^ 4 : Nat) : Int) := hX.out
     generalize hz : q ^^^ 2 ^ 4 = z at hX1 h2 h3
     have HR := Lh (show z % 2 ^ (4 + 1) = 0 from h2)
     have Hnx := Lh hnx; have Hxs := Lh hxs
     clear h1 h2 hA hX hz hnx hxs hm
     go_wp2_with (first
      | (at_builtin; refine wpList_append_own _ rfl _ _ 181 rfl w.heap.size 9 i0 (.string ByteArray.empty) 1 16 Tryz.underlying181 hi hz0 hz1 hz2 rfl (by decide) _ _ _ rfl (hown.alloc _) ⟨wr.heap.size, 0, none⟩ 1 1 [.string ⟨#[105, 110, 101, 120, 97, 99, 116]⟩] rfl rfl (cell_one_new _ _ _) (fun x hx => by simp at hx; subst hx; rfl) (by unfold maxLen; omega) (by omega) (by simp; omega) ?_; intro v' w3 hown' hgrow3 hnil3))
     go_roundw
     case rel => exact ⟨z, 4 + 1, xs ++ [⟨#[105, 110, 101, 120, 97, 99, 116]⟩], _, by omega, rfl, rfl, rfl, h3, HR.out, by simp; omega, by intro x hx; rcases List.mem_append.1 hx with hx | hx; exact Hxs.out x hx; simp at hx; subst hx; decide, by rw [List.map_append, List.length_append]; exact hown', (Hnx.out.alloc hsz _).grown hgrow3 (by simp; omega) (fun q hq => (hown.lt q hq).1)⟩
     case measure => simp [intOf]
   ·replace hie : _ = Value.int .u32 32 := hie
    subst hie
    have hS : ∀ w1 : World, (binOp .shl 61 (.int .u32 32) (.int .u64 1)).run Tryz.prog w1 = .ok (.int .u32 64) w1 := fun _ => by kernel_rfl
    have hA := Lh (u32_and_nat q 32 (by omega) (by decide))
    have hX := Lh (u32_xor_nat q 32 (by omega) (by decide))
    rcases hbt with ⟨h1, h2⟩ | ⟨h1, h2, h3⟩
    ·have hA1 : bits .and .u32 (q : Int) 32 = 0 := hA.out.trans (by show ((q &&& 2 ^ 5 : Nat) : Int) = 0; rw [h1]; rfl)
     have HR := Lh (show q % 2 ^ (5 + 1) = 0 from h2)
     have Hown := Lh hown; have Hnx := Lh hnx; have Hxs := Lh hxs
     clear h1 h2 hA hX hown hnx hxs hm
     go_wp2_with fail
     go_roundw
     case rel => exact ⟨q, 5 + 1, xs, _, by omega, rfl, rfl, rfl, hq, HR.out, by omega, Hxs.out, Hown.out, Hnx.out⟩
     case measure => simp [intOf]
    ·have hA1 : bits .and .u32 (q : Int) 32 = 32 := hA.out.trans (by show ((q &&& 2 ^ 5 : Nat) : Int) = 32; rw [h1]; rfl)
     have hX1 : bits .xor .u32 (q : Int) 32 = ((q ^^^ 2 ^ 5 : Nat) : Int) := hX.out
     generalize hz : q ^^^ 2 ^ 5 = z at hX1 h2 h3
     have HR := Lh (show z % 2 ^ (5 + 1) = 0 from h2)
     have Hnx := Lh hnx; have Hxs := Lh hxs
     clear h1 h2 hA hX hz hnx hxs hm
     go_wp2_with (first
      | (at_builtin; refine wpList_append_own _ rfl _ _ 181 rfl w.heap.size 9 i0 (.string ByteArray.empty) 1 16 Tryz.underlying181 hi hz0 hz1 hz2 rfl (by decide) _ _ _ rfl (hown.alloc _) ⟨wr.heap.size, 0, none⟩ 1 1 [.string ⟨#[115, 117, 98, 110, 111, 114, 109, 97, 108]⟩] rfl rfl (cell_one_new _ _ _) (fun x hx => by simp at hx; subst hx; rfl) (by unfold maxLen; omega) (by omega) (by simp; omega) ?_; intro v' w3 hown' hgrow3 hnil3))
     go_roundw
     case rel => exact ⟨z, 5 + 1, xs ++ [⟨#[115, 117, 98, 110, 111, 114, 109, 97, 108]⟩], _, by omega, rfl, rfl, rfl, h3, HR.out, by simp; omega, by intro x hx; rcases List.mem_append.1 hx with hx | hx; exact Hxs.out x hx; simp at hx; subst hx; decide, by rw [List.map_append, List.length_append]; exact hown', (Hnx.out.alloc hsz _).grown hgrow3 (by simp; omega) (fun q hq => (hown.lt q hq).1)⟩
     case measure => simp [intOf]
   ·replace hie : _ = Value.int .u32 64 := hie
    subst hie
    have hS : ∀ w1 : World, (binOp .shl 61 (.int .u32 64) (.int .u64 1)).run Tryz.prog w1 = .ok (.int .u32 128) w1 := fun _ => by kernel_rfl
    have hA := Lh (u32_and_nat q 64 (by omega) (by decide))
    have hX := Lh (u32_xor_nat q 64 (by omega) (by decide))
    rcases hbt with ⟨h1, h2⟩ | ⟨h1, h2, h3⟩
    ·have hA1 : bits .and .u32 (q : Int) 64 = 0 := hA.out.trans (by show ((q &&& 2 ^ 6 : Nat) : Int) = 0; rw [h1]; rfl)
     have HR := Lh (show q % 2 ^ (6 + 1) = 0 from h2)
     have Hown := Lh hown; have Hnx := Lh hnx; have Hxs := Lh hxs
     clear h1 h2 hA hX hown hnx hxs hm
     go_wp2_with fail
     go_roundw
     case rel => exact ⟨q, 6 + 1, xs, _, by omega, rfl, rfl, rfl, hq, HR.out, by omega, Hxs.out, Hown.out, Hnx.out⟩
     case measure => simp [intOf]
    ·have hA1 : bits .and .u32 (q : Int) 64 = 64 := hA.out.trans (by show ((q &&& 2 ^ 6 : Nat) : Int) = 64; rw [h1]; rfl)
     have hX1 : bits .xor .u32 (q : Int) 64 = ((q ^^^ 2 ^ 6 : Nat) : Int) := hX.out
     generalize hz : q ^^^ 2 ^ 6 = z at hX1 h2 h3
     have HR := Lh (show z % 2 ^ (6 + 1) = 0 from h2)
     have Hnx := Lh hnx; have Hxs := Lh hxs
     clear h1 h2 hA hX hz hnx hxs hm
     go_wp2_with (first
      | (at_builtin; refine wpList_append_own _ rfl _ _ 181 rfl w.heap.size 9 i0 (.string ByteArray.empty) 1 16 Tryz.underlying181 hi hz0 hz1 hz2 rfl (by decide) _ _ _ rfl (hown.alloc _) ⟨wr.heap.size, 0, none⟩ 1 1 [.string ⟨#[114, 111, 117, 110, 100, 101, 100]⟩] rfl rfl (cell_one_new _ _ _) (fun x hx => by simp at hx; subst hx; rfl) (by unfold maxLen; omega) (by omega) (by simp; omega) ?_; intro v' w3 hown' hgrow3 hnil3))
     go_roundw
     case rel => exact ⟨z, 6 + 1, xs ++ [⟨#[114, 111, 117, 110, 100, 101, 100]⟩], _, by omega, rfl, rfl, rfl, h3, HR.out, by simp; omega, by intro x hx; rcases List.mem_append.1 hx with hx | hx; exact Hxs.out x hx; simp at hx; subst hx; decide, by rw [List.map_append, List.length_append]; exact hown', (Hnx.out.alloc hsz _).grown hgrow3 (by simp; omega) (fun q hq => (hown.lt q hq).1)⟩
     case measure => simp [intOf]
   ·replace hie : _ = Value.int .u32 128 := hie
    subst hie
    have hS : ∀ w1 : World, (binOp .shl 61 (.int .u32 128) (.int .u64 1)).run Tryz.prog w1 = .ok (.int .u32 256) w1 := fun _ => by kernel_rfl
    have hA := Lh (u32_and_nat q 128 (by omega) (by decide))
    have hX := Lh (u32_xor_nat q 128 (by omega) (by decide))
    rcases hbt with ⟨h1, h2⟩ | ⟨h1, h2, h3⟩
    ·have hA1 : bits .and .u32 (q : Int) 128 = 0 := hA.out.trans (by show ((q &&& 2 ^ 7 : Nat) : Int) = 0; rw [h1]; rfl)
     have HR := Lh (show q % 2 ^ (7 + 1) = 0 from h2)
     have Hown := Lh hown; have Hnx := Lh hnx; have Hxs := Lh hxs
     clear h1 h2 hA hX hown hnx hxs hm
     go_wp2_with fail
     go_roundw
     case rel => exact ⟨q, 7 + 1, xs, _, by omega, rfl, rfl, rfl, hq, HR.out, by omega, Hxs.out, Hown.out, Hnx.out⟩
     case measure => simp [intOf]
    ·have hA1 : bits .and .u32 (q : Int) 128 = 128 := hA.out.trans (by show ((q &&& 2 ^ 7 : Nat) : Int) = 128; rw [h1]; rfl)
     have hX1 : bits .xor .u32 (q : Int) 128 = ((q ^^^ 2 ^ 7 : Nat) : Int) := hX.out
     generalize hz : q ^^^ 2 ^ 7 = z at hX1 h2 h3
     have HR := Lh (show z % 2 ^ (7 + 1) = 0 from h2)
     have Hnx := Lh hnx; have Hxs := Lh hxs
     clear h1 h2 hA hX hz hnx hxs hm
     go_wp2_with (first
      | (at_builtin; refine wpList_append_own _ rfl _ _ 181 rfl w.heap.size 9 i0 (.string ByteArray.empty) 1 16 Tryz.underlying181 hi hz0 hz1 hz2 rfl (by decide) _ _ _ rfl (hown.alloc _) ⟨wr.heap.size, 0, none⟩ 1 1 [.string ⟨#[100, 105, 118, 105, 115, 105, 111, 110, 32, 117, 110, 100, 101, 102, 105, 110, 101, 100]⟩] rfl rfl (cell_one_new _ _ _) (fun x hx => by simp at hx; subst hx; rfl) (by unfold maxLen; omega) (by omega) (by simp; omega) ?_; intro v' w3 hown' hgrow3 hnil3))
     go_roundw
     case rel => exact ⟨z, 7 + 1, xs ++ [⟨#[100, 105, 118, 105, 115, 105, 111, 110, 32, 117, 110, 100, 101, 102, 105, 110, 101, 100]⟩], _, by omega, rfl, rfl, rfl, h3, HR.out, by simp; omega, by intro x hx; rcases List.mem_append.1 hx with hx | hx; exact Hxs.out x hx; simp at hx; subst hx; decide, by rw [List.map_append, List.length_append]; exact hown', (Hnx.out.alloc hsz _).grown hgrow3 (by simp; omega) (fun q hq => (hown.lt q hq).1)⟩
     case measure => simp [intOf]
   ·replace hie : _ = Value.int .u32 256 := hie
    subst hie
    have hS : ∀ w1 : World, (binOp .shl 61 (.int .u32 256) (.int .u64 1)).run Tryz.prog w1 = .ok (.int .u32 512) w1 := fun _ => by kernel_rfl
    have hA := Lh (u32_and_nat q 256 (by omega) (by decide))
    have hX := Lh (u32_xor_nat q 256 (by omega) (by decide))
    rcases hbt with ⟨h1, h2⟩ | ⟨h1, h2, h3⟩
    ·have hA1 : bits .and .u32 (q : Int) 256 = 0 := hA.out.trans (by show ((q &&& 2 ^ 8 : Nat) : Int) = 0; rw [h1]; rfl)
     have HR := Lh (show q % 2 ^ (8 + 1) = 0 from h2)
     have Hown := Lh hown; have Hnx := Lh hnx; have Hxs := Lh hxs
     clear h1 h2 hA hX hown hnx hxs hm
     go_wp2_with fail
     go_roundw
     case rel => exact ⟨q, 8 + 1, xs, _, by omega, rfl, rfl, rfl, hq, HR.out, by omega, Hxs.out, Hown.out, Hnx.out⟩
     case measure => simp [intOf]
    ·have hA1 : bits .and .u32 (q : Int) 256 = 256 := hA.out.trans (by show ((q &&& 2 ^ 8 : Nat) : Int) = 256; rw [h1]; rfl)
     have hX1 : bits .xor .u32 (q : Int) 256 = ((q ^^^ 2 ^ 8 : Nat) : Int) := hX.out
     generalize hz : q ^^^ 2 ^ 8 = z at hX1 h2 h3
     have HR := Lh (show z % 2 ^ (8 + 1) = 0 from h2)
     have Hnx := Lh hnx; have Hxs := Lh hxs
     clear h1 h2 hA hX hz hnx hxs hm
     go_wp2_with (first
      | (at_builtin; refine wpList_append_own _ rfl _ _ 181 rfl w.heap.size 9 i0 (.string ByteArray.empty) 1 16 Tryz.underlying181 hi hz0 hz1 hz2 rfl (by decide) _ _ _ rfl (hown.alloc _) ⟨wr.heap.size, 0, none⟩ 1 1 [.string ⟨#[100, 105, 118, 105, 115, 105, 111, 110, 32, 98, 121, 32, 122, 101, 114, 111]⟩] rfl rfl (cell_one_new _ _ _) (fun x hx => by simp at hx; subst hx; rfl) (by unfold maxLen; omega) (by omega) (by simp; omega) ?_; intro v' w3 hown' hgrow3 hnil3))
     go_roundw
     case rel => exact ⟨z, 8 + 1, xs ++ [⟨#[100, 105, 118, 105, 115, 105, 111, 110, 32, 98, 121, 32, 122, 101, 114, 111]⟩], _, by omega, rfl, rfl, rfl, h3, HR.out, by simp; omega, by intro x hx; rcases List.mem_append.1 hx with hx | hx; exact Hxs.out x hx; simp at hx; subst hx; decide, by rw [List.map_append, List.length_append]; exact hown', (Hnx.out.alloc hsz _).grown hgrow3 (by simp; omega) (fun q hq => (hown.lt q hq).1)⟩
     case measure => simp [intOf]
   ·replace hie : _ = Value.int .u32 512 := hie
    subst hie
    have hS : ∀ w1 : World, (binOp .shl 61 (.int .u32 512) (.int .u64 1)).run Tryz.prog w1 = .ok (.int .u32 1024) w1 := fun _ => by kernel_rfl
    have hA := Lh (u32_and_nat q 512 (by omega) (by decide))
    have hX := Lh (u32_xor_nat q 512 (by omega) (by decide))
    rcases hbt with ⟨h1, h2⟩ | ⟨h1, h2, h3⟩
    ·have hA1 : bits .and .u32 (q : Int) 512 = 0 := hA.out.trans (by show ((q &&& 2 ^ 9 : Nat) : Int) = 0; rw [h1]; rfl)
     have HR := Lh (show q % 2 ^ (9 + 1) = 0 from h2)
     have Hown := Lh hown; have Hnx := Lh hnx; have Hxs := Lh hxs
     clear h1 h2 hA hX hown hnx hxs hm
     go_wp2_with fail
     go_roundw
     case rel => exact ⟨q, 9 + 1, xs, _, by omega, rfl, rfl, rfl, hq, HR.out, by omega, Hxs.out, Hown.out, Hnx.out⟩
     case measure => simp [intOf]
    ·have hA1 : bits .and .u32 (q : Int) 512 = 512 := hA.out.trans (by show ((q &&& 2 ^ 9 : Nat) : Int) = 512; rw [h1]; rfl)
     have hX1 : bits .xor .u32 (q : Int) 512 = ((q ^^^ 2 ^ 9 : Nat) : Int) := hX.out
     generalize hz : q ^^^ 2 ^ 9 = z at hX1 h2 h3
     have HR := Lh (show z % 2 ^ (9 + 1) = 0 from h2)
     have Hnx := Lh hnx; have Hxs := Lh hxs
     clear h1 h2 hA hX hz hnx hxs hm
     go_wp2_with (first
      | (at_builtin; refine wpList_append_own _ rfl _ _ 181 rfl w.heap.size 9 i0 (.string ByteArray.empty) 1 16 Tryz.underlying181 hi hz0 hz1 hz2 rfl (by decide) _ _ _ rfl (hown.alloc _) ⟨wr.heap.size, 0, none⟩ 1 1 [.string ⟨#[100, 105, 118, 105, 115, 105, 111, 110, 32, 105, 109, 112, 111, 115, 115, 105, 98, 108, 101]⟩] rfl rfl (cell_one_new _ _ _) (fun x hx => by simp at hx; subst hx; rfl) (by unfold maxLen; omega) (by omega) (by simp; omega) ?_; intro v' w3 hown' hgrow3 hnil3))
     go_roundw
     case rel => exact ⟨z, 9 + 1, xs ++ [⟨#[100, 105, 118, 105, 115, 105, 111, 110, 32, 105, 109, 112, 111, 115, 115, 105, 98, 108, 101]⟩], _, by omega, rfl, rfl, rfl, h3, HR.out, by simp; omega, by intro x hx; rcases List.mem_append.1 hx with hx | hx; exact Hxs.out x hx; simp at hx; subst hx; decide, by rw [List.map_append, List.length_append]; exact hown', (Hnx.out.alloc hsz _).grown hgrow3 (by simp; omega) (fun q hq => (hown.lt q hq).1)⟩
     case measure => simp [intOf]
   ·replace hie : _ = Value.int .u32 1024 := hie
    subst hie
    have hS : ∀ w1 : World, (binOp .shl 61 (.int .u32 1024) (.int .u64 1)).run Tryz.prog w1 = .ok (.int .u32 2048) w1 := fun _ => by kernel_rfl
    have hA := Lh (u32_and_nat q 1024 (by omega) (by decide))
    have hX := Lh (u32_xor_nat q 1024 (by omega) (by decide))
    rcases hbt with ⟨h1, h2⟩ | ⟨h1, h2, h3⟩
    ·have hA1 : bits .and .u32 (q : Int) 1024 = 0 := hA.out.trans (by show ((q &&& 2 ^ 10 : Nat) : Int) = 0; rw [h1]; rfl)
     have HR := Lh (show q % 2 ^ (10 + 1) = 0 from h2)
     have Hown := Lh hown; have Hnx := Lh hnx; have Hxs := Lh hxs
     clear h1 h2 hA hX hown hnx hxs hm
     go_wp2_with fail
     go_roundw
     case rel => exact ⟨q, 10 + 1, xs, _, by omega, rfl, rfl, rfl, hq, HR.out, by omega, Hxs.out, Hown.out, Hnx.out⟩
     case measure => simp [intOf]
    ·have hA1 : bits .and .u32 (q : Int) 1024 = 1024 := hA.out.trans (by show ((q &&& 2 ^ 10 : Nat) : Int) = 1024; rw [h1]; rfl)
     have hX1 : bits .xor .u32 (q : Int) 1024 = ((q ^^^ 2 ^ 10 : Nat) : Int) := hX.out
     generalize hz : q ^^^ 2 ^ 10 = z at hX1 h2 h3
     have HR := Lh (show z % 2 ^ (10 + 1) = 0 from h2)
     have Hnx := Lh hnx; have Hxs := Lh hxs
     clear h1 h2 hA hX hz hnx hxs hm
     go_wp2_with (first
      | (at_builtin; refine wpList_append_own _ rfl _ _ 181 rfl w.heap.size 9 i0 (.string ByteArray.empty) 1 16 Tryz.underlying181 hi hz0 hz1 hz2 rfl (by decide) _ _ _ rfl (hown.alloc _) ⟨wr.heap.size, 0, none⟩ 1 1 [.string ⟨#[105, 110, 118, 97, 108, 105, 100, 32, 111, 112, 101, 114, 97, 116, 105, 111, 110]⟩] rfl rfl (cell_one_new _ _ _) (fun x hx => by simp at hx; subst hx; rfl) (by unfold maxLen; omega) (by omega) (by simp; omega) ?_; intro v' w3 hown' hgrow3 hnil3))
     go_roundw
     case rel => exact ⟨z, 10 + 1, xs ++ [⟨#[105, 110, 118, 97, 108, 105, 100, 32, 111, 112, 101, 114, 97, 116, 105, 111, 110]⟩], _, by omega, rfl, rfl, rfl, h3, HR.out, by simp; omega, by intro x hx; rcases List.mem_append.1 hx with hx | hx; exact Hxs.out x hx; simp at hx; subst hx; decide, by rw [List.map_append, List.length_append]; exact hown', (Hnx.out.alloc hsz _).grown hgrow3 (by simp; omega) (fun q hq => (hown.lt q hq).1)⟩
     case measure => simp [intOf]
   ·replace hie : _ = Value.int .u32 2048 := hie
    subst hie
    have hS : ∀ w1 : World, (binOp .shl 61 (.int .u32 2048) (.int .u64 1)).run Tryz.prog w1 = .ok (.int .u32 4096) w1 := fun _ => by kernel_rfl
    have hA := Lh (u32_and_nat q 2048 (by omega) (by decide))
    have hX := Lh (u32_xor_nat q 2048 (by omega) (by decide))
    rcases hbt with ⟨h1, h2⟩ | ⟨h1, h2, h3⟩
    ·have hA1 : bits .and .u32 (q : Int) 2048 = 0 := hA.out.trans (by show ((q &&& 2 ^ 11 : Nat) : Int) = 0; rw [h1]; rfl)
     have HR := Lh (show q % 2 ^ (11 + 1) = 0 from h2)
     have Hown := Lh hown; have Hnx := Lh hnx; have Hxs := Lh hxs
     clear h1 h2 hA hX hown hnx hxs hm
     go_wp2_with fail
     go_roundw
     case rel => exact ⟨q, 11 + 1, xs, _, by omega, rfl, rfl, rfl, hq, HR.out, by omega, Hxs.out, Hown.out, Hnx.out⟩
     case measure => simp [intOf]
    ·have hA1 : bits .and .u32 (q : Int) 2048 = 2048 := hA.out.trans (by show ((q &&& 2 ^ 11 : Nat) : Int) = 2048; rw [h1]; rfl)
     have hX1 : bits .xor .u32 (q : Int) 2048 = ((q ^^^ 2 ^ 11 : Nat) : Int) := hX.out
     generalize hz : q ^^^ 2 ^ 11 = z at hX1 h2 h3
     have HR := Lh (show z % 2 ^ (11 + 1) = 0 from h2)
     have Hnx := Lh hnx; have Hxs := Lh hxs
     clear h1 h2 hA hX hz hnx hxs hm
     go_wp2_with (first
      | (at_builtin; refine wpList_append_own _ rfl _ _ 181 rfl w.heap.size 9 i0 (.string ByteArray.empty) 1 16 Tryz.underlying181 hi hz0 hz1 hz2 rfl (by decide) _ _ _ rfl (hown.alloc _) ⟨wr.heap.size, 0, none⟩ 1 1 [.string ⟨#[99, 108, 97, 109, 112, 101, 100]⟩] rfl rfl (cell_one_new _ _ _) (fun x hx => by simp at hx; subst hx; rfl) (by unfold maxLen; omega) (by omega) (by simp; omega) ?_; intro v' w3 hown' hgrow3 hnil3))
     go_roundw
     case rel => exact ⟨z, 11 + 1, xs ++ [⟨#[99, 108, 97, 109, 112, 101, 100]⟩], _, by omega, rfl, rfl, rfl, h3, HR.out, by simp; omega, by intro x hx; rcases List.mem_append.1 hx with hx | hx; exact Hxs.out x hx; simp at hx; subst hx; decide, by rw [List.map_append, List.length_append]; exact hown', (Hnx.out.alloc hsz _).grown hgrow3 (by simp; omega) (fun q hq => (hown.lt q hq).1)⟩
     case measure => simp [intOf]
end Go.Proofs.YtegjllplmnpbdaaGreatDoor
