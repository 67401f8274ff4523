/- a part of the proof -/
import Derived.Test.YtamldngoemdfgaaGreatDoorZ12
import Derived.Test.YtamldngoemdfgaaGreatDoorZ22
set_option linter.all false
set_option maxRecDepth 100000
set_option maxHeartbeats 16000000
namespace Go.Proofs.YtamldngoemdfgaaGreatDoor
open Go Go.RowKit
theorem QJ {w : World} {g : Nat} {C : Array Value} {T : TypeId} {m : Nat × Nat} (h : w.heap[g]? = some (.cells C T m)) (i : Nat) (u : Value) : (w.setCell ⟨g, i, none⟩ u).heap[g]? = some (.cells (C.setIfInBounds i u) T m) := by
 unfold World.setCell
 simp only [Array.getElem?_modify, if_true, h, Option.map_some]
 rfl
theorem Q0w {w : World} {g B : Nat} {o : Obj} (h : w.heap[g]? = some o) (hne : g ≠ B) (i : Nat) (u : Value) : (w.setCell ⟨B, i, none⟩ u).heap[g]? = some o := by
 rw [Below.heap_setCell _ _ _ _ hne]; exact h
def set8 (w : World) (B : Nat) (u0 u1 u2 u3 u4 u5 u6 u7 : Value) : World := (((((((w.setCell ⟨B, 0, none⟩ u0).setCell ⟨B, 1, none⟩ u1).setCell ⟨B, 2, none⟩ u2).setCell ⟨B, 3, none⟩ u3).setCell ⟨B, 4, none⟩ u4).setCell ⟨B, 5, none⟩ u5).setCell ⟨B, 6, none⟩ u6).setCell ⟨B, 7, none⟩ u7
theorem QV {w : World} {B : Nat} {T : TypeId} {x0 x1 x2 x3 x4 x5 x6 x7 : Value} (h : w.heap[B]? = some (.cells #[x0, x1, x2, x3, x4, x5, x6, x7] T (0, 0))) (u0 u1 u2 u3 u4 u5 u6 u7 : Value) :
  (set8 w B u0 u1 u2 u3 u4 u5 u6 u7).cell? ⟨B, 0, none⟩ = some u0 ∧ (set8 w B u0 u1 u2 u3 u4 u5 u6 u7).cell? ⟨B, 1, none⟩ = some u1 ∧ (set8 w B u0 u1 u2 u3 u4 u5 u6 u7).cell? ⟨B, 2, none⟩ = some u2 ∧ (set8 w B u0 u1 u2 u3 u4 u5 u6 u7).cell? ⟨B, 3, none⟩ = some u3 ∧ (set8 w B u0 u1 u2 u3 u4 u5 u6 u7).cell? ⟨B, 4, none⟩ = some u4 ∧ (set8 w B u0 u1 u2 u3 u4 u5 u6 u7).cell? ⟨B, 5, none⟩ = some u5 ∧ (set8 w B u0 u1 u2 u3 u4 u5 u6 u7).cell? ⟨B, 6, none⟩ = some u6 ∧ (set8 w B u0 u1 u2 u3 u4 u5 u6 u7).cell? ⟨B, 7, none⟩ = some u7 := by
 have hC : (((((((#[x0, x1, x2, x3, x4, x5, x6, x7].setIfInBounds 0 u0).setIfInBounds 1 u1).setIfInBounds 2 u2).setIfInBounds 3 u3).setIfInBounds 4 u4).setIfInBounds 5 u5).setIfInBounds 6 u6).setIfInBounds 7 u7 = #[u0, u1, u2, u3, u4, u5, u6, u7] := by simp
 have h' : (set8 w B u0 u1 u2 u3 u4 u5 u6 u7).heap[B]? = some (.cells #[u0, u1, u2, u3, u4, u5, u6, u7] T (0, 0)) := by
  rw [← hC]; exact QJ (QJ (QJ (QJ (QJ (QJ (QJ (QJ h 0 u0) 1 u1) 2 u2) 3 u3) 4 u4) 5 u5) 6 u6) 7 u7
 obtain ⟨c, _⟩ := Ql h'
 exact ⟨c 0, c 1, c 2, c 3, c 4, c 5, c 6, c 7⟩
structure FS (w : World) (p mx mn tr md : Int) (n : Bool) (s : Value) (e : Int) (w2 : World) : Prop where
 cb : w2.heap[w.heap.size]? = some (.cells #[.int .u32 p, .int .i32 mx, .int .i32 mn, .int .u32 tr, .int .i64 md] 24 (0, 0))
 xb : w2.heap[w.heap.size + 1]? = some (.cells #[.bool n, .bool false, s, .int .i64 e] 71 (0, 0))
 rb : w2.heap[w.heap.size + 1 + 1]? = some (.cells #[.int .i64 0, .bool false, .int .i32 0, .string ⟨#[]⟩, .int .u32 0, .bool false, .bool false, .bool false] 38 (0, 0))
 bw : Below w.heap.size w w2
section
variable {w : World} {p mx mn tr md : Int} {n : Bool} {s : Value} {e : Int} {w2 : World}
theorem FS.start {w : World} {p mx mn tr md : Int} {n : Bool} {s : Value} {e : Int} : FS w p mx mn tr md n s e (((w.alloc (.cells #[.int .u32 p, .int .i32 mx, .int .i32 mn, .int .u32 tr, .int .i64 md] 24)).alloc (.cells #[.bool n, .bool false, s, .int .i64 e] 71)).alloc (.cells #[.int .i64 0, .bool false, .int .i32 0, .string ⟨#[]⟩, .int .u32 0, .bool false, .bool false, .bool false] 38)) := by
 obtain ⟨w1, hw1⟩ : ∃ w1, w1 = w.alloc (.cells #[.int .u32 p, .int .i32 mx, .int .i32 mn, .int .u32 tr, .int .i64 md] 24) := ⟨_, rfl⟩
 have s1 : w1.heap.size = w.heap.size + 1 := by rw [hw1]; simp
 have b0 : w1.heap[w.heap.size]? = some (.cells #[.int .u32 p, .int .i32 mx, .int .i32 mn, .int .u32 tr, .int .i64 md] 24 (0, 0)) := by rw [hw1, gal]
 have hB : Below w.heap.size w w1 := by rw [hw1]; exact Qe w _
 rw [← hw1]
 obtain ⟨w2, hw2⟩ : ∃ w2, w2 = w1.alloc (.cells #[.bool n, .bool false, s, .int .i64 e] 71) := ⟨_, rfl⟩
 have s2 : w2.heap.size = w.heap.size + 1 + 1 := by rw [hw2]; simp [s1]
 have b1 : w2.heap[w1.heap.size]? = some (.cells #[.bool n, .bool false, s, .int .i64 e] 71 (0, 0)) := by rw [hw2, gal]
 have b0' : w2.heap[w.heap.size]? = some (.cells #[.int .u32 p, .int .i32 mx, .int .i32 mn, .int .u32 tr, .int .i64 md] 24 (0, 0)) := by rw [hw2]; exact Qb b0 (Qe _ _)
 have hB2 : Below w.heap.size w w2 := by rw [hw2]; exact bal hB _
 rw [← hw2]
 rw [s1] at b1
 refine ⟨Qb b0' (Qe _ _), Qb b1 (Qe _ _), ?_, bal hB2 _⟩
 rw [← s2, gal]
theorem FS.later (h : FS w p mx mn tr md n s e w2) {w3 : World} (hB : Below w2.heap.size w2 w3) : FS w p mx mn tr md n s e w3 :=
 ⟨Qb h.cb hB, Qb h.xb hB, Qb h.rb hB, Qf h.bw hB⟩
theorem FS.al (h : FS w p mx mn tr md n s e w2) (o : Obj) : FS w p mx mn tr md n s e (w2.alloc o) := h.later (Qe _ _)
theorem FS.drewN (h : FS w p mx mn tr md n s e w2) (k : Nat) : FS w p mx mn tr md n s e (w2.drewN k) := ⟨h.cb, h.xb, h.rb, ⟨h.bw.os, h.bw.tape, h.bw.output, h.bw.size, h.bw.block⟩⟩
theorem FS.drew (h : FS w p mx mn tr md n s e w2) : FS w p mx mn tr md n s e w2.drew := h.drewN 1
theorem FS.size (h : FS w p mx mn tr md n s e w2) : w.heap.size < w2.heap.size ∧ w.heap.size + 1 < w2.heap.size ∧ w.heap.size + 1 + 1 < w2.heap.size :=
 ⟨(Array.getElem?_eq_some_iff.1 h.cb).1, (Array.getElem?_eq_some_iff.1 h.xb).1, (Array.getElem?_eq_some_iff.1 h.rb).1⟩
theorem FS.cc (h : FS w p mx mn tr md n s e w2) : w2.cell? ⟨w.heap.size, 0, none⟩ = some (.int .u32 p) ∧ w2.cell? ⟨w.heap.size, 1, none⟩ = some (.int .i32 mx) ∧ w2.cell? ⟨w.heap.size, 2, none⟩ = some (.int .i32 mn) ∧ w2.cell? ⟨w.heap.size, 4, none⟩ = some (.int .i64 md) := by
 obtain ⟨c, _⟩ := Ql h.cb
 exact ⟨c 0, c 1, c 2, c 4⟩
theorem FS.xc (h : FS w p mx mn tr md n s e w2) : w2.cell? ⟨w.heap.size + 1, 0, none⟩ = some (.bool n) ∧ w2.cell? ⟨w.heap.size + 1, 1, none⟩ = some (.bool false) ∧ w2.cell? ⟨w.heap.size + 1, 2, none⟩ = some s ∧ w2.cell? ⟨w.heap.size + 1, 3, none⟩ = some (.int .i64 e) := by
 obtain ⟨c, _⟩ := Ql h.xb
 exact ⟨c 0, c 1, c 2, c 3⟩
theorem FS.rc (h : FS w p mx mn tr md n s e w2) : w2.cell? ⟨w.heap.size + 1 + 1, 0, none⟩ = some (.int .i64 0) ∧ w2.cell? ⟨w.heap.size + 1 + 1, 1, none⟩ = some (.bool false) ∧ w2.cell? ⟨w.heap.size + 1 + 1, 2, none⟩ = some (.int .i32 0) ∧ w2.cell? ⟨w.heap.size + 1 + 1, 3, none⟩ = some (.string ⟨#[]⟩) ∧ w2.cell? ⟨w.heap.size + 1 + 1, 4, none⟩ = some (.int .u32 0) ∧ w2.cell? ⟨w.heap.size + 1 + 1, 5, none⟩ = some (.bool false) ∧ w2.cell? ⟨w.heap.size + 1 + 1, 6, none⟩ = some (.bool false) ∧ w2.cell? ⟨w.heap.size + 1 + 1, 7, none⟩ = some (.bool false) := by
 obtain ⟨c, _⟩ := Ql h.rb
 exact ⟨c 0, c 1, c 2, c 3, c 4, c 5, c 6, c 7⟩
theorem FS.rf (h : FS w p mx mn tr md n s e w2) : w2.frozen? ⟨w.heap.size + 1 + 1, 0, none⟩ = false ∧ w2.frozen? ⟨w.heap.size + 1 + 1, 1, none⟩ = false ∧ w2.frozen? ⟨w.heap.size + 1 + 1, 2, none⟩ = false ∧ w2.frozen? ⟨w.heap.size + 1 + 1, 3, none⟩ = false ∧ w2.frozen? ⟨w.heap.size + 1 + 1, 4, none⟩ = false ∧ w2.frozen? ⟨w.heap.size + 1 + 1, 5, none⟩ = false ∧ w2.frozen? ⟨w.heap.size + 1 + 1, 6, none⟩ = false ∧ w2.frozen? ⟨w.heap.size + 1 + 1, 7, none⟩ = false := by
 obtain ⟨_, f⟩ := Ql h.rb
 exact ⟨f 0, f 1, f 2, f 3, f 4, f 5, f 6, f 7⟩
theorem FS.done (h : FS w p mx mn tr md n s e w2) (u0 u1 u2 u3 u4 u5 u6 u7 : Value) : Below w.heap.size w (set8 w2 (w.heap.size + 1 + 1) u0 u1 u2 u3 u4 u5 u6 u7) :=
 (((((((h.bw.setCell (by simp only; omega) _).setCell (by simp only; omega) _).setCell (by simp only; omega) _).setCell (by simp only; omega) _).setCell (by simp only; omega) _).setCell (by simp only; omega) _).setCell (by simp only; omega) _).setCell (by simp only; omega) _
end
theorem Good.sdL {s : ByteArray} (h : Good s) : ∀ d ∈ Go.Proofs.YtamldngoemdfgaaGreatDoor.sdL s 0, d < 10 := by
 intro d hd
 unfold Go.Proofs.YtamldngoemdfgaaGreatDoor.sdL at hd
 simp only [List.drop_zero, List.mem_map, List.mem_reverse] at hd
 obtain ⟨c, hc, rfl⟩ := hd
 obtain ⟨i, hi, rfl⟩ := List.mem_iff_getElem.1 hc
 have h1 := h i (by simpa using hi)
 have h2 : s.data.toList[i] = s[i]'(by simpa using hi) := rfl
 rw [h2]; omega
theorem Canon.len {s : ByteArray} (h : Canon s) : (dgs (vl (sdL s 0))).length ≤ s.size := by
 have h1 := Q5U (sdL s 0) h.1.sdL
 rw [Q3X] at h1
 by_cases e0 : vl (sdL s 0) = 0
 ·rw [e0, Qv]; simp
 ·rw [Q08 _ e0]; exact Q17 h.2.1 (by simpa using h1)
theorem Q30 {s : ByteArray} (h : s.toList = [48]) : Canon s ∧ s.size = 1 ∧ vl (sdL s 0) = 0 := by
 refine ⟨Canon.zero h, ?_⟩
 rw [ByteArray.toList_eq] at h
 have hd : s.data = #[48] := Array.ext' (by rw [h])
 have e : s = ⟨#[48]⟩ := by cases s; simp at hd; rw [hd]
 subst e
 exact ⟨by decide, by decide⟩
theorem ArOk.canon {E f e : Int} {s : ByteArray} (hE : 0 ≤ E) (h : ArOk E f e s) : Canon s ∧ s.size ≤ 40 ∧ e ≤ E ∧ -E ≤ e ∧ 0 ≤ f ∧ f ≤ 3 := by
 unfold ArOk at h
 split at h
 ·rename_i hf; exact ⟨h.1, h.2.1, h.2.2.1, h.2.2.2, by omega, by omega⟩
 ·obtain ⟨a, b, c, d⟩ := h
  obtain ⟨h1, h2, _⟩ := Q30 d
  exact ⟨h1, by omega, by omega, by omega, by omega, b⟩
structure AS (w : World) (C X Y : Array Value) (w2 : World) : Prop where
 cb : w2.heap[w.heap.size]? = some (.cells C 24 (0, 0))
 xb : w2.heap[w.heap.size + 1]? = some (.cells X 26 (0, 0))
 yb : w2.heap[w.heap.size + 1 + 1]? = some (.cells Y 26 (0, 0))
 rb : w2.heap[w.heap.size + 1 + 1 + 1]? = some (.cells #[.int .i64 0, .bool false, .int .i32 0, .string ⟨#[]⟩, .int .u32 0, .bool false, .bool false, .bool false] 38 (0, 0))
 bw : Below w.heap.size w w2
section
variable {w : World} {C X Y : Array Value} {w2 : World}
theorem AS.start : AS w C X Y ((((w.alloc (.cells C 24)).alloc (.cells X 26)).alloc (.cells Y 26)).alloc (.cells #[.int .i64 0, .bool false, .int .i32 0, .string ⟨#[]⟩, .int .u32 0, .bool false, .bool false, .bool false] 38)) := by
 obtain ⟨w1, hw1⟩ : ∃ w1, w1 = w.alloc (.cells C 24) := ⟨_, rfl⟩
 have s1 : w1.heap.size = w.heap.size + 1 := by rw [hw1]; simp
 have b0 : w1.heap[w.heap.size]? = some (.cells C 24 (0, 0)) := by rw [hw1, gal]
 have hB : Below w.heap.size w w1 := by rw [hw1]; exact Qe w _
 rw [← hw1]
 obtain ⟨w3, hw3⟩ : ∃ w3, w3 = w1.alloc (.cells X 26) := ⟨_, rfl⟩
 have s3 : w3.heap.size = w.heap.size + 1 + 1 := by rw [hw3]; simp [s1]
 have b1 : w3.heap[w1.heap.size]? = some (.cells X 26 (0, 0)) := by rw [hw3, gal]
 have b0' : w3.heap[w.heap.size]? = some (.cells C 24 (0, 0)) := by rw [hw3]; exact Qb b0 (Qe _ _)
 have hB3 : Below w.heap.size w w3 := by rw [hw3]; exact bal hB _
 rw [← hw3]
 rw [s1] at b1
 obtain ⟨w4, hw4⟩ : ∃ w4, w4 = w3.alloc (.cells Y 26) := ⟨_, rfl⟩
 have s4 : w4.heap.size = w.heap.size + 1 + 1 + 1 := by rw [hw4]; simp [s3]
 have b2 : w4.heap[w3.heap.size]? = some (.cells Y 26 (0, 0)) := by rw [hw4, gal]
 have b1' : w4.heap[w.heap.size + 1]? = some (.cells X 26 (0, 0)) := by rw [hw4]; exact Qb b1 (Qe _ _)
 have b0'' : w4.heap[w.heap.size]? = some (.cells C 24 (0, 0)) := by rw [hw4]; exact Qb b0' (Qe _ _)
 have hB4 : Below w.heap.size w w4 := by rw [hw4]; exact bal hB3 _
 rw [← hw4]
 rw [s3] at b2
 refine ⟨Qb b0'' (Qe _ _), Qb b1' (Qe _ _), Qb b2 (Qe _ _), ?_, bal hB4 _⟩
 rw [← s4, gal]
theorem AS.later (h : AS w C X Y w2) {w3 : World} (hB : Below w2.heap.size w2 w3) : AS w C X Y w3 :=
 ⟨Qb h.cb hB, Qb h.xb hB, Qb h.yb hB, Qb h.rb hB, Qf h.bw hB⟩
theorem AS.drewN (h : AS w C X Y w2) (k : Nat) : AS w C X Y (w2.drewN k) := ⟨h.cb, h.xb, h.yb, h.rb, ⟨h.bw.os, h.bw.tape, h.bw.output, h.bw.size, h.bw.block⟩⟩
theorem AS.size (h : AS w C X Y w2) : w.heap.size + 1 + 1 + 1 < w2.heap.size := (Array.getElem?_eq_some_iff.1 h.rb).1
theorem AS.far (h : AS w C X Y w2) {g : Nat} (hg : w.heap.size + 1 + 1 + 1 < g) {w3 : World} (o : Only g w2 w3) (hB : Below g w2 w3) : AS w C X Y w3 :=
 ⟨(o.1 _ (by omega)).trans h.cb, (o.1 _ (by omega)).trans h.xb, (o.1 _ (by omega)).trans h.yb, (o.1 _ (by omega)).trans h.rb, h.bw.trans (hB.mono (by omega))⟩
theorem AS.rc (h : AS w C X Y w2) : w2.cell? ⟨w.heap.size + 1 + 1 + 1, 0, none⟩ = some (.int .i64 0) ∧ w2.cell? ⟨w.heap.size + 1 + 1 + 1, 1, none⟩ = some (.bool false) ∧ w2.cell? ⟨w.heap.size + 1 + 1 + 1, 2, none⟩ = some (.int .i32 0) ∧ w2.cell? ⟨w.heap.size + 1 + 1 + 1, 3, none⟩ = some (.string ⟨#[]⟩) ∧ w2.cell? ⟨w.heap.size + 1 + 1 + 1, 4, none⟩ = some (.int .u32 0) ∧ w2.cell? ⟨w.heap.size + 1 + 1 + 1, 5, none⟩ = some (.bool false) ∧ w2.cell? ⟨w.heap.size + 1 + 1 + 1, 6, none⟩ = some (.bool false) ∧ w2.cell? ⟨w.heap.size + 1 + 1 + 1, 7, none⟩ = some (.bool false) := by
 obtain ⟨c, _⟩ := Ql h.rb
 exact ⟨c 0, c 1, c 2, c 3, c 4, c 5, c 6, c 7⟩
theorem AS.rf (h : AS w C X Y w2) : ∀ i, w2.frozen? ⟨w.heap.size + 1 + 1 + 1, i, none⟩ = false := (Ql h.rb).2
theorem AS.done (h : AS w C X Y w2) (u0 u1 u2 u3 u4 u5 u6 u7 : Value) : Below w.heap.size w (set8 w2 (w.heap.size + 1 + 1 + 1) u0 u1 u2 u3 u4 u5 u6 u7) :=
 ((((((((h.bw.setCell (by simp only; omega) _).setCell (by simp only; omega) _).setCell (by simp only; omega) _).setCell (by simp only; omega) _).setCell (by simp only; omega) _).setCell (by simp only; omega) _).setCell (by simp only; omega) _).setCell (by simp only; omega) _)
end
theorem Q1 {w : World} {g : Nat} {C : Array Value} {T : TypeId} (h : w.heap[g]? = some (.cells C T (0, 0))) (i : Nat) {u : Value} (hu : C[i]? = some u) : w.cell? ⟨g, i, none⟩ = some u := ((Ql h).1 i).trans hu
def TwoF (wA : World) (n1 : Bool) (q1 : Nat) (e1 : Int) (n2 : Bool) (q2 : Nat) (e2 : Int) (tq tr : Value) (wx : World) : Prop :=
 ∃ gA gB p1 l1 c1 p2 l2 c2, tq = .pointer (some ⟨gA, 0, none⟩) ∧ tr = .pointer (some ⟨gB, 0, none⟩) ∧ (wx.heap[gA]? = some (.cells #[.bool n1, .bool false, .slice p1 l1 c1, .int .i64 e1] 71 (0, 0)) ∧ wx.heap[gB]? = some (.cells #[.bool n2, .bool false, .slice p2 l2 c2, .int .i64 e2] 71 (0, 0))) ∧ FinV wx (.agg #[.bool n1, .bool false, .slice p1 l1 c1, .int .i64 e1]) n1 q1 e1 ∧ FinV wx (.agg #[.bool n2, .bool false, .slice p2 l2 c2, .int .i64 e2]) n2 q2 e2 ∧ wA.heap.size ≤ gA ∧ wA.heap.size ≤ gB ∧ gA ≠ gB ∧ Below wA.heap.size wA wx
def set4 (w : World) (B : Nat) (u0 u1 u2 u3 : Value) : World := (((w.setCell ⟨B, 0, none⟩ u0).setCell ⟨B, 1, none⟩ u1).setCell ⟨B, 2, none⟩ u2).setCell ⟨B, 3, none⟩ u3
theorem Q3D (w : World) (B : Nat) (u0 u1 u2 u3 : Value) : Only B w (set4 w B u0 u1 u2 u3) := ((((Only.refl B w).set 0 u0).set 1 u1).set 2 u2).set 3 u3
theorem Q31 {w w2 : World} {N B : Nat} (h : Below N w w2) (hB : N ≤ B) (u0 u1 u2 u3 : Value) : Below N w (set4 w2 B u0 u1 u2 u3) :=
 (((h.setCell (by exact hB) _).setCell (by exact hB) _).setCell (by exact hB) _).setCell (by exact hB) _
theorem Q4N {w : World} {g : Nat} {x y z t : Value} {T : TypeId} (h : w.heap[g]? = some (.cells #[x, y, z, t] T (0, 0))) (u0 u1 u2 u3 : Value) : (set4 w g u0 u1 u2 u3).heap[g]? = some (.cells #[u0, u1, u2, u3] T (0, 0)) := by
 have hC : (((#[x, y, z, t].setIfInBounds 0 u0).setIfInBounds 1 u1).setIfInBounds 2 u2).setIfInBounds 3 u3 = #[u0, u1, u2, u3] := by simp
 rw [← hC]; exact QJ (QJ (QJ (QJ h 0 u0) 1 u1) 2 u2) 3 u3
theorem FinV.slice {w : World} {n : Bool} {s : Value} {e e' : Int} {q : Nat} (h : FinV w (.agg #[.bool n, .bool false, s, .int .i64 e]) n q e') : Dg w s (dgs q) ∧ e = e' := by
 obtain ⟨t, e1, d1⟩ := h
 have := congrArg (fun v => match v with | Value.agg cs => cs.toList | _ => []) e1
 simp at this
 obtain ⟨rfl, rfl⟩ := this
 exact ⟨d1, rfl⟩
theorem Q3E {wA w4 : World} {n1 n2 : Bool} {q1 q2 gA gB : Nat} {e1 e2 : Int} {p1 p2 : Option Addr} {l1 l2 c1 c2 : Nat} (hB : Below wA.heap.size wA w4) (hA : w4.heap[gA]? = some (.cells #[.bool false, .bool false, .slice none 0 0, .int .i64 0] 71 (0, 0))) (hB2 : w4.heap[gB]? = some (.cells #[.bool false, .bool false, .slice none 0 0, .int .i64 0] 71 (0, 0))) (lA : wA.heap.size ≤ gA) (lB : wA.heap.size ≤ gB) (ne : gA ≠ gB) (f1 : FinV w4 (.agg #[.bool n1, .bool false, .slice p1 l1 c1, .int .i64 e1]) n1 q1 e1) (f2 : FinV w4 (.agg #[.bool n2, .bool false, .slice p2 l2 c2, .int .i64 e2]) n2 q2 e2) :
  Below wA.heap.size wA (set4 w4 gA (.bool n1) (.bool false) (.slice p1 l1 c1) (.int .i64 e1)) ∧
  (set4 w4 gA (.bool n1) (.bool false) (.slice p1 l1 c1) (.int .i64 e1)).heap[gB]? = some (.cells #[.bool false, .bool false, .slice none 0 0, .int .i64 0] 71 (0, 0)) ∧
  Below wA.heap.size wA (set4 (set4 w4 gA (.bool n1) (.bool false) (.slice p1 l1 c1) (.int .i64 e1)) gB (.bool n2) (.bool false) (.slice p2 l2 c2) (.int .i64 e2)) ∧
  TwoF wA n1 q1 e1 n2 q2 e2 (.pointer (some ⟨gA, 0, none⟩)) (.pointer (some ⟨gB, 0, none⟩)) (set4 (set4 w4 gA (.bool n1) (.bool false) (.slice p1 l1 c1) (.int .i64 e1)) gB (.bool n2) (.bool false) (.slice p2 l2 c2) (.int .i64 e2)) := by
 have o1 := Q3D w4 gA (.bool n1) (.bool false) (.slice p1 l1 c1) (.int .i64 e1)
 have b1 := Q4N hA (.bool n1) (.bool false) (.slice p1 l1 c1) (.int .i64 e1)
 have B1 := Q31 hB lA (.bool n1) (.bool false) (.slice p1 l1 c1) (.int .i64 e1)
 have h5 := (o1.1 gB ne.symm).trans hB2
 have k1 := f1.keep hA (by decide) o1
 have k2 := f2.keep hA (by decide) o1
 generalize set4 w4 gA (.bool n1) (.bool false) (.slice p1 l1 c1) (.int .i64 e1) = w5 at o1 b1 B1 h5 k1 k2 ⊢
 have o2 := Q3D w5 gB (.bool n2) (.bool false) (.slice p2 l2 c2) (.int .i64 e2)
 have b2 := Q4N h5 (.bool n2) (.bool false) (.slice p2 l2 c2) (.int .i64 e2)
 have B2 := Q31 B1 lB (.bool n2) (.bool false) (.slice p2 l2 c2) (.int .i64 e2)
 refine ⟨B1, h5, B2, gA, gB, p1, l1, c1, p2, l2, c2, rfl, rfl, ⟨(o2.1 gA ne).trans b1, b2⟩, k1.keep h5 (by decide) o2, k2.keep h5 (by decide) o2, lA, lB, ne, B2⟩
end Go.Proofs.YtamldngoemdfgaaGreatDoor
