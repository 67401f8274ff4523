/- The row of FnQuo: what the walk gives, for every argument. -/
import Derived.Test.YtpebcmfpehdafaaGreatDoorCards
import Derived.Test.YtpebcmfpehdafaaGreatDoorTie
import Derived.Test.YtpebcmfpehdafaaGreatDoorZ40
import Derived.WalkKit
import Derived.ProofKit
import Derived.OpenShut
import Derived.LaidMore
import Derived.LaidEql
import Derived.Stop.LaidErr
import Derived.Lib.LaidU8
import Derived.Lib.SmallJoins
import Derived.Deep.DeepHandedRow
import Derived.Deep.DeepWitnessRowRef
set_option linter.all false
namespace Go.Proofs.YtpebcmfpehdafaaGreatDoor
open Go Go.ChangeShapes Go.WideShapes Go.ChangeAt Go.RowKit
theorem own : ownKnob Tryz.prog.godebug = none := by kernel_rfl
theorem cell_of_reads {W : World} {n : String} {g : Nat} {t : TypeId} {z : Int} (h : Lib.VarReads Tryz.prog W n (.lit (.int .i64 z))) (hg : Tryz.prog.globalNamed n = some g) (ht : (Tryz.prog.globals[g]?).map (·.type) = some t) (hu : Tryz.prog.underlying t = some (.int .i64)) : W.cell? ⟨g, 0, none⟩ = some (.int .i64 z) := by
  obtain ⟨g', t', cs, fuel, p, hg', ht', hv, hd⟩ := h
  obtain rfl := Option.some.inj (hg.symm.trans hg')
  obtain rfl := Option.some.inj (ht.symm.trans ht')
  obtain ⟨k, e1, e2, _⟩ := DataW.trod_int hu hd
  have hk : z = k := by
    simp only [Prod.mk.injEq, DataW.lit.injEq, Lit.int.injEq, true_and] at e2
    exact e2.1
  subst hk
  have := World.var?_cell hg hv 0
  rw [Array.eq_one_of_toList e1] at this
  simpa using this
theorem gk_of_laid {W : World} (h : laidMet Tryz.prog Rows.fnQuoRow.laid W) : GK W := by
  have h5 := h.tail.tail.tail.tail.tail
  exact ⟨cell_of_reads (t := 3) (Lib.laidMet.reads h5 (.tail _ (.tail _ (.head _)))) (by kernel_rfl) (by kernel_rfl) Tryz.underlying3, cell_of_reads (t := 3) (Lib.laidMet.reads h5 (.tail _ (.tail _ (.tail _ (.head _))))) (by kernel_rfl) (by kernel_rfl) Tryz.underlying3,
    cell_of_reads (t := 3) (Lib.laidMet.reads h5 (.tail _ (.tail _ (.tail _ (.tail _ (.head _)))))) (by kernel_rfl) (by kernel_rfl) Tryz.underlying3, cell_of_reads (t := 3) (Lib.laidMet.reads h5 (.tail _ (.head _))) (by kernel_rfl) (by kernel_rfl) Tryz.underlying3,
    cell_of_reads (t := 3) (Lib.laidMet.reads h5 (.head _)) (by kernel_rfl) (by kernel_rfl) Tryz.underlying3⟩
theorem star : "*" ++ "errors.errorString" = "*errors.errorString" := by decide
theorem rowE (u : TypeId) (h : Tryz.prog.typeName? 3 u = some "*errors.errorString") : u = 164 :=
  typeName_ptr_named (nm := "errors.errorString") (by rw [star]; kernel_rfl) (by kernel_rfl) (by decide) u (by rw [star]; exact h)
theorem cellsE : Tryz.prog.cellsOf 166 = 1 := by kernel_rfl
theorem cellsS : Tryz.prog.cellsOf 9 = 1 := by kernel_rfl
theorem compE : (Tryz.prog.info? 164).map (·.comparable) = some true := by kernel_rfl
theorem sizeE : (Tryz.prog.info? 166).map (·.size) = some 1 := by kernel_rfl
theorem eof_of_laid {W : World} (h : laidMet Tryz.prog Rows.fnQuoRow.laid W) : ∃ Tv av, EOFv W Tv av := by
  obtain ⟨a, s, hv, _, _, _⟩ := laid_sentinel h.tail.tail (g := 0) (ti := 74) (tp := 164) (te := 166) (ts := 9) (by kernel_rfl) (by kernel_rfl) Tryz.underlying74 rowE Tryz.underlying164 Tryz.underlying166 rfl rfl Tryz.underlying9 cellsE cellsS
  have hc := World.var?_cell (show Tryz.prog.globalNamed "io.EOF" = some 0 by kernel_rfl) hv 0
  obtain ⟨i, hi, hcmp⟩ := Option.map_eq_some_iff.1 compE
  obtain ⟨j, hj, _⟩ := Option.map_eq_some_iff.1 sizeE
  refine ⟨164, .pointer (some a), by simpa using hc, fun w2 _ => ⟨run_eql_iface_ptr_same w2 a Tryz.underlying74 Tryz.underlying164 hi hcmp hj, ?_⟩⟩
  simp only [binOp]
  simp [Op.equal, Op.maxDepth, run_equalIn_iface_ptr_same w2 9998 a Tryz.underlying74 Tryz.underlying164 hi hcmp hj]
theorem gw_of_laid {W : World} (h : laidMet Tryz.prog Rows.fnQuoRow.laid W) (hs : W.ShapedOpen Tryz.prog) : GW W := by
  refine ⟨gk_of_laid h, ?_⟩
  obtain ⟨⟨z, t⟩, hz⟩ := Option.isSome_iff_exists.1 (show ((((begin Tryz.prog (fun _ _ => 0) default).world.heap)[11]?).bind Obj.row?).isSome = true by kernel_rfl)
  obtain ⟨cs, hc, _⟩ := hs.1 11 z t (of_decide_eq_true (by kernel_rfl)) hz
  exact (Array.getElem?_eq_some_iff.1 hc).1
/-- five cells -/
theorem array5 {α : Type} {cs : Array α} (h : cs.size = 5) : ∃ c0 c1 c2 c3 c4, cs = #[c0, c1, c2, c3, c4] := by
  obtain ⟨l⟩ := cs
  match l, h with
  | [c0, c1, c2, c3, c4], _ => exact ⟨c0, c1, c2, c3, c4, rfl⟩
section
variable {H : Type} {enc : TypeId × Value → H} {w : World}
set_option maxRecDepth 100000 in
theorem open_dec {base : Nat} {v : Value} {d : DataW H} {p : List MemPlace} (hv : Value.okWide Tryz.prog w .any base 26 v) (h : DataW.Trod enc Tryz.prog w 0 (fun _ => true) true 26 v d p) :
    ∃ (f : Int) (n : Bool) (e : Int) (s : ByteArray), v = DV f n e s ∧ (-2147483648 ≤ e ∧ e ≤ 2147483647) ∧ p = [] ∧ ∀ (w' : World) (sp : Nat → Bool), DataW.Trod enc Tryz.prog w' 0 sp true 26 v d [] := by
  obtain ⟨v0, v1, v2, v3, y0, y1, y2, y3, m, rfl, rfl, rfl, h0, h1, h2, h3⟩ := Joins.open_agg4 Tryz.underlying26 (by kernel_rfl) (by kernel_rfl) hv h
  obtain ⟨f, e0, rfl, k0⟩ := DataW.trod_int Tryz.underlying3 h0
  obtain ⟨n, e1, rfl⟩ := DataW.trod_bool Tryz.underlying4 h1
  obtain ⟨e, e2, rfl, k2⟩ := DataW.trod_int Tryz.underlying21 h2
  obtain ⟨s, e3, rfl, k3⟩ := DataW.trod_string Tryz.underlying9 h3
  simp only [List.cons.injEq, and_true] at e0 e1 e2 e3
  subst e0 e1 e2 e3
  have k2' : IntKind.i32.min ≤ e ∧ e ≤ IntKind.i32.max := by simpa [Lit.wf] using k2
  refine ⟨f, n, e, s, rfl, ⟨Int.le_trans (by decide) k2'.1, Int.le_trans k2'.2 (by decide)⟩, rfl, fun w' sp => ?_⟩
  exact Joins.shut_agg4 (y0 := (_, [])) (y1 := (_, [])) (y2 := (_, [])) (y3 := (_, [])) Tryz.underlying26 (by kernel_rfl) (by kernel_rfl) ⟨1, trod_int_mk 0 Tryz.underlying3 k0⟩ ⟨1, by simp [DataW.trod, Tryz.underlying4]⟩ ⟨1, trod_int_mk 0 Tryz.underlying21 k2⟩ ⟨1, by simp [DataW.trod, Tryz.underlying9, k3]⟩
theorem cU : Tryz.prog.cellsOf 22 = 1 := by kernel_rfl
theorem cN : Tryz.prog.cellsOf 21 = 1 := by kernel_rfl
theorem cI : Tryz.prog.cellsOf 3 = 1 := by kernel_rfl
set_option maxRecDepth 100000 in
theorem open_ctx {base : Nat} {v : Value} {d : DataW H} {p : List MemPlace} (hv : Value.okWide Tryz.prog w .any base 24 v) (h : DataW.Trod enc Tryz.prog w 0 (fun _ => true) true 24 v d p) :
    ∃ p' mx mn tr md : Int, v = CV p' mx mn tr md ∧ 0 ≤ p' ∧ (0 ≤ tr ∧ tr < 4294967296) ∧ p = [] ∧ ∀ (w' : World) (sp : Nat → Bool), DataW.Trod enc Tryz.prog w' 0 sp true 24 v d [] := by
  obtain ⟨cs, rfl, hsz⟩ := okWide_struct Tryz.underlying24 hv
  obtain ⟨c0, c1, c2, c3, c4, rfl⟩ := array5 (hsz.trans (by kernel_rfl))
  obtain ⟨fuel, hf⟩ := h
  obtain ⟨xs, n, _, hx, hl, hlen, hall⟩ := DataW.trod_struct Tryz.underlying24 hf
  match xs, hlen with
  | [y0, y1, y2, y3, y4], _ =>
    have q0 : DataW.trod enc Tryz.prog w 0 (fun _ => true) true n 22 [c0] = some y0 := by
      have q := hall 0 _ rfl
      simpa [cU, cI, cN, Value.cells] using q
    have q1 : DataW.trod enc Tryz.prog w 0 (fun _ => true) true n 21 [c1] = some y1 := by
      have q := hall 1 _ rfl
      simpa [cU, cI, cN, Value.cells] using q
    have q2 : DataW.trod enc Tryz.prog w 0 (fun _ => true) true n 21 [c2] = some y2 := by
      have q := hall 2 _ rfl
      simpa [cU, cI, cN, Value.cells] using q
    have q3 : DataW.trod enc Tryz.prog w 0 (fun _ => true) true n 22 [c3] = some y3 := by
      have q := hall 3 _ rfl
      simpa [cU, cI, cN, Value.cells] using q
    have q4 : DataW.trod enc Tryz.prog w 0 (fun _ => true) true n 3 [c4] = some y4 := by
      have q := hall 4 _ rfl
      simpa [cU, cI, cN, Value.cells] using q
    obtain ⟨z0, e0, rfl, k0⟩ := DataW.trod_int Tryz.underlying22 q0
    obtain ⟨z1, e1, rfl, k1⟩ := DataW.trod_int Tryz.underlying21 q1
    obtain ⟨z2, e2, rfl, k2⟩ := DataW.trod_int Tryz.underlying21 q2
    obtain ⟨z3, e3, rfl, k3⟩ := DataW.trod_int Tryz.underlying22 q3
    obtain ⟨z4, e4, rfl, k4⟩ := DataW.trod_int Tryz.underlying3 q4
    simp only [List.cons.injEq, and_true] at e0 e1 e2 e3 e4
    subst e0 e1 e2 e3 e4
    simp only [Prod.mk.injEq] at hx
    obtain ⟨rfl, rfl⟩ := hx
    have b0 : IntKind.u32.min ≤ z0 ∧ z0 ≤ IntKind.u32.max := by simpa [Lit.wf] using k0
    have b3 : IntKind.u32.min ≤ z3 ∧ z3 ≤ IntKind.u32.max := by simpa [Lit.wf] using k3
    refine ⟨z0, z1, z2, z3, z4, rfl, Int.le_trans (by decide) b0.1, ⟨Int.le_trans (by decide) b3.1, Int.lt_of_le_of_lt b3.2 (by decide)⟩, by simp, fun w' sp => ⟨2, ?_⟩⟩
    have t0 := trod_int_mk (enc := enc) (w := w') (base := 0) (spare := sp) (held := true) 0 Tryz.underlying22 k0
    have t1 := trod_int_mk (enc := enc) (w := w') (base := 0) (spare := sp) (held := true) 0 Tryz.underlying21 k1
    have t2 := trod_int_mk (enc := enc) (w := w') (base := 0) (spare := sp) (held := true) 0 Tryz.underlying21 k2
    have t3 := trod_int_mk (enc := enc) (w := w') (base := 0) (spare := sp) (held := true) 0 Tryz.underlying22 k3
    have t4 := trod_int_mk (enc := enc) (w := w') (base := 0) (spare := sp) (held := true) 0 Tryz.underlying3 k4
    have h := trod_struct_mk (enc := enc) (w := w') (base := 0) (spare := sp) (held := true) (n := 1) (cs := [.int .u32 z0, .int .i32 z1, .int .i32 z2, .int .u32 z3, .int .i64 z4]) (xs := [(.lit (.int .u32 z0), []), (.lit (.int .i32 z1), []), (.lit (.int .i32 z2), []), (.lit (.int .u32 z3), []), (.lit (.int .i64 z4), [])]) Tryz.underlying24 (by kernel_rfl) (by simp [cU, cI, cN, t0, t1, t2, t3, t4])
    simpa [Value.cells] using h
set_option maxRecDepth 100000 in
theorem post_nil {f : Func} {s : ChangeSpec} {apart fresh handsOn again : Bool} {W W' : World} {args : Array Value} {v : Value} {ds gs : List (DataW H)}
    (hW : DataW.Whole enc Tryz.prog f.params.toList s.vars apart W args.toList ds gs [])
    (hres : ∀ (b : Nat) (sp : Nat → Bool) (hd : Bool), DataW.TrodAll enc Tryz.prog W' b sp hd f.resultTypes.toList (v.resultList f.resultTypes.size) (s.fn H (ds ++ gs)).results [])
    (hargs : ∀ sp : Nat → Bool, DataW.TrodAll enc Tryz.prog W' 0 sp true f.params.toList args.toList (s.fn H (ds ++ gs)).args [])
    (hvars : ∀ sp : Nat → Bool, DataW.TrodVars enc Tryz.prog W' sp s.vars (s.fn H (ds ++ gs)).vars [])
    (hk : W.keptBut W' (· ∈ ([] : List MemPlace)))
    (hok : ∀ (j : Nat) (t : TypeId) (r : Value), f.resultTypes[j]? = some t → (v.resultList f.resultTypes.size)[j]? = some r → Value.okWide Tryz.prog W' .any 0 t r) :
    s.post enc Tryz.prog f apart fresh handsOn again W args v W' := by
  refine ⟨ds, gs, [], [], [], [], hW, hres _ _ _, hargs _, hvars _, World.keptBut_mono (fun p hp => absurd hp (by simp)) hk, fun _ => ?_⟩
  refine ⟨hok, _, _, ([] ++ []) ++ [], ⟨[] ++ [], [], trodAll_append (hargs _) (hres _ _ _), hvars _, rfl, ?_, ?_⟩, ?_⟩
  · intro b off hp; simp at hp
  · intro _; simp
  · intro p hp _; simp at hp
set_option maxRecDepth 100000 in
theorem contract {W : World} {base : Nat} {args : Array Value} {ds gs : List (DataW H)} {before : List MemPlace}
    (hval : ∀ (j : Nat) t v, Tryz.f4.params[j]? = some t → args[j]? = some v → Value.okWide Tryz.prog W .any base t v)
    (hW : DataW.Whole enc Tryz.prog Tryz.f4.params.toList Rows.fnQuoSpec.vars false W args.toList ds gs before) (hL : laidMetH Tryz.prog Rows.fnQuoRow.laid W) (hS : W.ShapedOpen Tryz.prog) :
    Calls Tryz.prog 4 args W fun e W' => ∃ v, e = .returned v ∧ Rows.fnQuoSpec.post enc Tryz.prog Tryz.f4 false true false false W args v W' := by
  rw [MakeChecks.laidMetH_plain _ _ _ (by kernel_rfl)] at hL
  have hG := gw_of_laid hL hS
  obtain ⟨Tv, av, hE⟩ := eof_of_laid hL
  have hW' := hW
  obtain ⟨p, q, hA0, hV, rfl, hfz, hnd⟩ := hW
  have hA : DataW.TrodAll enc Tryz.prog W 0 (fun _ => true) true Tryz.f4.params.toList args.toList ds p := hA0
  rw [Tryz.params4] at hA hval
  obtain ⟨v0, vs0, d0, ds0, p0, q0, hargs, rfl, rfl, h0, r0⟩ := trodAll_cons hA
  obtain ⟨v1, vs1, d1, ds1, p1, q1, rfl, rfl, rfl, h1, r1⟩ := trodAll_cons r0
  obtain ⟨v2, vs2, d2, ds2, p2, q2, rfl, rfl, rfl, h2, r2⟩ := trodAll_cons r1
  obtain ⟨v3, vs3, d3, ds3, p3, q3, rfl, rfl, rfl, h3, r3⟩ := trodAll_cons r2
  obtain ⟨rfl, rfl, rfl⟩ := trodAll_nil r3
  obtain rfl : args = #[v0, v1, v2, v3] := by cases args; simp_all
  obtain ⟨rfl, rfl⟩ := trodVars_none hV
  obtain ⟨pp, mx, mn, tr, md, rfl, hp, htr, rfl, t0⟩ := open_ctx (hval 0 _ v0 rfl rfl) h0
  obtain ⟨fx, nx, ex, sx, rfl, hex, rfl, t1⟩ := open_dec (hval 1 _ v1 rfl rfl) h1
  obtain ⟨fy, ny, ey, sy, rfl, hey, rfl, t2⟩ := open_dec (hval 2 _ v2 rfl rfl) h2
  obtain ⟨a, rfl, rfl, rfl, ka⟩ := open_int Tryz.underlying5 (hval 3 _ v3 rfl rfl) h3
  have ba : IntKind.u8.min ≤ a ∧ a ≤ IntKind.u8.max := by simpa [Lit.wf] using ka
  have ba1 : 0 ≤ a := Int.le_trans (by decide) ba.1
  have ba2 : a < 256 := Int.lt_of_le_of_lt ba.2 (by decide)
  obtain ⟨a', rfl⟩ := Int.eq_ofNat_of_zero_le ba1
  clear hA0 hval
  simp only [List.append_nil] at hW'
  refine (fn_quo hG hE pp mx mn tr md fx nx ex sx fy ny ey sy a' (by omega) hp htr hex hey).mono fun e W' ⟨he, hB⟩ => ?_
  subst he
  exact ⟨_, rfl, post_nil hW' (fun _ _ _ => trodAll_cons_mk (shut_bool Tryz.underlying4 _) trodAll_mk0) (fun sp => trodAll_cons_mk (t0 W' sp) (trodAll_cons_mk (t1 W' sp) (trodAll_cons_mk (t2 W' sp) (trodAll_cons_mk (shut_int Tryz.underlying5 ka) trodAll_mk0)))) (fun _ => rfl) (hB.frame _) (ok_one (by kernel_rfl) rfl (okWide_bool_mk Tryz.underlying4 _))⟩
end
set_option maxRecDepth 100000 in
theorem laid_met (os : Os) (args : Array Value) : laidMetH Tryz.prog Rows.fnQuoRow.laid ((World.doorLaid Tryz.prog 96 os).forCall (fun _ _ => 0) ⟨#[], args, []⟩).memory := by
  rw [MakeChecks.laidMetH_plain _ _ _ (by kernel_rfl)]
  exact laidMet_of_run' 8 (by kernel_rfl) (by kernel_rfl)
theorem reads (os : Os) {H : Type} (enc : TypeId × Value → H) : ∃ places, DataW.whole enc Tryz.prog ((World.doorLaid Tryz.prog 96 os).forCall (fun _ _ => 0) ⟨#[], #[.agg #[.int .u32 0, .int .i32 0, .int .i32 0, .int .u32 0, .int .i64 0], .agg #[.int .i64 0, .bool false, .int .i32 0, .string ⟨#[]⟩], .agg #[.int .i64 0, .bool false, .int .i32 0, .string ⟨#[]⟩], .int .u8 0], []⟩).memory Tryz.f4.params.toList Rows.fnQuoSpec.vars false (#[.agg #[.int .u32 0, .int .i32 0, .int .i32 0, .int .u32 0, .int .i64 0], .agg #[.int .i64 0, .bool false, .int .i32 0, .string ⟨#[]⟩], .agg #[.int .i64 0, .bool false, .int .i32 0, .string ⟨#[]⟩], .int .u8 0] : Array Value).toList 8 = some ([.agg [.lit (.int .u32 0), .lit (.int .i32 0), .lit (.int .i32 0), .lit (.int .u32 0), .lit (.int .i64 0)], .agg [.lit (.int .i64 0), .lit (.bool false), .lit (.int .i32 0), .lit (.string [])], .agg [.lit (.int .i64 0), .lit (.bool false), .lit (.int .i32 0), .lit (.string [])], .lit (.int .u8 0)], [], places) :=
  ⟨[], by kernel_rfl⟩
set_option maxRecDepth 100000 in
theorem lifted (os : Os) (started : os.Started) (H : Type) (enc : TypeId × Value → H) (F : Stop.Interp) :
    ReturnsInHanded {} Tryz.checked os 4 .any ((OpenSpec.ofChange Rows.fnQuoSpec).preRow enc Tryz.prog Tryz.f4 Rows.fnQuoRow.domain false Rows.fnQuoRow.laid) (((OpenSpec.ofChange Rows.fnQuoSpec).at F).post enc Tryz.prog Tryz.f4 false true false false) := by
  obtain ⟨places, hx⟩ := reads os enc
  refine returnsInHanded_of_row (C := Tryz.checked) (s := OpenSpec.ofChange Rows.fnQuoSpec) own started (by kernel_rfl) Tryz.func4
    (witness_row_atRef (enc := enc) (C := Tryz.checked) false (World.doorLaid Tryz.prog 96 os) #[.agg #[.int .u32 0, .int .i32 0, .int .i32 0, .int .u32 0, .int .i64 0], .agg #[.int .i64 0, .bool false, .int .i32 0, .string ⟨#[]⟩], .agg #[.int .i64 0, .bool false, .int .i32 0, .string ⟨#[]⟩], .int .u8 0] rfl (by kernel_rfl) (by kernel_rfl) (by kernel_rfl)
      (OpenSpec.preRow_of_cond 8 hx (by kernel_rfl) (fun k hk => by cases hk) (by kernel_rfl) (laid_met os _))) ?_
  intro W base args ds gs before hval hW _ _ _ hL hS _
  exact contract hval hW hL hS
end Go.Proofs.YtpebcmfpehdafaaGreatDoor
