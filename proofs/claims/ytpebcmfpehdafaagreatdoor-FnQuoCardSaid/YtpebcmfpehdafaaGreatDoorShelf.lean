/- contracts of library functions, laid by the kit's tool at this dump: those that are used -/
import Derived.Shelf.Strings.Builder1
import Derived.Shelf.Strings.Builder2
import Derived.Shelf.Strings.OnBuilder
import Derived.Shelf.Small.Bits
import Derived.Shelf.Strconv.Itoa0
import Derived.Shelf.Bits.Mul64
import Derived.Test.YtpebcmfpehdafaaGreatDoorProg
namespace Go.Proofs
open Go.Shelf
def Tryz.lays156_ren : Go.Shelf.Ren := ⟨fun | 156 => 184 | 165 => 205 | 166 => 206 | 169 => 207 | 240 => 242 | 241 => 243 | 276 => 273 | 277 => 274 | n => n, fun | 31 => 196 | 9 => 9 | 3 => 3 | 4 => 4 | 0 => 0 | 20 => 20 | 72 => 218 | 76 => 220 | 70 => 216 | 37 => 35 | 75 => 74 | 127 => 252 | 164 => 273 | 5 => 5 | 80 => 86 | n => n, fun | n => n⟩
theorem Tryz.lays156 : Go.Proofs.Lays.n156 Tryz.prog Tryz.lays156_ren := {
  mixed := by kernel_rfl
  f156 := Tryz.func184.trans (congrArg some (by kernel_rfl))
  f165 := Tryz.func205.trans (congrArg some (by kernel_rfl))
  f166 := Tryz.func206.trans (congrArg some (by kernel_rfl))
  f169 := Tryz.func207.trans (congrArg some (by kernel_rfl))
  f240 := Tryz.func242.trans (congrArg some (by kernel_rfl))
  f241 := Tryz.func243.trans (congrArg some (by kernel_rfl))
  f276 := Tryz.func273.trans (congrArg some (by kernel_rfl))
  f277 := Tryz.func274.trans (congrArg some (by kernel_rfl))
  t0 := Tryz.underlying0
  a0 := Tryz.isAgg0
  z0 := Tryz.sizeOf0
  v0 := Tryz.zeroValue0
  t3 := Tryz.underlying3
  a3 := Tryz.isAgg3
  z3 := Tryz.sizeOf3
  v3 := Tryz.zeroValue3
  t4 := Tryz.underlying4
  a4 := Tryz.isAgg4
  z4 := Tryz.sizeOf4
  v4 := Tryz.zeroValue4
  t9 := Tryz.underlying9
  a9 := Tryz.isAgg9
  z9 := Tryz.sizeOf9
  v9 := Tryz.zeroValue9
  t20 := Tryz.underlying20
  a20 := Tryz.isAgg20
  z20 := Tryz.sizeOf20
  v20 := Tryz.zeroValue20
  t31 := Tryz.underlying196
  a31 := Tryz.isAgg196
  z31 := Tryz.sizeOf196
  v31 := Tryz.zeroValue196
  t37 := Tryz.underlying35
  a37 := Tryz.isAgg35
  z37 := Tryz.sizeOf35
  v37 := Tryz.zeroValue35
  t70 := Tryz.underlying216
  a70 := Tryz.isAgg216
  z70 := Tryz.sizeOf216
  v70 := Tryz.zeroValue216
  t72 := Tryz.underlying218
  a72 := Tryz.isAgg218
  z72 := Tryz.sizeOf218
  v72 := Tryz.zeroValue218
  t75 := Tryz.underlying74
  a75 := Tryz.isAgg74
  z75 := Tryz.sizeOf74
  v75 := Tryz.zeroValue74
  t76 := Tryz.underlying220
  a76 := Tryz.isAgg220
  z76 := Tryz.sizeOf220
  v76 := Tryz.zeroValue220
  t127 := Tryz.underlying252
  a127 := Tryz.isAgg252
  z127 := Tryz.sizeOf252
  v127 := Tryz.zeroValue252
  t164 := Tryz.underlying273
  a164 := Tryz.isAgg273
  z164 := Tryz.sizeOf273
  v164 := Tryz.zeroValue273 }
theorem Tryz.Builder_Extra_156 : Builder.Extra Tryz.prog Tryz.lays156_ren := {
  sizeBuilder := by kernel_rfl
  liesBuilder := by kernel_rfl
  t5 := Tryz.underlying5
  a5 := Tryz.isAgg5
  z5 := Tryz.sizeOf5
  v5 := Tryz.zeroValue5
  infoByte := by kernel_rfl
  cellsByte := by kernel_rfl
  sizeByte := by kernel_rfl
  neB5 := by decide }
open Go.RowKit in
/-- No element: the empty string; the world is as it was. (Whatever the slice's address and capacity: a nil slice too.) (LAID: no walk: one application.) -/
theorem Tryz.strings_Join_none (a : Option Addr) (c : Nat) (sep : ByteArray) (w : World) :
    Calls Tryz.prog 184 #[.slice a 0 c, .string sep] w fun e w' => e = .returned (.string ⟨#[]⟩) ∧ w' = w := Any.strings_Join_none Tryz.lays156 Tryz.Builder_Extra_156 a c sep w
open Go.RowKit in
/-- strings.Join: "Join concatenates the elements of its first argument to create a single string. The separator string sep is placed between elements in the resulting string.": HOWEVER MANY ELEMENTS. Below the heap's end the world is as it was. (LAID: no walk: one application.) -/
theorem Tryz.strings_Join (bk o c : Nat) (xs : List ByteArray) (sep : ByteArray) (w : World) (hcells : ∀ (j : Nat) x, xs[j]? = some x → w.cell? ⟨bk, o + j, none⟩ = some (.string x)) (hbk : bk < w.heap.size) (hN : xs.length ≤ 140737488355328) (hcap : xs.length ≤ c) (hlen : (Lib.join (xs.map (·.data.toList)) sep.data.toList).length ≤ 140737488355328) :
    Calls Tryz.prog 184 #[.slice (some ⟨bk, o, none⟩) xs.length c, .string sep] w fun e w' => e = .returned (.string ⟨(Lib.join (xs.map (·.data.toList)) sep.data.toList).toArray⟩) ∧ Below w.heap.size w w' := Any.strings_Join Tryz.lays156 Tryz.Builder_Extra_156 bk o c xs sep w hcells hbk hN hcap hlen
def Tryz.lays125_ren : Go.Shelf.Ren := ⟨fun | 125 => 224 | 128 => 256 | 129 => 257 | n => n, fun | 46 => 111 | 3 => 3 | 51 => 22 | 53 => 92 | 4 => 4 | 5 => 5 | 9 => 9 | n => n, fun | n => n⟩
theorem Tryz.lays125 : Go.Proofs.Lays.n125 Tryz.prog Tryz.lays125_ren := {
  mixed := by kernel_rfl
  f125 := Tryz.func224.trans (congrArg some (by kernel_rfl))
  f128 := Tryz.func256.trans (congrArg some (by kernel_rfl))
  f129 := Tryz.func257.trans (congrArg some (by kernel_rfl))
  t3 := Tryz.underlying3
  a3 := Tryz.isAgg3
  z3 := Tryz.sizeOf3
  v3 := Tryz.zeroValue3
  t4 := Tryz.underlying4
  a4 := Tryz.isAgg4
  z4 := Tryz.sizeOf4
  v4 := Tryz.zeroValue4
  t5 := Tryz.underlying5
  a5 := Tryz.isAgg5
  z5 := Tryz.sizeOf5
  v5 := Tryz.zeroValue5
  t9 := Tryz.underlying9
  a9 := Tryz.isAgg9
  z9 := Tryz.sizeOf9
  v9 := Tryz.zeroValue9
  t46 := Tryz.underlying111
  a46 := Tryz.isAgg111
  z46 := Tryz.sizeOf111
  v46 := Tryz.zeroValue111
  t51 := Tryz.underlying22
  a51 := Tryz.isAgg22
  z51 := Tryz.sizeOf22
  v51 := Tryz.zeroValue22
  t53 := Tryz.underlying92
  a53 := Tryz.isAgg92
  z53 := Tryz.sizeOf92
  v53 := Tryz.zeroValue92 }
/-- bits.Len: "Len returns the minimum number of bits required to represent x; the result is 0 for x == 0.": IT RETURNS 'Lib.bitLen x'; the world is as it was. (A uint has 64 bits in the model.) ITS CALLEE bits.Len64 IS MET BY ITS OWN CONTRACT OFF THE SHELF (lay that first). (LAID: no walk: one application.) -/
theorem Tryz.bits_Len (x : Int) (w : World) (h0 : 0 ≤ x) (h1 : x ≤ 18446744073709551615) :
    Calls Tryz.prog 224 #[.int .u64 x] w fun e w' => e = .returned (.int .i64 (Lib.bitLen x.toNat)) ∧ w' = w := Any.bits_Len Tryz.lays125 x w h0 h1
def Tryz.lays134_ren : Go.Shelf.Ren := ⟨fun | 134 => 303 | 129 => 257 | n => n, fun | 53 => 92 | 3 => 3 | 4 => 4 | 46 => 111 | 5 => 5 | 9 => 9 | n => n, fun | n => n⟩
theorem Tryz.lays134 : Go.Proofs.Lays.n134 Tryz.prog Tryz.lays134_ren := {
  mixed := by kernel_rfl
  f129 := Tryz.func257.trans (congrArg some (by kernel_rfl))
  f134 := Tryz.func303.trans (congrArg some (by kernel_rfl))
  t3 := Tryz.underlying3
  a3 := Tryz.isAgg3
  z3 := Tryz.sizeOf3
  v3 := Tryz.zeroValue3
  t4 := Tryz.underlying4
  a4 := Tryz.isAgg4
  z4 := Tryz.sizeOf4
  v4 := Tryz.zeroValue4
  t5 := Tryz.underlying5
  a5 := Tryz.isAgg5
  z5 := Tryz.sizeOf5
  v5 := Tryz.zeroValue5
  t9 := Tryz.underlying9
  a9 := Tryz.isAgg9
  z9 := Tryz.sizeOf9
  v9 := Tryz.zeroValue9
  t46 := Tryz.underlying111
  a46 := Tryz.isAgg111
  z46 := Tryz.sizeOf111
  v46 := Tryz.zeroValue111
  t53 := Tryz.underlying92
  a53 := Tryz.isAgg92
  z53 := Tryz.sizeOf92
  v53 := Tryz.zeroValue92 }
/-- bits.LeadingZeros64: "LeadingZeros64 returns the number of leading zero bits in x; the result is 64 for x == 0.": IT RETURNS '64 - Lib.bitLen x'; the world is as it was. ITS CALLEE bits.Len64 IS MET BY ITS OWN CONTRACT OFF THE SHELF (lay that first): entered in place it sends the kernel out of memory. (LAID: no walk: one application.) -/
theorem Tryz.bits_LeadingZeros64 (x : Int) (w : World) (h0 : 0 ≤ x) (h1 : x ≤ 18446744073709551615) :
    Calls Tryz.prog 303 #[.int .u64 x] w fun e w' => e = .returned (.int .i64 (64 - (Lib.bitLen x.toNat : Int))) ∧ w' = w := Any.bits_LeadingZeros64 Tryz.lays134 x w h0 h1
def Tryz.lays130_ren : Go.Shelf.Ren := ⟨fun | 130 => 263 | 125 => 224 | 128 => 256 | 129 => 257 | n => n, fun | 46 => 111 | 3 => 3 | 51 => 22 | 53 => 92 | 4 => 4 | 5 => 5 | 9 => 9 | n => n, fun | n => n⟩
theorem Tryz.lays130 : Go.Proofs.Lays.n130 Tryz.prog Tryz.lays130_ren := {
  mixed := by kernel_rfl
  f125 := Tryz.func224.trans (congrArg some (by kernel_rfl))
  f128 := Tryz.func256.trans (congrArg some (by kernel_rfl))
  f129 := Tryz.func257.trans (congrArg some (by kernel_rfl))
  f130 := Tryz.func263.trans (congrArg some (by kernel_rfl))
  t3 := Tryz.underlying3
  a3 := Tryz.isAgg3
  z3 := Tryz.sizeOf3
  v3 := Tryz.zeroValue3
  t4 := Tryz.underlying4
  a4 := Tryz.isAgg4
  z4 := Tryz.sizeOf4
  v4 := Tryz.zeroValue4
  t5 := Tryz.underlying5
  a5 := Tryz.isAgg5
  z5 := Tryz.sizeOf5
  v5 := Tryz.zeroValue5
  t9 := Tryz.underlying9
  a9 := Tryz.isAgg9
  z9 := Tryz.sizeOf9
  v9 := Tryz.zeroValue9
  t46 := Tryz.underlying111
  a46 := Tryz.isAgg111
  z46 := Tryz.sizeOf111
  v46 := Tryz.zeroValue111
  t51 := Tryz.underlying22
  a51 := Tryz.isAgg22
  z51 := Tryz.sizeOf22
  v51 := Tryz.zeroValue22
  t53 := Tryz.underlying92
  a53 := Tryz.isAgg92
  z53 := Tryz.sizeOf92
  v53 := Tryz.zeroValue92 }
/-- bits.LeadingZeros: "LeadingZeros returns the number of leading zero bits in x; the result is [UintSize] for x == 0.": IT RETURNS '64 - Lib.bitLen x'; the world is as it was. ITS CALLEE bits.Len IS MET BY ITS OWN CONTRACT OFF THE SHELF (lay that first): entered in place it sends the kernel out of memory. (LAID: no walk: one application.) -/
theorem Tryz.bits_LeadingZeros (x : Int) (w : World) (h0 : 0 ≤ x) (h1 : x ≤ 18446744073709551615) :
    Calls Tryz.prog 263 #[.int .u64 x] w fun e w' => e = .returned (.int .i64 (64 - (Lib.bitLen x.toNat : Int))) ∧ w' = w := Any.bits_LeadingZeros Tryz.lays130 x w h0 h1
def Tryz.lays212_ren : Go.Shelf.Ren := ⟨fun | 212 => 250 | 263 => 278 | 264 => 279 | n => n, fun | 46 => 111 | 51 => 22 | 146 => 269 | 53 => 92 | 148 => 271 | n => n, fun | n => n⟩
theorem Tryz.lays212 : Go.Proofs.Lays.n212 Tryz.prog Tryz.lays212_ren := {
  mixed := by kernel_rfl
  f212 := Tryz.func250.trans (congrArg some (by kernel_rfl))
  f263 := Tryz.func278.trans (congrArg some (by kernel_rfl))
  f264 := Tryz.func279.trans (congrArg some (by kernel_rfl))
  t46 := Tryz.underlying111
  a46 := Tryz.isAgg111
  z46 := Tryz.sizeOf111
  v46 := Tryz.zeroValue111
  t51 := Tryz.underlying22
  a51 := Tryz.isAgg22
  z51 := Tryz.sizeOf22
  v51 := Tryz.zeroValue22
  t53 := Tryz.underlying92
  a53 := Tryz.isAgg92
  z53 := Tryz.sizeOf92
  v53 := Tryz.zeroValue92
  t146 := Tryz.underlying269
  a146 := Tryz.isAgg269
  z146 := Tryz.sizeOf269
  v146 := Tryz.zeroValue269
  t148 := Tryz.underlying271
  a148 := Tryz.isAgg271
  z148 := Tryz.sizeOf271
  v148 := Tryz.zeroValue271 }
open Go.RowKit Go.Lib in
/-- math/bits.Mul: "Mul returns the full-width product of x and y": on a machine of 64 bits: Mul64's. (LAID: no walk: one application.) -/
theorem Tryz.bits_Mul (x y : Nat) (hx : x < 18446744073709551616) (hy : y < 18446744073709551616) (w : World) :
    Calls Tryz.prog 250 #[.int .u64 x, .int .u64 y] w fun e w' => e = .returned (.tuple #[.int .u64 ((x * y / 18446744073709551616 : Nat) : Int), .int .u64 ((x * y % 18446744073709551616 : Nat) : Int)]) ∧ w' = w := Any.bits_Mul Tryz.lays212 x y hx hy w
end Go.Proofs
