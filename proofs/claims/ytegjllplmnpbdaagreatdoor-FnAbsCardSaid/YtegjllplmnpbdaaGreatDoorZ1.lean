/- a part of the proof: what functions that the statement reaches do -/
import Derived.Laws.BitsAllLaws
import Derived.Test.YtegjllplmnpbdaaGreatDoorZ0
set_option linter.all false
set_option maxRecDepth 100000
set_option maxHeartbeats 16000000
namespace Go.Proofs.YtegjllplmnpbdaaGreatDoor
open Go Go.RowKit
theorem Q52 (zp : Option Addr) (zl zc bx cx X : Nat) (yp : Option Addr) (cy : Nat) (slow : Bool) (w : World) (hz : Buf w zp zl zc) (hx : Nt w (some ⟨bx, 0, none⟩) 1 cx X) (hy : Nt w yp 0 cy 0) (ha1 : same zp (some ⟨bx, 0, none⟩) = false) (ha2 : same zp yp = false) :
  Calls Tryz.prog 238 #[.slice zp zl zc, .pointer none, .slice (some ⟨bx, 0, none⟩) 1 cx, .slice yp 0 cy, .slice none 0 0, .bool slow] w (NatRes w zp 1) := by
 have HX := Lh (And.intro hx hy); clear hx hy
 have H1 := Lh hz; clear hz
 go_enter_defers Tryz.func238, Tryz.ntmps238
 go_wp2_with fail
 refine (QP zp zl zc (some ⟨bx, 0, none⟩) 1 cx w H1.out HX.out.1.1).mono ?_
 rintro e w1 ⟨rfl, q1, rfl⟩
 rw [ha1]
 go_wp2_with fail
 refine (QP zp zl zc yp 0 cy (w.drewN q1) H1.out HX.out.2.1).mono ?_
 rintro e w1 ⟨rfl, q2, rfl⟩
 rw [ha2]
 go_wp2_with fail
 refine (Q0t zp zl zc 1 (by unfold BB; omega) _ (H1.out.drewN _)).mono ?_
 rintro e w2 ⟨p, l, c, rfl, hR⟩
 have HR := Lh hR; clear hR
 go_wp2_with fail
 exact ⟨_, results_tmp rfl _ _ _, NatRes.drewN (q1 + q2) ⟨p, l, c, rfl, HR.out⟩⟩
theorem Q6i (zp : Option Addr) (zl zc bx cx X by_ cy : Nat) (slow : Bool) (w : World) (hX : 2 ≤ X) (hz : Buf w zp zl zc) (hx : Nt w (some ⟨bx, 0, none⟩) 1 cx X) (hy : Nt w (some ⟨by_, 0, none⟩) 1 cy 1) (ha1 : same zp (some ⟨bx, 0, none⟩) = false) (ha2 : same zp (some ⟨by_, 0, none⟩) = false) :
  Calls Tryz.prog 238 #[.slice zp zl zc, .pointer none, .slice (some ⟨bx, 0, none⟩) 1 cx, .slice (some ⟨by_, 0, none⟩) 1 cy, .slice none 0 0, .bool slow] w (NatRes w zp X) := by
 have hxc := Q0G hx
 have hyc := Q0G hy
 have HX := Lh (And.intro hx hy); clear hx hy
 have H1 := Lh hz; clear hz
 have hx1 : ((X : Int) == 1) = false := by simp; omega
 go_enter_defers Tryz.func238, Tryz.ntmps238
 go_wp2_with fail
 refine (QP zp zl zc (some ⟨bx, 0, none⟩) 1 cx w H1.out HX.out.1.1).mono ?_
 rintro e w1 ⟨rfl, q1, rfl⟩
 rw [ha1]
 go_wp2_with fail
 refine (QP zp zl zc (some ⟨by_, 0, none⟩) 1 cy (w.drewN q1) H1.out HX.out.2.1).mono ?_
 rintro e w1 ⟨rfl, q2, rfl⟩
 rw [ha2]
 go_wp2_with fail
 refine (Q0M zp zl zc (some ⟨bx, 0, none⟩) 1 cx X _ (H1.out.drewN _) (HX.out.1.drewN _) (by unfold CAP; omega)).mono ?_
 rintro e w2 ⟨p, l, c, rfl, hR⟩
 have HR := Lh hR; clear hR
 go_wp2_with fail
 exact ⟨_, results_tmp rfl _ _ _, NatRes.drewN (q1 + q2) ⟨p, l, c, rfl, HR.out⟩⟩
theorem Q6j (zp : Option Addr) (zl zc bx cx X : Nat) (yp : Option Addr) (yl cy Y : Nat) (slow : Bool) (w : World) (hz : Buf w zp zl zc) (hX : 2 ≤ X) (hXB : X < BB) (hYB : Y < BB) (hsz : X ^ Y < BB ^ 22) (hx : Nt w (some ⟨bx, 0, none⟩) 1 cx X) (hy : Nt w yp yl cy Y) (hg : GK w) (hB : ∀ k, blkOf zp k → 12 ≤ k)
  (ha1 : same zp (some ⟨bx, 0, none⟩) = false) (ha2 : same zp yp = false) :
  Calls Tryz.prog 238 #[.slice zp zl zc, .pointer none, .slice (some ⟨bx, 0, none⟩) 1 cx, .slice yp yl cy, .slice none 0 0, .bool slow] w (NatRes w zp (X ^ Y)) := by
 have hyl : yl ≤ 1 := hy.len_of_lt (by rw [Nat.pow_one]; exact hYB)
 rcases Nat.eq_zero_or_pos yl with h0 | h0
 ·subst h0
  have hy0 : Y = 0 := hy.zero_iff.1 rfl
  subst hy0
  rw [Nat.pow_zero]
  exact Q52 zp zl zc bx cx X yp cy slow w hz hx hy ha1 ha2
 ·obtain rfl : yl = 1 := by omega
  obtain ⟨b', rfl, _⟩ := hy.pos_form (by omega)
  have hy0 : Y ≠ 0 := fun h => by have := hy.zero_iff.2 h; omega
  by_cases h1 : Y = 1
  ·subst h1
   rw [Nat.pow_one]
   exact Q6i zp zl zc bx cx X b' cy slow w hX hz hx hy ha1 ha2
  ·exact Q6h zp zl zc bx cx X b' cy Y slow w hz hX hXB (by omega) hYB hsz hx hy hg hB ha1 ha2
theorem Q0y {x n : Nat} (h : x < BB) (h1 : x < 2 ^ n) (h2 : n ≠ 0 → 2 ^ (n - 1) ≤ x) : Lib.bitLen x = n := by
 by_cases h0 : x = 0
 ·subst h0
  rcases Nat.eq_zero_or_pos n with hn | hn
  ·subst hn; rfl
  ·have := h2 (by omega)
   have : 0 < 2 ^ (n - 1) := Nat.two_pow_pos _
   omega
 ·have g1 := Q0o h
  have g2 := Q0E h h0
  have g3 := Q1r h h0
  rcases Nat.lt_trichotomy (Lib.bitLen x) n with hl | hl | hl
  ·have h3 := h2 (by omega)
   have : (2 : Nat) ^ Lib.bitLen x ≤ 2 ^ (n - 1) := Nat.pow_le_pow_right (by omega) (by omega)
   omega
  ·exact hl
  ·have : (2 : Nat) ^ n ≤ 2 ^ (Lib.bitLen x - 1) := Nat.pow_le_pow_right (by omega) (by omega)
   omega
theorem Q3l (x k : Nat) (h : x < BB) : ∃ y : Nat, bits .or .u64 (x : Int) ((x / 2 ^ k : Nat) : Int) = y ∧ y < BB ∧ Lib.bitLen y = Lib.bitLen x := by
 have hk : x / 2 ^ k < BB := Nat.lt_of_le_of_lt (Nat.div_le_self _ _) h
 have hl := Q0o h
 have h1 : x ||| x / 2 ^ k < 2 ^ Lib.bitLen x := Nat.or_lt_two_pow hl (Nat.lt_of_le_of_lt (Nat.div_le_self _ _) hl)
 have h2 : x ≤ x ||| x / 2 ^ k := Nat.left_le_or
 have h3 : x ||| x / 2 ^ k < BB := Nat.lt_of_lt_of_le h1 (by have h4 : (2 : Nat) ^ Lib.bitLen x ≤ 2 ^ 64 := Nat.pow_le_pow_right (by omega) (Q0F h); exact h4)
 refine ⟨x ||| x / 2 ^ k, u64_or_nat _ _ (by unfold BB at h; omega) (by unfold BB at hk; omega), h3, Q0y h3 h1 (fun hn => ?_)⟩
 by_cases h0 : x = 0
 ·subst h0; exact absurd rfl hn
 ·have := Q0E h h0; omega
theorem Q2F (b n c : Nat) (w : World) (hn0 : 0 < n) (hn : n ≤ CAP) (hX : IsW w b 0 n) :
  Calls Tryz.prog 170 #[.slice (some ⟨b, 0, none⟩) n c] w fun e w' => e = .returned (.int .i64 (((n - 1) * 64 + Lib.bitLen (rd w b (n - 1)) : Nat) : Int)) ∧ w' = w := by
 unfold CAP at hn
 have hx := hX.get (n - 1) (by omega)
 have hl := hX.lt (n - 1) (by omega)
 rw [Nat.zero_add] at hx hl
 clear hX
 obtain ⟨x0, hx0⟩ : ∃ x0, x0 = rd w b (n - 1) := ⟨_, rfl⟩
 rw [← hx0] at hx hl ⊢
 obtain ⟨x1, e1, l1, b1⟩ := Q3l x0 1 hl
 obtain ⟨x2, e2, l2, b2⟩ := Q3l x1 2 l1
 obtain ⟨x3, e3, l3, b3⟩ := Q3l x2 4 l2
 obtain ⟨x4, e4, l4, b4⟩ := Q3l x3 8 l3
 obtain ⟨x5, e5, l5, b5⟩ := Q3l x4 16 l4
 obtain ⟨x6, e6, l6, b6⟩ := Q3l x5 32 l5
 have HB : Hid (Lib.bitLen x6 = Lib.bitLen x0) := b6.trans (b5.trans (b4.trans (b3.trans (b2.trans b1))))
 have hd : ((x5 : Int) / 65536) / 65536 = ((x5 / 2 ^ 32 : Nat) : Int) := by omega
 rw [show ((x5 / 2 ^ 32 : Nat) : Int) = (x5 : Int) / 65536 / 65536 from hd.symm] at e6
 have HL := Q0F l6
 have HBL := Lh (Tryz.bits_Len (x6 : Int) w (by omega) (by unfold BB at l6; omega))
 have HLL := Lh HL
 simp at e1 e2 e3 e4 e5
 clear b1 b2 b3 b4 b5 b6 hd l1 l2 l3 l4 l5 l6 hl hx0
 go_enter Tryz.func170, Tryz.ntmps170
 go_wp2_with (go_at_call 203; refine HBL.out.mono ?_; rintro e w' ⟨rfl, hw⟩; subst w')
 go_ret
 have h1 := HB.out
 exact ⟨Q1B (by omega), rfl⟩
theorem Q53 (p : Option Addr) (c : Nat) (w : World) : Calls Tryz.prog 170 #[.slice p 0 c] w fun e w' => e = .returned (.int .i64 0) ∧ w' = w := by
 go_enter Tryz.func170, Tryz.ntmps170
 go_wp2
 go_ret
 exact ⟨rfl, rfl⟩
def bits2 (x : Nat) : Nat := if x = 0 then 0 else x.log2 + 1
theorem Q3K {x n : Nat} (h1 : x < 2 ^ n) (h2 : n ≠ 0 → 2 ^ (n - 1) ≤ x) : bits2 x = n := by
 unfold bits2
 rcases Nat.eq_zero_or_pos n with h0 | h0
 ·subst h0; rw [if_pos (by omega)]
 ·have h3 := h2 (by omega)
  have : 0 < 2 ^ (n - 1) := Nat.two_pow_pos _
  rw [if_neg (by omega), (Nat.log2_eq_iff (by omega)).2 ⟨h3, by rw [show n - 1 + 1 = n by omega]; exact h1⟩]
  omega
theorem Q4m (x : Nat) : x < 2 ^ bits2 x := by
 unfold bits2
 split
 ·subst_vars; simp
 ·exact Nat.lt_log2_self
theorem Q2G {x : Nat} (h : x ≠ 0) : 2 ^ (bits2 x - 1) ≤ x ∧ 0 < bits2 x := by
 unfold bits2
 rw [if_neg h]
 exact ⟨by simpa using Nat.log2_self_le h, by omega⟩
theorem Q2H (p : Option Addr) (l c x : Nat) (w : World) (h : Nt w p l c x) :
  Calls Tryz.prog 170 #[.slice p l c] w fun e w' => e = .returned (.int .i64 ((bits2 x : Nat) : Int)) ∧ w' = w := by
 rcases Nat.eq_zero_or_pos l with h0 | h0
 ·subst h0
  rw [h.zero_iff.1 rfl]
  exact Q53 p c w
 ·obtain ⟨b, rfl, h1, h2, h3, h4, h5, h6, h7⟩ := h.pos_form h0
  refine (Q2F b l c w h0 (by omega) h5).mono fun e w' ⟨he, hw⟩ => ⟨he.trans ?_, hw⟩
  have ht := h5.lt (l - 1) (by omega)
  have ht2 := h7 h0
  rw [Nat.zero_add] at ht
  have e : bits2 x = (l - 1) * 64 + Lib.bitLen (rd w b (l - 1)) := by
   have g1 := Q0o ht
   have g2 := Q0E ht ht2
   have g3 := Q1r ht ht2
   have e1 : x = MV w b 0 (l - 1) + rd w b (l - 1) * BB ^ (l - 1) := by
    rw [← h6]
    obtain ⟨m, rfl⟩ : ∃ m, l = m + 1 := ⟨l - 1, by omega⟩
    simp only [MV, Nat.add_sub_cancel, Nat.zero_add]
   have e2 := Q0U (h5.mono (show l - 1 ≤ l by omega))
   have e3 : BB ^ (l - 1) = 2 ^ ((l - 1) * 64) := by rw [show BB = 2 ^ 64 from rfl, ← Nat.pow_mul, Nat.mul_comm]
   rw [e3] at e1 e2
   refine Q3K ?_ (fun _ => ?_)
   ·rw [Nat.pow_add, e1]
    have h8 : (rd w b (l - 1) + 1) * 2 ^ ((l - 1) * 64) ≤ 2 ^ Lib.bitLen (rd w b (l - 1)) * 2 ^ ((l - 1) * 64) := Nat.mul_le_mul_right _ g1
    rw [Nat.add_mul, Nat.one_mul, Nat.mul_comm (2 ^ Lib.bitLen _)] at h8
    omega
   ·rw [show (l - 1) * 64 + Lib.bitLen (rd w b (l - 1)) - 1 = (l - 1) * 64 + (Lib.bitLen (rd w b (l - 1)) - 1) by omega, Nat.pow_add, e1]
    have h8 : 2 ^ (Lib.bitLen (rd w b (l - 1)) - 1) * 2 ^ ((l - 1) * 64) ≤ rd w b (l - 1) * 2 ^ ((l - 1) * 64) := Nat.mul_le_mul_right _ g2
    rw [Nat.mul_comm]
    omega
  rw [e]
def HH : Nat := 4294967296
structure KI (un yn1 yn0 u1 q r : Nat) : Prop where
 eq : q * yn1 + r = un
 rlt : r < HH
 ge : (un * HH + u1) / (yn1 * HH + yn0) ≤ q
structure KH (un yn1 yn0 u1 : Nat) : Prop where
 y1 : 2147483648 ≤ yn1
 y1' : yn1 < HH
 y0 : yn0 < HH
 u : u1 < HH
 lt : un < yn1 * HH + yn0
theorem KH.q_lt {un yn1 yn0 u1 : Nat} (h : KH un yn1 yn0 u1) : (un * HH + u1) / (yn1 * HH + yn0) < HH := by
 obtain ⟨h1, h2, h3, h4, h5⟩ := h
 rw [Nat.div_lt_iff_lt_mul (by unfold HH; omega)]
 have : (un + 1) * HH ≤ (yn1 * HH + yn0) * HH := Nat.mul_le_mul_right _ h5
 rw [Nat.mul_comm HH]
 rw [Nat.add_mul, Nat.one_mul] at this
 omega
theorem KI.start {un yn1 yn0 u1 : Nat} (h : KH un yn1 yn0 u1) : KI un yn1 yn0 u1 (un / yn1) (un - un / yn1 * yn1) := by
 have h1 := h.y1
 have e := Nat.div_add_mod un yn1
 have e2 : un - un / yn1 * yn1 = un % yn1 := by rw [Nat.mul_comm]; omega
 have hm := Nat.mod_lt un (show 0 < yn1 by omega)
 refine ⟨by rw [e2, Nat.mul_comm]; exact e, by rw [e2]; have := h.y1'; omega, ?_⟩
 have hpos : 0 < yn1 * HH + yn0 := by unfold HH; omega
 refine Nat.lt_succ_iff.1 ((Nat.div_lt_iff_lt_mul hpos).2 ?_)
 have h3 : un < (un / yn1 + 1) * yn1 := by rw [Nat.add_mul, Nat.one_mul, Nat.mul_comm]; omega
 have h4 : (un + 1) * HH ≤ (un / yn1 + 1) * yn1 * HH := Nat.mul_le_mul_right _ h3
 have h5 := h.u
 have h6 : (un / yn1 + 1) * (yn1 * HH + yn0) = (un / yn1 + 1) * yn1 * HH + (un / yn1 + 1) * yn0 := by rw [Nat.mul_add, Nat.mul_assoc]
 show un * HH + u1 < (un / yn1 + 1) * (yn1 * HH + yn0)
 rw [h6]
 rw [Nat.add_mul, Nat.one_mul] at h4
 omega
theorem KI.mul_eq {un yn1 yn0 u1 q r : Nat} (h : KI un yn1 yn0 u1 q r) : q * (yn1 * HH + yn0) + r * HH = un * HH + q * yn0 := by
 have := h.eq
 rw [Nat.mul_add, ← Nat.mul_assoc, ← this, Nat.add_mul]
 omega
theorem KI.done {un yn1 yn0 u1 q r : Nat} (h : KI un yn1 yn0 u1 q r) (hk : KH un yn1 yn0 u1) (h1 : q * yn0 ≤ HH * r + u1) : q = (un * HH + u1) / (yn1 * HH + yn0) := by
 have hpos : 0 < yn1 * HH + yn0 := by have := hk.y1; unfold HH; omega
 refine Nat.le_antisymm ?_ h.ge
 rw [Nat.le_div_iff_mul_le hpos]
 have := h.mul_eq
 rw [Nat.mul_comm HH] at h1
 omega
theorem KI.less {un yn1 yn0 u1 q r : Nat} (h : KI un yn1 yn0 u1 q r) (hk : KH un yn1 yn0 u1) (h1 : HH ≤ q ∨ HH * r + u1 < q * yn0) :
  0 < q ∧ (q - 1) * yn1 + (r + yn1) = un ∧ (un * HH + u1) / (yn1 * HH + yn0) ≤ q - 1 := by
 have hpos : 0 < yn1 * HH + yn0 := by have := hk.y1; unfold HH; omega
 have hq : (un * HH + u1) / (yn1 * HH + yn0) < q := by
  rcases h1 with h1 | h1
  ·have := hk.q_lt; omega
  ·rw [Nat.div_lt_iff_lt_mul hpos]
   have := h.mul_eq
   rw [Nat.mul_comm HH] at h1
   omega
 have hq0 : 0 < q := Nat.lt_of_le_of_lt (Nat.zero_le _) hq
 refine ⟨hq0, ?_, Nat.le_sub_one_of_lt hq⟩
 have := h.eq
 have e : (q - 1) * yn1 + yn1 = q * yn1 := by
  obtain ⟨m, rfl⟩ : ∃ m, q = m + 1 := ⟨q - 1, by omega⟩
  rw [Nat.add_sub_cancel, Nat.add_mul, Nat.one_mul]
 omega
theorem KI.broke {un yn1 yn0 u1 q r : Nat} (hk : KH un yn1 yn0 u1) (h1 : q * yn1 + r = un) (h2 : (un * HH + u1) / (yn1 * HH + yn0) ≤ q) (h3 : HH ≤ r) : q = (un * HH + u1) / (yn1 * HH + yn0) := by
 have hpos : 0 < yn1 * HH + yn0 := by have := hk.y1; unfold HH; omega
 refine Nat.le_antisymm ?_ h2
 rw [Nat.le_div_iff_mul_le hpos]
 have hq : q < HH := by
  have := hk.lt
  have := hk.y0
  rcases Nat.lt_or_ge q HH with h | h
  ·exact h
  ·have h4 : HH * yn1 ≤ q * yn1 := Nat.mul_le_mul_right _ h
   rw [Nat.mul_comm] at h4
   omega
 have h5 : q * yn0 ≤ HH * HH := Nat.mul_le_mul (by omega) (by have := hk.y0; omega)
 have h6 : HH * HH ≤ r * HH := Nat.mul_le_mul_right _ h3
 have e : q * (yn1 * HH + yn0) + r * HH = un * HH + q * yn0 := by rw [Nat.mul_add, ← Nat.mul_assoc, ← h1, Nat.add_mul]; omega
 omega
theorem KI.q_le {un yn1 yn0 u1 q r : Nat} (h : KI un yn1 yn0 u1 q r) (hk : KH un yn1 yn0 u1) : q ≤ HH + 1 := by
 have h1 := h.eq
 have h2 := hk.lt
 have h3 := hk.y0
 have h4 := hk.y1
 rcases Nat.lt_or_ge (HH + 1) q with h | h
 ·have h5 : (HH + 2) * yn1 ≤ q * yn1 := Nat.mul_le_mul_right _ h
  rw [Nat.add_mul, Nat.mul_comm HH] at h5
  unfold HH at *
  omega
 ·exact h
theorem Q1s {a c b d e : Int} {m : Nat} (h : a * c + b - d * e = (m : Int)) (hm : m < BB) :
  IntKind.u64.wrap (IntKind.u64.wrap (IntKind.u64.wrap (a * c) + b) - IntKind.u64.wrap (d * e)) = (m : Int) := by
 have hw : ∀ n : Int, IntKind.u64.wrap n = n % 18446744073709551616 := fun _ => rfl
 rw [hw, hw, hw, hw]
 unfold BB at hm
 generalize a * c = p at *
 generalize d * e = q at *
 omega
theorem Q54 {hi lo y u1 u0 Q Rm Q0 : Nat} (hy : 0 < y) (hl : u1 * HH + u0 = lo) (hQ : Q = (hi * HH + u1) / y) (hR : Rm = (hi * HH + u1) % y) (hQ0 : Q0 = (Rm * HH + u0) / y) :
  Q * HH + Q0 = (hi * BB + lo) / y ∧ (Rm * HH + u0) % y = (hi * BB + lo) % y := by
 have e1 := Nat.div_add_mod (hi * HH + u1) y
 rw [← hQ, ← hR] at e1
 have hb : BB = HH * HH := rfl
 have e2 : hi * BB + lo = y * (Q * HH) + (Rm * HH + u0) := by
  rw [hb, ← hl]
  have : (y * Q + Rm) * HH = (hi * HH + u1) * HH := by rw [e1]
  rw [Nat.add_mul, Nat.add_mul, Nat.mul_assoc, Nat.mul_assoc] at this
  omega
 rw [e2, Nat.mul_add_div hy, Nat.mul_add_mod, hQ0]
 exact ⟨rfl, rfl⟩
theorem Q14 {hi lo y : Nat} (hlo : lo < BB) (hhi : hi < y) : (hi * BB + lo) / y < BB := by
 rw [Nat.div_lt_iff_lt_mul (by omega)]
 have : (hi + 1) * BB ≤ y * BB := Nat.mul_le_mul_right _ hhi
 rw [Nat.add_mul, Nat.one_mul, Nat.mul_comm y] at this
 omega
theorem QU {a b a' b' : Int} (ha : a = a') (hb : b = b') : Ending.returned (.tuple #[.int .u64 a, .int .u64 b]) = .returned (.tuple #[.int .u64 a', .int .u64 b']) := by rw [ha, hb]
def FD (hi lo y Q Rm u0 Q0 : Nat) : Prop :=
 ((Q : Int) * 4294967296 + (Q0 : Int) = (((hi * BB + lo) / y : Nat) : Int)) ∧
 IntKind.u64.wrap (IntKind.u64.wrap ((Q : Int) * 4294967296) + (Q0 : Int)) = (((hi * BB + lo) / y : Nat) : Int) ∧
 IntKind.u64.wrap (IntKind.u64.wrap (IntKind.u64.wrap ((Rm : Int) * 4294967296) + (u0 : Int)) - IntKind.u64.wrap ((Q0 : Int) * (y : Int))) = (((hi * BB + lo) % y : Nat) : Int)
theorem Q0P {hi lo y u1 u0 Q Rm Q0 : Nat} (hy : 0 < y) (hhi : hi < y) (hyB : y < BB) (hl : u1 * HH + u0 = lo) (hQ : Q = (hi * HH + u1) / y) (hR : Rm = (hi * HH + u1) % y) (hQ0 : Q0 = (Rm * HH + u0) / y) (hlo : lo < BB) :
  FD hi lo y Q Rm u0 Q0 := by
 obtain ⟨e1, e2⟩ := Q54 hy hl hQ hR hQ0
 have hw : ∀ n : Int, IntKind.u64.wrap n = n % 18446744073709551616 := fun _ => rfl
 have hq : (hi * BB + lo) / y < BB := by
  rw [Nat.div_lt_iff_lt_mul hy]
  have : (hi + 1) * BB ≤ y * BB := Nat.mul_le_mul_right _ hhi
  rw [Nat.add_mul, Nat.one_mul, Nat.mul_comm y] at this
  omega
 have e3 : IntKind.u64.wrap (IntKind.u64.wrap ((Q : Int) * 4294967296) + (Q0 : Int)) = (((hi * BB + lo) / y : Nat) : Int) := by
  rw [← e1] at hq ⊢
  rw [hw, hw]; unfold BB at hq; unfold HH at *; omega
 have e4 := Nat.div_add_mod (Rm * HH + u0) y
 rw [← hQ0, e2] at e4
 have e5 : IntKind.u64.wrap (IntKind.u64.wrap (IntKind.u64.wrap ((Rm : Int) * 4294967296) + (u0 : Int)) - IntKind.u64.wrap ((Q0 : Int) * (y : Int))) = (((hi * BB + lo) % y : Nat) : Int) := by
  refine Q1s ?_ (by have := Nat.mod_lt (hi * BB + lo) hy; omega)
  have e6 : (Q0 : Int) * (y : Int) = ((y * Q0 : Nat) : Int) := by rw [Nat.mul_comm]; simp
  rw [e6]; unfold HH at e4; omega
 refine ⟨?_, e3, e5⟩
 rw [← e1]; unfold HH; omega
theorem Q15 (n : Int) : IntKind.u64.wrap n = n % 18446744073709551616 := rfl
theorem Q2I (hi lo y : Nat) (hy : 9223372036854775808 ≤ y) (hyB : y < BB) (hhi : hi < y) (h0 : 0 < hi) (hlo : lo < BB) (w : World) :
  Calls Tryz.prog 272 #[.int .u64 hi, .int .u64 lo, .int .u64 y] w fun e w' => e = .returned (.tuple #[.int .u64 (((hi * BB + lo) / y : Nat) : Int), .int .u64 (((hi * BB + lo) % y : Nat) : Int)]) ∧ w' = w := by
 obtain ⟨y1, hy1⟩ : ∃ y1, y1 = y / HH := ⟨_, rfl⟩
 obtain ⟨y0, hy0⟩ : ∃ y0, y0 = y % HH := ⟨_, rfl⟩
 obtain ⟨u1, hu1⟩ : ∃ u1, u1 = lo / HH := ⟨_, rfl⟩
 obtain ⟨u0, hu0⟩ : ∃ u0, u0 = lo % HH := ⟨_, rfl⟩
 have hlz : Lib.bitLen y = 64 := Q0y hyB hyB (fun _ => hy)
 have HLZ := Lh (Tryz.bits_LeadingZeros64 (y : Int) w (by omega) (by unfold BB at hyB; omega))
 have HL2 : Hid ((64 : Int) - (Lib.bitLen ((y : Int)).toNat : Int) = 0) := by show _ = _; rw [Int.toNat_natCast, hlz]; rfl
 have a1 : IntKind.u64.wrap (y : Int) = y := Qh y hyB
 have b1 : IntKind.u64.wrap (hi : Int) = hi := Qh hi (by omega)
 have b2 : IntKind.u64.wrap (lo : Int) = lo := Qh lo hlo
 have b3 : (lo : Int) / 18446744073709551616 = 0 := by unfold BB at hlo; omega
 have b4 : bits .or .u64 (hi : Int) 0 = hi := by rw [show (0 : Int) = ((0 : Nat) : Int) from rfl, u64_or_nat hi 0 (by unfold BB at hyB; omega) (by omega), Nat.or_zero]
 have a2 : (y : Int) / 4294967296 = y1 := by rw [hy1]; unfold HH; omega
 have a3 : bits .and .u64 (y : Int) 4294967295 = y0 := by rw [and_low32 _ (by omega) (by unfold BB at hyB; omega), hy0]; unfold HH; omega
 have a4 : (lo : Int) / 4294967296 = u1 := by rw [hu1]; unfold HH; omega
 have a5 : bits .and .u64 (lo : Int) 4294967295 = u0 := by rw [and_low32 _ (by omega) (by unfold BB at hlo; omega), hu0]; unfold HH; omega
 have hg1 : ((y : Int) == 0) = false := by simp; omega
 have hg2 : ((hi : Int) == 0) = false := by simp; omega
 have HK : Hid (y1 * HH + y0 = y ∧ u1 * HH + u0 = lo ∧ KH hi y1 y0 u1) := by
  have e1 : y1 * HH + y0 = y := by rw [hy1, hy0]; unfold HH; omega
  refine ⟨e1, by rw [hu1, hu0]; unfold HH; omega, ⟨by rw [hy1]; unfold HH; omega, by rw [hy1]; unfold HH; unfold BB at hyB; omega, by rw [hy0]; unfold HH; omega, by rw [hu1]; unfold HH; unfold BB at hlo; omega, by rw [e1]; exact hhi⟩⟩
 have b5 : ((y1 : Int) == 0) = false := by have := HK.out.2.2.y1; simp; omega
 have b6 : ¬ ((y1 : Int) = 0) := by have := HK.out.2.2.y1; omega
 obtain ⟨q1, hq1⟩ : ∃ q1, q1 = hi / y1 := ⟨_, rfl⟩
 obtain ⟨p1, hp1⟩ : ∃ p1, p1 = q1 * y1 := ⟨_, rfl⟩
 have hp1' : p1 ≤ hi := by rw [hp1, hq1]; exact Nat.div_mul_le_self _ _
 have b7 : (hi : Int) / (y1 : Int) = q1 := by rw [hq1]; simp
 have b8 : IntKind.u64.wrap ((q1 : Int) * (y1 : Int)) = p1 := by rw [show (q1 : Int) * (y1 : Int) = (p1 : Int) by rw [hp1]; simp]; exact Qh p1 (by omega)
 have b9 : IntKind.u64.wrap ((hi : Int) - (p1 : Int)) = ((hi - p1 : Nat) : Int) := by rw [Qd (by omega) (by omega)]; omega
 have b10 : IntKind.u64.wrap (q1 : Int) = q1 := Qh q1 (by rw [hq1]; have := Nat.div_le_self hi y1; omega)
 have H1 : Hid (KI hi y1 y0 u1 q1 (hi - p1)) := by have := KI.start HK.out.2.2; rw [← hq1, ← hp1] at this; exact this
 have HQ := Lh (And.intro hq1 (And.intro hp1 hp1')); clear hq1 hp1 hp1'
 have hu0e := Lh hu0
 clear hlz hy1 hy0 hu1 hu0
 go_enter Tryz.func272, Tryz.ntmps272
 go_wp2_with (go_at_call 284; refine HLZ.out.mono ?_; rw [HL2.out]; rintro e w' ⟨rfl, hw⟩; subst w')
 go_loop [15, 16] (fun a b => ∃ q r : Nat, a = .int .u64 q ∧ b = .int .u64 r ∧ KI hi y1 y0 u1 q r) (fun a _ => (intOf a).toNat)
 case atStart => exact ⟨q1, hi - p1, rfl, by congr 1, H1.out⟩
 case round =>
  obtain ⟨q1', r, rfl, rfl, hI⟩ := hrel
  have HI := Lh hI; clear hI
  have hqb := HI.out.q_le HK.out.2.2
  have hrb := HI.out.rlt
  have hkb := And.intro HK.out.2.2.y1' (And.intro HK.out.2.2.y0 HK.out.2.2.u)
  unfold HH at hqb hrb hkb
  clear b7 b8 b9 b10 H1
  have c1 : IntKind.u64.wrap (4294967296 * (r : Int)) = 4294967296 * (r : Int) := Qd (by omega) (by unfold BB; omega)
  have c2 : IntKind.u64.wrap (4294967296 * (r : Int) + (u1 : Int)) = 4294967296 * (r : Int) + (u1 : Int) := Qd (by omega) (by unfold BB; omega)
  obtain ⟨P, hP⟩ : ∃ P, P = q1' * y0 := ⟨_, rfl⟩
  have c4 : IntKind.u64.wrap ((r : Int) + (y1 : Int)) = (r : Int) + (y1 : Int) := Qd (by omega) (by unfold BB; omega)
  by_cases hyes : HH ≤ q1' ∨ HH * r + u1 < q1' * y0
  ·have HL := Lh (HI.out.less HK.out.2.2 hyes)
   have hq0 := HL.out.1
   have c3 : IntKind.u64.wrap ((q1' : Int) - 1) = ((q1' - 1 : Nat) : Int) := by rw [Qd (by omega) (by unfold BB; omega)]; omega
   have hcase : ((4294967296 : Int) ≤ (q1' : Int)) ∨ (¬ ((4294967296 : Int) ≤ (q1' : Int)) ∧ IntKind.u64.wrap ((q1' : Int) * (y0 : Int)) = (P : Int) ∧ 4294967296 * (r : Int) + (u1 : Int) < (P : Int)) := by
    by_cases hq : HH ≤ q1'
    ·exact .inl (by unfold HH at hq; omega)
    ·refine .inr ⟨by unfold HH at hq; omega, ?_, ?_⟩
     ·rw [show (q1' : Int) * (y0 : Int) = ((P : Nat) : Int) by rw [hP]; simp]
      refine Qh P ?_
      rw [hP]
      have h1 : q1' * y0 ≤ (HH - 1) * (HH - 1) := Nat.mul_le_mul (by omega) (by unfold HH; omega)
      unfold HH at h1; unfold BB; omega
     ·rcases hyes with h | h
      ·exact absurd h hq
      ·rw [← hP] at h; unfold HH at h; omega
   have HP := Lh (And.intro hP hyes); clear hP hyes
   by_cases hb : HH ≤ r + y1
   ·have hb' : (4294967296 : Int) ≤ (r : Int) + (y1 : Int) := by unfold HH at hb; omega
    have HB := Lh hb; clear hb
    rcases hcase with hq' | ⟨hq', c5, hc'⟩
    all_goals
     have HQ1 : Hid (q1' - 1 = (hi * HH + u1) / (y1 * HH + y0)) := KI.broke HK.out.2.2 HL.out.2.1 HL.out.2.2 HB.out
     obtain ⟨Rm, hRm⟩ : ∃ Rm, Rm = (hi * HH + u1) % y := ⟨_, rfl⟩
     have hRy : Rm < y := by rw [hRm]; exact Nat.mod_lt _ (by omega)
     have HR := Lh hRm; clear hRm
     have HQ2 : Hid (q1' - 1 = (hi * HH + u1) / y) := by have := HQ1.out; rw [HK.out.1] at this; exact this
     have HK2 : Hid (KH Rm y1 y0 u0) := ⟨HK.out.2.2.y1, HK.out.2.2.y1', HK.out.2.2.y0, by have := HK.out.2.1; have := HK.out.2.2.u; unfold BB at hlo; rw [hu0e.out]; exact Nat.mod_lt _ (by unfold HH; omega), by rw [HK.out.1]; exact hRy⟩
     have d1 : IntKind.u64.wrap (IntKind.u64.wrap (IntKind.u64.wrap ((hi : Int) * 4294967296) + (u1 : Int)) - IntKind.u64.wrap (((q1' - 1 : Nat) : Int) * (y : Int))) = (Rm : Int) := by
      rw [show (((q1' - 1 : Nat) : Int) : Int) = ((q1' - 1 : Nat) : Int) from rfl]
      refine Q1s ?_ (by omega)
      have e1 := Nat.div_add_mod (hi * HH + u1) y
      rw [← HQ2.out, ← HR.out] at e1
      have e2 : ((q1' - 1 : Nat) : Int) * (y : Int) = ((y * (q1' - 1) : Nat) : Int) := by rw [Nat.mul_comm]; simp
      rw [e2]; unfold HH at e1; omega
     obtain ⟨q0, hq0⟩ : ∃ q0, q0 = Rm / y1 := ⟨_, rfl⟩
     obtain ⟨p0, hp0⟩ : ∃ p0, p0 = q0 * y1 := ⟨_, rfl⟩
     have hp0' : p0 ≤ Rm := by rw [hp0, hq0]; exact Nat.div_mul_le_self _ _
     have d2 : (Rm : Int) / (y1 : Int) = q0 := by rw [hq0]; simp
     have d3 : IntKind.u64.wrap ((q0 : Int) * (y1 : Int)) = p0 := by rw [show (q0 : Int) * (y1 : Int) = (p0 : Int) by rw [hp0]; simp]; exact Qh p0 (by omega)
     have d4 : IntKind.u64.wrap ((Rm : Int) - (p0 : Int)) = ((Rm - p0 : Nat) : Int) := by rw [Qd (by omega) (by omega)]; omega
     have d5 : IntKind.u64.wrap (q0 : Int) = q0 := Qh q0 (by rw [hq0]; have := Nat.div_le_self Rm y1; omega)
     have HI2 : Hid (KI Rm y1 y0 u0 q0 (Rm - p0)) := by have := KI.start HK2.out; rw [← hq0, ← hp0] at this; exact this
     clear hq0 hp0
     go_wp2
     go_loop [18, 16] (fun a b => ∃ q r : Nat, a = .int .u64 q ∧ b = .int .u64 r ∧ KI Rm y1 y0 u0 q r) (fun a _ => (intOf a).toNat)
     case atStart => exact ⟨q0, Rm - p0, by congr 1, by congr 1, HI2.out⟩
     case round =>
      obtain ⟨q, r, rfl, rfl, hI⟩ := hrel
      have HI3 := Lh hI; clear hI
      have hqb := HI3.out.q_le HK2.out
      have hrb := HI3.out.rlt
      have hkb := And.intro HK2.out.y1' (And.intro HK2.out.y0 HK2.out.u)
      unfold HH at hqb hrb hkb
      clear d1 d2 d3 d4 d5 HI2
      have c1 : IntKind.u64.wrap (4294967296 * (r : Int)) = 4294967296 * (r : Int) := Qd (by omega) (by unfold BB; omega)
      have c2 : IntKind.u64.wrap (4294967296 * (r : Int) + (u0 : Int)) = 4294967296 * (r : Int) + (u0 : Int) := Qd (by omega) (by unfold BB; omega)
      obtain ⟨P, hP⟩ : ∃ P, P = q * y0 := ⟨_, rfl⟩
      have c4 : IntKind.u64.wrap ((r : Int) + (y1 : Int)) = (r : Int) + (y1 : Int) := Qd (by omega) (by unfold BB; omega)
      by_cases hyes : HH ≤ q ∨ HH * r + u0 < q * y0
      ·have HL2 := Lh (HI3.out.less HK2.out hyes)
       have hq0 := HL2.out.1
       have c3 : IntKind.u64.wrap ((q : Int) - 1) = ((q - 1 : Nat) : Int) := by rw [Qd (by omega) (by unfold BB; omega)]; omega
       have hcase : ((4294967296 : Int) ≤ (q : Int)) ∨ (¬ ((4294967296 : Int) ≤ (q : Int)) ∧ IntKind.u64.wrap ((q : Int) * (y0 : Int)) = (P : Int) ∧ 4294967296 * (r : Int) + (u0 : Int) < (P : Int)) := by
        by_cases hq : HH ≤ q
        ·exact .inl (by unfold HH at hq; omega)
        ·refine .inr ⟨by unfold HH at hq; omega, ?_, ?_⟩
         ·rw [show (q : Int) * (y0 : Int) = ((P : Nat) : Int) by rw [hP]; simp]
          refine Qh P ?_
          rw [hP]
          have h1 : q * y0 ≤ (HH - 1) * (HH - 1) := Nat.mul_le_mul (by omega) (by unfold HH; omega)
          unfold HH at h1; unfold BB; omega
         ·rcases hyes with h | h
          ·exact absurd h hq
          ·rw [← hP] at h; unfold HH at h; omega
       have HP2 := Lh (And.intro hP hyes); clear hP hyes
       by_cases hb : HH ≤ r + y1
       ·have hb' : (4294967296 : Int) ≤ (r : Int) + (y1 : Int) := by unfold HH at hb; omega
        have HB2 := Lh hb; clear hb
        have HF : Hid (q - 1 = (Rm * HH + u0) / (y1 * HH + y0)) := KI.broke HK2.out HL2.out.2.1 HL2.out.2.2 HB2.out
        have HE2 : Hid (FD hi lo y (q1' - 1) Rm u0 (q - 1)) :=
         Q0P (by omega) hhi hyB HK.out.2.1 HQ2.out HR.out (by have := HF.out; rw [HK.out.1] at this; exact this) hlo
        rcases hcase with hq' | ⟨hq', c5, hc'⟩
        all_goals
         go_wp2
         go_ret2
         first | exact ⟨QU HE2.out.2.1 HE2.out.2.2, rfl⟩ | exact ⟨QU HE2.out.1 HE2.out.2.2, rfl⟩ | exact ⟨QU ((congrArg IntKind.u64.wrap HE2.out.1).trans (Qh _ (Q14 hlo hhi))) HE2.out.2.2, rfl⟩
       ·have hb' : ¬ ((4294967296 : Int) ≤ (r : Int) + (y1 : Int)) := by unfold HH at hb; omega
        have HB2 := Lh hb; clear hb
        rcases hcase with hq' | ⟨hq', c5, hc'⟩
        all_goals
         go_wp2
         go_round
         case rel => exact ⟨q - 1, r + y1, rfl, by go_num, HL2.out.2.1, Nat.lt_of_not_le HB2.out, HL2.out.2.2⟩
         case measure => simp [intOf]; omega
      ·have hq' : ¬ ((4294967296 : Int) ≤ (q : Int)) := by
        have : ¬ HH ≤ q := fun h => hyes (.inl h)
        unfold HH at this; omega
       have c5 : IntKind.u64.wrap ((q : Int) * (y0 : Int)) = (P : Int) := by
        rw [show (q : Int) * (y0 : Int) = ((P : Nat) : Int) by rw [hP]; simp]
        refine Qh P ?_
        rw [hP]
        have h1 : q * y0 ≤ (HH - 1) * (HH - 1) := Nat.mul_le_mul (by unfold HH; omega) (by unfold HH; omega)
        unfold HH at h1; unfold BB; omega
       have hc' : ¬ (4294967296 * (r : Int) + (u0 : Int) < (P : Int)) := by
        have : ¬ HH * r + u0 < q * y0 := fun h => hyes (.inr h)
        rw [← hP] at this; unfold HH at this; omega
       have HP2 := Lh (And.intro hP hyes); clear hP hyes
       have HF : Hid (q = (Rm * HH + u0) / (y1 * HH + y0)) := HI3.out.done HK2.out (Nat.le_of_not_lt (fun h => HP2.out.2 (.inr h)))
       have HE2 : Hid (FD hi lo y (q1' - 1) Rm u0 q) :=
        Q0P (by omega) hhi hyB HK.out.2.1 HQ2.out HR.out (by have := HF.out; rw [HK.out.1] at this; exact this) hlo
       go_wp2
       go_ret2
       first | exact ⟨QU HE2.out.2.1 HE2.out.2.2, rfl⟩ | exact ⟨QU HE2.out.1 HE2.out.2.2, rfl⟩ | exact ⟨QU ((congrArg IntKind.u64.wrap HE2.out.1).trans (Qh _ (Q14 hlo hhi))) HE2.out.2.2, rfl⟩
   ·have hb' : ¬ ((4294967296 : Int) ≤ (r : Int) + (y1 : Int)) := by unfold HH at hb; omega
    have HB := Lh hb; clear hb
    rcases hcase with hq' | ⟨hq', c5, hc'⟩
    all_goals
     go_wp2
     go_round
     case rel => exact ⟨q1' - 1, r + y1, rfl, by go_num, HL.out.2.1, Nat.lt_of_not_le HB.out, HL.out.2.2⟩
     case measure => simp [intOf]; omega
  ·have hq' : ¬ ((4294967296 : Int) ≤ (q1' : Int)) := by
    have : ¬ HH ≤ q1' := fun h => hyes (.inl h)
    unfold HH at this; omega
   have c5 : IntKind.u64.wrap ((q1' : Int) * (y0 : Int)) = (P : Int) := by
    rw [show (q1' : Int) * (y0 : Int) = ((P : Nat) : Int) by rw [hP]; simp]
    refine Qh P ?_
    rw [hP]
    have h1 : q1' * y0 ≤ (HH - 1) * (HH - 1) := Nat.mul_le_mul (by unfold HH; omega) (by unfold HH; omega)
    unfold HH at h1; unfold BB; omega
   have hc' : ¬ (4294967296 * (r : Int) + (u1 : Int) < (P : Int)) := by
    have : ¬ HH * r + u1 < q1' * y0 := fun h => hyes (.inr h)
    rw [← hP] at this; unfold HH at this; omega
   have HP := Lh (And.intro hP hyes); clear hP hyes
   ·have HQ1 : Hid (q1' = (hi * HH + u1) / (y1 * HH + y0)) := HI.out.done HK.out.2.2 (Nat.le_of_not_lt (fun h => HP.out.2 (.inr h)))
    obtain ⟨Rm, hRm⟩ : ∃ Rm, Rm = (hi * HH + u1) % y := ⟨_, rfl⟩
    have hRy : Rm < y := by rw [hRm]; exact Nat.mod_lt _ (by omega)
    have HR := Lh hRm; clear hRm
    have HQ2 : Hid (q1' = (hi * HH + u1) / y) := by have := HQ1.out; rw [HK.out.1] at this; exact this
    have HK2 : Hid (KH Rm y1 y0 u0) := ⟨HK.out.2.2.y1, HK.out.2.2.y1', HK.out.2.2.y0, by have := HK.out.2.1; have := HK.out.2.2.u; unfold BB at hlo; rw [hu0e.out]; exact Nat.mod_lt _ (by unfold HH; omega), by rw [HK.out.1]; exact hRy⟩
    have d1 : IntKind.u64.wrap (IntKind.u64.wrap (IntKind.u64.wrap ((hi : Int) * 4294967296) + (u1 : Int)) - IntKind.u64.wrap ((q1' : Int) * (y : Int))) = (Rm : Int) := by
     rw [show ((q1' : Int) : Int) = ((q1' : Nat) : Int) from rfl]
     refine Q1s ?_ (by omega)
     have e1 := Nat.div_add_mod (hi * HH + u1) y
     rw [← HQ2.out, ← HR.out] at e1
     have e2 : ((q1' : Nat) : Int) * (y : Int) = ((y * (q1') : Nat) : Int) := by rw [Nat.mul_comm]; simp
     rw [e2]; unfold HH at e1; omega
    obtain ⟨q0, hq0⟩ : ∃ q0, q0 = Rm / y1 := ⟨_, rfl⟩
    obtain ⟨p0, hp0⟩ : ∃ p0, p0 = q0 * y1 := ⟨_, rfl⟩
    have hp0' : p0 ≤ Rm := by rw [hp0, hq0]; exact Nat.div_mul_le_self _ _
    have d2 : (Rm : Int) / (y1 : Int) = q0 := by rw [hq0]; simp
    have d3 : IntKind.u64.wrap ((q0 : Int) * (y1 : Int)) = p0 := by rw [show (q0 : Int) * (y1 : Int) = (p0 : Int) by rw [hp0]; simp]; exact Qh p0 (by omega)
    have d4 : IntKind.u64.wrap ((Rm : Int) - (p0 : Int)) = ((Rm - p0 : Nat) : Int) := by rw [Qd (by omega) (by omega)]; omega
    have d5 : IntKind.u64.wrap (q0 : Int) = q0 := Qh q0 (by rw [hq0]; have := Nat.div_le_self Rm y1; omega)
    have HI2 : Hid (KI Rm y1 y0 u0 q0 (Rm - p0)) := by have := KI.start HK2.out; rw [← hq0, ← hp0] at this; exact this
    clear hq0 hp0
    go_wp2
    go_loop [18, 16] (fun a b => ∃ q r : Nat, a = .int .u64 q ∧ b = .int .u64 r ∧ KI Rm y1 y0 u0 q r) (fun a _ => (intOf a).toNat)
    case atStart => exact ⟨q0, Rm - p0, by congr 1, by congr 1, HI2.out⟩
    case round =>
     obtain ⟨q, r, rfl, rfl, hI⟩ := hrel
     have HI3 := Lh hI; clear hI
     have hqb := HI3.out.q_le HK2.out
     have hrb := HI3.out.rlt
     have hkb := And.intro HK2.out.y1' (And.intro HK2.out.y0 HK2.out.u)
     unfold HH at hqb hrb hkb
     clear d1 d2 d3 d4 d5 HI2
     have c1 : IntKind.u64.wrap (4294967296 * (r : Int)) = 4294967296 * (r : Int) := Qd (by omega) (by unfold BB; omega)
     have c2 : IntKind.u64.wrap (4294967296 * (r : Int) + (u0 : Int)) = 4294967296 * (r : Int) + (u0 : Int) := Qd (by omega) (by unfold BB; omega)
     obtain ⟨P, hP⟩ : ∃ P, P = q * y0 := ⟨_, rfl⟩
     have c4 : IntKind.u64.wrap ((r : Int) + (y1 : Int)) = (r : Int) + (y1 : Int) := Qd (by omega) (by unfold BB; omega)
     by_cases hyes : HH ≤ q ∨ HH * r + u0 < q * y0
     ·have HL2 := Lh (HI3.out.less HK2.out hyes)
      have hq0 := HL2.out.1
      have c3 : IntKind.u64.wrap ((q : Int) - 1) = ((q - 1 : Nat) : Int) := by rw [Qd (by omega) (by unfold BB; omega)]; omega
      have hcase : ((4294967296 : Int) ≤ (q : Int)) ∨ (¬ ((4294967296 : Int) ≤ (q : Int)) ∧ IntKind.u64.wrap ((q : Int) * (y0 : Int)) = (P : Int) ∧ 4294967296 * (r : Int) + (u0 : Int) < (P : Int)) := by
       by_cases hq : HH ≤ q
       ·exact .inl (by unfold HH at hq; omega)
       ·refine .inr ⟨by unfold HH at hq; omega, ?_, ?_⟩
        ·rw [show (q : Int) * (y0 : Int) = ((P : Nat) : Int) by rw [hP]; simp]
         refine Qh P ?_
         rw [hP]
         have h1 : q * y0 ≤ (HH - 1) * (HH - 1) := Nat.mul_le_mul (by omega) (by unfold HH; omega)
         unfold HH at h1; unfold BB; omega
        ·rcases hyes with h | h
         ·exact absurd h hq
         ·rw [← hP] at h; unfold HH at h; omega
      have HP2 := Lh (And.intro hP hyes); clear hP hyes
      by_cases hb : HH ≤ r + y1
      ·have hb' : (4294967296 : Int) ≤ (r : Int) + (y1 : Int) := by unfold HH at hb; omega
       have HB2 := Lh hb; clear hb
       have HF : Hid (q - 1 = (Rm * HH + u0) / (y1 * HH + y0)) := KI.broke HK2.out HL2.out.2.1 HL2.out.2.2 HB2.out
       have HE2 : Hid (FD hi lo y q1' Rm u0 (q - 1)) :=
        Q0P (by omega) hhi hyB HK.out.2.1 HQ2.out HR.out (by have := HF.out; rw [HK.out.1] at this; exact this) hlo
       rcases hcase with hq' | ⟨hq', c5, hc'⟩
       all_goals
        go_wp2
        go_ret2
        first | exact ⟨QU HE2.out.2.1 HE2.out.2.2, rfl⟩ | exact ⟨QU HE2.out.1 HE2.out.2.2, rfl⟩ | exact ⟨QU ((congrArg IntKind.u64.wrap HE2.out.1).trans (Qh _ (Q14 hlo hhi))) HE2.out.2.2, rfl⟩
      ·have hb' : ¬ ((4294967296 : Int) ≤ (r : Int) + (y1 : Int)) := by unfold HH at hb; omega
       have HB2 := Lh hb; clear hb
       rcases hcase with hq' | ⟨hq', c5, hc'⟩
       all_goals
        go_wp2
        go_round
        case rel => exact ⟨q - 1, r + y1, rfl, by go_num, HL2.out.2.1, Nat.lt_of_not_le HB2.out, HL2.out.2.2⟩
        case measure => simp [intOf]; omega
     ·have hq' : ¬ ((4294967296 : Int) ≤ (q : Int)) := by
       have : ¬ HH ≤ q := fun h => hyes (.inl h)
       unfold HH at this; omega
      have c5 : IntKind.u64.wrap ((q : Int) * (y0 : Int)) = (P : Int) := by
       rw [show (q : Int) * (y0 : Int) = ((P : Nat) : Int) by rw [hP]; simp]
       refine Qh P ?_
       rw [hP]
       have h1 : q * y0 ≤ (HH - 1) * (HH - 1) := Nat.mul_le_mul (by unfold HH; omega) (by unfold HH; omega)
       unfold HH at h1; unfold BB; omega
      have hc' : ¬ (4294967296 * (r : Int) + (u0 : Int) < (P : Int)) := by
       have : ¬ HH * r + u0 < q * y0 := fun h => hyes (.inr h)
       rw [← hP] at this; unfold HH at this; omega
      have HP2 := Lh (And.intro hP hyes); clear hP hyes
      have HF : Hid (q = (Rm * HH + u0) / (y1 * HH + y0)) := HI3.out.done HK2.out (Nat.le_of_not_lt (fun h => HP2.out.2 (.inr h)))
      have HE2 : Hid (FD hi lo y q1' Rm u0 q) :=
       Q0P (by omega) hhi hyB HK.out.2.1 HQ2.out HR.out (by have := HF.out; rw [HK.out.1] at this; exact this) hlo
      go_wp2
      go_ret2
      first | exact ⟨QU HE2.out.2.1 HE2.out.2.2, rfl⟩ | exact ⟨QU HE2.out.1 HE2.out.2.2, rfl⟩ | exact ⟨QU ((congrArg IntKind.u64.wrap HE2.out.1).trans (Qh _ (Q14 hlo hhi))) HE2.out.2.2, rfl⟩
theorem Q2J (lo y : Nat) (hy : 0 < y) (hyB : y < BB) (hlo : lo < BB) (w : World) :
  Calls Tryz.prog 272 #[.int .u64 (0 : Nat), .int .u64 lo, .int .u64 y] w fun e w' => e = .returned (.tuple #[.int .u64 ((lo / y : Nat) : Int), .int .u64 ((lo % y : Nat) : Int)]) ∧ w' = w.drew := by
 have hg1 : ((y : Int) == 0) = false := by simp; omega
 have hg2 : ¬ ((y : Int) = 0) := by omega
 have hg3 : ¬ ((y : Int) ≤ 0) := by omega
 have hg4 : ¬ ((y : Int) ≤ ((0 : Nat) : Int)) := by omega
 obtain ⟨q, hq⟩ : ∃ q, q = lo / y := ⟨_, rfl⟩
 obtain ⟨r, hr⟩ : ∃ r, r = lo % y := ⟨_, rfl⟩
 have d1 : (lo : Int) / (y : Int) = (q : Int) := by rw [hq]; simp
 have d2 : (lo : Int) % (y : Int) = (r : Int) := by rw [hr]; simp
 have d3 : IntKind.u64.wrap (q : Int) = (q : Int) := Qh _ (by rw [hq]; exact Nat.lt_of_le_of_lt (Nat.div_le_self _ _) hlo)
 have d4 : IntKind.u64.wrap (r : Int) = (r : Int) := Qh _ (by rw [hr]; exact Nat.lt_of_le_of_lt (Nat.mod_le _ _) hlo)
 rw [← hq, ← hr]
 clear hq hr
 go_enter Tryz.func272, Tryz.ntmps272
 go_wp2
 go_region
 go_wp2
 go_ret2
 exact ⟨QU rfl d2, rfl⟩
theorem Q26 (hi lo y : Nat) (hy : 9223372036854775808 ≤ y ∨ hi = 0 ∧ 0 < y) (hyB : y < BB) (hhi : hi < y) (hlo : lo < BB) (w : World) :
  Calls Tryz.prog 239 #[.int .u64 hi, .int .u64 lo, .int .u64 y] w fun e w' => e = .returned (.tuple #[.int .u64 (((hi * BB + lo) / y : Nat) : Int), .int .u64 (((hi * BB + lo) % y : Nat) : Int)]) ∧ ∃ k, w' = w.drewN k := by
 have H : Hid (Calls Tryz.prog 272 #[.int .u64 hi, .int .u64 lo, .int .u64 y] w fun e w' => e = .returned (.tuple #[.int .u64 (((hi * BB + lo) / y : Nat) : Int), .int .u64 (((hi * BB + lo) % y : Nat) : Int)]) ∧ ∃ k, w' = w.drewN k) := by
  by_cases h0 : hi = 0
  ·subst h0
   rw [Nat.zero_mul, Nat.zero_add]
   exact (Q2J lo y (by omega) hyB hlo w).mono fun e w' ⟨h1, h2⟩ => ⟨h1, 1, h2⟩
  ·exact (Q2I hi lo y (by omega) hyB hhi (by omega) hlo w).mono fun e w' ⟨h1, h2⟩ => ⟨h1, 0, h2⟩
 obtain ⟨q, hq⟩ : ∃ q, q = (hi * BB + lo) / y := ⟨_, rfl⟩
 obtain ⟨r, hr⟩ : ∃ r, r = (hi * BB + lo) % y := ⟨_, rfl⟩
 rw [← hq, ← hr] at H ⊢
 clear hq hr
 go_enter Tryz.func239, Tryz.ntmps239
 go_wp2_with (go_at_call 272; refine H.out.mono ?_; rintro e w' ⟨rfl, k, rfl⟩)
 go_ret2
 exact ⟨rfl, _, rfl⟩
def recW (d : Nat) : Nat := (BB * BB - 1) / d - BB
theorem Q5Q {d : Nat} (h : 9223372036854775808 ≤ d) (hd : d < BB) : ((BB - 1 - d) * BB + (BB - 1)) / d = recW d := by
 unfold recW
 have e : BB * BB - 1 = d * BB + ((BB - 1 - d) * BB + (BB - 1)) := by
  rw [← Nat.add_assoc, ← Nat.add_mul, show d + (BB - 1 - d) = BB - 1 by omega, Nat.sub_mul, Nat.one_mul]
  have : BB * 1 ≤ BB * BB := Nat.mul_le_mul_left _ (by unfold BB; omega)
  have := Qv
  have h3 : d * BB ≤ (BB - 1) * BB := Nat.mul_le_mul_right _ (by omega)
  rw [Nat.sub_mul] at h3
  omega
 rw [e, Nat.mul_add_div (by omega), Nat.add_sub_cancel_left]
theorem Q8F {d : Nat} (h : 9223372036854775808 ≤ d) (hd : d < BB) : recW d < BB := by
 rw [← Q5Q h hd]
 exact Q14 (by omega) (by unfold BB at *; omega)
theorem Q7g {d : Nat} (h : 9223372036854775808 ≤ d) (hd : d < BB) : d * (recW d + BB) + d ≥ BB * BB ∧ d * (recW d + BB) < BB * BB := by
 have h1 : recW d + BB = (BB * BB - 1) / d := by
  unfold recW
  have : BB ≤ (BB * BB - 1) / d := by
   rw [Nat.le_div_iff_mul_le (by omega)]
   have : BB * (d + 1) ≤ BB * BB := Nat.mul_le_mul_left _ hd
   rw [Nat.mul_add] at this
   have := Qv
   omega
  omega
 rw [h1]
 have e := Nat.div_add_mod (BB * BB - 1) d
 have hm := Nat.mod_lt (BB * BB - 1) (show 0 < d by omega)
 have : BB * 1 ≤ BB * BB := Nat.mul_le_mul_left _ (by unfold BB; omega)
 have := Qv
 omega
structure Nm (y s : Nat) : Prop where
 pos : 0 < y
 lt : s < 64
 ge : 9223372036854775808 ≤ y * 2 ^ s
 le : y * 2 ^ s < BB
theorem Nm.of {y : Nat} (h : 0 < y) (hy : y < BB) : Nm y (64 - Lib.bitLen y) := by
 have h1 := Q0o hy
 have h2 := Q0E hy (by omega)
 have h3 := Q1r hy (by omega)
 have h4 := Q0F hy
 refine ⟨h, by omega, ?_, ?_⟩
 ·have : 2 ^ (Lib.bitLen y - 1) * 2 ^ (64 - Lib.bitLen y) ≤ y * 2 ^ (64 - Lib.bitLen y) := Nat.mul_le_mul_right _ h2
  rw [← Nat.pow_add, show Lib.bitLen y - 1 + (64 - Lib.bitLen y) = 63 by omega] at this
  exact this
 ·have : y * 2 ^ (64 - Lib.bitLen y) < 2 ^ Lib.bitLen y * 2 ^ (64 - Lib.bitLen y) := Nat.mul_lt_mul_of_pos_right h1 (Nat.two_pow_pos _)
  rw [← Nat.pow_add, show Lib.bitLen y + (64 - Lib.bitLen y) = 64 by omega] at this
  exact this
theorem Nm.uniq {y s : Nat} (h : Nm y s) : 64 - Lib.bitLen y = s := by
 have hy : y < BB := Nat.lt_of_le_of_lt (Nat.le_mul_of_pos_right _ (Nat.two_pow_pos _)) h.le
 have h64 : BB = 2 ^ (64 - s) * 2 ^ s := by rw [← Nat.pow_add, show 64 - s + s = 64 by have := h.lt; omega]; rfl
 have h63 : 9223372036854775808 = 2 ^ (64 - s - 1) * 2 ^ s := by rw [← Nat.pow_add, show 64 - s - 1 + s = 63 by have := h.lt; omega]
 have := Q0y (x := y) (n := 64 - s) hy (by have := h.le; rw [h64] at this; exact Nat.lt_of_mul_lt_mul_right this) (fun _ => by have := h.ge; rw [h63] at this; exact Nat.le_of_mul_le_mul_right this (Nat.two_pow_pos _))
 have := h.lt
 omega
theorem Q55 (y s : Nat) (h : Nm y s) (w : World) :
  Calls Tryz.prog 207 #[.int .u64 y] w fun e w' => e = .returned (.int .u64 (s : Int)) ∧ w' = w := by
 have hy : y < BB := Nat.lt_of_le_of_lt (Nat.le_mul_of_pos_right _ (Nat.two_pow_pos _)) h.le
 have := Q5N y hy w
 rw [h.uniq] at this
 exact this
theorem Q8G (a : Nat) (ha : a < 18446744073709551616) : bits .xor .u64 IntKind.u64.max (a : Int) = 18446744073709551615 - (a : Int) := by
 show IntKind.u64.wrap ((BitVec.ofInt 64 IntKind.u64.max ^^^ BitVec.ofInt 64 (a : Int)).toNat : Int) = _
 have h1 : BitVec.ofInt 64 IntKind.u64.max = BitVec.allOnes 64 := by decide
 rw [h1, BitVec.allOnes_xor, BitVec.toNat_not, ofInt_u64 a (by omega)]
 simp [IntKind.wrap, IntKind.bits, IntKind.signed]
 omega
theorem Q0q (y s : Nat) (h : Nm y s) (w : World) :
  Calls Tryz.prog 240 #[.int .u64 y] w fun e w' => e = .returned (.int .u64 (recW (y * 2 ^ s) : Nat)) ∧ ∃ k, w' = w.drewN k := by
 obtain ⟨d, hd⟩ : ∃ d, d = y * 2 ^ s := ⟨_, rfl⟩
 have H : Hid (9223372036854775808 ≤ d ∧ d < BB) := ⟨by rw [hd]; exact h.ge, by rw [hd]; exact h.le⟩
 have HN := Lh (Q55 y s h w)
 have a1 : min s 64 = s := by have := h.lt; omega
 have a2 : IntKind.u64.wrap ((y : Int) * 2 ^ s) = (d : Int) := by
  rw [Q0L, hd]; unfold shlW; rw [Nat.mod_eq_of_lt h.le]
 have HD := Lh (Q26 (BB - 1 - d) (BB - 1) d (.inl H.out.1) H.out.2 (by have := H.out; unfold BB at *; omega) (by have := Qv; omega) w)
 rw [Q5Q H.out.1 H.out.2] at HD
 rw [← hd]
 clear h hd
 have hdB := H.out.2
 unfold BB at hdB
 generalize ((BB - 1 - d) * BB + (BB - 1)) % d = r at HD
 generalize recW d = q at HD ⊢
 have hnot : bits .xor .u64 IntKind.u64.max (d : Int) = ((BB - 1 - d : Nat) : Int) := by rw [Q8G d hdB]; unfold BB; omega
 rw [show ((BB - 1 : Nat) : Int) = 18446744073709551615 from rfl] at HD
 generalize BB - 1 - d = c at HD hnot
 go_enter Tryz.func240, Tryz.ntmps240
 go_wp2_with (go_at_call 207; refine HN.out.mono ?_; rintro e w' ⟨rfl, hw⟩; subst w')
 go_at_call 239
 refine HD.out.mono ?_
 rintro e w' ⟨rfl, k, rfl⟩
 go_wp2
 go_ret
 exact ⟨rfl, k, rfl⟩
theorem Q6k {x1 x0 d : Nat} (hd : 9223372036854775808 ≤ d) (hdB : d < BB) (hx1 : x1 < d) (hx0 : x0 < BB) :
  d * ((recW d * x1 + x0) / BB + x1) ≤ x1 * BB + x0 ∧ x1 * BB + x0 < d * ((recW d * x1 + x0) / BB + x1) + (BB + d) := by
 obtain ⟨g1, g2⟩ := Q7g hd hdB
 obtain ⟨qq, hqq⟩ : ∃ qq, qq = (recW d * x1 + x0) / BB + x1 := ⟨_, rfl⟩
 obtain ⟨G, hG⟩ : ∃ G, G = recW d + BB := ⟨_, rfl⟩
 rw [← hG] at g1 g2
 have hT : qq * BB ≤ x1 * G + x0 ∧ x1 * G + x0 < qq * BB + BB := by
  have e := Nat.div_add_mod (recW d * x1 + x0) BB
  have hm := Nat.mod_lt (recW d * x1 + x0) Qv
  rw [hqq, hG, Nat.add_mul, Nat.mul_add, Nat.mul_comm x1 (recW d)]
  rw [Nat.mul_comm BB] at e
  omega
 rw [← hqq]
 obtain ⟨t1, t2⟩ := hT
 have u1 : d * (qq * BB) ≤ d * (x1 * G + x0) := Nat.mul_le_mul_left _ t1
 have u2 : d * (x1 * G + x0 + 1) ≤ d * (qq * BB + BB) := Nat.mul_le_mul_left _ t2
 have e1 : d * (x1 * G) = x1 * (d * G) := Nat.mul_left_comm _ _ _
 have k1 : x1 * (d * G) ≤ x1 * (BB * BB) := Nat.mul_le_mul_left _ (Nat.le_of_lt g2)
 have k2 : x1 * (BB * BB) ≤ x1 * (d * G + d) := Nat.mul_le_mul_left _ g1
 have k3 : d * x0 ≤ BB * x0 := Nat.mul_le_mul_right _ (Nat.le_of_lt hdB)
 have k4 : x1 * d ≤ d * d := Nat.mul_le_mul_right _ (Nat.le_of_lt hx1)
 have k5 : d * d ≤ d * BB := Nat.mul_le_mul_left _ (Nat.le_of_lt hdB)
 have e2 : d * (qq * BB) = (d * qq) * BB := (Nat.mul_assoc _ _ _).symm
 constructor
 ·refine Nat.le_of_mul_le_mul_right ?_ Qv
  rw [← e2, Nat.add_mul, Nat.mul_assoc, Nat.mul_comm x0]
  rw [Nat.mul_add, e1] at u1
  omega
 ·refine Nat.lt_of_mul_lt_mul_right (a := BB) ?_
  rw [Nat.add_mul, Nat.mul_assoc, Nat.add_mul, ← e2, Nat.add_mul]
  rw [Nat.mul_add, Nat.mul_add, e1, Nat.mul_one, Nat.mul_add] at u2
  rw [Nat.mul_add] at k2
  have k6 : (BB - d) * x0 ≤ (BB - d) * (BB - 1) := Nat.mul_le_mul_left _ (by omega)
  rw [Nat.sub_mul, Nat.sub_mul, Nat.mul_sub, Nat.mul_sub, Nat.mul_one, Nat.mul_one] at k6
  rw [Nat.mul_comm x0 BB]
  have k7 : d * BB ≤ BB * BB := Nat.mul_le_mul_right _ (Nat.le_of_lt hdB)
  have k8 : BB ≤ BB * BB := Nat.le_mul_of_pos_left _ Qv
  have k9 : d ≤ d * BB := Nat.le_mul_of_pos_right _ Qv
  have k10 : x1 * d + d ≤ d * d := by
   have : (x1 + 1) * d ≤ d * d := Nat.mul_le_mul_right _ hx1
   rw [Nat.add_mul, Nat.one_mul] at this
   exact this
  omega
theorem Q6l {X d qq R : Nat} (hd : 9223372036854775808 ≤ d) (hdB : d < BB) (h1 : d * qq + R = X) (h2 : R < BB + d) :
  (R < d → qq = X / d ∧ R = X % d) ∧ (d ≤ R → R < BB → qq + 1 = X / d ∧ R - d = X % d) ∧ (BB ≤ R → R - d < d → qq + 1 = X / d ∧ R - d = X % d) ∧ (BB ≤ R → d ≤ R - d → qq + 2 = X / d ∧ R - d - d = X % d) := by
 have key : ∀ q r, d * q + r = X → r < d → q = X / d ∧ r = X % d := fun q r e h => by
  rw [← e, Nat.mul_add_div (by omega), Nat.mul_add_mod, Nat.div_eq_of_lt h, Nat.mod_eq_of_lt h]; exact ⟨rfl, rfl⟩
 refine ⟨key _ _ h1, fun h3 h4 => key _ _ (by rw [Nat.mul_add]; omega) (by unfold BB at *; omega), fun h3 h4 => key _ _ (by rw [Nat.mul_add]; omega) h4, fun h3 h4 => key _ _ (by rw [Nat.mul_add]; omega) (by unfold BB at *; omega)⟩
theorem Q6m {X y s : Nat} (hy : 0 < y) : X * 2 ^ s / (y * 2 ^ s) = X / y ∧ X * 2 ^ s % (y * 2 ^ s) / 2 ^ s = X % y := by
 have hp := Nat.two_pow_pos s
 rw [Nat.mul_div_mul_right _ _ hp, Nat.mul_mod_mul_right, Nat.mul_div_cancel _ hp]
 exact ⟨rfl, rfl⟩
theorem Q6n {x1 x0 p1 p0 R : Nat} (h1 : x1 < BB) (h0 : x0 < BB) (hp1 : p1 < BB) (hp0 : p0 < BB) (h : p1 * BB + p0 + R = x1 * BB + x0) (hR : R < 2 * BB) :
  subs x0 p0 0 = R % BB ∧ subs x1 p1 (subb x0 p0 0) = R / BB := by
 have e1 := Q3C (x := x0) (y := p0) (c := 0) h0 hp0 (by omega)
 have l1 := Q3D x0 p0 0
 have e2 := Q3C (x := x1) (y := p1) (c := subb x0 p0 0) h1 hp1 (Q1D _ _ _)
 have l2 := Q3D x1 p1 (subb x0 p0 0)
 have b1 := Q1D x0 p0 0
 have b2 := Q1D x1 p1 (subb x0 p0 0)
 generalize subs x0 p0 0 = a at *
 generalize subb x0 p0 0 = b at *
 generalize subs x1 p1 b = c at *
 generalize subb x1 p1 b = d at *
 have hd : d = 0 := by
  rcases Nat.eq_zero_or_pos d with h | h
  ·exact h
  ·exfalso
   have : d = 1 := by omega
   subst this
   unfold BB at *
   omega
 subst hd
 unfold BB at *
 omega
theorem Q3m (x1 x0 y s : Nat) (h : Nm y s) (hx1 : x1 < y) (hx0 : x0 < BB) (w : World) :
  Calls Tryz.prog 241 #[.int .u64 x1, .int .u64 x0, .int .u64 y, .int .u64 (recW (y * 2 ^ s) : Nat)] w fun e w' => e = .returned (.tuple #[.int .u64 (((x1 * BB + x0) / y : Nat) : Int), .int .u64 (((x1 * BB + x0) % y : Nat) : Int)]) ∧ w' = w := by
 obtain ⟨d, hd⟩ : ∃ d, d = y * 2 ^ s := ⟨_, rfl⟩
 obtain ⟨m, hm⟩ : ∃ m, m = recW d := ⟨_, rfl⟩
 obtain ⟨Q, hQ⟩ : ∃ Q, Q = (x1 * BB + x0) / y := ⟨_, rfl⟩
 obtain ⟨Z, hZ⟩ : ∃ Z, Z = (x1 * BB + x0) % y := ⟨_, rfl⟩
 rw [← hd, ← hm, ← hQ, ← hZ]
 have hd1 : 9223372036854775808 ≤ d := by rw [hd]; exact h.ge
 have hdB : d < BB := by rw [hd]; exact h.le
 have hmB : m < BB := by rw [hm]; exact Q8F hd1 hdB
 obtain ⟨X1, hX1⟩ : ∃ X1, X1 = shlW x1 s + shrW x0 (64 - s) := ⟨_, rfl⟩
 obtain ⟨X0, hX0⟩ : ∃ X0, X0 = shlW x0 s := ⟨_, rfl⟩
 have hyB : y < BB := Nat.lt_of_le_of_lt (Nat.le_mul_of_pos_right _ (Nat.two_pow_pos _)) h.le
 have hX0B : X0 < BB := by rw [hX0]; exact Q2p _ _
 have hst : s + (64 - s) = 64 := by have := h.lt; omega
 have hXX : X1 * BB + X0 = (x1 * BB + x0) * 2 ^ s ∧ X1 < d := by
  have e0 := Q2o (x := x0) hst
  have e1 : shlW x1 s = x1 * 2 ^ s := by
   unfold shlW
   refine Nat.mod_eq_of_lt ?_
   refine Nat.lt_of_le_of_lt (Nat.mul_le_mul_right _ (Nat.le_of_lt hx1)) h.le
  have l0 := Q1d (x := x0) hst hx0
  constructor
  ·rw [hX1, hX0, e1, Nat.add_mul, Nat.add_mul, e0, Nat.mul_right_comm]
   omega
  ·have : (x1 + 1) * 2 ^ s ≤ y * 2 ^ s := Nat.mul_le_mul_right _ hx1
   rw [Nat.add_mul, Nat.one_mul] at this
   rw [hX1, hd, e1]
   omega
 obtain ⟨hXX, hX1d⟩ := hXX
 obtain ⟨qq, hqq⟩ : ∃ qq, qq = (m * X1 + X0) / BB + X1 := ⟨_, rfl⟩
 have hlaw := Q6k hd1 hdB hX1d hX0B
 rw [← hm, ← hqq] at hlaw
 obtain ⟨R, hR⟩ : ∃ R, R = X1 * BB + X0 - d * qq := ⟨_, rfl⟩
 have hRe : d * qq + R = X1 * BB + X0 := by omega
 have hRl : R < BB + d := by omega
 have hdiv := Q6m (X := x1 * BB + x0) (s := s) h.pos
 rw [← hXX, ← hd, ← hQ, ← hZ] at hdiv
 have hfix := Q6l hd1 hdB hRe hRl
 have hQB : Q < BB := by rw [hQ]; exact Q14 hx0 hx1
 have hqB : qq < BB := by
  rcases Nat.lt_or_ge qq BB with h | h
  ·exact h
  ·have h1 : d * BB ≤ d * qq := Nat.mul_le_mul_left _ h
   have h2 : (X1 + 1) * BB ≤ d * BB := Nat.mul_le_mul_right _ hX1d
   rw [Nat.add_mul, Nat.one_mul] at h2
   omega
 have hpB := Q2j hdB hqB
 have hmul := Q4W d qq
 have hml := Q2i d qq
 have hmh := Q3E hdB hqB
 have hsw := Q6n (x1 := X1) (x0 := X0) (p1 := mulh d qq) (p0 := mull d qq) (R := R) (by omega) hX0B (by omega) hml (by omega) (by omega)
 have hqa : adds (mulh m X1) X1 (addc (mull m X1) X0 0) = qq := by
  have e1 := Q5G (x := m) (y := X1) (c := X0)
  unfold mah at e1
  unfold adds
  rw [show mulh m X1 + X1 + addc (mull m X1) X0 0 = qq by omega]
  exact Nat.mod_eq_of_lt hqB
 have hc1 := Q2h (x := mull m X1) (y := X0) (c := 0) (Q2i _ _) hX0B (by omega)
 have hc2 := Q1D X0 (mull d qq) 0
 have HF := Lh (And.intro hfix (And.intro hdiv (And.intro hRe hRl)))
 obtain ⟨D1, hD1⟩ : ∃ D1, D1 = mulh d qq := ⟨_, rfl⟩
 obtain ⟨D0, hD0⟩ : ∃ D0, D0 = mull d qq := ⟨_, rfl⟩
 obtain ⟨T1, hT1⟩ : ∃ T1, T1 = mulh m X1 := ⟨_, rfl⟩
 obtain ⟨T0, hT0⟩ : ∃ T0, T0 = mull m X1 := ⟨_, rfl⟩
 obtain ⟨c1, hc1'⟩ : ∃ c1, c1 = addc T0 X0 0 := ⟨_, rfl⟩
 obtain ⟨c2, hc2'⟩ : ∃ c2, c2 = subb X0 D0 0 := ⟨_, rfl⟩
 rw [← hT1, ← hT0, ← hc1'] at hqa
 rw [← hT0, ← hc1'] at hc1
 rw [← hD0, ← hc2'] at hc2
 rw [← hD0, ← hD1, ← hc2'] at hsw
 obtain ⟨R0, hR0⟩ : ∃ R0, R0 = R % BB := ⟨_, rfl⟩
 obtain ⟨R1, hR1⟩ : ∃ R1, R1 = R / BB := ⟨_, rfl⟩
 rw [← hR0, ← hR1] at hsw
 have HM1 : Hid (Calls Tryz.prog 228 #[.int .u64 m, .int .u64 X1] w fun e w' => e = .returned (.tuple #[.int .u64 (T1 : Nat), .int .u64 (T0 : Nat)]) ∧ w' = w) := by
  have := Q2q m X1 hmB (by omega) w
  rw [← hT1, ← hT0] at this
  exact this
 have HA1 : Hid (Calls Tryz.prog 215 #[.int .u64 T0, .int .u64 X0, .int .u64 0] w fun e w' => e = .returned (.tuple #[.int .u64 (adds T0 X0 0 : Nat), .int .u64 (c1 : Nat)]) ∧ w' = w) := by
  have := Q0i T0 X0 0 (by omega) w
  rw [← hc1'] at this
  exact this
 have HA2 : Hid (Calls Tryz.prog 215 #[.int .u64 T1, .int .u64 X1, .int .u64 c1] w fun e w' => e = .returned (.tuple #[.int .u64 (qq : Nat), .int .u64 (addc T1 X1 c1 : Nat)]) ∧ w' = w) := by
  have := Q0i T1 X1 c1 hc1 w
  rw [hqa] at this
  exact this
 have HM2 : Hid (Calls Tryz.prog 228 #[.int .u64 d, .int .u64 qq] w fun e w' => e = .returned (.tuple #[.int .u64 (D1 : Nat), .int .u64 (D0 : Nat)]) ∧ w' = w) := by
  have := Q2q d qq hdB hqB w
  rw [← hD1, ← hD0] at this
  exact this
 have HS1 : Hid (Calls Tryz.prog 217 #[.int .u64 X0, .int .u64 D0, .int .u64 0] w fun e w' => e = .returned (.tuple #[.int .u64 (R0 : Nat), .int .u64 (c2 : Nat)]) ∧ w' = w) := by
  have := Q3H X0 D0 0 (by omega) w
  rw [hsw.1, ← hc2'] at this
  exact this
 have HS2 : Hid (Calls Tryz.prog 217 #[.int .u64 X1, .int .u64 D1, .int .u64 c2] w fun e w' => e = .returned (.tuple #[.int .u64 (R1 : Nat), .int .u64 (subb X1 D1 c2 : Nat)]) ∧ w' = w) := by
  have := Q3H X1 D1 c2 hc2 w
  rw [hsw.2] at this
  exact this
 have HN := Lh (Q55 y s h w)
 generalize subb X1 D1 c2 = g1 at HS2
 generalize addc T1 X1 c1 = g2 at HA2
 generalize adds T0 X0 0 = g3 at HA1
 have HK : Hid ((R1 = 0 ∧ R0 < d ∧ qq = Q ∧ R0 / 2 ^ s = Z) ∨ (R1 = 0 ∧ d ≤ R0 ∧ qq + 1 = Q ∧ (R0 - d) / 2 ^ s = Z) ∨ (R1 = 1 ∧ R0 + BB - d < d ∧ qq + 1 = Q ∧ (R0 + BB - d) / 2 ^ s = Z) ∨ (R1 = 1 ∧ d ≤ R0 + BB - d ∧ qq + 2 = Q ∧ (R0 + BB - d - d) / 2 ^ s = Z)) := by
  obtain ⟨f1, f2, f3, f4⟩ := hfix
  obtain ⟨v1, v2⟩ := hdiv
  rcases Nat.lt_or_ge R BB with hl | hl
  ·have e1 : R1 = 0 := by rw [hR1]; exact Nat.div_eq_of_lt hl
   have e0 : R0 = R := by rw [hR0]; exact Nat.mod_eq_of_lt hl
   rcases Nat.lt_or_ge R d with hl2 | hl2
   ·obtain ⟨g1, g2⟩ := f1 hl2
    exact .inl ⟨e1, by omega, g1.trans v1, by rw [e0, g2]; exact v2⟩
   ·obtain ⟨g1, g2⟩ := f2 hl2 hl
    exact .inr (.inl ⟨e1, by omega, g1.trans v1, by rw [e0, g2]; exact v2⟩)
  ·have e1 : R1 = 1 := by rw [hR1]; unfold BB at *; omega
   have e0 : R0 + BB = R := by rw [hR0]; unfold BB at *; omega
   rcases Nat.lt_or_ge (R - d) d with hl2 | hl2
   ·obtain ⟨g1, g2⟩ := f3 hl hl2
    exact .inr (.inr (.inl ⟨e1, by omega, g1.trans v1, by rw [e0, g2]; exact v2⟩))
   ·obtain ⟨g1, g2⟩ := f4 hl hl2
    exact .inr (.inr (.inr ⟨e1, by omega, g1.trans v1, by rw [e0, g2]; exact v2⟩))
 have hRd : R1 = 1 → R0 < d := by intro h1; rw [hR0]; rw [hR1] at h1; unfold BB at *; omega
 have hR0B : R0 < BB := by rw [hR0]; exact Nat.mod_lt _ Qv
 have hs64 : min s 64 = s := by have := h.lt; omega
 have hs64' : min (64 - s) 64 = 64 - s := by omega
 have hu1 : IntKind.u64.wrap (64 - (s : Int)) = ((64 - s : Nat) : Int) := by have := h.lt; rw [Qd (by omega) (by unfold BB; omega)]; omega
 have hz0 : s = 0 → X1 = x1 ∧ X0 = x0 ∧ d = y := by
  intro h0
  subst h0
  refine ⟨?_, ?_, by rw [hd]; omega⟩
  ·rw [hX1]; unfold shlW shrW
   rw [show x0 / 2 ^ (64 - 0) = 0 from Nat.div_eq_of_lt hx0, Nat.pow_zero, Nat.mul_one, Nat.mod_eq_of_lt (by omega)]; rfl
  ·rw [hX0]; unfold shlW; rw [Nat.pow_zero, Nat.mul_one, Nat.mod_eq_of_lt hx0]
 have hq1 : IntKind.u64.wrap ((qq : Int) + 1) = ((qq + 1 : Nat) : Int) ∨ qq + 1 = BB := by
  rcases Nat.lt_or_ge (qq + 1) BB with h | h
  ·exact .inl (by rw [Qd (by omega) (by omega)]; omega)
  ·exact .inr (by omega)
 have hor : bits .or .u64 ((shlW x1 s : Nat) : Int) ((shrW x0 (64 - s) : Nat) : Int) = (X1 : Int) := by rw [Q74 hst hx0, ← hX1]
 have hsl1 : IntKind.u64.wrap ((x1 : Int) * 2 ^ s) = ((shlW x1 s : Nat) : Int) := Q0L x1 s
 have hsl0 : IntKind.u64.wrap ((x0 : Int) * 2 ^ s) = (X0 : Int) := by rw [Q0L, ← hX0]
 have hsly : IntKind.u64.wrap ((y : Int) * 2 ^ s) = (d : Int) := by rw [Q0L, hd]; unfold shlW; rw [Nat.mod_eq_of_lt h.le]
 have hsr0 := Q0K x0 (64 - s)
 have H0 := Lh hz0
 generalize shlW x1 s = a1 at *
 generalize shrW x0 (64 - s) = a2 at *
 have hQ' := hQB
 clear hlaw hXX hX1d hqq hR hRe hRl hdiv hfix hpB hmul hml hmh hsw hqa hD1 hD0 hT1 hT0 hc1' hc2' hR0 hR1 hQ hZ hX1 hX0 hd hm hz0 HF hd1
 have HRd := Lh hRd; clear hRd
 have hcase : s = 0 ∨ 0 < s := Nat.eq_zero_or_pos s
 rcases HK.out with ⟨r1, k1, k2, k3⟩ | ⟨r1, k1, k2, k3⟩ | ⟨r1, k1, k2, k3⟩ | ⟨r1, k1, k2, k3⟩
 ·have hR0d := HRd.out
  rw [r1] at hR0d
  subst r1
  have v1 : ¬ ((d : Int) ≤ (R0 : Int)) := by omega
  have v2 : (R0 : Int) / 2 ^ s = (Z : Int) := by rw [Q0K]; unfold shrW; rw [k3]
  subst k2
  clear k3
  rcases hcase with hs | hs
  ·obtain ⟨z1, z2, z3⟩ := H0.out hs
   subst hs z1 z2 z3
   clear HK H0
   go_enter Tryz.func241, Tryz.ntmps241
   go_wp2_with fail
   go_at_call 207
   refine HN.out.mono ?_; rintro e w' ⟨rfl, hw⟩; subst w'
   go_wp2_with fail
   go_at_call 228
   refine HM1.out.mono ?_; rintro e w' ⟨rfl, hw⟩; subst w'
   go_wp2_with fail
   go_at_call 215
   refine HA1.out.mono ?_; rintro e w' ⟨rfl, hw⟩; subst w'
   go_wp2_with fail
   go_at_call 215
   refine HA2.out.mono ?_; rintro e w' ⟨rfl, hw⟩; subst w'
   go_wp2_with fail
   go_at_call 228
   refine HM2.out.mono ?_; rintro e w' ⟨rfl, hw⟩; subst w'
   go_wp2_with fail
   go_at_call 217
   refine HS1.out.mono ?_; rintro e w' ⟨rfl, hw⟩; subst w'
   go_wp2_with fail
   go_at_call 217
   refine HS2.out.mono ?_; rintro e w' ⟨rfl, hw⟩; subst w'
   go_wp2
   go_ret2
   exact ⟨QU rfl (by simpa using v2), rfl⟩
  ·have hsn : ((s : Int) == 0) = false := by simp; omega
   clear HK H0
   go_enter Tryz.func241, Tryz.ntmps241
   go_wp2_with fail
   go_at_call 207
   refine HN.out.mono ?_; rintro e w' ⟨rfl, hw⟩; subst w'
   go_wp2_with fail
   go_at_call 228
   refine HM1.out.mono ?_; rintro e w' ⟨rfl, hw⟩; subst w'
   go_wp2_with fail
   go_at_call 215
   refine HA1.out.mono ?_; rintro e w' ⟨rfl, hw⟩; subst w'
   go_wp2_with fail
   go_at_call 215
   refine HA2.out.mono ?_; rintro e w' ⟨rfl, hw⟩; subst w'
   go_wp2_with fail
   go_at_call 228
   refine HM2.out.mono ?_; rintro e w' ⟨rfl, hw⟩; subst w'
   go_wp2_with fail
   go_at_call 217
   refine HS1.out.mono ?_; rintro e w' ⟨rfl, hw⟩; subst w'
   go_wp2_with fail
   go_at_call 217
   refine HS2.out.mono ?_; rintro e w' ⟨rfl, hw⟩; subst w'
   go_wp2
   go_ret2
   exact ⟨rfl, rfl⟩
 ·have hR0d := HRd.out
  rw [r1] at hR0d
  subst r1
  have v1 : (d : Int) ≤ (R0 : Int) := by omega
  have v3 : IntKind.u64.wrap ((qq : Int) + 1) = (Q : Int) := by rw [Qd (by omega) (by omega)]; omega
  have v4 : IntKind.u64.wrap ((R0 : Int) - (d : Int)) = ((R0 - d : Nat) : Int) := by rw [Qd (by omega) (by omega)]; omega
  have v2 : ((R0 - d : Nat) : Int) / 2 ^ s = (Z : Int) := by rw [Q0K]; unfold shrW; rw [k3]
  clear k3
  generalize R0 - d = R2 at *
  rcases hcase with hs | hs
  ·obtain ⟨z1, z2, z3⟩ := H0.out hs
   subst hs z1 z2 z3
   clear HK H0
   go_enter Tryz.func241, Tryz.ntmps241
   go_wp2_with fail
   go_at_call 207
   refine HN.out.mono ?_; rintro e w' ⟨rfl, hw⟩; subst w'
   go_wp2_with fail
   go_at_call 228
   refine HM1.out.mono ?_; rintro e w' ⟨rfl, hw⟩; subst w'
   go_wp2_with fail
   go_at_call 215
   refine HA1.out.mono ?_; rintro e w' ⟨rfl, hw⟩; subst w'
   go_wp2_with fail
   go_at_call 215
   refine HA2.out.mono ?_; rintro e w' ⟨rfl, hw⟩; subst w'
   go_wp2_with fail
   go_at_call 228
   refine HM2.out.mono ?_; rintro e w' ⟨rfl, hw⟩; subst w'
   go_wp2_with fail
   go_at_call 217
   refine HS1.out.mono ?_; rintro e w' ⟨rfl, hw⟩; subst w'
   go_wp2_with fail
   go_at_call 217
   refine HS2.out.mono ?_; rintro e w' ⟨rfl, hw⟩; subst w'
   go_wp2
   go_ret2
   exact ⟨QU rfl (by simpa using v2), rfl⟩
  ·have hsn : ((s : Int) == 0) = false := by simp; omega
   clear HK H0
   go_enter Tryz.func241, Tryz.ntmps241
   go_wp2_with fail
   go_at_call 207
   refine HN.out.mono ?_; rintro e w' ⟨rfl, hw⟩; subst w'
   go_wp2_with fail
   go_at_call 228
   refine HM1.out.mono ?_; rintro e w' ⟨rfl, hw⟩; subst w'
   go_wp2_with fail
   go_at_call 215
   refine HA1.out.mono ?_; rintro e w' ⟨rfl, hw⟩; subst w'
   go_wp2_with fail
   go_at_call 215
   refine HA2.out.mono ?_; rintro e w' ⟨rfl, hw⟩; subst w'
   go_wp2_with fail
   go_at_call 228
   refine HM2.out.mono ?_; rintro e w' ⟨rfl, hw⟩; subst w'
   go_wp2_with fail
   go_at_call 217
   refine HS1.out.mono ?_; rintro e w' ⟨rfl, hw⟩; subst w'
   go_wp2_with fail
   go_at_call 217
   refine HS2.out.mono ?_; rintro e w' ⟨rfl, hw⟩; subst w'
   go_wp2
   go_ret2
   exact ⟨rfl, rfl⟩
 ·have hR0d := HRd.out
  rw [r1] at hR0d
  subst r1
  have v3 : IntKind.u64.wrap ((qq : Int) + 1) = (Q : Int) := by rw [Qd (by omega) (by omega)]; omega
  have v4 : IntKind.u64.wrap ((R0 : Int) - (d : Int)) = ((R0 + BB - d : Nat) : Int) := by rw [Q15]; unfold BB at *; omega
  have v2 : ((R0 + BB - d : Nat) : Int) / 2 ^ s = (Z : Int) := by rw [Q0K]; unfold shrW; rw [k3]
  have v1 : ¬ ((d : Int) ≤ ((R0 + BB - d : Nat) : Int)) := by omega
  clear k3
  generalize R0 + BB - d = R2 at *
  rcases hcase with hs | hs
  ·obtain ⟨z1, z2, z3⟩ := H0.out hs
   subst hs z1 z2 z3
   clear HK H0
   go_enter Tryz.func241, Tryz.ntmps241
   go_wp2_with fail
   go_at_call 207
   refine HN.out.mono ?_; rintro e w' ⟨rfl, hw⟩; subst w'
   go_wp2_with fail
   go_at_call 228
   refine HM1.out.mono ?_; rintro e w' ⟨rfl, hw⟩; subst w'
   go_wp2_with fail
   go_at_call 215
   refine HA1.out.mono ?_; rintro e w' ⟨rfl, hw⟩; subst w'
   go_wp2_with fail
   go_at_call 215
   refine HA2.out.mono ?_; rintro e w' ⟨rfl, hw⟩; subst w'
   go_wp2_with fail
   go_at_call 228
   refine HM2.out.mono ?_; rintro e w' ⟨rfl, hw⟩; subst w'
   go_wp2_with fail
   go_at_call 217
   refine HS1.out.mono ?_; rintro e w' ⟨rfl, hw⟩; subst w'
   go_wp2_with fail
   go_at_call 217
   refine HS2.out.mono ?_; rintro e w' ⟨rfl, hw⟩; subst w'
   go_wp2
   go_ret2
   exact ⟨QU rfl (by simpa using v2), rfl⟩
  ·have hsn : ((s : Int) == 0) = false := by simp; omega
   clear HK H0
   go_enter Tryz.func241, Tryz.ntmps241
   go_wp2_with fail
   go_at_call 207
   refine HN.out.mono ?_; rintro e w' ⟨rfl, hw⟩; subst w'
   go_wp2_with fail
   go_at_call 228
   refine HM1.out.mono ?_; rintro e w' ⟨rfl, hw⟩; subst w'
   go_wp2_with fail
   go_at_call 215
   refine HA1.out.mono ?_; rintro e w' ⟨rfl, hw⟩; subst w'
   go_wp2_with fail
   go_at_call 215
   refine HA2.out.mono ?_; rintro e w' ⟨rfl, hw⟩; subst w'
   go_wp2_with fail
   go_at_call 228
   refine HM2.out.mono ?_; rintro e w' ⟨rfl, hw⟩; subst w'
   go_wp2_with fail
   go_at_call 217
   refine HS1.out.mono ?_; rintro e w' ⟨rfl, hw⟩; subst w'
   go_wp2_with fail
   go_at_call 217
   refine HS2.out.mono ?_; rintro e w' ⟨rfl, hw⟩; subst w'
   go_wp2
   go_ret2
   exact ⟨rfl, rfl⟩
 ·have hR0d := HRd.out
  rw [r1] at hR0d
  subst r1
  have v3 : IntKind.u64.wrap ((qq : Int) + 1) = ((qq + 1 : Nat) : Int) := by rw [Qd (by omega) (by omega)]; omega
  have v5 : IntKind.u64.wrap (((qq + 1 : Nat) : Int) + 1) = (Q : Int) := by rw [Qd (by omega) (by omega)]; omega
  have v4 : IntKind.u64.wrap ((R0 : Int) - (d : Int)) = ((R0 + BB - d : Nat) : Int) := by rw [Q15]; unfold BB at *; omega
  have v6 : IntKind.u64.wrap (((R0 + BB - d : Nat) : Int) - (d : Int)) = ((R0 + BB - d - d : Nat) : Int) := by rw [Qd (by omega) (by omega)]; omega
  have v2 : ((R0 + BB - d - d : Nat) : Int) / 2 ^ s = (Z : Int) := by rw [Q0K]; unfold shrW; rw [k3]
  have v1 : (d : Int) ≤ ((R0 + BB - d : Nat) : Int) := by omega
  clear k3
  generalize R0 + BB - d - d = R3 at *
  generalize R0 + BB - d = R2 at *
  generalize qq + 1 = q1 at *
  rcases hcase with hs | hs
  ·obtain ⟨z1, z2, z3⟩ := H0.out hs
   subst hs z1 z2 z3
   clear HK H0
   go_enter Tryz.func241, Tryz.ntmps241
   go_wp2_with fail
   go_at_call 207
   refine HN.out.mono ?_; rintro e w' ⟨rfl, hw⟩; subst w'
   go_wp2_with fail
   go_at_call 228
   refine HM1.out.mono ?_; rintro e w' ⟨rfl, hw⟩; subst w'
   go_wp2_with fail
   go_at_call 215
   refine HA1.out.mono ?_; rintro e w' ⟨rfl, hw⟩; subst w'
   go_wp2_with fail
   go_at_call 215
   refine HA2.out.mono ?_; rintro e w' ⟨rfl, hw⟩; subst w'
   go_wp2_with fail
   go_at_call 228
   refine HM2.out.mono ?_; rintro e w' ⟨rfl, hw⟩; subst w'
   go_wp2_with fail
   go_at_call 217
   refine HS1.out.mono ?_; rintro e w' ⟨rfl, hw⟩; subst w'
   go_wp2_with fail
   go_at_call 217
   refine HS2.out.mono ?_; rintro e w' ⟨rfl, hw⟩; subst w'
   go_wp2
   go_ret2
   exact ⟨QU rfl (by simpa using v2), rfl⟩
  ·have hsn : ((s : Int) == 0) = false := by simp; omega
   clear HK H0
   go_enter Tryz.func241, Tryz.ntmps241
   go_wp2_with fail
   go_at_call 207
   refine HN.out.mono ?_; rintro e w' ⟨rfl, hw⟩; subst w'
   go_wp2_with fail
   go_at_call 228
   refine HM1.out.mono ?_; rintro e w' ⟨rfl, hw⟩; subst w'
   go_wp2_with fail
   go_at_call 215
   refine HA1.out.mono ?_; rintro e w' ⟨rfl, hw⟩; subst w'
   go_wp2_with fail
   go_at_call 215
   refine HA2.out.mono ?_; rintro e w' ⟨rfl, hw⟩; subst w'
   go_wp2_with fail
   go_at_call 228
   refine HM2.out.mono ?_; rintro e w' ⟨rfl, hw⟩; subst w'
   go_wp2_with fail
   go_at_call 217
   refine HS1.out.mono ?_; rintro e w' ⟨rfl, hw⟩; subst w'
   go_wp2_with fail
   go_at_call 217
   refine HS2.out.mono ?_; rintro e w' ⟨rfl, hw⟩; subst w'
   go_wp2
   go_ret2
   exact ⟨rfl, rfl⟩
theorem Q0V (a b c d : Nat) (w : World) :
  Calls Tryz.prog 244 #[.int .u64 a, .int .u64 b, .int .u64 c, .int .u64 d] w fun e w' => e = .returned (.bool (decide (c < a ∨ a = c ∧ d < b))) ∧ w' = w := by
 by_cases h1 : c < a
 ·have h1' : (c : Int) < (a : Int) := by omega
  go_enter Tryz.func244, Tryz.ntmps244
  go_wp2
  go_ret
  exact ⟨by first | rfl | (rw [decide_eq_true (.inl h1)]; rfl), rfl⟩
 ·have h1' : ¬ (c : Int) < (a : Int) := by omega
  by_cases h2 : a = c
  ·have h2' : ((a : Int) == (c : Int)) = true := by simp; omega
   by_cases h3 : d < b
   ·have h3' : (d : Int) < (b : Int) := by omega
    go_enter Tryz.func244, Tryz.ntmps244
    go_wp2
    go_ret
    exact ⟨by first | rfl | (rw [decide_eq_true (.inr ⟨h2, h3⟩)]; rfl), rfl⟩
   ·have h3' : ¬ (d : Int) < (b : Int) := by omega
    go_enter Tryz.func244, Tryz.ntmps244
    go_wp2
    go_ret
    exact ⟨by first | rfl | (rw [decide_eq_false (by omega)]; rfl), rfl⟩
  ·have h2' : ((a : Int) == (c : Int)) = false := by simp; omega
   go_enter Tryz.func244, Tryz.ntmps244
   go_wp2
   go_ret
   exact ⟨by first | rfl | (rw [decide_eq_false (by omega)]; rfl), rfl⟩
end Go.Proofs.YtegjllplmnpbdaaGreatDoor
