/- a part of the proof: what functions that the statement reaches do -/
import Derived.Test.YtegjllplmnpbdaaGreatDoorZ38
set_option linter.all false
set_option maxRecDepth 100000
set_option maxHeartbeats 16000000
namespace Go.Proofs.YtegjllplmnpbdaaGreatDoor
open Go Go.RowKit
def byteAt (s : ByteArray) (k : Nat) : Nat := (s.data[k]?.getD 48).toNat
def SI (W1 : World) (br : Nat) (s : ByteArray) (v : Value) (gk k ii d : Nat) (p : Option Addr) (l c x : Nat) (err ch : Value) (w : World) : Prop :=
 k + gk = s.size ∧ ii < 19 ∧ d < 10 ^ ii ∧ valS s k = x * 10 ^ ii + d ∧ ((gk = 0 ∧ err = v ∧ ZR W1 br s s.size p l c x w) ∨ (0 < gk ∧ err = .nilIface ∧ ch = .int .u8 ((byteAt s k : Nat) : Int) ∧ ZR W1 br s (k + 1) p l c x w))
theorem Q9l {W1 : World} {br : Nat} {s : ByteArray} {w : World} (h : ZR W1 br s 0 none 0 0 0 w) (h0 : 0 < s.size) (h100 : s.size ≤ 100) (hd : ∀ k (h : k < s.size), 48 ≤ s[k].toNat ∧ s[k].toNat ≤ 57) (Tv : TypeId) (av : Value) (hv : W1.cell? ⟨0, 0, none⟩ = some (.iface Tv av)) (hEq : ∀ w2, Below W1.heap.size W1 w2 → (binOp .eql 63 (.iface Tv av) (.iface Tv av)).run Tryz.prog w2 = .ok (.bool true) w2) :
  Calls Tryz.prog 188 #[.slice none 0 0, .iface 158 (.pointer (some ⟨br, 0, none⟩)), .int .i64 10, .bool false] w fun e w' => ∃ p l c, e = .returned (.tuple #[.slice p l c, .int .i64 10, .int .i64 (s.size : Int), .nilIface]) ∧ ZR W1 br s s.size p l c (valS s s.size) w' := by
 have HD : Hid (∀ k, k < s.size → 48 ≤ byteAt s k ∧ byteAt s k ≤ 57) := fun k hk => by
  unfold byteAt; rw [Array.getElem?_eq_getElem (by exact hk)]; exact hd k hk
 have HRd : Hid (∀ (k : Nat) (p : Option Addr) (l c x : Nat) (w2 : World), ZR W1 br s k p l c x w2 → k < s.size → Calls Tryz.prog 324 #[.pointer (some ⟨br, 0, none⟩)] w2 fun e w' => e = .returned (.tuple #[.int .u8 ((byteAt s k : Nat) : Int), .nilIface]) ∧ ZR W1 br s (k + 1) p l c x w') := fun k p l c x w2 hz hk => by
  have := hz.read hk (by omega)
  unfold byteAt; rw [Array.getElem?_eq_getElem (by exact hk)]
  exact this
 have HRe : Hid (∀ (p : Option Addr) (l c x : Nat) (w2 : World), ZR W1 br s s.size p l c x w2 → Calls Tryz.prog 324 #[.pointer (some ⟨br, 0, none⟩)] w2 fun e w' => e = .returned (.tuple #[.int .u8 0, .iface Tv av]) ∧ ZR W1 br s s.size p l c x w') := fun p l c x w2 hz => hz.readEnd (by omega) _ hv
 have HEq := Lh hEq
 have HMP := Lh Q4L
 have HVl : Hid (∀ k, k ≤ s.size → valS s k < 10 ^ k) := Q67 s hd
 have HL : Hid (∀ (k ii d x l c : Nat) (p : Option Addr) (w2 : World), k ≤ s.size → valS s k = x * 10 ^ ii + d → Nt w2 p l c x → l + 5 ≤ CAP) := fun k ii d x l c p w2 hk hx hn => by
  have h1 := Q67 s hd k hk
  have h2 : x < BB ^ 100 := by
   have : x ≤ x * 10 ^ ii := Nat.le_mul_of_pos_right _ (QR ii)
   have h3 : 10 ^ k ≤ 10 ^ 100 := QF (by omega)
   exact Nat.lt_of_lt_of_le (show x < 10 ^ 100 by omega) (by unfold BB; decide)
  have := hn.len_of_lt h2
  unfold CAP; omega
 have H0 := Lh h
 have Hv : Hid (∀ w2, Below W1.heap.size W1 w2 → w2.cell? ⟨0, 0, none⟩ = some (.iface Tv av)) := fun w2 hb => by
  rw [World.cell?_of_block (w := W1) (hb.block _ (World.block_lt_of_cell? _ _ hv))]; exact hv
 obtain ⟨n, hn⟩ : ∃ n, n = s.size := ⟨_, rfl⟩
 clear h hd hv hEq
 go_enter Tryz.func188, Tryz.ntmps188
 go_wp2_with fail
 refine (HRd.out 0 _ _ _ _ _ H0.out h0).mono ?_
 rintro e w2 ⟨rfl, hz⟩
 have H1 := Lh hz; clear hz H0
 go_wp2_with fail
 refine (HMP.out _).mono ?_
 rintro e w2 ⟨rfl, hw_⟩
 subst hw_
 go_wp2_with fail
 go_loopg [0, 10, 11, 13, 14, 15, 20, 21, 22] s.size (fun gk zv cnt err prev isv ch dv iv dp wr => ∃ (k ii d l c x : Nat) (p : Option Addr), zv = .slice p l c ∧ cnt = .int .i64 (k : Int) ∧ (∃ pv : Int, prev = .int .i32 pv ∧ (k = 0 ∨ pv = 48)) ∧ isv = .bool false ∧ dp = .int .i64 (-1) ∧ dv = .int .u64 (d : Int) ∧ iv = .int .i64 (ii : Int) ∧ SI W1 br s (.iface Tv av) gk k ii d p l c x err ch wr)
 case atStart => exact ⟨0, 0, 0, 0, 0, 0, none, rfl, rfl, ⟨46, rfl, .inl rfl⟩, rfl, rfl, rfl, rfl, by omega, by decide, by decide, rfl, .inr ⟨h0, rfl, rfl, H1.out⟩⟩
 case round =>
  obtain ⟨k, ii, d, l, c, x, p, rfl, rfl, ⟨pv, rfl, hpv⟩, rfl, rfl, rfl, rfl, hk, hii, hdd, hval, hcase⟩ := hrel
  have hB : d < BB := Nat.lt_trans (Nat.lt_of_lt_of_le hdd (QF (show ii ≤ 18 by omega))) (by unfold BB; decide)
  rcases hcase with ⟨rfl, rfl, hz⟩ | ⟨hg0, rfl, rfl, hz⟩
  ·obtain rfl : k = s.size := by omega
   have hpv2 : pv = 48 := by omega
   subst hpv2
   have g1 := Hv.out _ hz.st.below
   have g2 := HEq.out _ hz.st.below
   have hlen := HL.out s.size ii d x l c p _ (Nat.le_refl _) hval hz.nt
   have hzh := Lh hz; have hvh := Lh hval; have hlh := Lh hlen
   have hn0 : ((s.size : Int) == 0) = false := beq_eq_false_iff_ne.2 (by omega)
   clear hz hval hlen hpv
   rcases Nat.eq_zero_or_pos ii with hi0 | hi0
   ·subst hi0
    have hd0 : d = 0 := by simpa using hdd
    subst hd0
    go_wp2_with fail
    refine bodyPost_ret (Q0T rfl _ _ _) rfl ?_
    refine ⟨p, l, c, rfl, ?_⟩
    have := hvh.out
    rw [Nat.pow_zero, Nat.mul_one, Nat.add_zero] at this
    rw [this]
    exact hzh.out
   ·have HPw := Lh (fun w3 => Q9W ii hi0 hii w3)
    have hpB : 10 ^ ii < BB := Nat.lt_of_le_of_lt (QF (show ii ≤ 18 by omega)) (by unfold BB; decide)
    have HMA := Lh (hzh.out.mulAdd hlh.out (10 ^ ii) d hpB hB)
    generalize 10 ^ ii = T at HPw HMA hvh
    have hi1 : (0 : Int) < (ii : Int) := by omega
    clear hdd hpB
    go_wp2_with fail
    refine (HPw.out _).mono ?_
    rintro e w3 ⟨rfl, hw3⟩
    subst hw3
    go_wp2_with fail
    refine HMA.out.mono ?_
    rintro e w4 ⟨p4, l4, c4, rfl, hz4⟩
    have HZ4 := Lh hz4; clear hz4
    go_wp2_with fail
    refine bodyPost_ret (Q0T rfl _ _ _) rfl ?_
    refine ⟨p4, l4, c4, rfl, ?_⟩
    rw [hvh.out]
    exact HZ4.out
  ·obtain ⟨g, rfl⟩ : ∃ g, gk = g + 1 := ⟨gk - 1, by omega⟩
   have hks : k < s.size := by omega
   have hby := HD.out k hks
   have hvs : valS s (k + 1) = x * 10 ^ (ii + 1) + (d * 10 + (byteAt s k - 48)) := by
    show valS s k * 10 + (byteAt s k - 48) = _
    rw [hval, Nat.pow_succ, Nat.add_mul, Nat.mul_assoc, Nat.add_assoc]
   have hdd2 : d * 10 + (byteAt s k - 48) < 10 ^ (ii + 1) := by rw [Nat.pow_succ]; omega
   have hvb := HVl.out (k + 1) (by omega)
   have hlen := HL.out k ii d x l c p _ (by omega) hval hz.nt
   generalize byteAt s k = ch at hby hvs hdd2
   have hB2 : d * 10 + (ch - 48) < 18446744073709551616 := Nat.lt_of_lt_of_le hdd2 (Nat.le_trans (QF (show ii + 1 ≤ 19 by omega)) (by decide))
   have hpvh := Lh hpv; have hvsh := Lh hvs; have hddh := Lh hdd2; have hzh := Lh hz; have hlh := Lh hlen
   have e1 : (48 : Int) ≤ (ch : Int) := by omega
   have e2 : (ch : Int) ≤ 57 := by omega
   have e3 : ((ch : Int) == 46) = false := by simp; omega
   have e4 : ((ch : Int) == 95) = false := by simp; omega
   clear hpv hvs hdd2 hz hlen hval hdd hvb
   by_cases h19 : ii = 18
   ·subst h19
    go_wp2_with fail
    rw [show (d : Int) * 10 + ((ch : Int) - 48) = ((d * 10 + (ch - 48) : Nat) : Int) by omega]
    refine (hzh.out.mulAdd hlh.out 10000000000000000000 (d * 10 + (ch - 48)) (by unfold BB; decide) (by unfold BB; exact hB2)).mono ?_
    rintro e w3 ⟨p3, l3, c3, rfl, hz3⟩
    have HZ3 := Lh hz3; clear hz3
    go_wp2_with fail
    rcases Nat.lt_or_ge (k + 1) s.size with hk2 | hk2
    ·refine (HRd.out (k + 1) _ _ _ _ _ HZ3.out hk2).mono ?_
     rintro e w4 ⟨rfl, hz4⟩
     have HZ4 := Lh hz4; clear hz4
     go_wp2_with fail
     go_roundg g
     case measure => omega
     case rel => exact ⟨k + 1, 0, 0, l3, c3, (x * 10000000000000000000 + (d * 10 + (ch - 48))), p3, rfl, by first | rfl | (congr 1; omega), ⟨48, rfl, .inr rfl⟩, rfl, rfl, by first | rfl | (congr 1; omega), by first | rfl | (congr 1; omega), by omega, by omega, by decide, by rw [hvsh.out]; simp, .inr ⟨by omega, rfl, rfl, HZ4.out⟩⟩
    ·have hkk : k + 1 = s.size := by omega
     refine (HRe.out _ _ _ _ _ (hkk ▸ HZ3.out)).mono ?_
     rintro e w4 ⟨rfl, hz4⟩
     have HZ4 := Lh hz4; clear hz4
     go_wp2_with fail
     go_roundg g
     case measure => omega
     case rel => exact ⟨k + 1, 0, 0, l3, c3, (x * 10000000000000000000 + (d * 10 + (ch - 48))), p3, rfl, by first | rfl | (congr 1; omega), ⟨48, rfl, .inr rfl⟩, rfl, rfl, by first | rfl | (congr 1; omega), by first | rfl | (congr 1; omega), by omega, by omega, by decide, by rw [hvsh.out]; simp, .inl ⟨by omega, rfl, HZ4.out⟩⟩
   ·have h18 : (ii : Int) + 1 ≠ 19 := by omega
    have h18' : ((ii : Int) + 1 == 19) = false := by simp; omega
    go_wp2_with fail
    rcases Nat.lt_or_ge (k + 1) s.size with hk2 | hk2
    ·refine (HRd.out (k + 1) _ _ _ _ _ hzh.out hk2).mono ?_
     rintro e w4 ⟨rfl, hz4⟩
     have HZ4 := Lh hz4; clear hz4
     go_wp2_with fail
     go_roundg g
     case measure => omega
     case rel => exact ⟨k + 1, (ii + 1), (d * 10 + (ch - 48)), l, c, x, p, rfl, by first | rfl | (congr 1; omega), ⟨48, rfl, .inr rfl⟩, rfl, rfl, by first | rfl | (congr 1; omega), by first | rfl | (congr 1; omega), by omega, by omega, hddh.out, hvsh.out, .inr ⟨by omega, rfl, rfl, HZ4.out⟩⟩
    ·have hkk : k + 1 = s.size := by omega
     refine (HRe.out _ _ _ _ _ (hkk ▸ hzh.out)).mono ?_
     rintro e w4 ⟨rfl, hz4⟩
     have HZ4 := Lh hz4; clear hz4
     go_wp2_with fail
     go_roundg g
     case measure => omega
     case rel => exact ⟨k + 1, (ii + 1), (d * 10 + (ch - 48)), l, c, x, p, rfl, by first | rfl | (congr 1; omega), ⟨48, rfl, .inr rfl⟩, rfl, rfl, by first | rfl | (congr 1; omega), by first | rfl | (congr 1; omega), by omega, by omega, hddh.out, hvsh.out, .inl ⟨by omega, rfl, HZ4.out⟩⟩
end Go.Proofs.YtegjllplmnpbdaaGreatDoor
