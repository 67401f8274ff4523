/- a part of the proof -/
import Derived.Test.YtpebcmfpehdafaaGreatDoorZ13
set_option linter.all false
set_option maxRecDepth 100000
set_option maxHeartbeats 16000000
namespace Go.Proofs.YtpebcmfpehdafaaGreatDoor
open Go Go.RowKit
theorem Q2h {W:World}{σ:Sg}{w:World}(h:St W σ w){bx ox:Nat}{x:Nat}(hx:Num σ bx ox (x:Int)) :
  Calls Tryz.prog 158 #[.pointer (some ⟨bx,ox,none⟩)] w fun e w'=>e=.returned (.bool (decide (x<BB)))∧w'=w:=by
 obtain ⟨xp,xl,xc,hX⟩:=h.za hx
 have hx0:=hX.cell0;have hx1:=hX.cell1
 rw [Ql] at hx0
 have hnt:=hX.nt
 rw [Int.natAbs_natCast] at hnt
 by_cases hl:x<BB
 ·have h1:(xl:Int)≤1:=by
   have:=hnt.len_of_lt (n:=1) (by simpa using hl)
   omega
  rw [decide_eq_true hl]
  clear hX hnt h hx hl
  go_enter Tryz.func158, Tryz.ntmps158
  go_wp2_with fail
  go_ret
  exact ⟨rfl,rfl⟩
 ·have h1:¬ (xl:Int)≤1:=by
   intro q
   have h2:=hnt.lt
   have h3:BB^xl≤BB^1:=Nat.pow_le_pow_right (by unfold BB;decide) (by omega)
   simp only [Nat.pow_one] at h3
   omega
  rw [decide_eq_false hl]
  clear hX hnt h hx hl
  go_enter Tryz.func158, Tryz.ntmps158
  go_wp2_with fail
  go_ret
  exact ⟨rfl,rfl⟩
theorem Q8v {w:World}{p:Option Addr}{l c x:Nat}(h:Nt w p l c x)(hx:x<BB) :
  Calls Tryz.prog 181 #[.slice p l c] w fun e w'=>e=.returned (.int .u64 (x:Int))∧w'=w:=by
 have hl1:=h.len_of_lt (n:=1) (by simpa using hx)
 rcases Nat.eq_zero_or_pos l with hl0 | hl0
 ·subst hl0
  obtain rfl:x=0:=h.zero_iff.1 rfl
  clear h hx hl1
  go_enter Tryz.func181, Tryz.ntmps181
  go_wp2_with fail
  go_ret
  exact ⟨rfl,rfl⟩
 ·obtain rfl:l=1:=by omega
  rcases h.cases with ⟨_,e,_⟩ | ⟨b,rfl,h1,h2,h3,h4,h5,h6,h7⟩
  ·cases e
  ·have hc:=h5.get 0 (by decide)
   rw [QX] at h6
   rw [Nat.add_zero,h6] at hc
   have e2:IntKind.u64.wrap (x:Int)=(x:Int):=Qg x hx
   clear h h1 h2 h3 h4 h5 h6 h7 hx hl0 hl1
   go_enter Tryz.func181, Tryz.ntmps181
   go_wp2_with fail
   go_ret
   exact ⟨rfl,rfl⟩
theorem Q7h {W:World}{σ:Sg}{w:World}(h:St W σ w){bx ox:Nat}{x:Nat}(hx:Num σ bx ox (x:Int))(hl:x<BB) :
  Calls Tryz.prog 159 #[.pointer (some ⟨bx,ox,none⟩)] w fun e w'=>e=.returned (.int .u64 (x:Int))∧w'=w:=by
 obtain ⟨xp,xl,xc,hX⟩:=h.za hx
 have hx1:=hX.cell1
 have hnt:=hX.nt
 rw [Int.natAbs_natCast] at hnt
 have HL:=Lh (Q8v hnt hl)
 clear hX hnt h hx hl
 go_enter Tryz.func159, Tryz.ntmps159
 go_wp2_with fail
 refine HL.out.mono ?_
 rintro e w1 ⟨rfl,hw⟩
 subst hw
 clear HL
 go_wp2_with fail
 go_ret
 exact ⟨rfl,rfl⟩
theorem Q2i {w:World}{bx ox:Nat}{v:Bool}(h:Calls Tryz.prog 158 #[.pointer (some ⟨bx,ox,none⟩)] w fun e w'=>e=.returned (.bool v)∧w'=w) :
  Calls Tryz.prog 115 #[.pointer (some ⟨bx,ox,none⟩)] w fun e w'=>e=.returned (.bool v)∧w'=w:=by
 have H:=Lh h
 clear h
 go_enter Tryz.func115, Tryz.ntmps115
 go_wp2_with fail
 refine H.out.mono ?_
 rintro e w1 ⟨rfl,hw⟩
 subst hw
 go_wp2_with fail
 go_ret
 exact ⟨rfl,rfl⟩
theorem Q7i {w:World}{bx ox:Nat}{v:Int}(h:Calls Tryz.prog 159 #[.pointer (some ⟨bx,ox,none⟩)] w fun e w'=>e=.returned (.int .u64 v)∧w'=w) :
  Calls Tryz.prog 116 #[.pointer (some ⟨bx,ox,none⟩)] w fun e w'=>e=.returned (.int .u64 v)∧w'=w:=by
 have H:=Lh h
 clear h
 go_enter Tryz.func116, Tryz.ntmps116
 go_wp2_with fail
 refine H.out.mono ?_
 rintro e w1 ⟨rfl,hw⟩
 subst hw
 go_wp2_with fail
 go_ret
 exact ⟨rfl,rfl⟩
theorem Q1Z {W:World}{σ:Sg}{w:World}(h:St W σ w){bz oz:Nat}{vz:Int}{m:Nat}(hz:Num σ bz oz vz)(hm:m<BB) :
  Calls Tryz.prog 160 #[.pointer (some ⟨bz,oz,none⟩),.int .u64 (m:Int)] w fun e w'=>e=.returned (.pointer (some ⟨bz,oz,none⟩))∧St W (setN σ bz (m:Int)) w':=by
 obtain ⟨zp,zl,zc,hZz⟩:=h.za hz
 have hz0:=hZz.cell0;have hz1:=hZz.cell1
 have HA:=Lh (Q1v zp zl zc m hm w hZz.nt.1)
 obtain ⟨qz,hqz⟩:=hz.some
 have HOz:=Lh hqz;clear hqz
 have HZz:=Lh hZz;clear hZz hz
 have HM:Hid ((m:Int).natAbs=m):=Lh (Int.natAbs_natCast _)
 clear h hm
 go_enter Tryz.func160, Tryz.ntmps160
 go_wp2_with (go_at_call 182;refine HA.out.mono ?_;rintro e w1 ⟨p,l,c,rfl,hR⟩;have HP:=Lh (HZz.out.put _ p l c w1 (m:Int) hR HM.out.symm);clear hR;have hzf1:=HZz.out.fz1;have hzf0:=HZz.out.fz0;have kz1:=(HP.out.1 bz qz HOz.out (oz+1)).1.trans hz1;have kf1:=(HP.out.1 bz qz HOz.out (oz+1)).2.trans hzf1;have kf0:=(HP.out.1 bz qz HOz.out oz).2.trans hzf0;have kz0:=(HP.out.1 bz qz HOz.out oz).1.trans hz0;clear hzf1 hzf0)
 go_ret
 refine ⟨rfl,?_⟩
 have:=HP.out.2
 rw [Ql] at this
 exact this
theorem Q20 {w:World}{bz oz:Nat}{v:Int}{R:World→Prop}(h:Calls Tryz.prog 160 #[.pointer (some ⟨bz,oz,none⟩),.int .u64 v] w fun e w'=>e=.returned (.pointer (some ⟨bz,oz,none⟩))∧R w') :
  Calls Tryz.prog 117 #[.pointer (some ⟨bz,oz,none⟩),.int .u64 v] w fun e w'=>e=.returned (.pointer (some ⟨bz,oz,none⟩))∧R w':=by
 have H:=Lh h
 clear h
 go_enter Tryz.func117, Tryz.ntmps117
 go_wp2_with (go_at_call 160;refine H.out.mono ?_;rintro e w1 ⟨rfl,hR⟩;have HR:=Lh hR;clear hR)
 go_ret
 exact ⟨rfl,HR.out⟩
theorem Q56 {W:World}{σ:Sg}{w:World}(h:St W σ w){bz oz:Nat}{x:Nat}(hz:Num σ bz oz (x:Int)) :
  Calls Tryz.prog 166 #[.pointer (some ⟨bz,oz,none⟩),.pointer (some ⟨bz,oz,none⟩)] w fun e w'=>e=.returned (.pointer (some ⟨bz,oz,none⟩))∧St W (setN σ bz (-(x:Int))) w':=by
 have HS:=Lh (Q2e h hz)
 obtain ⟨zp,zl,zc,hZ⟩:=h.za hz
 have hz0:=hZ.cell0;have hz1:=hZ.cell1;have hf0:=hZ.fz0
 rw [Ql] at hz0
 have hnt:=hZ.nt
 rw [Int.natAbs_natCast] at hnt
 have hzi:=hnt.zero_iff
 have HR:=Lh (h.sign hz (-(x:Int)) (by omega))
 by_cases hx:x=0
 ·have hl:zl=0:=hzi.2 hx
  have HD:Hid (decide (-(x:Int)<0)=false):=Lh (by rw [hx];rfl)
  subst hl
  clear h hz hZ hnt hzi hx
  go_enter Tryz.func166, Tryz.ntmps166
  go_wp2_with (go_at_call 161;refine HS.out.mono ?_;rintro e w1 ⟨rfl,hw⟩;subst hw)
  go_ret
  refine ⟨rfl,?_⟩
  have:=HR.out
  rw [HD.out] at this
  exact this
 ·have hl:(0:Int)<(zl:Int):=by
   have:zl≠0:=fun q=>hx (hzi.1 q)
   omega
  have HD:Hid (decide (-(x:Int)<0)=true):=Lh (by rw [decide_eq_true];omega)
  clear h hz hZ hnt hzi hx
  go_enter Tryz.func166, Tryz.ntmps166
  go_wp2_with (go_at_call 161;refine HS.out.mono ?_;rintro e w1 ⟨rfl,hw⟩;subst hw)
  go_ret
  refine ⟨rfl,?_⟩
  have:=HR.out
  rw [HD.out] at this
  exact this
end Go.Proofs.YtpebcmfpehdafaaGreatDoor
