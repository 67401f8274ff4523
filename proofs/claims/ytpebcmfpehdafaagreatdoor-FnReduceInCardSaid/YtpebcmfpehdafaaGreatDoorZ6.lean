/- a part of the proof -/
import Derived.Test.YtpebcmfpehdafaaGreatDoorZ5
set_option linter.all false
set_option maxRecDepth 100000
set_option maxHeartbeats 16000000
namespace Go.Proofs.YtpebcmfpehdafaaGreatDoor
open Go Go.RowKit
theorem Q5A {W:World}{σ:Sg}{w:World}(hW:GW W)(h:St W σ w){bz oz bx ox bu ou:Nat}{vz:Int}{x y:Nat}(hz:Num σ bz oz vz)(hx:Num σ bx ox (x:Int))(nex:bz≠bx)(hu:Num σ bu ou (y:Int))(neu:bz≠bu)(lx:x<BB^100)(ly:y<BB^100) :
  Calls Tryz.prog 151 #[.pointer (some ⟨bz,oz,none⟩),.pointer (some ⟨bx,ox,none⟩),.pointer (some ⟨bu,ou,none⟩)] w fun e w'=>e=.returned (.pointer (some ⟨bz,oz,none⟩))∧St W (setN σ bz ((x+y:Nat):Int)) w':=by
 obtain ⟨zp,zl,zc,hZz⟩:=h.za hz
 have hz0:=hZz.cell0;have hz1:=hZz.cell1
 obtain ⟨xp,xl,xc,hZx⟩:=h.za hx
 have hx0:=hZx.cell0;have hx1:=hZx.cell1
 rw [Ql] at hx0
 obtain ⟨up,ul,uc,hZu⟩:=h.za hu
 have hu0:=hZu.cell0;have hu1:=hZu.cell1
 rw [Ql] at hu0
 have hxl:=hZx.len_le (n:=100) (by rw [Int.natAbs_natCast];exact lx)
 have hyl:=hZu.len_le (n:=100) (by rw [Int.natAbs_natCast];exact ly)
 have HA:Hid (∀ w',SM w w'→Calls Tryz.prog 175 #[.slice zp zl zc,.slice xp xl xc,.slice up ul uc] w' (NatRes w' zp (x+y))):=fun w' hw=>Q5X zp zl zc xp xl xc x up ul uc y w' (hw.nt hZz.nt).1 (by unfold CAP;omega) (by unfold CAP;omega) (hw.nt hZx.nt) (hw.nt hZu.nt)
 have HV:Hid (x+y=(((x+y:Nat):Int):Int).natAbs):=(Int.natAbs_natCast _).symm
 obtain ⟨qz,hqz⟩:=hz.some
 have HOz:=Lh hqz;clear hqz
 have HZz:=Lh hZz;clear hZz hz
 obtain ⟨qx,hqx⟩:=hx.some
 have HOx:=Lh hqx;clear hqx
 have HZx:=Lh hZx;clear hZx hx
 obtain ⟨qu,hqu⟩:=hu.some
 have HOu:=Lh hqu;clear hqu
 have HZu:=Lh hZu;clear hZu hu
 clear h hW
 go_enter Tryz.func151, Tryz.ntmps151
 go_wp2_with fail
 go_quiet (fail)
 go_wp2_with fail
 obtain ⟨w0,hw0⟩:∃ w0,w0=w.drewN nq:=⟨_,rfl⟩
 have HM:Hid (SM w w0):=by rw [hw0];exact (SM.refl w).drewN nq
 rw [← hw0]
 clear hw0
 have k1z:=(HM.out.cell bz (oz+1)).trans hz1
 have k1x:=(HM.out.cell bx (ox+1)).trans hx1
 have k1u:=(HM.out.cell bu (ou+1)).trans hu1
 refine AH.start (fun x=>x.cell? ⟨bx,ox+1,none⟩=some (.slice xp xl xc)∧x.cell? ⟨bu,ou+1,none⟩=some (.slice up ul uc)) (by kernel_rfl) ?_
 refine AH.z 0 ⟨k1x,k1u⟩ ?_
 refine AH.z 1 ⟨k1x,k1u⟩ ?_
 refine AH.z 2 ⟨k1x,k1u⟩ ?_
 refine AH.z 3 ⟨k1x,k1u⟩ ?_
 refine AH.z 5 ⟨k1x,k1u⟩ ?_
 refine AH.z 6 ⟨k1x,k1u⟩ ?_
 refine AH.z 7 ⟨k1x,k1u⟩ ?_
 refine AH.z 8 ⟨k1x,k1u⟩ ?_
 refine AH.z 9 ⟨k1x,k1u⟩ ?_
 refine AH.z 10 ⟨k1x,k1u⟩ ?_
 refine AH.z 11 ⟨k1x,k1u⟩ ?_
 refine AH.z 12 ⟨k1x,k1u⟩ ?_
 refine AH.o 4 (fun K hK=>?_)
 go_simp
 refine hK _ _ ⟨k1x,k1u⟩ ?_
 clear hK K
 try simp only [Act.put,Zp_]
 all_goals
  refine AH.o 13 (fun K hK=>?_)
  go_simp
  refine (HA.out _ HM.out.drew).mono ?_
  rintro e w1 ⟨p,l,c,rfl,hR⟩
  have HP:=Lh (HZz.out.put _ p l c w1 ((x+y:Nat):Int) (HM.out.drew.natAt hR) HV.out)
  have HL:=Lh hR.1
  clear hR
  have hzf1:=HZz.out.fz1
  have hzf0:=HZz.out.fz0
  have kz1:=(HP.out.1 bz qz HOz.out (oz+1)).1.trans hz1
  have kf1:=(HP.out.1 bz qz HOz.out (oz+1)).2.trans hzf1
  have kf0:=(HP.out.1 bz qz HOz.out oz).2.trans hzf0
  have kz0:=(HP.out.1 bz qz HOz.out oz).1.trans hz0
  clear hzf1 hzf0
  have k2x:=(HP.out.1 bx qx HOx.out (ox+1)).1.trans hx1
  have k3x:=(World.cell?_setCell_far w1 ⟨bz,oz+1,none⟩ ⟨bx,ox+1,none⟩ (.slice p l c) nex).trans k2x
  have n2x:=(HP.out.1 bx qx HOx.out ox).1.trans hx0
  have k2u:=(HP.out.1 bu qu HOu.out (ou+1)).1.trans hu1
  have k3u:=(World.cell?_setCell_far w1 ⟨bz,oz+1,none⟩ ⟨bu,ou+1,none⟩ (.slice p l c) neu).trans k2u
  have n2u:=(HP.out.1 bu qu HOu.out ou).1.trans hu0
  refine hK _ _ ⟨k2x,k2u⟩ ?_
  clear hK K
  try simp only [Act.put,Zp_]
  refine AH.z 14 ⟨k2x,k2u⟩ ?_
  refine AH.z 15 ⟨k2x,k2u⟩ ?_
  refine AH.o 16 (fun K hK=>?_)
  go_simp
  refine hK _ _ ⟨k3x,k3u⟩ ?_
  clear hK K
  try simp only [Act.put,Zp_]
  refine AH.done (by kernel_rfl) ?_
 all_goals
  have hcz:=World.cell?_setCell_same w1 ⟨bz,oz+1,none⟩ (.slice p l c) kz1
  have hzz:=(World.cell?_setCell_other w1 ⟨bz,oz+1,none⟩ ⟨bz,oz,none⟩ (.slice p l c) (by intro e;cases e)).trans kz0
  have hff:(w1.setCell ⟨bz,oz+1,none⟩ (.slice p l c)).frozen? ⟨bz,oz,none⟩=false:=by rw [World.frozen?_setCell];exact kf0
  have hnx:=(World.cell?_setCell_far w1 ⟨bz,oz+1,none⟩ ⟨bx,ox,none⟩ (.slice p l c) nex).trans n2x
  have hnu:=(World.cell?_setCell_far w1 ⟨bz,oz+1,none⟩ ⟨bu,ou,none⟩ (.slice p l c) neu).trans n2u
  have hSt:=HP.out.2
  generalize w1.setCell ⟨bz,oz+1,none⟩ (.slice p l c)=w2 at hcz hzz hff hSt hnx hnu ⊢
  have HSt:=Lh hSt
  clear hSt kz1 kz0 kf1 kf0 HP k2x k3x n2x k2u k3u n2u
  have HE:Hid (decide (((x+y:Nat):Int)<0)=false):=Ql _
  rcases Nat.eq_zero_or_pos l with hl0 | hl0
  ·subst hl0
   go_wp2_with fail
   go_ret
   exact ⟨rfl,by have:=HSt.out;rw [HE.out] at this;first | exact this | exact this.drew⟩
  ·have hl1:(0:Int)<(l:Int):=by omega
   go_wp2_with fail
   go_ret
   exact ⟨rfl,by have:=HSt.out;rw [HE.out] at this;first | exact this | exact this.drew⟩
theorem Q3L {W:World}{σ:Sg}{w:World}(hW:GW W)(h:St W σ w){bz oz bu ou:Nat}  {x y:Nat}(hz:Num σ bz oz (x:Int))(hu:Num σ bu ou (y:Int))(neu:bz≠bu)(lx:x<BB^100)(ly:y<BB^100) :
  Calls Tryz.prog 151 #[.pointer (some ⟨bz,oz,none⟩),.pointer (some ⟨bz,oz,none⟩),.pointer (some ⟨bu,ou,none⟩)] w fun e w'=>e=.returned (.pointer (some ⟨bz,oz,none⟩))∧St W (setN σ bz ((x+y:Nat):Int)) w':=by
 obtain ⟨zp,zl,zc,hZz⟩:=h.za hz
 have hz0:=hZz.cell0;have hz1:=hZz.cell1
 rw [Ql] at hz0
 obtain ⟨up,ul,uc,hZu⟩:=h.za hu
 have hu0:=hZu.cell0;have hu1:=hZu.cell1
 rw [Ql] at hu0
 have hxl:=hZz.len_le (n:=100) (by rw [Int.natAbs_natCast];exact lx)
 have hyl:=hZu.len_le (n:=100) (by rw [Int.natAbs_natCast];exact ly)
 have HA:Hid (∀ w',SM w w'→Calls Tryz.prog 175 #[.slice zp zl zc,.slice zp zl zc,.slice up ul uc] w' (NatRes w' zp (x+y))):=fun w' hw=>Q5X zp zl zc zp zl zc x up ul uc y w' (hw.nt hZz.nt).1 (by unfold CAP;omega) (by unfold CAP;omega) (hw.nt hZz.nt) (hw.nt hZu.nt)
 have HV:Hid (x+y=(((x+y:Nat):Int):Int).natAbs):=(Int.natAbs_natCast _).symm
 obtain ⟨qz,hqz⟩:=hz.some
 have HOz:=Lh hqz;clear hqz
 have HZz:=Lh hZz;clear hZz hz
 obtain ⟨qu,hqu⟩:=hu.some
 have HOu:=Lh hqu;clear hqu
 have HZu:=Lh hZu;clear hZu hu
 clear h hW
 go_enter Tryz.func151, Tryz.ntmps151
 go_wp2_with fail
 go_quiet (fail)
 go_wp2_with fail
 obtain ⟨w0,hw0⟩:∃ w0,w0=w.drewN nq:=⟨_,rfl⟩
 have HM:Hid (SM w w0):=by rw [hw0];exact (SM.refl w).drewN nq
 rw [← hw0]
 clear hw0
 have k1z:=(HM.out.cell bz (oz+1)).trans hz1
 have k1u:=(HM.out.cell bu (ou+1)).trans hu1
 refine AH.start (fun x=>x.cell? ⟨bu,ou+1,none⟩=some (.slice up ul uc)) (by kernel_rfl) ?_
 refine AH.z 0 k1u ?_
 refine AH.z 1 k1u ?_
 refine AH.z 2 k1u ?_
 refine AH.z 3 k1u ?_
 refine AH.z 5 k1u ?_
 refine AH.z 6 k1u ?_
 refine AH.z 7 k1u ?_
 refine AH.z 9 k1u ?_
 refine AH.z 10 k1u ?_
 refine AH.z 11 k1u ?_
 refine AH.z 12 k1u ?_
 refine AH.t 4 8 (fun K hK=>?m1_4) (fun K hK=>?m1_8)
 case' m1_4 =>
  go_simp
  refine hK _ _ k1u ?_
  clear hK K
  try simp only [Act.put,Zp_]
  refine AH.o 8 (fun K hK=>?_)
  go_simp
  refine hK _ _ k1u ?_
  clear hK K
  try simp only [Act.put,Zp_]
 case' m1_8 =>
  go_simp
  refine hK _ _ k1u ?_
  clear hK K
  try simp only [Act.put,Zp_]
  refine AH.o 4 (fun K hK=>?_)
  go_simp
  refine hK _ _ k1u ?_
  clear hK K
  try simp only [Act.put,Zp_]
 all_goals
  refine AH.o 13 (fun K hK=>?_)
  go_simp
  refine (HA.out _ HM.out.drew).mono ?_
  rintro e w1 ⟨p,l,c,rfl,hR⟩
  have HP:=Lh (HZz.out.put _ p l c w1 ((x+y:Nat):Int) (HM.out.drew.natAt hR) HV.out)
  have HL:=Lh hR.1
  clear hR
  have hzf1:=HZz.out.fz1
  have hzf0:=HZz.out.fz0
  have kz1:=(HP.out.1 bz qz HOz.out (oz+1)).1.trans hz1
  have kf1:=(HP.out.1 bz qz HOz.out (oz+1)).2.trans hzf1
  have kf0:=(HP.out.1 bz qz HOz.out oz).2.trans hzf0
  have kz0:=(HP.out.1 bz qz HOz.out oz).1.trans hz0
  clear hzf1 hzf0
  have k2u:=(HP.out.1 bu qu HOu.out (ou+1)).1.trans hu1
  have k3u:=(World.cell?_setCell_far w1 ⟨bz,oz+1,none⟩ ⟨bu,ou+1,none⟩ (.slice p l c) neu).trans k2u
  have n2u:=(HP.out.1 bu qu HOu.out ou).1.trans hu0
  refine hK _ _ k2u ?_
  clear hK K
  try simp only [Act.put,Zp_]
  refine AH.z 14 k2u ?_
  refine AH.z 15 k2u ?_
  refine AH.o 16 (fun K hK=>?_)
  go_simp
  refine hK _ _ k3u ?_
  clear hK K
  try simp only [Act.put,Zp_]
  refine AH.done (by kernel_rfl) ?_
 all_goals
  have hcz:=World.cell?_setCell_same w1 ⟨bz,oz+1,none⟩ (.slice p l c) kz1
  have hzz:=(World.cell?_setCell_other w1 ⟨bz,oz+1,none⟩ ⟨bz,oz,none⟩ (.slice p l c) (by intro e;cases e)).trans kz0
  have hff:(w1.setCell ⟨bz,oz+1,none⟩ (.slice p l c)).frozen? ⟨bz,oz,none⟩=false:=by rw [World.frozen?_setCell];exact kf0
  have hnu:=(World.cell?_setCell_far w1 ⟨bz,oz+1,none⟩ ⟨bu,ou,none⟩ (.slice p l c) neu).trans n2u
  have hSt:=HP.out.2
  generalize w1.setCell ⟨bz,oz+1,none⟩ (.slice p l c)=w2 at hcz hzz hff hSt hnu ⊢
  have HSt:=Lh hSt
  clear hSt kz1 kz0 kf1 kf0 HP k2u k3u n2u
  have HE:Hid (decide (((x+y:Nat):Int)<0)=false):=Ql _
  rcases Nat.eq_zero_or_pos l with hl0 | hl0
  ·subst hl0
   go_wp2_with fail
   go_ret
   exact ⟨rfl,by have:=HSt.out;rw [HE.out] at this;first | exact this | exact this.drew⟩
  ·have hl1:(0:Int)<(l:Int):=by omega
   go_wp2_with fail
   go_ret
   exact ⟨rfl,by have:=HSt.out;rw [HE.out] at this;first | exact this | exact this.drew⟩
end Go.Proofs.YtpebcmfpehdafaaGreatDoor
