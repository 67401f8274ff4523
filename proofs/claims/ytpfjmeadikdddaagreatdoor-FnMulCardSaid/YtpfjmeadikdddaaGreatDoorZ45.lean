/- a part of the proof -/
import Derived.Test.YtpfjmeadikdddaaGreatDoorZ5
set_option linter.all false
set_option maxRecDepth 100000
set_option maxHeartbeats 16000000
namespace Go.Proofs.YtpfjmeadikdddaaGreatDoor
open Go Go.RowKit
theorem Q7G {W:World}{σ:Sg}{w:World}(hW:GW W)(h:St W σ w){bz oz bx ox:Nat}  {x y:Nat}(hz:Num σ bz oz (y:Int))(hx:Num σ bx ox (x:Int))(nex:bz≠bx)(nxy:bx≠bz)(lx:x<BB^39)(ly:y<BB^100) :
  Calls Tryz.prog 183 #[.pointer (some ⟨bz,oz,none⟩),.pointer none,.pointer (some ⟨bx,ox,none⟩),.pointer (some ⟨bz,oz,none⟩)] w fun e w'=>e=.returned (.tuple #[])∧St W (setN σ bz ((x*y:Nat):Int)) w':=by
 obtain ⟨zp,zl,zc,hZz⟩:=h.za hz
 have hz0:=hZz.cell0;have hz1:=hZz.cell1
 rw [Ql] at hz0
 obtain ⟨xp,xl,xc,hZx⟩:=h.za hx
 have hx0:=hZx.cell0;have hx1:=hZx.cell1
 rw [Ql] at hx0
 have hxl:=hZx.len_le (n:=39) (by rw [Int.natAbs_natCast];exact lx)
 have hyl:=hZz.len_le (n:=100) (by rw [Int.natAbs_natCast];exact ly)
 have hpe:=hZx.ptr_ne hZz nxy (o:=ox) (o':=oz)
 have HA:Hid (∀ w',SM w w'→Calls Tryz.prog 204 #[.slice zp zl zc,.pointer none,.slice xp xl xc,.slice zp zl zc] w' (NatRes w' zp (x*y))):=fun w' hw=>Q2W zp zl zc xp xl xc x zp zl zc y none w' (hw.nt hZz.nt).1 (by unfold CAP;omega) (by omega) (hw.nt hZx.nt) (hw.nt hZz.nt) (hw.gk (h.gk hW))
 have HV:Hid (x*y=(((x*y:Nat):Int):Int).natAbs):=(Int.natAbs_natCast _).symm
 obtain ⟨qz,hqz⟩:=hz.some
 have HOz:=Lh hqz;clear hqz
 have HZz:=Lh hZz;clear hZz hz
 obtain ⟨qx,hqx⟩:=hx.some
 have HOx:=Lh hqx;clear hqx
 have HZx:=Lh hZx;clear hZx hx
 clear h hW
 go_enter Tryz.func183, Tryz.ntmps183
 go_wp2_with fail
 obtain ⟨w0,hw0⟩:∃ w0,w0=w:=⟨_,rfl⟩
 have HM:Hid (SM w w0):=by rw [hw0];exact SM.refl w
 rw [← hw0]
 clear hw0
 have k1z:=(HM.out.cell bz (oz+1)).trans hz1
 have k1x:=(HM.out.cell bx (ox+1)).trans hx1
 refine AH.start (fun x=>x.cell? ⟨bx,ox+1,none⟩=some (.slice xp xl xc)) (by kernel_rfl) ?_
 refine AH.z 0 k1x ?_
 refine AH.z 1 k1x ?_
 refine AH.z 2 k1x ?_
 refine AH.z 3 k1x ?_
 refine AH.z 5 k1x ?_
 refine AH.z 6 k1x ?_
 refine AH.z 7 k1x ?_
 refine AH.z 8 k1x ?_
 refine AH.z 9 k1x ?_
 refine AH.z 10 k1x ?_
 refine AH.z 11 k1x ?_
 refine AH.z 12 k1x ?_
 refine AH.t 4 13 (fun K hK=>?m1_4) (fun K hK=>?m1_13)
 case' m1_4 =>
  go_simp
  refine hK _ _ k1x ?_
  clear hK K
  try simp only [Act.put,Zp_]
  refine AH.o 13 (fun K hK=>?_)
  go_simp
  refine hK _ _ k1x ?_
  clear hK K
  try simp only [Act.put,Zp_]
 case' m1_13 =>
  go_simp
  refine hK _ _ k1x ?_
  clear hK K
  try simp only [Act.put,Zp_]
  refine AH.o 4 (fun K hK=>?_)
  go_simp
  refine hK _ _ k1x ?_
  clear hK K
  try simp only [Act.put,Zp_]
 all_goals
  refine AH.o 14 (fun K hK=>?_)
  go_simp
  refine (HA.out _ HM.out.drew).mono ?_
  rintro e w1 ⟨p,l,c,rfl,hR⟩
  have HP:=Lh (HZz.out.put _ p l c w1 ((x*y:Nat):Int) (HM.out.drew.natAt hR) HV.out)
  have HL:=Lh hR.1
  clear hR
  have hzf1:=HZz.out.fz1
  have hzf0:=HZz.out.fz0
  have kz1:=(HP.out.1 bz qz HOz.out (oz+1)).1.trans hz1
  have kf1:=(HP.out.1 bz qz HOz.out (oz+1)).2.trans hzf1
  have kf0:=(HP.out.1 bz qz HOz.out oz).2.trans hzf0
  have kz0:=(HP.out.1 bz qz HOz.out oz).1.trans hz0
  clear hzf1 hzf0
  have k2x:=(HP.out.1 bx qx HOx.out (ox+1)).1.trans hx1
  have k3x:=(World.cell?_setCell_far w1 ⟨bz,oz+1,none⟩ ⟨bx,ox+1,none⟩ (.slice p l c) nex).trans k2x
  have n2x:=(HP.out.1 bx qx HOx.out ox).1.trans hx0
  refine hK _ _ k2x ?_
  clear hK K
  try simp only [Act.put,Zp_]
  refine AH.z 15 k2x ?_
  refine AH.z 16 k2x ?_
  refine AH.o 17 (fun K hK=>?_)
  go_simp
  refine hK _ _ k3x ?_
  clear hK K
  try simp only [Act.put,Zp_]
  refine AH.done (by kernel_rfl) ?_
 all_goals
  have hcz:=World.cell?_setCell_same w1 ⟨bz,oz+1,none⟩ (.slice p l c) kz1
  have hzz:=(World.cell?_setCell_other w1 ⟨bz,oz+1,none⟩ ⟨bz,oz,none⟩ (.slice p l c) (by intro e;cases e)).trans kz0
  have hff:(w1.setCell ⟨bz,oz+1,none⟩ (.slice p l c)).frozen? ⟨bz,oz,none⟩=false:=by rw [World.frozen?_setCell];exact kf0
  have hnx:=(World.cell?_setCell_far w1 ⟨bz,oz+1,none⟩ ⟨bx,ox,none⟩ (.slice p l c) nex).trans n2x
  have hSt:=HP.out.2
  generalize w1.setCell ⟨bz,oz+1,none⟩ (.slice p l c)=w2 at hcz hzz hff hSt hnx ⊢
  have HSt:=Lh hSt
  clear hSt kz1 kz0 kf1 kf0 HP k2x k3x n2x
  have HE:Hid (decide (((x*y:Nat):Int)<0)=false):=Ql _
  rcases Nat.eq_zero_or_pos l with hl0 | hl0
  ·subst hl0
   go_wp2_with fail
   refine WS.region 20 (by kernel_rfl) (by kernel_rfl) ?_
   simp only [List.take_succ_cons,List.take_zero,List.drop_succ_cons,List.drop_zero]
   iterate 8 (refine WS.want (by kernel_rfl) (fun K hK=>?_);go_simp;refine hK _ ?_;clear hK K)
   iterate 9 (refine WS.skip (by kernel_rfl) ?_;simp only [Act.put,List.setIfInBounds_toArray,List.set_cons_zero,List.set_cons_succ])
   iterate 3 (refine WS.want (by kernel_rfl) (fun K hK=>?_);go_simp;refine hK _ ?_;clear hK K)
   refine WS.nil ?_
   go_wp2_with fail
   go_returns
   exact ⟨rfl,by have:=HSt.out;rw [HE.out] at this;first | exact this | exact this.drew⟩
  ·have hl1:(0:Int)<(l:Int):=by omega
   go_wp2_with fail
   refine WS.region 20 (by kernel_rfl) (by kernel_rfl) ?_
   simp only [List.take_succ_cons,List.take_zero,List.drop_succ_cons,List.drop_zero]
   iterate 20 (refine WS.want (by kernel_rfl) (fun K hK=>?_);go_simp;refine hK _ ?_;clear hK K)
   refine WS.nil ?_
   go_wp2_with fail
   go_returns
   exact ⟨rfl,by have:=HSt.out;rw [HE.out] at this;first | exact this | exact this.drew⟩
theorem Q96 {W:World}{σ:Sg}{w:World}(hW:GW W)(h:St W σ w){bz oz bx ox:Nat}{x y:Nat}(hz:Num σ bz oz (y:Int))(hx:Num σ bx ox (x:Int))(nex:bz≠bx)(lx:x<BB^39)(ly:y<BB^100) :
  Calls Tryz.prog 147 #[.pointer (some ⟨bz,oz,none⟩),.pointer (some ⟨bx,ox,none⟩),.pointer (some ⟨bz,oz,none⟩)] w fun e w'=>e=.returned (.pointer (some ⟨bz,oz,none⟩))∧St W (setN σ bz ((x*y:Nat):Int)) w':=by
 have HE:=Lh (Q7G hW h hz hx nex nex.symm lx ly)
 generalize ((x*y:Nat):Int)=t at HE ⊢
 clear h hW hx hz lx ly
 go_enter Tryz.func147, Tryz.ntmps147
 go_wp2_with (go_at_call 183;refine HE.out.mono ?_;rintro e w1 ⟨rfl,hS⟩;have HS:=Lh hS;clear hS)
 go_ret
 exact ⟨rfl,HS.out⟩
end Go.Proofs.YtpfjmeadikdddaaGreatDoor
