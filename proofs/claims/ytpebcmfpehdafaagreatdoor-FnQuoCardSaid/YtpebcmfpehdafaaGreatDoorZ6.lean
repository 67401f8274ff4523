/- a part of the proof -/
import Derived.Test.YtpebcmfpehdafaaGreatDoorZ5
set_option linter.all false
set_option maxRecDepth 100000
set_option maxHeartbeats 16000000
namespace Go.Proofs.YtpebcmfpehdafaaGreatDoor
open Go Go.RowKit
theorem Q0K {W:World}{σ:Sg}{w:World}(hW:GW W)(h:St W σ w){bz oz br or bx ox bu ou:Nat}{vz:Int}{vr:Int}{x y:Nat}(hz:Num σ bz oz vz)(hr:Num σ br or vr)(hx:Num σ bx ox (x:Int))(nzr:bz≠br)(nzx:bz≠bx)(nrx:br≠bx)(hu:Num σ bu ou (y:Int))(nzu:bz≠bu)(nru:br≠bu)(y0:y≠0)(lx:x<BB^100)(ly:y<BB^39) :
  Calls Tryz.prog 141 #[.pointer (some ⟨bz,oz,none⟩),.pointer (some ⟨bx,ox,none⟩),.pointer (some ⟨bu,ou,none⟩),.pointer (some ⟨br,or,none⟩)] w fun e w'=>e=.returned (.tuple #[.pointer (some ⟨bz,oz,none⟩),.pointer (some ⟨br,or,none⟩)])∧St W (setN (setN σ bz ((x / y:Nat):Int)) br ((x % y:Nat):Int)) w':=by
 obtain ⟨zp,zl,zc,hZz⟩:=h.za hz
 have hz0:=hZz.cell0;have hz1:=hZz.cell1
 obtain ⟨rp,rl,rc,hZr⟩:=h.za hr
 have hr0:=hZr.cell0;have hr1:=hZr.cell1
 obtain ⟨xp,xl,xc,hZx⟩:=h.za hx
 have hx0:=hZx.cell0;have hx1:=hZx.cell1
 rw [Ql] at hx0
 obtain ⟨up,ul,uc,hZu⟩:=h.za hu
 have hu0:=hZu.cell0;have hu1:=hZu.cell1
 rw [Ql] at hu0
 have hxl:=hZx.len_le (n:=100) (by rw [Int.natAbs_natCast];exact lx)
 have hyl:=hZu.len_le (n:=39) (by rw [Int.natAbs_natCast];exact ly)
 have hzr:Go.Proofs.YtpebcmfpehdafaaGreatDoor.same zp rp=false:=by
  rcases hZr.apart bz oz _ hz zp zl zc hz1 with ⟨e,_⟩ | ⟨_,e⟩
  ·exact absurd e nzr
  ·cases zp with
   | none=>rfl
   | some a=>cases rp with
    | none=>rfl
    | some a'=>simp [Go.Proofs.YtpebcmfpehdafaaGreatDoor.same,e a a' rfl rfl]
 have hrx:Go.Proofs.YtpebcmfpehdafaaGreatDoor.same rp xp=false:=by
  rcases hZx.apart br or _ hr rp rl rc hr1 with ⟨e,_⟩ | ⟨_,e⟩
  ·exact absurd e nrx
  ·cases rp with
   | none=>rfl
   | some a=>cases xp with
    | none=>rfl
    | some a'=>simp [Go.Proofs.YtpebcmfpehdafaaGreatDoor.same,e a a' rfl rfl]
 have HA:Hid (∀ w',SM w w'→Calls Tryz.prog 171 #[.slice zp zl zc,.pointer none,.slice rp rl rc,.slice xp xl xc,.slice up ul uc] w' (DivRes w' zp rp (x / y) (x % y))):=fun w' hw=>Q2B zp zl zc rp rl rc xp xl xc x up ul uc y w' (hw.nt hZz.nt).1 (hw.nt hZr.nt).1 hzr hrx (hw.nt hZx.nt) (by unfold CAP;omega) (hw.nt hZu.nt) y0 (by omega) (hw.gk (h.gk hW)) (by rw [hw.1];exact h.size hW) (fun a ha=>Nat.le_trans hW.le (hZz.new a ha)) (fun a ha=>Nat.le_trans hW.le (hZr.new a ha))
 have HPut:=Lh (fun (p:Option Addr) (l c:Nat) (p2:Option Addr) (l2 c2:Nat) (w1:World) (hD:DivAt w zp rp (x / y) (x % y) p l c p2 l2 c2 w1)=>h.put2 hz hr nzr hz1 hr1 hD)
 clear hzr hrx
 obtain ⟨qz,hqz⟩:=hz.some
 have HOz:=Lh hqz;clear hqz
 have HZz:=Lh hZz;clear hZz hz
 obtain ⟨qr,hqr⟩:=hr.some
 have HOr:=Lh hqr;clear hqr
 have HZr:=Lh hZr;clear hZr hr
 obtain ⟨qx,hqx⟩:=hx.some
 have HOx:=Lh hqx;clear hqx
 have HZx:=Lh hZx;clear hZx hx
 obtain ⟨qu,hqu⟩:=hu.some
 have HOu:=Lh hqu;clear hqu
 have HZu:=Lh hZu;clear hZu hu
 clear h hW
 go_enter Tryz.func141, Tryz.ntmps141
 go_wp2_with fail
 obtain ⟨w0,hw0⟩:∃ w0,w0=w:=⟨_,rfl⟩
 have HM:Hid (SM w w0):=by rw [hw0];exact SM.refl w
 rw [← hw0]
 clear hw0
 have k1z:=(HM.out.cell bz (oz+1)).trans hz1
 have k1r:=(HM.out.cell br (or+1)).trans hr1
 have k1x:=(HM.out.cell bx (ox+1)).trans hx1
 have k1u:=(HM.out.cell bu (ou+1)).trans hu1
 go_cut [10] from 11 to 35 (fun _ wx=>QRp w bz oz br or zp rp (x / y) (x % y) wx)
 case first =>
  refine AH.start (fun x=>x.cell? ⟨bx,ox+1,none⟩=some (.slice xp xl xc)∧x.cell? ⟨bu,ou+1,none⟩=some (.slice up ul uc)) (by kernel_rfl) ?_
  refine AH.z 0 ⟨k1x,k1u⟩ ?_
  refine AH.z 1 ⟨k1x,k1u⟩ ?_
  refine AH.z 2 ⟨k1x,k1u⟩ ?_
  refine AH.z 3 ⟨k1x,k1u⟩ ?_
  refine AH.z 4 ⟨k1x,k1u⟩ ?_
  refine AH.z 6 ⟨k1x,k1u⟩ ?_
  refine AH.z 7 ⟨k1x,k1u⟩ ?_
  refine AH.z 8 ⟨k1x,k1u⟩ ?_
  refine AH.z 10 ⟨k1x,k1u⟩ ?_
  refine AH.z 11 ⟨k1x,k1u⟩ ?_
  refine AH.z 12 ⟨k1x,k1u⟩ ?_
  refine AH.z 13 ⟨k1x,k1u⟩ ?_
  refine AH.z 14 ⟨k1x,k1u⟩ ?_
  refine AH.z 15 ⟨k1x,k1u⟩ ?_
  refine AH.z 16 ⟨k1x,k1u⟩ ?_
  refine AH.z 17 ⟨k1x,k1u⟩ ?_
  refine AH.t 5 9 (fun K hK=>?m1_5) (fun K hK=>?m1_9)
  case' m1_5 =>
   go_simp
   refine hK _ _ ⟨k1x,k1u⟩ ?_
   clear hK K
   try simp only [Act.put,Zp_]
   refine AH.o 9 (fun K hK=>?_)
   go_simp
   refine hK _ _ ⟨k1x,k1u⟩ ?_
   clear hK K
   try simp only [Act.put,Zp_]
  case' m1_9 =>
   go_simp
   refine hK _ _ ⟨k1x,k1u⟩ ?_
   clear hK K
   try simp only [Act.put,Zp_]
   refine AH.o 5 (fun K hK=>?_)
   go_simp
   refine hK _ _ ⟨k1x,k1u⟩ ?_
   clear hK K
   try simp only [Act.put,Zp_]
  all_goals
   refine AH.o 18 (fun K hK=>?_)
   go_simp
   refine (HA.out _ HM.out.drew).mono ?_
   rintro e w1 ⟨p,l,c,p2,l2,c2,rfl,hD'⟩
   have HD:=Lh (HM.out.drew.divAt hD')
   clear hD'
   have HP:=Lh (HPut.out p l c p2 l2 c2 w1 HD.out)
   have kcz:=(HP.out.1 bz qz HOz.out (oz+1)).1.trans hz1
   have kfz:=(HP.out.1 bz qz HOz.out (oz+1)).2.trans HZz.out.fz1
   have kcr:=(HP.out.1 br qr HOr.out (or+1)).1.trans hr1
   have kfr:=(HP.out.1 br qr HOr.out (or+1)).2.trans HZr.out.fz1
   have k2x:=(HP.out.1 bx qx HOx.out (ox+1)).1.trans hx1
   have k3x:=(World.cell?_setCell_far w1 ⟨bz,oz+1,none⟩ ⟨bx,ox+1,none⟩ (.slice p l c) nzx).trans k2x
   have k4x:=(World.cell?_setCell_far (w1.setCell ⟨bz,oz+1,none⟩ (.slice p l c)) ⟨br,or+1,none⟩ ⟨bx,ox+1,none⟩ (.slice p2 l2 c2) nrx).trans k3x
   have k2u:=(HP.out.1 bu qu HOu.out (ou+1)).1.trans hu1
   have k3u:=(World.cell?_setCell_far w1 ⟨bz,oz+1,none⟩ ⟨bu,ou+1,none⟩ (.slice p l c) nzu).trans k2u
   have k4u:=(World.cell?_setCell_far (w1.setCell ⟨bz,oz+1,none⟩ (.slice p l c)) ⟨br,or+1,none⟩ ⟨bu,ou+1,none⟩ (.slice p2 l2 c2) nru).trans k3u
   have kr:=(World.cell?_setCell_far w1 ⟨bz,oz+1,none⟩ ⟨br,or+1,none⟩ (.slice p l c) nzr).trans kcr
   refine hK _ _ ⟨k2x,k2u⟩ ?_
   clear hK K
   try simp only [Act.put,Zp_]
   refine AH.z 19 ⟨k2x,k2u⟩ ?_
   refine AH.z 20 ⟨k2x,k2u⟩ ?_
   refine AH.z 21 ⟨k2x,k2u⟩ ?_
   refine AH.z 22 ⟨k2x,k2u⟩ ?_
   refine AH.z 23 ⟨k2x,k2u⟩ ?_
   refine AH.o 24 (fun K hK=>?_)
   go_simp
   refine hK _ _ ⟨k3x,k3u⟩ ?_
   clear hK K
   try simp only [Act.put,Zp_]
   refine AH.z 25 ⟨k3x,k3u⟩ ?_
   refine AH.z 26 ⟨k3x,k3u⟩ ?_
   refine AH.o 27 (fun K hK=>?_)
   go_simp
   refine hK _ _ ⟨k4x,k4u⟩ ?_
   clear hK K
   try simp only [Act.put,Zp_]
   refine AH.done (by kernel_rfl) ?_
  all_goals (go_wp2_with fail;go_meet;exact ⟨p,l,c,p2,l2,c2,w1,HD.out,rfl⟩)
 case rest =>
  obtain ⟨p,l,c,p2,l2,c2,w1,hD,hwc⟩:=hcut
  have HP:=Lh (HPut.out p l c p2 l2 c2 w1 hD)
  have HLz:=Lh hD.nq
  have HLr:=Lh hD.nr
  have kz1:=(HP.out.1 bz qz HOz.out (oz+1)).1.trans hz1
  have kr1:=(HP.out.1 br qr HOr.out (or+1)).1.trans hr1
  have kz0:=(HP.out.1 bz qz HOz.out oz).1.trans hz0
  have kr0:=(HP.out.1 br qr HOr.out or).1.trans hr0
  have kfz:=(HP.out.1 bz qz HOz.out oz).2.trans HZz.out.fz0
  have kfr:=(HP.out.1 br qr HOr.out or).2.trans HZr.out.fz0
  have knx:=(HP.out.1 bx qx HOx.out ox).1.trans hx0
  have knu:=(HP.out.1 bu qu HOu.out ou).1.trans hu0
  have nrz:=Ne.symm nzr
  have cz1:wc.cell? ⟨bz,oz+1,none⟩=some (.slice p l c):=by rw [hwc,World.cell?_setCell_far _ _ _ _ nrz];exact World.cell?_setCell_same _ _ _ kz1
  have cr1:wc.cell? ⟨br,or+1,none⟩=some (.slice p2 l2 c2):=by rw [hwc];refine World.cell?_setCell_same _ _ _ (?_:_=some (.slice rp rl rc));rw [World.cell?_setCell_far _ _ _ _ nzr];exact kr1
  have cz0:wc.cell? ⟨bz,oz,none⟩=some (.bool (decide (vz<0))):=by rw [hwc,World.cell?_setCell_far _ _ _ _ nrz,World.cell?_setCell_other _ _ _ _ (by intro e;cases e)];exact kz0
  have cr0:wc.cell? ⟨br,or,none⟩=some (.bool (decide (vr<0))):=by rw [hwc,World.cell?_setCell_other _ _ _ _ (by intro e;cases e),World.cell?_setCell_far _ _ _ _ nzr];exact kr0
  have cnx:wc.cell? ⟨bx,ox,none⟩=some (.bool false):=by rw [hwc,World.cell?_setCell_far _ _ _ _ nrx,World.cell?_setCell_far _ _ _ _ nzx];exact knx
  have cnu:wc.cell? ⟨bu,ou,none⟩=some (.bool false):=by rw [hwc,World.cell?_setCell_far _ _ _ _ nru,World.cell?_setCell_far _ _ _ _ nzu];exact knu
  have fz0:wc.frozen? ⟨bz,oz,none⟩=false:=by rw [hwc,World.frozen?_setCell,World.frozen?_setCell];exact kfz
  have fr0:wc.frozen? ⟨br,or,none⟩=false:=by rw [hwc,World.frozen?_setCell,World.frozen?_setCell];exact kfr
  have HSt:=Lh HP.out.2
  rw [← hwc] at HSt
  clear hwc HP kz1 kr1 kz0 kr0 kfz kfr hD knx knu
  have s0:wc.cell? ⟨bz,oz+1,none⟩=some (.slice p l c)∧wc.cell? ⟨br,or+1,none⟩=some (.slice p2 l2 c2)∧wc.cell? ⟨bx,ox,none⟩=some (.bool false)∧wc.cell? ⟨bu,ou,none⟩=some (.bool false):=⟨cz1,cr1,cnx,cnu⟩
  have s1:(wc.setCell ⟨bz,oz,none⟩ (.bool false)).cell? ⟨bz,oz+1,none⟩=some (.slice p l c)∧(wc.setCell ⟨bz,oz,none⟩ (.bool false)).cell? ⟨br,or+1,none⟩=some (.slice p2 l2 c2)∧(wc.setCell ⟨bz,oz,none⟩ (.bool false)).cell? ⟨bx,ox,none⟩=some (.bool false)∧(wc.setCell ⟨bz,oz,none⟩ (.bool false)).cell? ⟨bu,ou,none⟩=some (.bool false):=⟨(World.cell?_setCell_other _ ⟨bz,oz,none⟩ ⟨bz,oz+1,none⟩ _ (by intro e;cases e)).trans cz1,(World.cell?_setCell_far _ ⟨bz,oz,none⟩ ⟨br,or+1,none⟩ _ nzr).trans cr1,(World.cell?_setCell_far _ ⟨bz,oz,none⟩ ⟨bx,ox,none⟩ _ nzx).trans cnx,(World.cell?_setCell_far _ ⟨bz,oz,none⟩ ⟨bu,ou,none⟩ _ nzu).trans cnu⟩
  have s2:((wc.setCell ⟨bz,oz,none⟩ (.bool false)).setCell ⟨br,or,none⟩ (.bool false)).cell? ⟨bz,oz+1,none⟩=some (.slice p l c)∧((wc.setCell ⟨bz,oz,none⟩ (.bool false)).setCell ⟨br,or,none⟩ (.bool false)).cell? ⟨br,or+1,none⟩=some (.slice p2 l2 c2)∧((wc.setCell ⟨bz,oz,none⟩ (.bool false)).setCell ⟨br,or,none⟩ (.bool false)).cell? ⟨bx,ox,none⟩=some (.bool false)∧((wc.setCell ⟨bz,oz,none⟩ (.bool false)).setCell ⟨br,or,none⟩ (.bool false)).cell? ⟨bu,ou,none⟩=some (.bool false):=⟨(World.cell?_setCell_far _ ⟨br,or,none⟩ ⟨bz,oz+1,none⟩ _ nrz).trans s1.1,(World.cell?_setCell_other _ ⟨br,or,none⟩ ⟨br,or+1,none⟩ _ (by intro e;cases e)).trans s1.2.1,(World.cell?_setCell_far _ ⟨br,or,none⟩ ⟨bx,ox,none⟩ _ nrx).trans s1.2.2.1,(World.cell?_setCell_far _ ⟨br,or,none⟩ ⟨bu,ou,none⟩ _ nru).trans s1.2.2.2⟩
  have cr0':(wc.setCell ⟨bz,oz,none⟩ (.bool false)).cell? ⟨br,or,none⟩=some (.bool (decide (vr<0))):=(World.cell?_setCell_far _ ⟨bz,oz,none⟩ ⟨br,or,none⟩ _ nzr).trans cr0
  have fr0':(wc.setCell ⟨bz,oz,none⟩ (.bool false)).frozen? ⟨br,or,none⟩=false:=by rw [World.frozen?_setCell];exact fr0
  go_wp2_with fail
  rcases Nat.eq_zero_or_pos l with hl0 | hl0 <;> rcases Nat.eq_zero_or_pos l2 with hl2 | hl2
  ·subst hl0
   subst hl2
   refine AH.start (fun x=>x.cell? ⟨bz,oz+1,none⟩=some (.slice p 0 c)∧x.cell? ⟨br,or+1,none⟩=some (.slice p2 0 c2)∧x.cell? ⟨bx,ox,none⟩=some (.bool false)∧x.cell? ⟨bu,ou,none⟩=some (.bool false)) (by kernel_rfl) ?_
   refine AH.z 0 s0 ?_
   refine AH.z 1 s0 ?_
   refine AH.z 2 s0 ?_
   refine AH.z 3 s0 ?_
   refine AH.z 4 s0 ?_
   refine AH.z 5 s0 ?_
   refine AH.z 6 s0 ?_
   refine AH.z 7 s0 ?_
   refine AH.z 8 s0 ?_
   refine AH.p 9 s0 ?_
   refine AH.p 10 s0 ?_
   refine AH.p 11 s0 ?_
   refine AH.p 12 s0 ?_
   refine AH.p 13 s0 ?_
   refine AH.p 14 s0 ?_
   refine AH.p 15 s0 ?_
   refine AH.p 16 s0 ?_
   refine AH.p 17 s0 ?_
   refine AH.z 18 s0 ?_
   refine AH.z 19 s0 ?_
   refine AH.z 20 s0 ?_
   refine AH.z 21 s0 ?_
   refine AH.z 22 s0 ?_
   refine AH.z 23 s0 ?_
   refine AH.z 24 s0 ?_
   refine AH.z 25 s0 ?_
   refine AH.p 26 s0 ?_
   refine AH.p 27 s0 ?_
   refine AH.p 28 s0 ?_
   refine AH.p 29 s0 ?_
   refine AH.z 30 s0 ?_
   refine AH.z 31 s0 ?_
   refine AH.z 32 s0 ?_
   refine AH.o 33 (fun K hK=>?_)
   go_simp
   refine hK _ _ s1 ?_
   clear hK K
   try simp only [Act.put,Zp_]
   refine AH.z 34 s1 ?_
   refine AH.z 35 s1 ?_
   refine AH.o 36 (fun K hK=>?_)
   go_simp
   refine hK _ _ s2 ?_
   clear hK K
   try simp only [Act.put,Zp_]
   refine AH.done (by kernel_rfl) ?_
   go_wp2_with fail
   go_ret2
   exact ⟨rfl,by have:=HSt.out;first | exact this | exact this.drew⟩
  ·subst hl0
   have hl3:(0:Int)<(l2:Int):=by omega
   refine AH.start (fun x=>x.cell? ⟨bz,oz+1,none⟩=some (.slice p 0 c)∧x.cell? ⟨br,or+1,none⟩=some (.slice p2 l2 c2)∧x.cell? ⟨bx,ox,none⟩=some (.bool false)∧x.cell? ⟨bu,ou,none⟩=some (.bool false)) (by kernel_rfl) ?_
   refine AH.z 0 s0 ?_
   refine AH.z 1 s0 ?_
   refine AH.z 2 s0 ?_
   refine AH.z 3 s0 ?_
   refine AH.z 4 s0 ?_
   refine AH.z 5 s0 ?_
   refine AH.z 6 s0 ?_
   refine AH.z 7 s0 ?_
   refine AH.z 8 s0 ?_
   refine AH.p 9 s0 ?_
   refine AH.p 10 s0 ?_
   refine AH.p 11 s0 ?_
   refine AH.p 12 s0 ?_
   refine AH.p 13 s0 ?_
   refine AH.p 14 s0 ?_
   refine AH.p 15 s0 ?_
   refine AH.p 16 s0 ?_
   refine AH.p 17 s0 ?_
   refine AH.z 18 s0 ?_
   refine AH.z 19 s0 ?_
   refine AH.z 20 s0 ?_
   refine AH.z 21 s0 ?_
   refine AH.z 22 s0 ?_
   refine AH.z 23 s0 ?_
   refine AH.z 24 s0 ?_
   refine AH.z 25 s0 ?_
   refine AH.z 26 s0 ?_
   refine AH.z 27 s0 ?_
   refine AH.z 28 s0 ?_
   refine AH.z 29 s0 ?_
   refine AH.z 30 s0 ?_
   refine AH.z 31 s0 ?_
   refine AH.z 32 s0 ?_
   refine AH.o 33 (fun K hK=>?_)
   go_simp
   refine hK _ _ s1 ?_
   clear hK K
   try simp only [Act.put,Zp_]
   refine AH.z 34 s1 ?_
   refine AH.z 35 s1 ?_
   refine AH.o 36 (fun K hK=>?_)
   go_simp
   refine hK _ _ s2 ?_
   clear hK K
   try simp only [Act.put,Zp_]
   refine AH.done (by kernel_rfl) ?_
   go_wp2_with fail
   go_ret2
   exact ⟨rfl,by have:=HSt.out;first | exact this | exact this.drew⟩
  ·have hl1:(0:Int)<(l:Int):=by omega
   subst hl2
   refine AH.start (fun x=>x.cell? ⟨bz,oz+1,none⟩=some (.slice p l c)∧x.cell? ⟨br,or+1,none⟩=some (.slice p2 0 c2)∧x.cell? ⟨bx,ox,none⟩=some (.bool false)∧x.cell? ⟨bu,ou,none⟩=some (.bool false)) (by kernel_rfl) ?_
   refine AH.z 0 s0 ?_
   refine AH.z 1 s0 ?_
   refine AH.z 2 s0 ?_
   refine AH.z 3 s0 ?_
   refine AH.z 4 s0 ?_
   refine AH.z 5 s0 ?_
   refine AH.z 6 s0 ?_
   refine AH.z 7 s0 ?_
   refine AH.z 8 s0 ?_
   refine AH.z 9 s0 ?_
   refine AH.z 10 s0 ?_
   refine AH.z 11 s0 ?_
   refine AH.z 12 s0 ?_
   refine AH.z 13 s0 ?_
   refine AH.z 14 s0 ?_
   refine AH.z 15 s0 ?_
   refine AH.z 16 s0 ?_
   refine AH.z 17 s0 ?_
   refine AH.z 18 s0 ?_
   refine AH.z 19 s0 ?_
   refine AH.z 20 s0 ?_
   refine AH.z 21 s0 ?_
   refine AH.z 22 s0 ?_
   refine AH.z 23 s0 ?_
   refine AH.z 24 s0 ?_
   refine AH.z 25 s0 ?_
   refine AH.p 26 s0 ?_
   refine AH.p 27 s0 ?_
   refine AH.p 28 s0 ?_
   refine AH.p 29 s0 ?_
   refine AH.z 30 s0 ?_
   refine AH.z 31 s0 ?_
   refine AH.z 32 s0 ?_
   refine AH.o 33 (fun K hK=>?_)
   go_simp
   refine hK _ _ s1 ?_
   clear hK K
   try simp only [Act.put,Zp_]
   refine AH.z 34 s1 ?_
   refine AH.z 35 s1 ?_
   refine AH.o 36 (fun K hK=>?_)
   go_simp
   refine hK _ _ s2 ?_
   clear hK K
   try simp only [Act.put,Zp_]
   refine AH.done (by kernel_rfl) ?_
   go_wp2_with fail
   go_ret2
   exact ⟨rfl,by have:=HSt.out;first | exact this | exact this.drew⟩
  ·have hl1:(0:Int)<(l:Int):=by omega
   have hl3:(0:Int)<(l2:Int):=by omega
   refine AH.start (fun x=>x.cell? ⟨bz,oz+1,none⟩=some (.slice p l c)∧x.cell? ⟨br,or+1,none⟩=some (.slice p2 l2 c2)∧x.cell? ⟨bx,ox,none⟩=some (.bool false)∧x.cell? ⟨bu,ou,none⟩=some (.bool false)) (by kernel_rfl) ?_
   refine AH.z 0 s0 ?_
   refine AH.z 1 s0 ?_
   refine AH.z 2 s0 ?_
   refine AH.z 3 s0 ?_
   refine AH.z 4 s0 ?_
   refine AH.z 5 s0 ?_
   refine AH.z 6 s0 ?_
   refine AH.z 7 s0 ?_
   refine AH.z 8 s0 ?_
   refine AH.z 9 s0 ?_
   refine AH.z 10 s0 ?_
   refine AH.z 11 s0 ?_
   refine AH.z 12 s0 ?_
   refine AH.z 13 s0 ?_
   refine AH.z 14 s0 ?_
   refine AH.z 15 s0 ?_
   refine AH.z 16 s0 ?_
   refine AH.z 17 s0 ?_
   refine AH.z 18 s0 ?_
   refine AH.z 19 s0 ?_
   refine AH.z 20 s0 ?_
   refine AH.z 21 s0 ?_
   refine AH.z 22 s0 ?_
   refine AH.z 23 s0 ?_
   refine AH.z 24 s0 ?_
   refine AH.z 25 s0 ?_
   refine AH.z 26 s0 ?_
   refine AH.z 27 s0 ?_
   refine AH.z 28 s0 ?_
   refine AH.z 29 s0 ?_
   refine AH.z 30 s0 ?_
   refine AH.z 31 s0 ?_
   refine AH.z 32 s0 ?_
   refine AH.o 33 (fun K hK=>?_)
   go_simp
   refine hK _ _ s1 ?_
   clear hK K
   try simp only [Act.put,Zp_]
   refine AH.z 34 s1 ?_
   refine AH.z 35 s1 ?_
   refine AH.o 36 (fun K hK=>?_)
   go_simp
   refine hK _ _ s2 ?_
   clear hK K
   try simp only [Act.put,Zp_]
   refine AH.done (by kernel_rfl) ?_
   go_wp2_with fail
   go_ret2
   exact ⟨rfl,by have:=HSt.out;first | exact this | exact this.drew⟩
end Go.Proofs.YtpebcmfpehdafaaGreatDoor
