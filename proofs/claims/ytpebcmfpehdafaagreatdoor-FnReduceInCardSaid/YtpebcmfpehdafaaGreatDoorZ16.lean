/- a part of the proof -/
import Derived.Test.YtpebcmfpehdafaaGreatDoorZ15
set_option linter.all false
set_option maxRecDepth 100000
set_option maxHeartbeats 16000000
namespace Go.Proofs.YtpebcmfpehdafaaGreatDoor
open Go Go.RowKit
theorem Q4m {W:World}{σ:Sg}{w:World}(hW:GW W)(h:St W σ w){b bk ba:Nat}{f:Int}{n:Bool}{e0:Int}{c p md res:Nat}{mx mn tr:Int}{s1 s2 s3:Int}{Ta:TypeId}{nd:Nat}(hb:σ b=some (.dec f n e0 (c:Int)))(hk:Ctx σ bk p mx mn tr md)(ha:σ ba=some (.raw (.cells #[.int .i64 s1,.int .i64 s2,.int .i64 s3] Ta)))
  (hs1:s1.natAbs≤20000) (hs2:s2.natAbs≤20000) (hs3:s3.natAbs≤20000) (hnd:nd≤405) (hres:res<4096) (hcl:c<BB^21) (c1:mn≤(s1+s2+s3)+nd - 1) (c2:(s1+s2+s3)+nd - 1≤mx) :
  Calls Tryz.prog 86 #[.pointer (some ⟨b,0,none⟩),.pointer (some ⟨bk,0,none⟩),.int .i64 (nd:Int),.int .u32 (res:Int),.slice (some ⟨ba,0,none⟩) 3 3] w fun r w'=>r=.returned (.int .u32 ((finK res:Nat):Int))∧St W (upd σ b (.dec f n (s1+s2+s3) (c:Int))) w':=by
 have hr:=h.raw ha
 have a0:w.cell? ⟨ba,0,none⟩=some (.int .i64 s1):=by unfold World.cell?;rw [hr];rfl
 have a2:w.cell? ⟨ba,2,none⟩=some (.int .i64 s3):=by unfold World.cell?;rw [hr];rfl
 have a1:w.cell? ⟨ba,1,none⟩=some (.int .i64 s2):=by unfold World.cell?;rw [hr];rfl
 obtain ⟨k0,k1,k2,k3,k4⟩:=h.ctx hk
 obtain ⟨_,_,p1,m1,m2,m3,m4,m5⟩:=hk
 obtain ⟨d0,_,d2,f0,_,f2⟩:=h.dec hb
 have hnp:=Qi c
 have HX:=Lh (h.setExp hb (s1+s2+s3))
 have hKres:=Lh hres
 clear h hb ha hr hW hres hcl
 go_enter Tryz.func86, Tryz.ntmps86
 go_wp2_with fail
 refine wp_loop_rounds 4 ?_
 iterate 4 (rw [rounds_succ];go_wp2_with fail)
 have HI:=Lh (Qt (k:=res) hKres.out)
 have HJ:=Lh (Qo (k:=res) hKres.out)
 have HO:=Lh (Qr res 8 hKres.out (by decide))
 obtain ⟨i16,hi⟩:∃ i16,hasB res 16=i16:=⟨_,rfl⟩
 obtain ⟨i32,hj⟩:∃ i32,hasB res 32=i32:=⟨_,rfl⟩
 have hF:finK res=if i16=true∧i32=true then orN res 8 else res:=by unfold finK;rw [hi,hj]
 rw [hi] at HI;rw [hj] at HJ
 have hF:=Lh hF
 clear hi hj
 go_wp2_with fail
 refine (HI.out _).mono ?_
 rintro r w_ ⟨rfl,hw_⟩
 subst hw_
 clear HI
 cases i16
 ·go_wp2_with fail
  go_ret
  exact ⟨by rw [hF.out];rfl,HX.out⟩
 ·go_wp2_with fail
  refine (HJ.out _).mono ?_
  rintro r w_ ⟨rfl,hw_⟩
  subst hw_
  clear HJ
  cases i32
  ·go_wp2_with fail
   go_ret
   exact ⟨by rw [hF.out];rfl,HX.out⟩
  ·go_wp2_with fail
   go_ret
   exact ⟨by rw [hF.out];show Ending.returned (Value.int .u32 (bits .or .u32 (res:Int) 8))=_;rw [show bits .or .u32 (res:Int) 8=((orN res 8:Nat):Int) from HO.out];rfl,HX.out⟩
end Go.Proofs.YtpebcmfpehdafaaGreatDoor
