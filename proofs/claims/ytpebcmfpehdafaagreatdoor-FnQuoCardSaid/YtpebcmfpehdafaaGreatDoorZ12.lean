/- a part of the proof -/
import Derived.LoopN
import Derived.Test.YtpebcmfpehdafaaGreatDoorZ6
import Derived.Test.YtpebcmfpehdafaaGreatDoorZ11
set_option linter.all false
set_option maxRecDepth 100000
set_option maxHeartbeats 16000000
namespace Go.Proofs.YtpebcmfpehdafaaGreatDoor
open Go Go.RowKit
theorem Q1V (k m:Nat)(hk:k<4096)(hm:m<4096):bits .and .u32 (k:Int) (m:Int)=((k &&& m:Nat):Int):=u32_and_nat k m (by omega) (by omega)
theorem Qr (k m:Nat)(hk:k<4096)(hm:m<4096):bits .or .u32 (k:Int) (m:Int)=((orN k m:Nat):Int):=u32_or_nat k m (by omega) (by omega)
theorem Qv {k m:Nat}(hk:k<4096)(hm:m<4096):orN k m<4096:=Nat.or_lt_two_pow (n:=12) hk hm
def hasB (k m:Nat):Bool:=decide (k &&& m≠0)
def finK (k:Nat):Nat:=if hasB k 16=true∧hasB k 32=true then orN k 8 else k
theorem Qt {k:Nat}(hk:k<4096)(w:World):Calls Tryz.prog 132 #[.int .u32 (k:Int)] w fun r w'=>r=.returned (.bool (hasB k 16))∧w'=w:=by
 have hb:hasB k 16=(bits .and .u32 (k:Int) 16 != 0):=by
  rw [show bits .and .u32 (k:Int) 16=((k &&& 16:Nat):Int) from Q1V k 16 hk (by decide)]
  unfold hasB;by_cases e:k &&& 16=0 <;> simp [e]
 rw [hb];clear hb
 go_enter Tryz.func132, Tryz.ntmps132
 go_wp2_with fail
 go_ret
 exact ⟨rfl,rfl⟩
theorem Qo {k:Nat}(hk:k<4096)(w:World):Calls Tryz.prog 133 #[.int .u32 (k:Int)] w fun r w'=>r=.returned (.bool (hasB k 32))∧w'=w:=by
 have hb:hasB k 32=(bits .and .u32 (k:Int) 32 != 0):=by
  rw [show bits .and .u32 (k:Int) 32=((k &&& 32:Nat):Int) from Q1V k 32 hk (by decide)]
  unfold hasB;by_cases e:k &&& 32=0 <;> simp [e]
 rw [hb];clear hb
 go_enter Tryz.func133, Tryz.ntmps133
 go_wp2_with fail
 go_ret
 exact ⟨rfl,rfl⟩
def Ctx (σ:Sg)(bk p:Nat)(mx mn tr:Int)(md:Nat):Prop:=∃ T,σ bk=some (.raw (.cells #[.int .u32 (p:Int),.int .i32 mx,.int .i32 mn,.int .u32 tr,.string (rndS md)] T))∧p≤1000∧0≤mx∧mx≤90000∧mn≤0 ∧ -90000≤mn∧md<8
theorem St.ctx {W:World}{σ:Sg}{w:World}(h:St W σ w){bk p:Nat}{mx mn tr:Int}{md:Nat}(hk:Ctx σ bk p mx mn tr md):w.cell? ⟨bk,0,none⟩=some (.int .u32 (p:Int))∧w.cell? ⟨bk,1,none⟩=some (.int .i32 mx)∧w.cell? ⟨bk,2,none⟩=some (.int .i32 mn)∧w.cell? ⟨bk,3,none⟩=some (.int .u32 tr)∧w.cell? ⟨bk,4,none⟩=some (.string (rndS md)):=by
 obtain ⟨T,hk,_⟩:=hk
 have hr:=h.raw hk
 refine ⟨?_,?_,?_,?_,?_⟩ <;> (unfold World.cell?;rw [hr];rfl)
theorem Ctx.ext {σ τ:Sg}{bk p:Nat}{mx mn tr:Int}{md:Nat}(h:Ctx σ bk p mx mn tr md)(e:Ext σ τ):Ctx τ bk p mx mn tr md:=by
 obtain ⟨T,hk,r⟩:=h;exact ⟨T,e _ _ hk,r⟩
theorem Ctx.upd {σ:Sg}{bk p:Nat}{mx mn tr:Int}{md:Nat}(h:Ctx σ bk p mx mn tr md){b:Nat}{f:Int}{n:Bool}{e c:Int}(hb:σ b=some (.dec f n e c))(o:Ob):Ctx (upd σ b o) bk p mx mn tr md:=by
 obtain ⟨T,hk,r⟩:=h
 refine ⟨T,?_,r⟩
 rw [Qa];exact hk
 rintro rfl;rw [hk] at hb;cases hb
theorem Q4c {W:World}{σ:Sg}{w:World}(hW:GW W)(h:St W σ w){b bk ba:Nat}{f:Int}{n:Bool}{e0:Int}{c p md res:Nat}{mx mn tr:Int}{s1 s2:Int}{Ta:TypeId}{nd:Nat}(hb:σ b=some (.dec f n e0 (c:Int)))(hk:Ctx σ bk p mx mn tr md)(ha:σ ba=some (.raw (.cells #[.int .i64 s1,.int .i64 s2] Ta)))
  (hs1:s1.natAbs≤40000) (hs2:s2.natAbs≤40000) (hnd:nd≤405) (hres:res<4096) (hcl:c<BB^21) (c1:mn≤(s1+s2)+nd - 1) (c2:(s1+s2)+nd - 1≤mx) :
  Calls Tryz.prog 86 #[.pointer (some ⟨b,0,none⟩),.pointer (some ⟨bk,0,none⟩),.int .i64 (nd:Int),.int .u32 (res:Int),.slice (some ⟨ba,0,none⟩) 2 2] w fun r w'=>r=.returned (.int .u32 ((finK res:Nat):Int))∧St W (upd σ b (.dec f n (s1+s2) (c:Int))) w':=by
 have hr:=h.raw ha
 have a0:w.cell? ⟨ba,0,none⟩=some (.int .i64 s1):=by unfold World.cell?;rw [hr];rfl
 have a1:w.cell? ⟨ba,1,none⟩=some (.int .i64 s2):=by unfold World.cell?;rw [hr];rfl
 obtain ⟨k0,k1,k2,k3,k4⟩:=h.ctx hk
 obtain ⟨_,_,p1,m1,m2,m3,m4,m5⟩:=hk
 obtain ⟨d0,_,d2,f0,_,f2⟩:=h.dec hb
 have hnp:=Qi c
 have HX:=Lh (h.setExp hb (s1+s2))
 have hKres:=Lh hres
 clear h hb ha hr hW hres hcl
 go_enter Tryz.func86, Tryz.ntmps86
 go_wp2_with fail
 refine wp_loop_rounds 3 ?_
 iterate 3 (rw [rounds_succ];go_wp2_with fail)
 have HI:=Lh (Qt (k:=res) hKres.out)
 have HJ:=Lh (Qo (k:=res) hKres.out)
 have HO:=Lh (Qr res 8 hKres.out (by decide))
 obtain ⟨i16,hi⟩:∃ i16,hasB res 16=i16:=⟨_,rfl⟩
 obtain ⟨i32,hj⟩:∃ i32,hasB res 32=i32:=⟨_,rfl⟩
 have hF:finK res=if i16=true∧i32=true then orN res 8 else res:=by unfold finK;rw [hi,hj]
 rw [hi] at HI;rw [hj] at HJ
 have hF:=Lh hF
 clear hi hj
 go_wp2_with fail
 refine (HI.out _).mono ?_
 rintro r w_ ⟨rfl,hw_⟩
 subst hw_
 clear HI
 cases i16
 ·go_wp2_with fail
  go_ret
  exact ⟨by rw [hF.out];rfl,HX.out⟩
 ·go_wp2_with fail
  refine (HJ.out _).mono ?_
  rintro r w_ ⟨rfl,hw_⟩
  subst hw_
  clear HJ
  cases i32
  ·go_wp2_with fail
   go_ret
   exact ⟨by rw [hF.out];rfl,HX.out⟩
  ·go_wp2_with fail
   go_ret
   exact ⟨by rw [hF.out];show Ending.returned (Value.int .u32 (bits .or .u32 (res:Int) 8))=_;rw [show bits .or .u32 (res:Int) 8=((orN res 8:Nat):Int) from HO.out];rfl,HX.out⟩
end Go.Proofs.YtpebcmfpehdafaaGreatDoor
