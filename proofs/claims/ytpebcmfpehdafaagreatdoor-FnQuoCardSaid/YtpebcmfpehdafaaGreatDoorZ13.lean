/- a part of the proof -/
import Derived.Test.YtpebcmfpehdafaaGreatDoorZ12
set_option linter.all false
set_option maxRecDepth 100000
set_option maxHeartbeats 16000000
namespace Go.Proofs.YtpebcmfpehdafaaGreatDoor
open Go Go.RowKit
theorem Q4m {W:World}{σ:Sg}{w:World}(hW:GW W)(h:St W σ w){b bk ba:Nat}{f:Int}{n:Bool}{e0:Int}{c p md res:Nat}{mx mn tr:Int}{s1 s2 s3:Int}{Ta:TypeId}{nd:Nat}(hb:σ b=some (.dec f n e0 (c:Int)))(hk:Ctx σ bk p mx mn tr md)(ha:σ ba=some (.raw (.cells #[.int .i64 s1,.int .i64 s2,.int .i64 s3] Ta)))
  (hs1:s1.natAbs≤20000) (hs2:s2.natAbs≤20000) (hs3:s3.natAbs≤20000) (hnd:nd≤405) (hres:res<4096) (hcl:c<BB^21) (c1:mn≤(s1+s2+s3)+nd - 1) (c2:(s1+s2+s3)+nd - 1≤mx) :
  Calls Tryz.prog 86 #[.pointer (some ⟨b,0,none⟩),.pointer (some ⟨bk,0,none⟩),.int .i64 (nd:Int),.int .u32 (res:Int),.slice (some ⟨ba,0,none⟩) 3 3] w fun r w'=>r=.returned (.int .u32 ((finK res:Nat):Int))∧St W (upd σ b (.dec f n (s1+s2+s3) (c:Int))) w':=by
 have hr:=h.raw ha
 have a0:w.cell? ⟨ba,0,none⟩=some (.int .i64 s1):=by unfold World.cell?;rw [hr];rfl
 have a2:w.cell? ⟨ba,2,none⟩=some (.int .i64 s3):=by unfold World.cell?;rw [hr];rfl
 have a1:w.cell? ⟨ba,1,none⟩=some (.int .i64 s2):=by unfold World.cell?;rw [hr];rfl
 obtain ⟨k0,k1,k2,k3,k4⟩:=h.ctx hk
 obtain ⟨_,_,p1,m1,m2,m3,m4,m5⟩:=hk
 obtain ⟨d0,_,d2,f0,_,f2⟩:=h.dec hb
 have hnp:=Qi c
 have HX:=Lh (h.setExp hb (s1+s2+s3))
 have hKres:=Lh hres
 clear h hb ha hr hW hres hcl
 go_enter Tryz.func86, Tryz.ntmps86
 go_wp2_with fail
 refine wp_loop_rounds 4 ?_
 iterate 4 (rw [rounds_succ];go_wp2_with fail)
 have HI:=Lh (Qt (k:=res) hKres.out)
 have HJ:=Lh (Qo (k:=res) hKres.out)
 have HO:=Lh (Qr res 8 hKres.out (by decide))
 obtain ⟨i16,hi⟩:∃ i16,hasB res 16=i16:=⟨_,rfl⟩
 obtain ⟨i32,hj⟩:∃ i32,hasB res 32=i32:=⟨_,rfl⟩
 have hF:finK res=if i16=true∧i32=true then orN res 8 else res:=by unfold finK;rw [hi,hj]
 rw [hi] at HI;rw [hj] at HJ
 have hF:=Lh hF
 clear hi hj
 go_wp2_with fail
 refine (HI.out _).mono ?_
 rintro r w_ ⟨rfl,hw_⟩
 subst hw_
 clear HI
 cases i16
 ·go_wp2_with fail
  go_ret
  exact ⟨by rw [hF.out];rfl,HX.out⟩
 ·go_wp2_with fail
  refine (HJ.out _).mono ?_
  rintro r w_ ⟨rfl,hw_⟩
  subst hw_
  clear HJ
  cases i32
  ·go_wp2_with fail
   go_ret
   exact ⟨by rw [hF.out];rfl,HX.out⟩
  ·go_wp2_with fail
   go_ret
   exact ⟨by rw [hF.out];show Ending.returned (Value.int .u32 (bits .or .u32 (res:Int) 8))=_;rw [show bits .or .u32 (res:Int) 8=((orN res 8:Nat):Int) from HO.out];rfl,HX.out⟩
theorem Qas {W:World}{σ:Sg}{w:World}(hW:GW W)(h:St W σ w){b bk ba:Nat}{f:Int}{n:Bool}{e0:Int}{c p md res:Nat}{mx mn tr:Int}{s1 s2 s3:Int}{Ta:TypeId}{nd:Nat}(hb:σ b=some (.dec f n e0 (c:Int)))(hk:Ctx σ bk p mx mn tr md)(ha:σ ba=some (.raw (.cells #[.int .i64 s1,.int .i64 s2,.int .i64 s3] Ta)))
  (hs1:s1.natAbs≤20000) (hs2:s2.natAbs≤20000) (hs3:s3.natAbs≤20000) (hnd:nd≤405) (hres:res<4096) (hcl:c<BB^21) (c0:0<c) (c1:mx<(s1+s2+s3)+nd - 1) :
  Calls Tryz.prog 86 #[.pointer (some ⟨b,0,none⟩),.pointer (some ⟨bk,0,none⟩),.int .i64 (nd:Int),.int .u32 (res:Int),.slice (some ⟨ba,0,none⟩) 3 3] w fun r w'=>r=.returned (.int .u32 ((finK (orN res 20):Nat):Int))∧St W (upd σ b (.dec 1 n (s1+s2+s3) (c:Int))) w':=by
 have hr:=h.raw ha
 have a0:w.cell? ⟨ba,0,none⟩=some (.int .i64 s1):=by unfold World.cell?;rw [hr];rfl
 have a2:w.cell? ⟨ba,2,none⟩=some (.int .i64 s3):=by unfold World.cell?;rw [hr];rfl
 have a1:w.cell? ⟨ba,1,none⟩=some (.int .i64 s2):=by unfold World.cell?;rw [hr];rfl
 obtain ⟨k0,k1,k2,k3,k4⟩:=h.ctx hk
 obtain ⟨_,_,p1,m1,m2,m3,m4,m5⟩:=hk
 obtain ⟨d0,_,d2,f0,_,f2⟩:=h.dec hb
 have hnp:=Qi c
 have H0:=Lh h
 have HZ:Hid (∀ w1,St W σ w1→Calls Tryz.prog 81 #[.pointer (some ⟨b,0,none⟩)] w1 fun r w'=>r=.returned (.bool false)∧w'=w1):=fun w1 q1=>by
  have:=QC q1 hb
  rw [decide_eq_false (by omega)] at this
  exact this
 have HX:Hid (∀ w1,St W σ w1→St W (upd σ b (.dec 1 n (s1+s2+s3) (c:Int))) ((w1.setCell ⟨b,0,none⟩ (.int .i8 1)).setCell ⟨b,2,none⟩ (.int .i32 (s1+s2+s3)))):=fun w1 q1=>((q1.setForm hb 1).setExp (Q1 _ _ _) (s1+s2+s3)).upd2
 obtain ⟨K,hKe⟩:∃ K:Nat,orN res 20=K:=⟨_,rfl⟩
 have hKK:Hid (K<4096):=Lh (hKe ▸ Qv hres (by decide))
 have HV:=Lh (Qr res 20 hres (by decide))
 rw [hKe] at HV ⊢
 have hn1:¬ (((s1+s2+s3))+(nd:Int) - 1<mn):=by omega
 clear h hb ha hr hW hres hcl hKe
 go_enter Tryz.func86, Tryz.ntmps86
 go_wp2_with fail
 refine wp_loop_rounds 4 ?_
 iterate 4 (rw [rounds_succ];go_wp2_with fail)
 refine (HZ.out _ H0.out).mono ?_
 rintro r w_ ⟨rfl,hw_⟩
 subst hw_
 clear HZ
 have HI:=Lh (Qt (k:=K) hKK.out)
 have HJ:=Lh (Qo (k:=K) hKK.out)
 have HO:=Lh (Qr K 8 hKK.out (by decide))
 obtain ⟨i16,hi⟩:∃ i16,hasB K 16=i16:=⟨_,rfl⟩
 obtain ⟨i32,hj⟩:∃ i32,hasB K 32=i32:=⟨_,rfl⟩
 have hF:finK K=if i16=true∧i32=true then orN K 8 else K:=by unfold finK;rw [hi,hj]
 rw [hi] at HI;rw [hj] at HJ
 have hF:=Lh hF
 clear hi hj
 go_wp2_with fail
 rw [show bits .or .u32 (res:Int) 20=((K:Nat):Int) from HV.out]
 refine (HI.out _).mono ?_
 rintro r w_ ⟨rfl,hw_⟩
 subst hw_
 clear HI
 cases i16
 ·go_wp2_with fail
  go_ret
  exact ⟨by rw [hF.out];rfl,HX.out _ H0.out⟩
 ·go_wp2_with fail
  refine (HJ.out _).mono ?_
  rintro r w_ ⟨rfl,hw_⟩
  subst hw_
  clear HJ
  cases i32
  ·go_wp2_with fail
   go_ret
   exact ⟨by rw [hF.out];rfl,HX.out _ H0.out⟩
  ·go_wp2_with fail
   go_ret
   exact ⟨by rw [hF.out];show Ending.returned (Value.int .u32 (bits .or .u32 (K:Int) 8))=_;rw [show bits .or .u32 (K:Int) 8=((orN K 8:Nat):Int) from HO.out];rfl,HX.out _ H0.out⟩
theorem QaC {W:World}{σ:Sg}{w:World}(hW:GW W)(h:St W σ w){b bk ba:Nat}{f:Int}{n:Bool}{e0:Int}{c p md res:Nat}{mx mn tr:Int}{s1 s2 s3:Int}{Ta:TypeId}{nd:Nat}(hb:σ b=some (.dec f n e0 (c:Int)))(hk:Ctx σ bk p mx mn tr md)(ha:σ ba=some (.raw (.cells #[.int .i64 s1,.int .i64 s2,.int .i64 s3] Ta)))
  (hs1:s1.natAbs≤20000) (hs2:s2.natAbs≤20000) (hs3:s3.natAbs≤20000) (hnd:nd=ndg c) (hres:res<4096) (hcl:c<BB^21) (c1:mn≤(s1+s2+s3)+nd - 1) (c2:(s1+s2+s3)+nd - 1≤mx) :
  Calls Tryz.prog 86 #[.pointer (some ⟨b,0,none⟩),.pointer (some ⟨bk,0,none⟩),.int .i64 (-1),.int .u32 (res:Int),.slice (some ⟨ba,0,none⟩) 3 3] w fun r w'=>r=.returned (.int .u32 ((finK res:Nat):Int))∧St W (upd σ b (.dec f n (s1+s2+s3) (c:Int))) w':=by
 have hr:=h.raw ha
 have a0:w.cell? ⟨ba,0,none⟩=some (.int .i64 s1):=by unfold World.cell?;rw [hr];rfl
 have a2:w.cell? ⟨ba,2,none⟩=some (.int .i64 s3):=by unfold World.cell?;rw [hr];rfl
 have a1:w.cell? ⟨ba,1,none⟩=some (.int .i64 s2):=by unfold World.cell?;rw [hr];rfl
 obtain ⟨k0,k1,k2,k3,k4⟩:=h.ctx hk
 obtain ⟨_,HCX,p1,m1,m2,m3,m4,m5⟩:=hk
 obtain ⟨d0,_,d2,f0,_,f2⟩:=h.dec hb
 have hnp:=Qi c
 have HD:Hid (Calls Tryz.prog 103 #[.pointer (some ⟨b,0,none⟩)] w fun r w'=>r=.returned (.int .i64 (nd:Int))∧St W σ w'):=by rw [hnd];exact Qs hW h hb hcl
 have hnd':nd≤405:=by rw [hnd];exact QG hcl
 have HC:Hid (∀ w1,St W σ w1→((w1.cell? ⟨bk,0,none⟩=some (.int .u32 (p:Int))∧w1.cell? ⟨bk,1,none⟩=some (.int .i32 mx)∧w1.cell? ⟨bk,2,none⟩=some (.int .i32 mn))∧(w1.cell? ⟨b,0,none⟩=some (.int .i8 f)∧w1.frozen? ⟨b,0,none⟩=false)∧(w1.cell? ⟨b,2,none⟩=some (.int .i32 e0)∧w1.frozen? ⟨b,2,none⟩=false))):=fun w1 q1=>by
  obtain ⟨x0,_,x2,y0,_,y2⟩:=q1.dec hb
  have hr1:=q1.raw HCX
  refine ⟨⟨?_,?_,?_⟩,⟨x0,y0⟩,⟨x2,y2⟩⟩ <;> (unfold World.cell?;rw [hr1];rfl)
 clear hnd
 have HX:Hid (∀ w1,St W σ w1→St W (upd σ b (.dec f n (s1+s2+s3) (c:Int))) (w1.setCell ⟨b,2,none⟩ (.int .i32 (s1+s2+s3)))):=fun w1 q1=>q1.setExp hb (s1+s2+s3)
 have hKres:=Lh hres
 clear h hb ha hr hW hres hcl HCX
 go_enter Tryz.func86, Tryz.ntmps86
 go_wp2_with fail
 refine wp_loop_rounds 4 ?_
 iterate 4 (rw [rounds_succ];go_wp2_with fail)
 refine HD.out.mono ?_
 rintro r w1 ⟨rfl,q1⟩
 obtain ⟨⟨kk0,kk1,kk2⟩,⟨x0,y0⟩,⟨x2,y2⟩⟩:=HC.out _ q1
 have H1:=Lh q1;clear q1 HD HC
 go_wp2_with fail
 have HI:=Lh (Qt (k:=res) hKres.out)
 have HJ:=Lh (Qo (k:=res) hKres.out)
 have HO:=Lh (Qr res 8 hKres.out (by decide))
 obtain ⟨i16,hi⟩:∃ i16,hasB res 16=i16:=⟨_,rfl⟩
 obtain ⟨i32,hj⟩:∃ i32,hasB res 32=i32:=⟨_,rfl⟩
 have hF:finK res=if i16=true∧i32=true then orN res 8 else res:=by unfold finK;rw [hi,hj]
 rw [hi] at HI;rw [hj] at HJ
 have hF:=Lh hF
 clear hi hj
 go_wp2_with fail
 refine (HI.out _).mono ?_
 rintro r w_ ⟨rfl,hw_⟩
 subst hw_
 clear HI
 cases i16
 ·go_wp2_with fail
  go_ret
  exact ⟨by rw [hF.out];rfl,HX.out _ H1.out⟩
 ·go_wp2_with fail
  refine (HJ.out _).mono ?_
  rintro r w_ ⟨rfl,hw_⟩
  subst hw_
  clear HJ
  cases i32
  ·go_wp2_with fail
   go_ret
   exact ⟨by rw [hF.out];rfl,HX.out _ H1.out⟩
  ·go_wp2_with fail
   go_ret
   exact ⟨by rw [hF.out];show Ending.returned (Value.int .u32 (bits .or .u32 (res:Int) 8))=_;rw [show bits .or .u32 (res:Int) 8=((orN res 8:Nat):Int) from HO.out];rfl,HX.out _ H1.out⟩
theorem Qat {W:World}{σ:Sg}{w:World}(hW:GW W)(h:St W σ w){b bk ba:Nat}{f:Int}{n:Bool}{e0:Int}{c p md res:Nat}{mx mn tr:Int}{s1 s2 s3:Int}{Ta:TypeId}{nd:Nat}(hb:σ b=some (.dec f n e0 (c:Int)))(hk:Ctx σ bk p mx mn tr md)(ha:σ ba=some (.raw (.cells #[.int .i64 s1,.int .i64 s2,.int .i64 s3] Ta)))
  (hs1:s1.natAbs≤20000) (hs2:s2.natAbs≤20000) (hs3:s3.natAbs≤20000) (hnd:nd=ndg c) (hres:res<4096) (hcl:c<BB^21) (c0:0<c) (c1:mx<(s1+s2+s3)+nd - 1) :
  Calls Tryz.prog 86 #[.pointer (some ⟨b,0,none⟩),.pointer (some ⟨bk,0,none⟩),.int .i64 (-1),.int .u32 (res:Int),.slice (some ⟨ba,0,none⟩) 3 3] w fun r w'=>r=.returned (.int .u32 ((finK (orN res 20):Nat):Int))∧St W (upd σ b (.dec 1 n (s1+s2+s3) (c:Int))) w':=by
 have hr:=h.raw ha
 have a0:w.cell? ⟨ba,0,none⟩=some (.int .i64 s1):=by unfold World.cell?;rw [hr];rfl
 have a2:w.cell? ⟨ba,2,none⟩=some (.int .i64 s3):=by unfold World.cell?;rw [hr];rfl
 have a1:w.cell? ⟨ba,1,none⟩=some (.int .i64 s2):=by unfold World.cell?;rw [hr];rfl
 obtain ⟨k0,k1,k2,k3,k4⟩:=h.ctx hk
 obtain ⟨_,HCX,p1,m1,m2,m3,m4,m5⟩:=hk
 obtain ⟨d0,_,d2,f0,_,f2⟩:=h.dec hb
 have hnp:=Qi c
 have HD:Hid (Calls Tryz.prog 103 #[.pointer (some ⟨b,0,none⟩)] w fun r w'=>r=.returned (.int .i64 (nd:Int))∧St W σ w'):=by rw [hnd];exact Qs hW h hb hcl
 have hnd':nd≤405:=by rw [hnd];exact QG hcl
 have HC:Hid (∀ w1,St W σ w1→((w1.cell? ⟨bk,0,none⟩=some (.int .u32 (p:Int))∧w1.cell? ⟨bk,1,none⟩=some (.int .i32 mx)∧w1.cell? ⟨bk,2,none⟩=some (.int .i32 mn))∧(w1.cell? ⟨b,0,none⟩=some (.int .i8 f)∧w1.frozen? ⟨b,0,none⟩=false)∧(w1.cell? ⟨b,2,none⟩=some (.int .i32 e0)∧w1.frozen? ⟨b,2,none⟩=false))):=fun w1 q1=>by
  obtain ⟨x0,_,x2,y0,_,y2⟩:=q1.dec hb
  have hr1:=q1.raw HCX
  refine ⟨⟨?_,?_,?_⟩,⟨x0,y0⟩,⟨x2,y2⟩⟩ <;> (unfold World.cell?;rw [hr1];rfl)
 clear hnd
 have H0:=Lh h
 have HZ:Hid (∀ w1,St W σ w1→Calls Tryz.prog 81 #[.pointer (some ⟨b,0,none⟩)] w1 fun r w'=>r=.returned (.bool false)∧w'=w1):=fun w1 q1=>by
  have:=QC q1 hb
  rw [decide_eq_false (by omega)] at this
  exact this
 have HX:Hid (∀ w1,St W σ w1→St W (upd σ b (.dec 1 n (s1+s2+s3) (c:Int))) ((w1.setCell ⟨b,0,none⟩ (.int .i8 1)).setCell ⟨b,2,none⟩ (.int .i32 (s1+s2+s3)))):=fun w1 q1=>((q1.setForm hb 1).setExp (Q1 _ _ _) (s1+s2+s3)).upd2
 obtain ⟨K,hKe⟩:∃ K:Nat,orN res 20=K:=⟨_,rfl⟩
 have hKK:Hid (K<4096):=Lh (hKe ▸ Qv hres (by decide))
 have HV:=Lh (Qr res 20 hres (by decide))
 rw [hKe] at HV ⊢
 have hn1:¬ (((s1+s2+s3))+(nd:Int) - 1<mn):=by omega
 clear h hb ha hr hW hres hcl hKe HCX
 go_enter Tryz.func86, Tryz.ntmps86
 go_wp2_with fail
 refine wp_loop_rounds 4 ?_
 iterate 4 (rw [rounds_succ];go_wp2_with fail)
 refine HD.out.mono ?_
 rintro r w1 ⟨rfl,q1⟩
 obtain ⟨⟨kk0,kk1,kk2⟩,⟨x0,y0⟩,⟨x2,y2⟩⟩:=HC.out _ q1
 have H1:=Lh q1;clear q1 HD HC
 go_wp2_with fail
 refine (HZ.out _ H1.out).mono ?_
 rintro r w_ ⟨rfl,hw_⟩
 subst hw_
 clear HZ
 have HI:=Lh (Qt (k:=K) hKK.out)
 have HJ:=Lh (Qo (k:=K) hKK.out)
 have HO:=Lh (Qr K 8 hKK.out (by decide))
 obtain ⟨i16,hi⟩:∃ i16,hasB K 16=i16:=⟨_,rfl⟩
 obtain ⟨i32,hj⟩:∃ i32,hasB K 32=i32:=⟨_,rfl⟩
 have hF:finK K=if i16=true∧i32=true then orN K 8 else K:=by unfold finK;rw [hi,hj]
 rw [hi] at HI;rw [hj] at HJ
 have hF:=Lh hF
 clear hi hj
 go_wp2_with fail
 rw [show bits .or .u32 (res:Int) 20=((K:Nat):Int) from HV.out]
 refine (HI.out _).mono ?_
 rintro r w_ ⟨rfl,hw_⟩
 subst hw_
 clear HI
 cases i16
 ·go_wp2_with fail
  go_ret
  exact ⟨by rw [hF.out];rfl,HX.out _ H1.out⟩
 ·go_wp2_with fail
  refine (HJ.out _).mono ?_
  rintro r w_ ⟨rfl,hw_⟩
  subst hw_
  clear HJ
  cases i32
  ·go_wp2_with fail
   go_ret
   exact ⟨by rw [hF.out];rfl,HX.out _ H1.out⟩
  ·go_wp2_with fail
   go_ret
   exact ⟨by rw [hF.out];show Ending.returned (Value.int .u32 (bits .or .u32 (K:Int) 8))=_;rw [show bits .or .u32 (K:Int) 8=((orN K 8:Nat):Int) from HO.out];rfl,HX.out _ H1.out⟩
theorem QaD {W:World}{σ:Sg}{w:World}(hW:GW W)(h:St W σ w){b bk ba:Nat}{f:Int}{n:Bool}{e0:Int}{c p md res:Nat}{mx mn tr:Int}{s:Int}{Ta:TypeId}{nd:Nat}(hb:σ b=some (.dec f n e0 (c:Int)))(hk:Ctx σ bk p mx mn tr md)(ha:σ ba=some (.raw (.cells #[.int .i64 s] Ta)))
  (hs:s.natAbs≤90000) (hnd:nd=ndg c) (hres:res<4096) (hcl:c<BB^21) (c1:mn≤s+nd - 1) (c2:s+nd - 1≤mx) :
  Calls Tryz.prog 86 #[.pointer (some ⟨b,0,none⟩),.pointer (some ⟨bk,0,none⟩),.int .i64 (-1),.int .u32 (res:Int),.slice (some ⟨ba,0,none⟩) 1 1] w fun r w'=>r=.returned (.int .u32 ((finK res:Nat):Int))∧St W (upd σ b (.dec f n s (c:Int))) w':=by
 have hr:=h.raw ha
 have a0:w.cell? ⟨ba,0,none⟩=some (.int .i64 s):=by unfold World.cell?;rw [hr];rfl
 obtain ⟨k0,k1,k2,k3,k4⟩:=h.ctx hk
 obtain ⟨_,HCX,p1,m1,m2,m3,m4,m5⟩:=hk
 obtain ⟨d0,_,d2,f0,_,f2⟩:=h.dec hb
 have hnp:=Qi c
 have HD:Hid (Calls Tryz.prog 103 #[.pointer (some ⟨b,0,none⟩)] w fun r w'=>r=.returned (.int .i64 (nd:Int))∧St W σ w'):=by rw [hnd];exact Qs hW h hb hcl
 have hnd':nd≤405:=by rw [hnd];exact QG hcl
 have HC:Hid (∀ w1,St W σ w1→((w1.cell? ⟨bk,0,none⟩=some (.int .u32 (p:Int))∧w1.cell? ⟨bk,1,none⟩=some (.int .i32 mx)∧w1.cell? ⟨bk,2,none⟩=some (.int .i32 mn))∧(w1.cell? ⟨b,0,none⟩=some (.int .i8 f)∧w1.frozen? ⟨b,0,none⟩=false)∧(w1.cell? ⟨b,2,none⟩=some (.int .i32 e0)∧w1.frozen? ⟨b,2,none⟩=false))):=fun w1 q1=>by
  obtain ⟨x0,_,x2,y0,_,y2⟩:=q1.dec hb
  have hr1:=q1.raw HCX
  refine ⟨⟨?_,?_,?_⟩,⟨x0,y0⟩,⟨x2,y2⟩⟩ <;> (unfold World.cell?;rw [hr1];rfl)
 clear hnd
 have HX:Hid (∀ w1,St W σ w1→St W (upd σ b (.dec f n s (c:Int))) (w1.setCell ⟨b,2,none⟩ (.int .i32 s))):=fun w1 q1=>q1.setExp hb s
 have hKres:=Lh hres
 clear h hb ha hr hW hres hcl HCX
 go_enter Tryz.func86, Tryz.ntmps86
 go_wp2_with fail
 refine wp_loop_rounds 2 ?_
 iterate 2 (rw [rounds_succ];go_wp2_with fail)
 refine HD.out.mono ?_
 rintro r w1 ⟨rfl,q1⟩
 obtain ⟨⟨kk0,kk1,kk2⟩,⟨x0,y0⟩,⟨x2,y2⟩⟩:=HC.out _ q1
 have H1:=Lh q1;clear q1 HD HC
 go_wp2_with fail
 have HI:=Lh (Qt (k:=res) hKres.out)
 have HJ:=Lh (Qo (k:=res) hKres.out)
 have HO:=Lh (Qr res 8 hKres.out (by decide))
 obtain ⟨i16,hi⟩:∃ i16,hasB res 16=i16:=⟨_,rfl⟩
 obtain ⟨i32,hj⟩:∃ i32,hasB res 32=i32:=⟨_,rfl⟩
 have hF:finK res=if i16=true∧i32=true then orN res 8 else res:=by unfold finK;rw [hi,hj]
 rw [hi] at HI;rw [hj] at HJ
 have hF:=Lh hF
 clear hi hj
 go_wp2_with fail
 refine (HI.out _).mono ?_
 rintro r w_ ⟨rfl,hw_⟩
 subst hw_
 clear HI
 cases i16
 ·go_wp2_with fail
  go_ret
  exact ⟨by rw [hF.out];rfl,HX.out _ H1.out⟩
 ·go_wp2_with fail
  refine (HJ.out _).mono ?_
  rintro r w_ ⟨rfl,hw_⟩
  subst hw_
  clear HJ
  cases i32
  ·go_wp2_with fail
   go_ret
   exact ⟨by rw [hF.out];rfl,HX.out _ H1.out⟩
  ·go_wp2_with fail
   go_ret
   exact ⟨by rw [hF.out];show Ending.returned (Value.int .u32 (bits .or .u32 (res:Int) 8))=_;rw [show bits .or .u32 (res:Int) 8=((orN res 8:Nat):Int) from HO.out];rfl,HX.out _ H1.out⟩
theorem Qau {W:World}{σ:Sg}{w:World}(hW:GW W)(h:St W σ w){b bk ba:Nat}{n:Bool}{e0:Int}{p md res:Nat}{mx mn tr:Int}{s:Int}{Ta:TypeId}{nd:Nat}(hb:σ b=some (.dec 0 n e0 (0:Int)))(hk:Ctx σ bk p mx mn tr md)(ha:σ ba=some (.raw (.cells #[.int .i64 s] Ta)))
  (hs:s.natAbs≤90000) (hnd:nd=1) (hres:res<4096) (c1:s+nd - 1<mn) (c2:mn - ((p:Int) - 1)≤s) :
  Calls Tryz.prog 86 #[.pointer (some ⟨b,0,none⟩),.pointer (some ⟨bk,0,none⟩),.int .i64 (-1),.int .u32 (res:Int),.slice (some ⟨ba,0,none⟩) 1 1] w fun r w'=>r=.returned (.int .u32 ((finK res:Nat):Int))∧St W (upd σ b (.dec 0 n s 0)) w':=by
 have hr:=h.raw ha
 have a0:w.cell? ⟨ba,0,none⟩=some (.int .i64 s):=by unfold World.cell?;rw [hr];rfl
 obtain ⟨k0,k1,k2,k3,k4⟩:=h.ctx hk
 obtain ⟨_,HCX,p1,m1,m2,m3,m4,m5⟩:=hk
 obtain ⟨d0,_,d2,f0,_,f2⟩:=h.dec hb
 have HD:Hid (Calls Tryz.prog 103 #[.pointer (some ⟨b,0,none⟩)] w fun r w'=>r=.returned (.int .i64 (nd:Int))∧St W σ w'):=by rw [hnd,show ((1:Nat):Int)=(ndg 0:Int) by rw [Qj (by decide)]];exact Qs hW h (c:=0) hb (by unfold BB;decide)
 have hnd':nd≤405:=by omega
 have HC:Hid (∀ w1,St W σ w1→((w1.cell? ⟨bk,0,none⟩=some (.int .u32 (p:Int))∧w1.cell? ⟨bk,1,none⟩=some (.int .i32 mx)∧w1.cell? ⟨bk,2,none⟩=some (.int .i32 mn))∧(w1.cell? ⟨b,0,none⟩=some (.int .i8 0)∧w1.frozen? ⟨b,0,none⟩=false)∧(w1.cell? ⟨b,2,none⟩=some (.int .i32 e0)∧w1.frozen? ⟨b,2,none⟩=false))):=fun w1 q1=>by
  obtain ⟨x0,_,x2,y0,_,y2⟩:=q1.dec hb
  have hr1:=q1.raw HCX
  refine ⟨⟨?_,?_,?_⟩,⟨x0,y0⟩,⟨x2,y2⟩⟩ <;> (unfold World.cell?;rw [hr1];rfl)
 clear hnd
 have H0:=Lh h
 have HZ:Hid (∀ w1,St W σ w1→Calls Tryz.prog 81 #[.pointer (some ⟨b,0,none⟩)] w1 fun r w'=>r=.returned (.bool true)∧w'=w1):=fun w1 q1=>QC (c:=0) q1 hb
 have HX:Hid (∀ w1,St W σ w1→St W (upd σ b (.dec 0 n s 0)) (w1.setCell ⟨b,2,none⟩ (.int .i32 s))):=fun w1 q1=>q1.setExp hb s
 have hKres:=Lh hres
 have hn1:¬ (s<mn - ((p:Int) - 1)):=by omega
 clear h hb ha hr hW hres HCX
 go_enter Tryz.func86, Tryz.ntmps86
 go_wp2_with fail
 refine wp_loop_rounds 2 ?_
 iterate 2 (rw [rounds_succ];go_wp2_with fail)
 refine HD.out.mono ?_
 rintro r w1 ⟨rfl,q1⟩
 obtain ⟨⟨kk0,kk1,kk2⟩,⟨x0,y0⟩,⟨x2,y2⟩⟩:=HC.out _ q1
 have H1:=Lh q1;clear q1 HD HC
 go_wp2_with fail
 refine (HZ.out _ H1.out).mono ?_
 rintro r w_ ⟨rfl,hw_⟩
 subst hw_
 clear HZ
 go_wp2_with fail
 go_quiet (fail)
 have H2:=Lh (H1.out.drewN nq)
 have HI:=Lh (Qt (k:=res) hKres.out)
 have HJ:=Lh (Qo (k:=res) hKres.out)
 have HO:=Lh (Qr res 8 hKres.out (by decide))
 obtain ⟨i16,hi⟩:∃ i16,hasB res 16=i16:=⟨_,rfl⟩
 obtain ⟨i32,hj⟩:∃ i32,hasB res 32=i32:=⟨_,rfl⟩
 have hF:finK res=if i16=true∧i32=true then orN res 8 else res:=by unfold finK;rw [hi,hj]
 rw [hi] at HI;rw [hj] at HJ
 have hF:=Lh hF
 clear hi hj
 go_wp2_with fail
 refine (HI.out _).mono ?_
 rintro r w_ ⟨rfl,hw_⟩
 subst hw_
 clear HI
 cases i16
 ·go_wp2_with fail
  go_ret
  exact ⟨by rw [hF.out];rfl,HX.out _ H2.out⟩
 ·go_wp2_with fail
  refine (HJ.out _).mono ?_
  rintro r w_ ⟨rfl,hw_⟩
  subst hw_
  clear HJ
  cases i32
  ·go_wp2_with fail
   go_ret
   exact ⟨by rw [hF.out];rfl,HX.out _ H2.out⟩
  ·go_wp2_with fail
   go_ret
   exact ⟨by rw [hF.out];show Ending.returned (Value.int .u32 (bits .or .u32 (res:Int) 8))=_;rw [show bits .or .u32 (res:Int) 8=((orN res 8:Nat):Int) from HO.out];rfl,HX.out _ H2.out⟩
end Go.Proofs.YtpebcmfpehdafaaGreatDoor
