/- a part of the proof -/
import Derived.Laws.FloatArith
import Derived.Test.YtpebcmfpehdafaaGreatDoorZ5
import Derived.Test.YtpebcmfpehdafaaGreatDoorZ7
set_option linter.all false
set_option maxRecDepth 100000
set_option maxHeartbeats 16000000
namespace Go.Proofs.YtpebcmfpehdafaaGreatDoor
open Go Go.RowKit
theorem Q5t {w:World}{bz oz bx ox bu ou:Nat}{R:World→Prop}(h:Calls Tryz.prog 151 #[.pointer (some ⟨bz,oz,none⟩),.pointer (some ⟨bx,ox,none⟩),.pointer (some ⟨bu,ou,none⟩)] w.drew fun e w'=>e=.returned (.pointer (some ⟨bz,oz,none⟩))∧R w') :
  Calls Tryz.prog 98 #[.pointer (some ⟨bz,oz,none⟩),.pointer (some ⟨bx,ox,none⟩),.pointer (some ⟨bu,ou,none⟩)] w fun e w'=>e=.returned (.pointer (some ⟨bz,oz,none⟩))∧R w':=by
 have H:=Lh h
 clear h
 go_enter Tryz.func98, Tryz.ntmps98
 go_wp2_with fail
 go_still_tail 9,(by kernel_rfl)
 go_wp2_with (go_at_call 151;refine H.out.mono ?_;rintro e w1 ⟨rfl,hR⟩;have HR:=Lh hR;clear hR)
 go_ret
 exact ⟨rfl,HR.out⟩
theorem Q5u {w:World}{bz oz bx ox bu ou:Nat}{R:World→Prop}(h:Calls Tryz.prog 130 #[.pointer (some ⟨bz,oz,none⟩),.pointer (some ⟨bx,ox,none⟩),.pointer (some ⟨bu,ou,none⟩)] w.drew fun e w'=>e=.returned (.pointer (some ⟨bz,oz,none⟩))∧R w') :
  Calls Tryz.prog 85 #[.pointer (some ⟨bz,oz,none⟩),.pointer (some ⟨bx,ox,none⟩),.pointer (some ⟨bu,ou,none⟩)] w fun e w'=>e=.returned (.pointer (some ⟨bz,oz,none⟩))∧R w':=by
 have H:=Lh h
 clear h
 go_enter Tryz.func85, Tryz.ntmps85
 go_wp2_with fail
 go_still_tail 9,(by kernel_rfl)
 go_wp2_with (go_at_call 130;refine H.out.mono ?_;rintro e w1 ⟨rfl,hR⟩;have HR:=Lh hR;clear hR)
 go_ret
 exact ⟨rfl,HR.out⟩
theorem Q9L {w:World}{bz oz bx ox bu ou:Nat}{R:World→Prop}(h:Calls Tryz.prog 196 #[.pointer (some ⟨bz,oz,none⟩),.pointer (some ⟨bx,ox,none⟩),.pointer (some ⟨bu,ou,none⟩)] w.drew fun e w'=>e=.returned (.pointer (some ⟨bz,oz,none⟩))∧R w') :
  Calls Tryz.prog 173 #[.pointer (some ⟨bz,oz,none⟩),.pointer (some ⟨bx,ox,none⟩),.pointer (some ⟨bu,ou,none⟩)] w fun e w'=>e=.returned (.pointer (some ⟨bz,oz,none⟩))∧R w':=by
 have H:=Lh h
 clear h
 go_enter Tryz.func173, Tryz.ntmps173
 go_wp2_with fail
 go_still_tail 9,(by kernel_rfl)
 go_wp2_with (go_at_call 196;refine H.out.mono ?_;rintro e w1 ⟨rfl,hR⟩;have HR:=Lh hR;clear hR)
 go_ret
 exact ⟨rfl,HR.out⟩
theorem Q1r {w:World}{bz oz bx ox bu ou br or:Nat}{R:World→Prop}(h:Calls Tryz.prog 141 #[.pointer (some ⟨bz,oz,none⟩),.pointer (some ⟨bx,ox,none⟩),.pointer (some ⟨bu,ou,none⟩),.pointer (some ⟨br,or,none⟩)] w.drew fun e w'=>e=.returned (.tuple #[.pointer (some ⟨bz,oz,none⟩),.pointer (some ⟨br,or,none⟩)])∧R w') :
  Calls Tryz.prog 94 #[.pointer (some ⟨bz,oz,none⟩),.pointer (some ⟨bx,ox,none⟩),.pointer (some ⟨bu,ou,none⟩),.pointer (some ⟨br,or,none⟩)] w fun e w'=>e=.returned (.tuple #[.pointer (some ⟨bz,oz,none⟩),.pointer (some ⟨br,or,none⟩)])∧R w':=by
 have H:=Lh h
 clear h
 go_enter Tryz.func94, Tryz.ntmps94
 go_wp2_with fail
 go_still_tail 12,(by kernel_rfl)
 go_wp2_with (go_at_call 141;refine H.out.mono ?_;rintro e w1 ⟨rfl,hR⟩;have HR:=Lh hR;clear hR)
 go_ret2
 exact ⟨rfl,HR.out⟩
theorem Q1i {w:World}{bz oz bx ox:Nat}{R:World→Prop}(h:Calls Tryz.prog 161 #[.pointer (some ⟨bz,oz,none⟩),.pointer (some ⟨bx,ox,none⟩)] w.drew fun e w'=>e=.returned (.pointer (some ⟨bz,oz,none⟩))∧R w') :
  Calls Tryz.prog 119 #[.pointer (some ⟨bz,oz,none⟩),.pointer (some ⟨bx,ox,none⟩)] w fun e w'=>e=.returned (.pointer (some ⟨bz,oz,none⟩))∧R w':=by
 have H:=Lh h
 clear h
 go_enter Tryz.func119, Tryz.ntmps119
 go_wp2_with fail
 go_still_tail 6,(by kernel_rfl)
 go_wp2_with (go_at_call 161;refine H.out.mono ?_;rintro e w1 ⟨rfl,hR⟩;have HR:=Lh hR;clear hR)
 go_ret
 exact ⟨rfl,HR.out⟩
theorem Q2W {w:World}{bz oz bx ox:Nat}{R:World→Prop}(h:Calls Tryz.prog 136 #[.pointer (some ⟨bz,oz,none⟩),.pointer (some ⟨bx,ox,none⟩)] w.drew fun e w'=>e=.returned (.pointer (some ⟨bz,oz,none⟩))∧R w') :
  Calls Tryz.prog 89 #[.pointer (some ⟨bz,oz,none⟩),.pointer (some ⟨bx,ox,none⟩)] w fun e w'=>e=.returned (.pointer (some ⟨bz,oz,none⟩))∧R w':=by
 have H:=Lh h
 clear h
 go_enter Tryz.func89, Tryz.ntmps89
 go_wp2_with fail
 go_still_tail 6,(by kernel_rfl)
 go_wp2_with (go_at_call 136;refine H.out.mono ?_;rintro e w1 ⟨rfl,hR⟩;have HR:=Lh hR;clear hR)
 go_ret
 exact ⟨rfl,HR.out⟩
theorem Q9N {w:World}{bz oz bx ox bu ou:Nat}{R:World→Prop}(h:Calls Tryz.prog 189 #[.pointer (some ⟨bz,oz,none⟩),.pointer (some ⟨bx,ox,none⟩),.pointer (some ⟨bu,ou,none⟩),.pointer none] w.drew fun e w'=>e=.returned (.pointer (some ⟨bz,oz,none⟩))∧R w') :
  Calls Tryz.prog 169 #[.pointer (some ⟨bz,oz,none⟩),.pointer (some ⟨bx,ox,none⟩),.pointer (some ⟨bu,ou,none⟩),.pointer none] w fun e w'=>e=.returned (.pointer (some ⟨bz,oz,none⟩))∧R w':=by
 have H:=Lh h
 clear h
 go_enter Tryz.func169, Tryz.ntmps169
 go_wp2_with fail
 go_still_tail 9,(by kernel_rfl)
 go_wp2_with (go_at_call 189;refine H.out.mono ?_;rintro e w1 ⟨rfl,hR⟩;have HR:=Lh hR;clear hR)
 go_ret
 exact ⟨rfl,HR.out⟩
theorem Q26 {w:World}{bx ox bu ou:Nat}{v:Int}{R:World→Prop}(h:Calls Tryz.prog 139 #[.pointer (some ⟨bx,ox,none⟩),.pointer (some ⟨bu,ou,none⟩)] w.drew fun e w'=>e=.returned (.int .i64 v)∧R w') :
  Calls Tryz.prog 92 #[.pointer (some ⟨bx,ox,none⟩),.pointer (some ⟨bu,ou,none⟩)] w fun e w'=>e=.returned (.int .i64 v)∧R w':=by
 have H:=Lh h
 clear h
 go_enter Tryz.func92, Tryz.ntmps92
 go_wp2_with fail
 go_still_tail 6,(by kernel_rfl)
 go_wp2_with (go_at_call 139;refine H.out.mono ?_;rintro e w1 ⟨rfl,hR⟩;have HR:=Lh hR;clear hR)
 go_ret
 exact ⟨rfl,HR.out⟩
theorem Q13 {w:World}{bx ox:Nat}{v:Int}{R:World→Prop}(h:Calls Tryz.prog 142 #[.pointer (some ⟨bx,ox,none⟩)] w fun e w'=>e=.returned (.int .i64 v)∧R w') :
  Calls Tryz.prog 95 #[.pointer (some ⟨bx,ox,none⟩)] w fun e w'=>e=.returned (.int .i64 v)∧R w':=by
 have H:=Lh h
 clear h
 go_enter Tryz.func95, Tryz.ntmps95
 go_wp2_with (go_at_call 142;refine H.out.mono ?_;rintro e w1 ⟨rfl,hR⟩;have HR:=Lh hR;clear hR)
 go_ret
 exact ⟨rfl,HR.out⟩
theorem Q3H {w:World}{bx ox:Nat}{v:Int}{R:World→Prop}(h:Calls Tryz.prog 168 #[.pointer (some ⟨bx,ox,none⟩)] w fun e w'=>e=.returned (.int .i64 v)∧R w') :
  Calls Tryz.prog 137 #[.pointer (some ⟨bx,ox,none⟩)] w fun e w'=>e=.returned (.int .i64 v)∧R w':=by
 have H:=Lh h
 clear h
 go_enter Tryz.func137, Tryz.ntmps137
 go_wp2_with (go_at_call 168;refine H.out.mono ?_;rintro e w1 ⟨rfl,hR⟩;have HR:=Lh hR;clear hR)
 go_ret
 exact ⟨rfl,HR.out⟩
theorem Q9e {w:World}{bx ox:Nat}{v:Int}{R:World→Prop}(h:Calls Tryz.prog 195 #[.pointer (some ⟨bx,ox,none⟩),.int .i64 0] w fun e w'=>e=.returned (.int .u64 v)∧R w') :
  Calls Tryz.prog 172 #[.pointer (some ⟨bx,ox,none⟩),.int .i64 0] w fun e w'=>e=.returned (.int .u64 v)∧R w':=by
 have H:=Lh h
 clear h
 go_enter Tryz.func172, Tryz.ntmps172
 go_wp2_with (go_at_call 195;refine H.out.mono ?_;rintro e w1 ⟨rfl,hR⟩;have HR:=Lh hR;clear hR)
 go_ret
 exact ⟨rfl,HR.out⟩
theorem Q0k {w:World}{bz oz:Nat}{v:Int}{R:World→Prop}(h:Calls Tryz.prog 178 #[.pointer (some ⟨bz,oz,none⟩),.int .i64 v] w fun e w'=>e=.returned (.pointer (some ⟨bz,oz,none⟩))∧R w') :
  Calls Tryz.prog 154 #[.pointer (some ⟨bz,oz,none⟩),.int .i64 v] w fun e w'=>e=.returned (.pointer (some ⟨bz,oz,none⟩))∧R w':=by
 have H:=Lh h
 clear h
 go_enter Tryz.func154, Tryz.ntmps154
 go_wp2_with (go_at_call 178;refine H.out.mono ?_;rintro e w1 ⟨rfl,hR⟩;have HR:=Lh hR;clear hR)
 go_ret
 exact ⟨rfl,HR.out⟩
def Ext (σ τ:Sg):Prop:=∀ b ob,σ b=some ob→τ b=some ob
theorem Ext.refl (σ:Sg):Ext σ σ:=fun _ _ h=>h
theorem Ext.trans {σ τ υ:Sg}(h:Ext σ τ)(k:Ext τ υ):Ext σ υ:=fun b ob hb=>k b ob (h b ob hb)
theorem Ext.new {σ:Sg}{b:Nat}(h:σ b=none)(o:Ob):Ext σ (upd σ b o):=fun k ob hk=>by
 rw [Qa σ o (by rintro rfl;rw [h] at hk;cases hk)];exact hk
theorem Ext.upd {σ τ:Sg}(h:Ext σ τ)(b:Nat)(o:Ob):Ext (upd σ b o) (Go.Proofs.YtpebcmfpehdafaaGreatDoor.upd τ b o):=fun k ob hk=>by
 by_cases e:k=b
 ·subst e;rw [Q1] at hk ⊢;exact hk
 ·rw [Qa σ o e] at hk;rw [Qa τ o e];exact h k ob hk
theorem Ext.setN {σ τ:Sg}(h:Ext σ τ)(b:Nat)(v:Int):Ext (setN σ b v) (Go.Proofs.YtpebcmfpehdafaaGreatDoor.setN τ b v):=fun k ob hk=>by
 by_cases e:k=b
 ·subst e
  cases hs:σ k with
  | none=>simp [Go.Proofs.YtpebcmfpehdafaaGreatDoor.setN,hs] at hk
  | some o=>have ht:=h k o hs;simp only [Go.Proofs.YtpebcmfpehdafaaGreatDoor.setN,if_true,hs,ht] at hk ⊢;exact hk
 ·rw [Qh σ v e] at hk;rw [Qh τ v e];exact h k ob hk
theorem Ext.num {σ τ:Sg}(h:Ext σ τ){b o:Nat}{v:Int}(k:Num σ b o v):Num τ b o v:=by
 rcases k with ⟨k,rfl⟩ | ⟨f,n,e,k,rfl⟩
 ·exact .inl ⟨h _ _ k,rfl⟩
 ·exact .inr ⟨f,n,e,h _ _ k,rfl⟩
theorem Ext.setN_skip {σ τ:Sg}(h:Ext σ τ){b:Nat}(hb:σ b=none)(v:Int):Ext σ (Go.Proofs.YtpebcmfpehdafaaGreatDoor.setN τ b v):=fun k ob hk=>by
 rw [Qh τ v (by rintro rfl;rw [hb] at hk;cases hk)];exact h k ob hk
theorem Ext.upd_skip {σ τ:Sg}(h:Ext σ τ){b:Nat}(hb:σ b=none)(o:Ob):Ext σ (Go.Proofs.YtpebcmfpehdafaaGreatDoor.upd τ b o):=fun k ob hk=>by
 rw [Qa τ o (by rintro rfl;rw [hb] at hk;cases hk)];exact h k ob hk
theorem St.less {W:World}{σ τ:Sg}{w:World}(h:St W τ w)(k:Ext σ τ):St W σ w:=h.mono k
theorem Q4N (σ:Sg)(b:Nat)(u v:Int)(k:Nat):setN (upd σ b (.big u)) b v k=upd σ b (.big v) k:=by
 by_cases e:k=b
 ·subst e;rw [QQ (Q1 _ _ _),Q1]
 ·rw [Qh _ _ e,Qa _ _ e,Qa _ _ e]
theorem St.big_new {W:World}{σ:Sg}{w:World}{b:Nat}{u v:Int}(h:St W (setN (upd σ b (.big u)) b v) w):St W (upd σ b (.big v)) w:=h.ext fun k=>(Q4N σ b u v k).symm
def NewBig (W:World)(σ:Sg)(v:Int)(e:Ending)(w':World):Prop:=∃ b,e=.returned (.pointer (some ⟨b,0,none⟩))∧σ b=none∧St W (upd σ b (.big v)) w'
theorem Q1s {W:World}{σ:Sg}{w:World}(h:St W σ w)(v:Int)(hv:v.natAbs<2^62) :
  Calls Tryz.prog 140 #[.int .i64 v] w (NewBig W σ v):=by
 have hn:=h.none_new
 have HA:=Lh (Q0k (Q0j (h.alloc_big 69) (Num.big (Q1 _ _ _)) hv))
 clear h hv
 go_enter Tryz.func140, Tryz.ntmps140
 go_wp2_with (go_at_call 154;refine HA.out.mono ?_;rintro e w1 ⟨rfl,hR⟩;have HR:=Lh hR;clear hR)
 go_ret
 exact ⟨_,rfl,hn,HR.out.big_new⟩
theorem Q4O {W:World}{σ:Sg}{w:World}(h:St W σ w):Calls Tryz.prog 99 #[] w (NewBig W σ 1):=by
 have HA:=Lh (Q1s h 1 (by decide))
 clear h
 go_enter Tryz.func99, Tryz.ntmps99
 go_wp2_with (go_at_call 140;refine HA.out.mono ?_;rintro e w1 ⟨b,rfl,hR⟩;have HR:=Lh hR;clear hR)
 go_ret
 exact ⟨b,rfl,HR.out⟩
theorem Q7U {W:World}{σ:Sg}{w:World}(h:St W σ w):Calls Tryz.prog 96 #[] w (NewBig W σ 2):=by
 have HA:=Lh (Q1s h 2 (by decide))
 clear h
 go_enter Tryz.func96, Tryz.ntmps96
 go_wp2_with (go_at_call 140;refine HA.out.mono ?_;rintro e w1 ⟨b,rfl,hR⟩;have HR:=Lh hR;clear hR)
 go_ret
 exact ⟨b,rfl,HR.out⟩
theorem Q6Y {W:World}{σ:Sg}{w:World}(h:St W σ w):Calls Tryz.prog 174 #[] w (NewBig W σ 5):=by
 have HA:=Lh (Q1s h 5 (by decide))
 clear h
 go_enter Tryz.func174, Tryz.ntmps174
 go_wp2_with (go_at_call 140;refine HA.out.mono ?_;rintro e w1 ⟨b,rfl,hR⟩;have HR:=Lh hR;clear hR)
 go_ret
 exact ⟨b,rfl,HR.out⟩
theorem Q0Q {W:World}{σ:Sg}{w:World}(h:St W σ w):Calls Tryz.prog 93 #[] w (NewBig W σ 10):=by
 have HA:=Lh (Q1s h 10 (by decide))
 clear h
 go_enter Tryz.func93, Tryz.ntmps93
 go_wp2_with (go_at_call 140;refine HA.out.mono ?_;rintro e w1 ⟨b,rfl,hR⟩;have HR:=Lh hR;clear hR)
 go_ret
 exact ⟨b,rfl,HR.out⟩
set_option exponentiation.threshold 2000 in
theorem Q27 {Y:Nat}(hY:Y≤423):(10:Nat)^Y<BB^22:=Nat.lt_of_le_of_lt (Nat.pow_le_pow_right (by decide) hY) (by unfold BB;decide)
theorem Q1T {W:World}{σ:Sg}{w:World}(hW:GW W)(h:St W σ w){bz oz:Nat}{vz:Int}(hz:Num σ bz oz vz)(Y:Nat)(hY:Y≤423) :
  Calls Tryz.prog 138 #[.pointer (some ⟨bz,oz,none⟩),.int .i64 (Y:Int)] w fun e w'=>e=.returned (.tuple #[])∧St W (setN σ bz ((10^Y:Nat):Int)) w':=by
 have hn:=h.none_new
 have hlt:=Q27 hY
 have HA:=Lh (Q0k (Q0j (h.alloc_big 69) (Num.big (Q1 _ _ _)) (v:=(Y:Int)) (by rw [Int.natAbs_natCast];omega)))
 have hzb:bz≠w.heap.size:=by rintro rfl;exact hz.ne_none hn
 obtain ⟨bt,hbt⟩:∃ bt,bt=w.heap.size:=⟨_,rfl⟩
 rw [← hbt] at HA hzb hn
 have HS:Hid (∀ w1,St W (setN (upd σ bt (.big 0)) bt (Y:Int)) w1→Calls Tryz.prog 93 #[] w1 fun e w2=>∃ b,e=.returned (.pointer (some ⟨b,0,none⟩))∧Calls Tryz.prog 169 #[.pointer (some ⟨bz,oz,none⟩),.pointer (some ⟨b,0,none⟩),.pointer (some ⟨bt,0,none⟩),.pointer none] w2 fun e w3=>e=.returned (.pointer (some ⟨bz,oz,none⟩))∧St W (setN σ bz ((10^Y:Nat):Int)) w3):=fun w1 h1=>by
  refine (Q0Q h1.big_new).mono ?_
  rintro e w2 ⟨b,rfl,hb,h2⟩
  have hbt':b≠bt:=by rintro rfl;rw [Q1] at hb;cases hb
  have hbσ:σ b=none:=by rw [Qa _ _ hbt'] at hb;exact hb
  have hbz:bz≠b:=by rintro rfl;exact hz.ne_none hbσ
  refine ⟨b,rfl,Q9N ((Q9J hW h2.drew ((hz.upd_ne hzb).upd_ne hbz) (Num.big (v:=((10:Nat):Int)) (Q1 _ _ _)) hbz (Num.big (v:=(Y:Int)) (by rw [Qa _ _ hbt'.symm,Q1])) hzb (by decide) (by unfold BB;decide) (by unfold BB;omega) hlt).mono ?_)⟩
  rintro e w3 ⟨rfl,h3⟩
  refine ⟨rfl,h3.less ?_⟩
  exact (((Ext.new hn _).trans (Ext.new hb _))).setN bz _
 clear h hlt hz hY hW
 obtain ⟨T,hT⟩:∃ T:Nat,T=10^Y:=⟨_,rfl⟩
 rw [← hT] at HS ⊢
 clear hT
 go_enter Tryz.func138, Tryz.ntmps138
 go_wp2_with fail
 rw [← hbt]
 clear hbt
 refine HA.out.mono ?_
 rintro e w1 ⟨rfl,hR⟩
 have HB:=Lh (HS.out _ hR);clear hR HS HA
 go_wp2_with fail
 refine HB.out.mono ?_
 rintro e w2 ⟨b,rfl,hE⟩
 have HE:=Lh hE;clear hE HB
 go_wp2_with fail
 refine HE.out.mono ?_
 rintro e w3 ⟨rfl,hF⟩
 have HF:=Lh hF;clear hF HE
 go_wp2_with fail
 go_returns
 exact ⟨rfl,HF.out⟩
def ndR (bl:Nat):Option Nat:=floatBits .quo .f64 (floatOfInt .f64 (bl:Int)) 4614662735865160561
def ndQ (bl:Nat):Option Int:=(ndR bl).bind fun r=>floatToIntVal .f64 r .i64
def ndOk (bl:Nat):Bool:=match ndQ bl with
 | some (.ofNat n)=>decide (n≤423) && decide (2^bl≤10^(n+1)) && (n == 0 || decide (10^(n - 1)≤2^(bl - 1)))
 | _=>false
theorem Q7V:(List.range 1400).all (fun i=>ndOk (i+1))=true:=by kernel_rfl
theorem Q6c {bl:Nat}(h0:0<bl)(h:bl≤1400):∃ r n:Nat,floatBits .quo .f64 (floatOfInt .f64 (bl:Int)) 4614662735865160561=some r∧floatToIntVal .f64 r .i64=some (n:Int)∧n≤423∧2^bl≤10^(n+1)∧(n=0∨10^(n - 1)≤2^(bl - 1)):=by
 have:=List.all_eq_true.1 Q7V (bl - 1) (List.mem_range.2 (by omega))
 rw [show bl - 1+1=bl by omega] at this
 unfold ndOk at this
 cases hq:ndQ bl with
 | none=>rw [hq] at this;cases this
 | some v =>
  rw [hq] at this
  cases v with
  | negSucc n=>cases this
  | ofNat n =>
   simp only [Bool.and_eq_true,Bool.or_eq_true,decide_eq_true_eq,beq_iff_eq] at this
   unfold ndQ at hq
   cases hr:ndR bl with
   | none=>rw [hr] at hq;cases hq
   | some r =>
    rw [hr] at hq
    exact ⟨r,n,hr,hq,this.1.1,this.1.2,this.2⟩
theorem Q00 {W:World}{σ:Sg}{w:World}(hW:GW W)(h:St W σ w){bz oz:Nat}{vz:Int}(hz:Num σ bz oz vz)(Y:Nat)(hY:Y≤423) :
  Calls Tryz.prog 91 #[.int .i64 (Y:Int),.pointer (some ⟨bz,oz,none⟩)] w fun e w'=>e=.returned (.pointer (some ⟨bz,oz,none⟩))∧St W (setN σ bz ((10^Y:Nat):Int)) w':=by
 have HA:=Lh (Q1T hW h hz Y hY)
 obtain ⟨T,hT⟩:∃ T:Nat,T=10^Y:=⟨_,rfl⟩
 rw [← hT] at HA ⊢
 clear h hz hY hW hT
 go_enter Tryz.func91, Tryz.ntmps91
 go_wp2_with fail
 refine HA.out.mono ?_
 rintro e w1 ⟨rfl,hR⟩
 have HR:=Lh hR;clear hR HA
 go_wp2_with fail
 go_ret
 exact ⟨rfl,HR.out⟩
theorem Q3j {W:World}{σ:Sg}{w:World}(hW:GW W)(h:St W σ w){bx ox:Nat}{x:Nat}(hx:Num σ bx ox (x:Int))(hb:0<bits2 x)(hl:bits2 x≤1400)(hx100:x<BB^100) :
  ∃ n d:Nat,2^bits2 x≤10^(n+1)∧(n=0∨10^(n - 1)≤2^(bits2 x - 1))∧d=(if 10^n≤x then n+1 else n) ∧
  Calls Tryz.prog 90 #[.pointer (some ⟨bx,ox,none⟩)] w fun e w'=>e=.returned (.int .i64 (d:Int))∧St W σ w':=by
 obtain ⟨r,n,h1,h2,h3,h4,h5⟩:=Q6c hb hl
 obtain ⟨d,hd⟩:∃ d:Nat,d=(if 10^n≤x then n+1 else n):=⟨_,rfl⟩
 refine ⟨n,d,h4,h5,hd,?_⟩
 have HB:=Lh (Q3H (Q3G h hx))
 rw [Int.natAbs_natCast] at HB
 have c1:=fun w1:World=>run_convert_int_float (P:=Tryz.prog) w1 3 158 .i64 .f64 ((bits2 x:Nat):Int) (by kernel_rfl) (by kernel_rfl)
 have c2:=fun w1:World=>run_float_arith (P:=Tryz.prog) w1 .quo 158 .f64 _ _ _ h1
 have c3:=fun w1:World=>run_convert_float_int (P:=Tryz.prog) w1 158 2 .f64 .i64 r (n:Int) (by kernel_rfl) (by kernel_rfl) h2
 generalize bits2 x=bl at HB hb c1 c2
 generalize floatOfInt .f64 (bl:Int)=fl at c1 c2
 have h6:(0:Int)<(bl:Int):=by omega
 clear h1 h2 h4 h5 hl
 obtain ⟨T,hT⟩:∃ T:Nat,T=10^n:=⟨_,rfl⟩
 rw [← hT] at hd
 have HD:=Lh hd
 clear hd
 have hlx:((x:Int)).natAbs<BB^100:=by rw [Int.natAbs_natCast];exact hx100
 have hn:=h.none_new
 obtain ⟨bt,hbt⟩:∃ bt,bt=w.heap.size:=⟨_,rfl⟩
 have HS:Hid (Calls Tryz.prog 91 #[.int .i64 (n:Int),.pointer (some ⟨bt,0,none⟩)] (w.alloc (.cells #[.bool false,.slice none 0 0] 69)) fun e w1=>e=.returned (.pointer (some ⟨bt,0,none⟩))∧St W (upd σ bt (.big (T:Int))) w1):=by
  rw [hbt,hT]
  refine (Q00 hW (h.alloc_big 69) (Num.big (Q1 _ _ _)) n h3).mono ?_
  rintro e w1 ⟨rfl,h1⟩
  exact ⟨rfl,h1.big_new⟩
 rw [← hbt] at hn
 have HX:Hid (∀ w1,St W (upd σ bt (.big (T:Int))) w1→bx≠bt∧bx≠w1.heap.size∧bt≠w1.heap.size∧Calls Tryz.prog 89 #[.pointer (some ⟨w1.heap.size,0,none⟩),.pointer (some ⟨bx,ox,none⟩)] (w1.alloc (.cells #[.bool false,.slice none 0 0] 69)) fun e w2=>e=.returned (.pointer (some ⟨w1.heap.size,0,none⟩))∧St W (upd (upd σ bt (.big (T:Int))) w1.heap.size (.big (x:Int))) w2):=fun w1 h1=>by
  have hn1:=h1.none_new
  have e1:bx≠bt:=by rintro rfl;exact hx.ne_none hn
  have hx1:=hx.upd_ne (x:=.big (T:Int)) e1
  have e2:bx≠w1.heap.size:=by rintro e;exact hx1.ne_none (by rw [e];exact hn1)
  have e3:bt≠w1.heap.size:=by rintro e;rw [← e,Q1] at hn1;cases hn1
  refine ⟨e1,e2,e3,Q2W ((Q1E (h1.alloc_big 69).drew (Num.big (Q1 _ _ _)) (hx1.upd_ne e2) e2.symm hlx).mono ?_)⟩
  rintro e w2 ⟨rfl,h2⟩
  refine ⟨rfl,?_⟩
  have:=h2.big_new
  rw [Int.natAbs_natCast] at this
  exact this
 have HY:Hid (∀ ba w2,ba≠bt→St W (upd (upd σ bt (.big (T:Int))) ba (.big (x:Int))) w2→σ ba=none→Calls Tryz.prog 92 #[.pointer (some ⟨ba,0,none⟩),.pointer (some ⟨bt,0,none⟩)] w2 fun e w3=>e=.returned (.int .i64 (cmpI x T))∧St W σ w3):=fun ba w2 hne h2 hb=>by
  refine Q26 ((Q25 h2.drew (Num.big (Q1 _ _ _)) (Num.big (v:=((T:Nat):Int)) (by rw [Qa _ _ hne.symm,Q1])) hne).mono ?_)
  rintro e w3 ⟨rfl,q,rfl⟩
  exact ⟨rfl,(h2.drew.drewN q).less ((Ext.new hn _).upd_skip hb _)⟩
 have hn423:=h3
 clear h hx hlx h3 hT hx100 hW
 go_enter Tryz.func90, Tryz.ntmps90
 go_wp2_with fail
 refine HB.out.mono ?_
 rintro e w1 ⟨rfl,hR⟩
 subst hR
 go_wp2_with fail
 rw [← hbt]
 refine HS.out.mono ?_
 rintro e w2 ⟨rfl,h2⟩
 have H2:=Lh (HX.out _ h2)
 have hn2:=h2.none_new
 clear h2 HS HX hbt
 obtain ⟨ba,hba⟩:∃ ba,ba=w2.heap.size:=⟨_,rfl⟩
 rw [← hba] at hn2 H2
 go_wp2_with fail
 rw [← hba]
 clear hba
 refine H2.out.2.2.2.mono ?_
 rintro e w3 ⟨rfl,h3⟩
 have H3:=Lh (HY.out _ _ H2.out.2.2.1.symm h3 (by rw [Qa _ _ H2.out.2.2.1.symm] at hn2;exact hn2))
 clear h3 H2 hn2 HY
 go_wp2_with fail
 refine H3.out.mono ?_
 rintro e w4 ⟨rfl,h4⟩
 have H4:=Lh h4
 clear h4 H3
 by_cases hc:T≤x
 ·have hcm:decide ((0:Int)≤cmpI x T)=true:=by
   unfold cmpI;rw [if_neg (by omega)];split <;> decide
  generalize cmpI x T=cm at hcm ⊢
  have hcm':(0:Int)≤cm:=by simpa using hcm
  have hw:wrap64 ((n:Int)+1)=((n+1:Nat):Int):=by unfold wrap64;omega
  clear hcm
  go_wp2_with fail
  go_ret
  have:=HD.out
  rw [if_pos hc] at this
  subst this
  exact ⟨by first | rfl | simp,H4.out⟩
 ·have hcm:cmpI x T<0:=by
   unfold cmpI;rw [if_pos (by omega)];decide
  generalize cmpI x T=cm at hcm ⊢
  have hcm':¬ ((0:Int)≤cm):=by omega
  go_wp2_with fail
  go_ret
  have:=HD.out
  rw [if_neg hc] at this
  subst this
  exact ⟨by first | rfl | simp,H4.out⟩
theorem Q6d (σ:Sg)(b:Nat)(x y:Ob)(k:Nat):upd (upd σ b x) b y k=upd σ b y k:=by
 by_cases e:k=b
 ·subst e;rw [Q1,Q1]
 ·rw [Qa _ _ e,Qa _ _ e,Qa _ _ e]
theorem Q3I (σ:Sg)(b:Nat)(f:Int)(n:Bool)(e u v:Int)(k:Nat):setN (upd σ b (.dec f n e u)) b v k=upd σ b (.dec f n e v) k:=by
 by_cases h:k=b
 ·subst h;rw [Q07 (Q1 _ _ _),Q1]
 ·rw [Qh _ _ h,Qa _ _ h,Qa _ _ h]
theorem St.decN {W:World}{σ:Sg}{w:World}{b:Nat}{f:Int}{n:Bool}{e u v:Int}(h:St W (setN (upd σ b (.dec f n e u)) b v) w):St W (upd σ b (.dec f n e v)) w:=h.ext fun k=>(Q3I σ b f n e u v k).symm
theorem St.upd2 {W:World}{σ:Sg}{w:World}{b:Nat}{x y:Ob}(h:St W (upd (upd σ b x) b y) w):St W (upd σ b y) w:=h.ext fun k=>(Q6d σ b x y k).symm
theorem Q1F {W:World}{σ:Sg}{w:World}(h:St W σ w){b:Nat}{f:Int}{n:Bool}{e c:Int}(hb:σ b=some (.dec f n e c))(v:Nat)(hv:v<2^62) :
  Calls Tryz.prog 179 #[.pointer (some ⟨b,0,none⟩),.int .i64 (v:Int)] w fun r w'=>r=.returned (.tuple #[])∧St W (upd σ b (.dec 0 false e (v:Int))) w':=by
 obtain ⟨c0,c1,c2,f0,f1,f2⟩:=h.dec hb
 have h1:=h.setNeg hb false
 have HA:=Lh (Q0k (Q0j h1 (Num.dec (Q1 _ _ _)) (v:=(v:Int)) (by rw [Int.natAbs_natCast];exact hv)))
 have HS:Hid (∀ w1,St W (upd σ b (.dec f false e (v:Int))) w1→(Calls Tryz.prog 89 #[.pointer (some ⟨b,3,none⟩),.pointer (some ⟨b,3,none⟩)] w1 fun r w2=>r=.returned (.pointer (some ⟨b,3,none⟩))∧(w2.cell? ⟨b,0,none⟩=some (.int .i8 f)∧w2.frozen? ⟨b,0,none⟩=false)∧St W (upd σ b (.dec 0 false e (v:Int))) (w2.setCell ⟨b,0,none⟩ (.int .i8 0)))):=fun w1 k1=>by
  refine Q2W ((Q2f k1.drew (Num.dec (Q1 _ _ _))).mono ?_)
  rintro r w2 ⟨rfl,k2⟩
  rw [Int.natAbs_natCast] at k2
  have k3:=k2.decN
  obtain ⟨d0,_,_,g0,_⟩:=k3.dec (Q1 _ _ _)
  exact ⟨rfl,⟨d0,g0⟩,(k3.setForm (Q1 _ _ _) 0).upd2⟩
 have hn:¬ ((v:Int)<0):=by omega
 clear h h1 hb hv
 go_enter Tryz.func179, Tryz.ntmps179
 go_wp2_with fail
 refine HA.out.mono ?_
 rintro r w1 ⟨rfl,k1⟩
 have H1:=Lh (HS.out _ k1.decN.drew)
 clear k1 HA HS
 go_wp2_with fail
 go_still_tail 6,(by kernel_rfl)
 go_wp2_with fail
 refine H1.out.mono ?_
 rintro r w2 ⟨rfl,⟨d0,g0⟩,k2⟩
 have H2:=Lh k2
 clear k2 H1
 go_wp2_with fail
 go_returns
 exact ⟨rfl,H2.out⟩
theorem Q3k {W:World}{σ:Sg}{w:World}(h:St W σ w){b:Nat}{f:Int}{n:Bool}{e c:Int}(hb:σ b=some (.dec f n e c))(v:Nat)(hv:v<2^62)(e':Int) :
  Calls Tryz.prog 155 #[.pointer (some ⟨b,0,none⟩),.int .i64 (v:Int),.int .i32 e'] w fun r w'=>r=.returned (.pointer (some ⟨b,0,none⟩))∧St W (upd σ b (.dec 0 false e' (v:Int))) w':=by
 have HA:=Lh (Q1F h hb v hv)
 clear h hb hv
 go_enter Tryz.func155, Tryz.ntmps155
 go_wp2_with fail
 refine HA.out.mono ?_
 rintro r w1 ⟨rfl,k1⟩
 obtain ⟨_,_,d2,_,_,g2⟩:=k1.dec (Q1 _ _ _)
 have H1:=Lh (k1.setExp (Q1 _ _ _) e').upd2
 clear k1 HA
 go_wp2_with fail
 go_ret
 exact ⟨rfl,H1.out⟩
def NewDec (W:World)(σ:Sg)(f:Int)(n:Bool)(e c:Int)(r:Ending)(w':World):Prop:=∃ b,r=.returned (.pointer (some ⟨b,0,none⟩))∧σ b=none∧St W (upd σ b (.dec f n e c)) w'
theorem Q9f {W:World}{σ:Sg}{w:World}(h:St W σ w)(v:Nat)(hv:v<2^62)(e':Int) :
  Calls Tryz.prog 135 #[.int .i64 (v:Int),.int .i32 e'] w (NewDec W σ 0 false e' (v:Int)):=by
 have hn:=h.none_new
 have HA:=Lh (Q3k (h.alloc_dec 71 0 0 false) (Q1 _ _ _) v hv e')
 clear h hv
 go_enter Tryz.func135, Tryz.ntmps135
 go_wp2_with fail
 refine HA.out.mono ?_
 rintro r w1 ⟨rfl,k1⟩
 have H1:=Lh k1.upd2
 clear k1 HA
 go_wp2_with fail
 go_ret
 exact ⟨_,rfl,hn,H1.out⟩
theorem Qar {W:World}{σ:Sg}{w:World}(h:St W σ w):Calls Tryz.prog 88 #[] w (NewDec W σ 0 false 0 0):=by
 have HA:=Lh (Q9f h 0 (by decide) 0)
 clear h
 go_enter Tryz.func88, Tryz.ntmps88
 go_wp2_with fail
 refine HA.out.mono ?_
 rintro r w1 ⟨b,rfl,hR⟩
 have HR:=Lh hR;clear hR
 go_wp2_with fail
 go_ret
 exact ⟨b,rfl,HR.out⟩
theorem St.decRow {W:World}{σ:Sg}{w:World}(h:St W σ w){b:Nat}{f:Int}{n:Bool}{e c:Int}(hb:σ b=some (.dec f n e c)):∃ N T,Row w b N T:=by
 obtain ⟨ab,h⟩:=h
 obtain ⟨_,_,⟨T,hT⟩,_⟩:=h.holds b _ hb
 exact ⟨_,T,hT⟩
theorem Q9g:∃ i,Tryz.prog.info? 71=some i∧i.size=5:=by
 have h:(Tryz.prog.info? 71).map (·.size)=some 5:=by kernel_rfl
 cases hc:Tryz.prog.info? 71 with
 | none=>rw [hc] at h;cases h
 | some i=>rw [hc] at h;exact ⟨i,rfl,by simpa using h⟩
theorem Q7W {w:World}{bx by_ N N':Nat}{T T':TypeId}(hR:Row w bx N T)(hR':Row w by_ N' T') :
  (binOp .eql 60 (.pointer (some ⟨bx,0,none⟩)) (.pointer (some ⟨by_,0,none⟩))).run Tryz.prog w=.ok (.bool (decide (bx=by_))) w:=by
 obtain ⟨i,hi,hs⟩:=Q9g
 have:=Q19 Tryz.underlying60 hi (by rw [hs];omega) (a:=⟨bx,0,none⟩) (b:=⟨by_,0,none⟩) hR hR'
 rw [this]
 by_cases e:bx=by_ <;> simp [e]
def decSgn (f:Int)(n:Bool)(c:Nat):Int:=if f=0∧c=0 then 0 else if n then -1 else 1
theorem QK {W:World}{σ:Sg}{w:World}(h:St W σ w){b:Nat}{f:Int}{n:Bool}{e:Int}{c:Nat}(hb:σ b=some (.dec f n e (c:Int))) :
  Calls Tryz.prog 109 #[.pointer (some ⟨b,0,none⟩)] w fun r w'=>r=.returned (.int .i64 (decSgn f n c))∧w'=w:=by
 obtain ⟨c0,c1,c2,f0,f1,f2⟩:=h.dec hb
 have HA:=Lh (Q13 (Q0Z h (Num.dec hb)))
 obtain ⟨s,hs⟩:∃ s,s=signI (c:Int):=⟨_,rfl⟩
 rw [← hs] at HA
 have hs1:s=if c=0 then 0 else 1:=by
  rw [hs];unfold signI
  by_cases e:c=0
  ·rw [if_pos (by omega),if_pos e]
  ·rw [if_neg (by omega),if_neg (by omega),if_neg e]
 clear h hb hs
 unfold decSgn
 by_cases hf:f=0
 ·subst hf
  by_cases hc:c=0
  ·rw [if_pos hc] at hs1;subst hs1
   rw [if_pos ⟨rfl,hc⟩]
   clear hc
   go_enter Tryz.func109, Tryz.ntmps109
   go_wp2_with fail
   refine HA.out.mono ?_
   rintro r w1 ⟨rfl,hw⟩
   subst hw
   go_wp2_with fail
   go_ret
   exact ⟨rfl,rfl⟩
  ·rw [if_neg hc] at hs1;subst hs1
   rw [if_neg (fun e=>hc e.2)]
   clear hc
   cases n
   ·go_enter Tryz.func109, Tryz.ntmps109
    go_wp2_with fail
    refine HA.out.mono ?_
    rintro r w1 ⟨rfl,hw⟩
    subst hw
    go_wp2_with fail
    go_ret
    exact ⟨rfl,rfl⟩
   ·go_enter Tryz.func109, Tryz.ntmps109
    go_wp2_with fail
    refine HA.out.mono ?_
    rintro r w1 ⟨rfl,hw⟩
    subst hw
    go_wp2_with fail
    go_ret
    exact ⟨rfl,rfl⟩
 ·rw [if_neg (fun e=>hf e.1)]
  have hf':(f == 0)=false:=by simpa using hf
  clear hs1
  cases n
  ·go_enter Tryz.func109, Tryz.ntmps109
   go_wp2_with fail
   go_ret
   exact ⟨rfl,rfl⟩
  ·go_enter Tryz.func109, Tryz.ntmps109
   go_wp2_with fail
   go_ret
   exact ⟨rfl,rfl⟩
theorem QC {W:World}{σ:Sg}{w:World}(h:St W σ w){b:Nat}{f:Int}{n:Bool}{e:Int}{c:Nat}(hb:σ b=some (.dec f n e (c:Int))) :
  Calls Tryz.prog 81 #[.pointer (some ⟨b,0,none⟩)] w fun r w'=>r=.returned (.bool (decide (f=0∧c=0)))∧w'=w:=by
 have HA:=Lh (QK h hb)
 obtain ⟨s,hs⟩:∃ s,s=decSgn f n c:=⟨_,rfl⟩
 have hz:(s == 0)=decide (f=0∧c=0):=by
  rw [hs];unfold decSgn
  by_cases e:f=0∧c=0
  ·rw [if_pos e];simp [e]
  ·rw [if_neg e];cases n <;> simp [e]
 rw [← hs] at HA
 rw [← hz]
 clear h hb hs hz
 go_enter Tryz.func81, Tryz.ntmps81
 go_wp2_with fail
 refine HA.out.mono ?_
 rintro r w1 ⟨rfl,hw⟩
 subst hw
 go_wp2_with fail
 go_ret
 exact ⟨rfl,rfl⟩
theorem Q4P {W:World}{σ:Sg}{w:World}(h:St W σ w){b bx:Nat}{f f':Int}{n n':Bool}{e c e' c':Int}(hb:σ b=some (.dec f n e c))(hx:σ bx=some (.dec f' n' e' c'))(hne:b≠bx)(hc:c'.natAbs<BB^100) :
  Calls Tryz.prog 129 #[.pointer (some ⟨b,0,none⟩),.pointer (some ⟨bx,0,none⟩)] w fun r w'=>r=.returned (.pointer (some ⟨b,0,none⟩))∧St W (upd σ b (.dec f' n' e' c')) w':=by
 obtain ⟨x0,x1,x2,_,_,_⟩:=h.dec hx
 obtain ⟨b0,b1,b2,g0,g1,g2⟩:=h.dec hb
 have h1:=h.setForm hb f'
 have h2:=(h1.setNeg (Q1 _ _ _) n').upd2
 have h3:=(h2.setExp (Q1 _ _ _) e').upd2
 have HA:=Lh (Q1i (QS h3.drew.drew (Num.dec (Q1 _ _ _)) (Num.dec (by rw [Qa _ _ hne.symm];exact hx)) hne hc))
 clear h h1 h2 h3 hb hx hc
 go_enter Tryz.func129, Tryz.ntmps129
 go_wp2_with fail
 go_still_tail 6,(by kernel_rfl)
 go_wp2_with fail
 refine HA.out.mono ?_
 rintro r w1 ⟨rfl,hR⟩
 have HR:=Lh hR.decN;clear hR HA
 go_wp2_with fail
 go_ret
 exact ⟨rfl,HR.out⟩
theorem Q0G {W:World}{σ:Sg}{w:World}(h:St W σ w){b:Nat}{f:Int}{n:Bool}{e c:Int}(hb:σ b=some (.dec f n e c)) :
  Calls Tryz.prog 82 #[.pointer (some ⟨b,0,none⟩),.pointer (some ⟨b,0,none⟩)] w fun r w'=>r=.returned (.pointer (some ⟨b,0,none⟩))∧w'=w:=by
 obtain ⟨N,T,hR⟩:=h.decRow hb
 have hp:=Q7W hR hR
 rw [decide_eq_true rfl] at hp
 clear h hb hR
 go_enter Tryz.func82, Tryz.ntmps82
 go_wp2_with fail
 go_ret
 exact ⟨rfl,rfl⟩
theorem Q2X {W:World}{σ:Sg}{w:World}(h:St W σ w){b bx:Nat}{f f':Int}{n n':Bool}{e c e' c':Int}(hb:σ b=some (.dec f n e c))(hx:σ bx=some (.dec f' n' e' c'))(hne:b≠bx)(hc:c'.natAbs<BB^100) :
  Calls Tryz.prog 82 #[.pointer (some ⟨b,0,none⟩),.pointer (some ⟨bx,0,none⟩)] w fun r w'=>r=.returned (.pointer (some ⟨b,0,none⟩))∧St W (upd σ b (.dec f' n' e' c')) w':=by
 obtain ⟨N,T,hR⟩:=h.decRow hb
 obtain ⟨N',T',hR'⟩:=h.decRow hx
 have hp:=Q7W hR hR'
 rw [decide_eq_false hne] at hp
 have HA:=Lh (Q4P h hb hx hne hc)
 clear h hb hR hx hR' hc
 go_enter Tryz.func82, Tryz.ntmps82
 go_wp2_with fail
 refine HA.out.mono ?_
 rintro r w1 ⟨rfl,k⟩
 have H1:=Lh k
 clear k HA
 go_wp2_with fail
 go_ret
 exact ⟨rfl,H1.out⟩
theorem Q2Y {W:World}{σ:Sg}{w:World}(h:St W σ w){bx ox:Nat}(hx:Num σ bx ox (0:Int)) :
  Calls Tryz.prog 90 #[.pointer (some ⟨bx,ox,none⟩)] w fun e w'=>e=.returned (.int .i64 1)∧St W σ w':=by
 have HB:=Lh (Q3H (Q3G h hx))
 rw [show bits2 (0:Int).natAbs=0 from rfl] at HB
 have H:=Lh h
 clear h hx
 go_enter Tryz.func90, Tryz.ntmps90
 go_wp2_with fail
 refine HB.out.mono ?_
 rintro e w1 ⟨rfl,hR⟩
 subst hR
 go_wp2_with fail
 go_ret
 exact ⟨rfl,H.out⟩
set_option exponentiation.threshold 2000 in
theorem Q7X {x:Nat}(h:x<BB^21):x<2^1344:=Nat.lt_of_lt_of_le h (by unfold BB;decide)
theorem QV {W:World}{σ:Sg}{w:World}(hW:GW W)(h:St W σ w){bx ox:Nat}{x:Nat}(hx:Num σ bx ox (x:Int))(hl:x<BB^21) :
  Calls Tryz.prog 90 #[.pointer (some ⟨bx,ox,none⟩)] w fun e w'=>e=.returned (.int .i64 (ndg x:Int))∧St W σ w':=by
 by_cases h0:x=0
 ·subst h0
  rw [Qj (by decide)]
  exact Q2Y h hx
 ·have h1:=Q2P h0
  have h2:=Q4D x
  have hb:bits2 x≤1344:=by
   rcases Nat.lt_or_ge 1344 (bits2 x) with k | k
   ·have:=Nat.pow_le_pow_right (n:=2) (by decide) (show 1344≤bits2 x - 1 by omega)
    have:=Q7X hl
    omega
   ·exact k
  have hl100:x<BB^100:=Nat.lt_of_lt_of_le hl (Nat.pow_le_pow_right (by unfold BB;decide) (by decide))
  obtain ⟨n,d,q1,q2,q3,q4⟩:=Q3j hW h hx h1.2 (by omega) hl100
  have e:d=ndg x:=by
   rw [q3]
   by_cases hc:10^n≤x
   ·rw [if_pos hc];exact (Q5n (by omega) hc).symm
   ·rw [if_neg hc]
    rcases q2 with rfl | q2
    ·exfalso;apply hc;simp;omega
    ·rcases n with _ | m
     ·exfalso;apply hc;simp;omega
     ·exact (Q5n (k:=m) (by omega) (by rw [Nat.add_sub_cancel] at q2;omega)).symm
  rw [e] at q4
  exact q4
theorem Qs {W:World}{σ:Sg}{w:World}(hW:GW W)(h:St W σ w){b:Nat}{f:Int}{n:Bool}{e:Int}{c:Nat}(hb:σ b=some (.dec f n e (c:Int)))(hl:c<BB^21) :
  Calls Tryz.prog 103 #[.pointer (some ⟨b,0,none⟩)] w fun r w'=>r=.returned (.int .i64 (ndg c:Int))∧St W σ w':=by
 have HA:=Lh (QV hW h (Num.dec hb) hl)
 generalize ndg c=d at HA ⊢
 clear h hW hb hl
 go_enter Tryz.func103, Tryz.ntmps103
 go_wp2_with fail
 refine HA.out.mono ?_
 rintro r w1 ⟨rfl,k⟩
 have H1:=Lh k
 clear k HA
 go_wp2_with fail
 go_ret
 exact ⟨rfl,H1.out⟩
theorem St.sm {W:World}{σ:Sg}{w w':World}(h:St W σ w)(k:SM w w'):St W σ w':=k.st h
theorem Q0w (σ:Sg)(b:Nat)(u v:Int):setN (upd σ b (.big u)) b v=upd σ b (.big v):=funext (Q4N σ b u v)
theorem Q04 (σ:Sg)(b:Nat)(x y:Ob):upd (upd σ b x) b y=upd σ b y:=funext (Q6d σ b x y)
theorem QL (σ:Sg){b b':Nat}(x:Ob)(v:Int)(h:b≠b'):setN (upd σ b' x) b v=upd (setN σ b v) b' x:=funext fun k=>by
 by_cases e:k=b'
 ·subst e;rw [Qh _ _ h.symm,Q1,Q1]
 ·rw [Qa _ _ e]
  by_cases e2:k=b
  ·subst e2;simp only [setN,if_true];rw [Qa _ _ h]
  ·rw [Qh _ _ e2,Qh _ _ e2,Qa _ _ e]
theorem Q01 (w:World)(o:Obj):(w.alloc o).heap.size=w.heap.size+1:=by simp
theorem St.two_big {W:World}{σ:Sg}{w:World}(h:St W σ w)(T:TypeId):σ w.heap.size=none∧σ (w.heap.size+1)=none ∧
  St W (upd (upd σ w.heap.size (.big 0)) (w.heap.size+1) (.big 0)) ((w.alloc (.cells #[.bool false,.slice none 0 0] T)).alloc (.cells #[.bool false,.slice none 0 0] T)):=by
 refine ⟨h.none_new,?_,?_⟩
 ·have:=(h.alloc_any (.cells #[.bool false,.slice none 0 0] T)).none_new
  rw [Q01] at this
  exact this
 ·have:=(h.alloc_big T).alloc_big T
  rw [Q01] at this
  exact this
set_option exponentiation.threshold 2000 in
theorem QG {c:Nat}(h:c<BB^21):ndg c≤405:=Q09 (by decide) (Nat.lt_of_lt_of_le h (by unfold BB;decide))
theorem Q9Q {W:World}{σ:Sg}{w:World}(h:St W σ w)(p:Value)(n:Bool)(u:Int) :
  Calls Tryz.prog 143 #[p,.bool n,.int .i64 u] w fun r w'=>r=.returned (.bool false)∧St W σ w':=by
 have H:=Lh h;clear h
 go_enter Tryz.func143, Tryz.ntmps143
 go_wp2_with fail
 go_ret
 exact ⟨rfl,H.out⟩
theorem Qa8 {W:World}{σ:Sg}{w:World}(h:St W σ w)(p:Value)(n:Bool)(u:Int) :
  Calls Tryz.prog 149 #[p,.bool n,.int .i64 u] w fun r w'=>r=.returned (.bool true)∧St W σ w':=by
 have H:=Lh h;clear h
 go_enter Tryz.func149, Tryz.ntmps149
 go_wp2_with fail
 go_ret
 exact ⟨rfl,H.out⟩
theorem Q7Y {W:World}{σ:Sg}{w:World}(h:St W σ w)(p:Value)(n:Bool)(u:Int) :
  Calls Tryz.prog 144 #[p,.bool n,.int .i64 u] w fun r w'=>r=.returned (.bool (decide (0≤u)))∧St W σ w':=by
 have H:=Lh h;clear h
 go_enter Tryz.func144, Tryz.ntmps144
 go_wp2_with fail
 go_ret
 exact ⟨rfl,H.out⟩
theorem Q5y {W:World}{σ:Sg}{w:World}(h:St W σ w)(p:Value)(n:Bool)(u:Int) :
  Calls Tryz.prog 148 #[p,.bool n,.int .i64 u] w fun r w'=>r=.returned (.bool (decide (0<u)))∧St W σ w':=by
 have H:=Lh h;clear h
 go_enter Tryz.func148, Tryz.ntmps148
 go_wp2_with fail
 go_ret
 exact ⟨rfl,H.out⟩
theorem Q9j {W:World}{σ:Sg}{w:World}(h:St W σ w)(p:Value)(n:Bool)(u:Int) :
  Calls Tryz.prog 147 #[p,.bool n,.int .i64 u] w fun r w'=>r=.returned (.bool n)∧St W σ w':=by
 have H:=Lh h;clear h
 go_enter Tryz.func147, Tryz.ntmps147
 go_wp2_with fail
 go_ret
 exact ⟨rfl,H.out⟩
theorem Q72 {W:World}{σ:Sg}{w:World}(h:St W σ w)(p:Value)(n:Bool)(u:Int) :
  Calls Tryz.prog 146 #[p,.bool n,.int .i64 u] w fun r w'=>r=.returned (.bool (!n))∧St W σ w':=by
 have H:=Lh h;clear h
 go_enter Tryz.func146, Tryz.ntmps146
 go_wp2_with fail
 go_ret
 exact ⟨rfl,H.out⟩
theorem Q5z {W:World}{σ:Sg}{w:World}(h:St W σ w){bq oq q:Nat}(hq:Num σ bq oq (q:Int))(n:Bool)(u:Int) :
  Calls Tryz.prog 145 #[.pointer (some ⟨bq,oq,none⟩),.bool n,.int .i64 u] w fun r w'=>r=.returned (.bool (decide (0<u) || (decide (u=0) && decide (q % 2=1))))∧St W σ w':=by
 have HB:=Lh (Q9e (Q9d h hq))
 have H:=Lh h;clear h hq
 have hm:q % 2<2:=Nat.mod_lt _ (by omega)
 generalize q % 2=m at HB hm ⊢
 rcases Int.lt_trichotomy u 0 with hu | hu | hu
 ·go_enter Tryz.func145, Tryz.ntmps145
  go_wp2_with fail
  go_ret
  refine ⟨?_,H.out⟩
  simp;omega
 ·subst hu
  go_enter Tryz.func145, Tryz.ntmps145
  go_wp2_with fail
  refine HB.out.mono ?_
  rintro r w1 ⟨rfl,hw⟩
  subst hw
  clear HB
  go_wp2_with fail
  go_ret
  refine ⟨?_,H.out⟩
  rcases (show m=0∨m=1 by omega) with rfl | rfl <;> simp
 ·go_enter Tryz.func145, Tryz.ntmps145
  go_wp2_with fail
  go_ret
  refine ⟨?_,H.out⟩
  simp;omega
theorem Q9R {W:World}{σ:Sg}{w:World}(hW:GW W)(h:St W σ w){bq oq q:Nat}(hq:Num σ bq oq (q:Int))(hl:q<BB^100)(n:Bool)(u:Int) :
  Calls Tryz.prog 150 #[.pointer (some ⟨bq,oq,none⟩),.bool n,.int .i64 u] w fun r w'=>r=.returned (.bool (decide (q % 5=0)))∧St W σ w':=by
 have hn:=h.none_new
 have H0:=Lh (h.alloc_big 69)
 obtain ⟨t,ht⟩:∃ t,t=w.heap.size:=⟨_,rfl⟩
 rw [← ht] at H0 hn
 have hne:t≠bq:=by rintro rfl;exact hq.ne_none hn
 have HR:Hid (∀ (v:Int) (d:Nat) w1 b,d≠0→d<100→b≠t→b≠bq→St W (upd (upd σ t (.big v)) b (.big (d:Int))) w1→(upd σ t (.big v)) b=none→Calls Tryz.prog 173 #[.pointer (some ⟨t,0,none⟩),.pointer (some ⟨bq,oq,none⟩),.pointer (some ⟨b,0,none⟩)] w1 fun r w2=>r=.returned (.pointer (some ⟨t,0,none⟩))∧St W (upd σ t (.big ((q % d:Nat):Int))) w2):=fun v d w1 b d0 d1 hbt hbq k1 hb=>by
  refine Q9L ((Q5x hW k1.drew (vz:=v) (x:=q) (y:=d) (Num.big (by rw [Qa _ _ hbt.symm,Q1])) ((hq.upd_ne hne.symm).upd_ne hbq.symm) hne (Num.big (Q1 _ _ _)) hbt.symm d0 hl (by unfold BB;omega)).mono ?_)
  rintro r w2 ⟨rfl,k2⟩
  refine ⟨rfl,k2.less ?_⟩
  intro k ob hk
  by_cases e:k=t
  ·subst e
   rw [Q1] at hk
   rw [QQ (u:=v) (by rw [Qa _ _ hbt.symm,Q1])]
   exact hk
  ·rw [Qa _ _ e] at hk
   rw [Qh _ _ e]
   have e2:k≠b:=by
    rintro rfl
    rw [Qa _ _ e] at hb;rw [hb] at hk;cases hk
   rw [Qa _ _ e2,Qa _ _ e];exact hk
 have HN:Hid (∀ (v:Int) b,(upd σ t (.big v)) b=none→b≠t∧b≠bq):=fun v b hb=>by
  have e1:b≠t:=by rintro rfl;rw [Q1] at hb;cases hb
  refine ⟨e1,?_⟩
  rintro rfl
  rw [Qa _ _ e1] at hb;exact hq.ne_none hb
 have HE:Hid (∀ v:Int,Ext σ (upd σ t (.big v))):=fun v=>Ext.new hn _
 clear h hq hl
 go_enter Tryz.func150, Tryz.ntmps150
 go_wp2_with fail
 rw [← ht]
 refine (Q6Y H0.out).mono ?_
 rintro r w1 ⟨b,rfl,hb,k1⟩
 have H1:=Lh (HR.out 0 5 w1 b (by omega) (by omega) (HN.out _ _ hb).1 (HN.out _ _ hb).2 k1 hb)
 clear k1 hb H0 ht
 go_wp2_with fail
 refine H1.out.mono ?_
 rintro r w2 ⟨rfl,k2⟩
 have H2:=Lh k2
 have HS:=Lh (Q13 (Q0Z k2 (Num.big (Q1 _ _ _))))
 clear k2 H1
 go_wp2_with fail
 refine HS.out.mono ?_
 rintro r w3 ⟨rfl,hw⟩
 subst hw
 clear HS
 by_cases h5:q % 5=0
 ·rw [h5]
  rw [show signI ((0:Nat):Int)=0 by rfl]
  go_wp2_with fail
  go_ret
  exact ⟨by rw [decide_eq_true h5];rfl,H2.out.less (HE.out _)⟩
 ·have hs:signI ((q % 5:Nat):Int)=1:=by unfold signI;rw [if_neg (by omega),if_neg (by omega)]
  rw [hs]
  go_wp2_with fail
  refine (Q0Q H2.out).mono ?_
  rintro r w4 ⟨b,rfl,hb,k4⟩
  have H4:=Lh (HR.out _ 10 w4 b (by omega) (by omega) (HN.out _ _ hb).1 (HN.out _ _ hb).2 k4 hb)
  clear k4 hb H2
  go_wp2_with fail
  refine H4.out.mono ?_
  rintro r w5 ⟨rfl,k5⟩
  have H5:=Lh k5
  have HS:=Lh (Q13 (Q0Z k5 (Num.big (Q1 _ _ _))))
  clear k5 H4
  have hs2:signI ((q % 10:Nat):Int)=1:=by unfold signI;rw [if_neg (by omega),if_neg (by omega)]
  rw [hs2] at HS
  go_wp2_with fail
  refine HS.out.mono ?_
  rintro r w6 ⟨rfl,hw⟩
  subst hw
  clear HS
  go_wp2_with fail
  go_ret
  exact ⟨by simp [h5],H5.out.less (HE.out _)⟩
def rndS (m:Nat):ByteArray :=
 match m with
 | 0=>⟨#[100,111,119,110]⟩
 | 1=>⟨#[104,97,108,102,95,117,112]⟩
 | 2=>⟨#[104,97,108,102,95,101,118,101,110]⟩
 | 3=>⟨#[99,101,105,108,105,110,103]⟩
 | 4=>⟨#[102,108,111,111,114]⟩
 | 5=>⟨#[104,97,108,102,95,100,111,119,110]⟩
 | 6=>⟨#[117,112]⟩
 | 7=>⟨#[48,53,117,112]⟩
 | _=>⟨#[]⟩
theorem Q0d {W:World}{σ:Sg}{w:World}(hW:GW W)(h:St W σ w){bq oq q:Nat}(hq:Num σ bq oq (q:Int))(hl:q<BB^100)(m:Nat)(hm:m<8)(n:Bool)(u:Int) :
  Calls Tryz.prog 97 #[.string (rndS m),.pointer (some ⟨bq,oq,none⟩),.bool n,.int .i64 u] w fun r w'=>r=.returned (.bool (upR m n q u))∧St W σ w':=by
 match m,hm with
 | 0,_ =>
  have HA:Hid (Calls Tryz.prog 143 #[.pointer (some ⟨bq,oq,none⟩),.bool n,.int .i64 u] w fun r w'=>r=.returned (.bool (upR 0 n q u))∧St W σ w'):=Lh (Q9Q h _ n u)
  generalize upR 0 n q u=v at HA ⊢
  clear h hq hl hW
  rw [show rndS 0=⟨#[100,111,119,110]⟩ from rfl]
  go_enter Tryz.func97, Tryz.ntmps97
  go_wp2_with fail
  refine HA.out.mono ?_
  rintro r w1 ⟨rfl,k⟩
  have H1:=Lh k
  clear k HA
  go_wp2_with fail
  go_ret
  exact ⟨rfl,H1.out⟩
 | 1,_ =>
  have HA:Hid (Calls Tryz.prog 144 #[.pointer (some ⟨bq,oq,none⟩),.bool n,.int .i64 u] w fun r w'=>r=.returned (.bool (upR 1 n q u))∧St W σ w'):=Lh (Q7Y h _ n u)
  generalize upR 1 n q u=v at HA ⊢
  clear h hq hl hW
  rw [show rndS 1=⟨#[104,97,108,102,95,117,112]⟩ from rfl]
  go_enter Tryz.func97, Tryz.ntmps97
  go_wp2_with fail
  refine HA.out.mono ?_
  rintro r w1 ⟨rfl,k⟩
  have H1:=Lh k
  clear k HA
  go_wp2_with fail
  go_ret
  exact ⟨rfl,H1.out⟩
 | 2,_ =>
  have HA:Hid (Calls Tryz.prog 145 #[.pointer (some ⟨bq,oq,none⟩),.bool n,.int .i64 u] w fun r w'=>r=.returned (.bool (upR 2 n q u))∧St W σ w'):=Lh (Q5z h hq n u)
  generalize upR 2 n q u=v at HA ⊢
  clear h hq hl hW
  rw [show rndS 2=⟨#[104,97,108,102,95,101,118,101,110]⟩ from rfl]
  go_enter Tryz.func97, Tryz.ntmps97
  go_wp2_with fail
  refine HA.out.mono ?_
  rintro r w1 ⟨rfl,k⟩
  have H1:=Lh k
  clear k HA
  go_wp2_with fail
  go_ret
  exact ⟨rfl,H1.out⟩
 | 3,_ =>
  have HA:Hid (Calls Tryz.prog 146 #[.pointer (some ⟨bq,oq,none⟩),.bool n,.int .i64 u] w fun r w'=>r=.returned (.bool (upR 3 n q u))∧St W σ w'):=Lh (Q72 h _ n u)
  generalize upR 3 n q u=v at HA ⊢
  clear h hq hl hW
  rw [show rndS 3=⟨#[99,101,105,108,105,110,103]⟩ from rfl]
  go_enter Tryz.func97, Tryz.ntmps97
  go_wp2_with fail
  refine HA.out.mono ?_
  rintro r w1 ⟨rfl,k⟩
  have H1:=Lh k
  clear k HA
  go_wp2_with fail
  go_ret
  exact ⟨rfl,H1.out⟩
 | 4,_ =>
  have HA:Hid (Calls Tryz.prog 147 #[.pointer (some ⟨bq,oq,none⟩),.bool n,.int .i64 u] w fun r w'=>r=.returned (.bool (upR 4 n q u))∧St W σ w'):=Lh (Q9j h _ n u)
  generalize upR 4 n q u=v at HA ⊢
  clear h hq hl hW
  rw [show rndS 4=⟨#[102,108,111,111,114]⟩ from rfl]
  go_enter Tryz.func97, Tryz.ntmps97
  go_wp2_with fail
  refine HA.out.mono ?_
  rintro r w1 ⟨rfl,k⟩
  have H1:=Lh k
  clear k HA
  go_wp2_with fail
  go_ret
  exact ⟨rfl,H1.out⟩
 | 5,_ =>
  have HA:Hid (Calls Tryz.prog 148 #[.pointer (some ⟨bq,oq,none⟩),.bool n,.int .i64 u] w fun r w'=>r=.returned (.bool (upR 5 n q u))∧St W σ w'):=Lh (Q5y h _ n u)
  generalize upR 5 n q u=v at HA ⊢
  clear h hq hl hW
  rw [show rndS 5=⟨#[104,97,108,102,95,100,111,119,110]⟩ from rfl]
  go_enter Tryz.func97, Tryz.ntmps97
  go_wp2_with fail
  refine HA.out.mono ?_
  rintro r w1 ⟨rfl,k⟩
  have H1:=Lh k
  clear k HA
  go_wp2_with fail
  go_ret
  exact ⟨rfl,H1.out⟩
 | 6,_ =>
  have HA:Hid (Calls Tryz.prog 149 #[.pointer (some ⟨bq,oq,none⟩),.bool n,.int .i64 u] w fun r w'=>r=.returned (.bool (upR 6 n q u))∧St W σ w'):=Lh (Qa8 h _ n u)
  generalize upR 6 n q u=v at HA ⊢
  clear h hq hl hW
  rw [show rndS 6=⟨#[117,112]⟩ from rfl]
  go_enter Tryz.func97, Tryz.ntmps97
  go_wp2_with fail
  refine HA.out.mono ?_
  rintro r w1 ⟨rfl,k⟩
  have H1:=Lh k
  clear k HA
  go_wp2_with fail
  go_ret
  exact ⟨rfl,H1.out⟩
 | 7,_ =>
  have HA:Hid (Calls Tryz.prog 150 #[.pointer (some ⟨bq,oq,none⟩),.bool n,.int .i64 u] w fun r w'=>r=.returned (.bool (upR 7 n q u))∧St W σ w'):=Lh (Q9R hW h hq hl n u)
  generalize upR 7 n q u=v at HA ⊢
  clear h hq hl hW
  rw [show rndS 7=⟨#[48,53,117,112]⟩ from rfl]
  go_enter Tryz.func97, Tryz.ntmps97
  go_wp2_with fail
  refine HA.out.mono ?_
  rintro r w1 ⟨rfl,k⟩
  have H1:=Lh k
  clear k HA
  go_wp2_with fail
  go_ret
  exact ⟨rfl,H1.out⟩
theorem Q0B {c n:Nat}(h:c<BB^n)(hn:n≤100):c<BB^100:=Nat.lt_of_lt_of_le h (Nat.pow_le_pow_right (by unfold BB;decide) hn)
theorem b39 {c n:Nat}(h:c<BB^n)(hn:n≤39):c<BB^39:=Nat.lt_of_lt_of_le h (Nat.pow_le_pow_right (by unfold BB;decide) hn)
end Go.Proofs.YtpebcmfpehdafaaGreatDoor
