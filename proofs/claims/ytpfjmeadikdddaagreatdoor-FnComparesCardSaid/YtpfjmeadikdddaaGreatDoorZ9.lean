/- a part of the proof -/
import Derived.Laws.FloatArith
import Derived.Test.YtpfjmeadikdddaaGreatDoorZ5
set_option linter.all false
set_option maxRecDepth 100000
set_option maxHeartbeats 16000000
namespace Go.Proofs.YtpfjmeadikdddaaGreatDoor
open Go Go.RowKit
theorem Q5M {w:World}{bz oz bx ox bu ou:Nat}{R:World→Prop}(h:Calls Tryz.prog 172 #[.pointer (some ⟨bz,oz,none⟩),.pointer (some ⟨bx,ox,none⟩),.pointer (some ⟨bu,ou,none⟩)] w.drew fun e w'=>e=.returned (.pointer (some ⟨bz,oz,none⟩))∧R w') :
  Calls Tryz.prog 125 #[.pointer (some ⟨bz,oz,none⟩),.pointer (some ⟨bx,ox,none⟩),.pointer (some ⟨bu,ou,none⟩)] w fun e w'=>e=.returned (.pointer (some ⟨bz,oz,none⟩))∧R w':=by
 have H:=Lh h
 clear h
 go_enter Tryz.func125, Tryz.ntmps125
 go_wp2_with fail
 go_still_tail 9,(by kernel_rfl)
 go_wp2_with (go_at_call 172;refine H.out.mono ?_;rintro e w1 ⟨rfl,hR⟩;have HR:=Lh hR;clear hR)
 go_ret
 exact ⟨rfl,HR.out⟩
theorem Qal {w:World}{bz oz bx ox bu ou:Nat}{R:World→Prop}(h:Calls Tryz.prog 173 #[.pointer (some ⟨bz,oz,none⟩),.pointer (some ⟨bx,ox,none⟩),.pointer (some ⟨bu,ou,none⟩)] w.drew fun e w'=>e=.returned (.pointer (some ⟨bz,oz,none⟩))∧R w') :
  Calls Tryz.prog 129 #[.pointer (some ⟨bz,oz,none⟩),.pointer (some ⟨bx,ox,none⟩),.pointer (some ⟨bu,ou,none⟩)] w fun e w'=>e=.returned (.pointer (some ⟨bz,oz,none⟩))∧R w':=by
 have H:=Lh h
 clear h
 go_enter Tryz.func129, Tryz.ntmps129
 go_wp2_with fail
 go_still_tail 9,(by kernel_rfl)
 go_wp2_with (go_at_call 173;refine H.out.mono ?_;rintro e w1 ⟨rfl,hR⟩;have HR:=Lh hR;clear hR)
 go_ret
 exact ⟨rfl,HR.out⟩
theorem Q2o {w:World}{bz oz bx ox bu ou:Nat}{R:World→Prop}(h:Calls Tryz.prog 147 #[.pointer (some ⟨bz,oz,none⟩),.pointer (some ⟨bx,ox,none⟩),.pointer (some ⟨bu,ou,none⟩)] w.drew fun e w'=>e=.returned (.pointer (some ⟨bz,oz,none⟩))∧R w') :
  Calls Tryz.prog 107 #[.pointer (some ⟨bz,oz,none⟩),.pointer (some ⟨bx,ox,none⟩),.pointer (some ⟨bu,ou,none⟩)] w fun e w'=>e=.returned (.pointer (some ⟨bz,oz,none⟩))∧R w':=by
 have H:=Lh h
 clear h
 go_enter Tryz.func107, Tryz.ntmps107
 go_wp2_with fail
 go_still_tail 9,(by kernel_rfl)
 go_wp2_with (go_at_call 147;refine H.out.mono ?_;rintro e w1 ⟨rfl,hR⟩;have HR:=Lh hR;clear hR)
 go_ret
 exact ⟨rfl,HR.out⟩
theorem Qam {w:World}{bz oz bx ox bu ou:Nat}{R:World→Prop}(h:Calls Tryz.prog 214 #[.pointer (some ⟨bz,oz,none⟩),.pointer (some ⟨bx,ox,none⟩),.pointer (some ⟨bu,ou,none⟩)] w.drew fun e w'=>e=.returned (.pointer (some ⟨bz,oz,none⟩))∧R w') :
  Calls Tryz.prog 193 #[.pointer (some ⟨bz,oz,none⟩),.pointer (some ⟨bx,ox,none⟩),.pointer (some ⟨bu,ou,none⟩)] w fun e w'=>e=.returned (.pointer (some ⟨bz,oz,none⟩))∧R w':=by
 have H:=Lh h
 clear h
 go_enter Tryz.func193, Tryz.ntmps193
 go_wp2_with fail
 go_still_tail 9,(by kernel_rfl)
 go_wp2_with (go_at_call 214;refine H.out.mono ?_;rintro e w1 ⟨rfl,hR⟩;have HR:=Lh hR;clear hR)
 go_ret
 exact ⟨rfl,HR.out⟩
theorem Q2p {w:World}{bz oz bx ox bu ou br or:Nat}{R:World→Prop}(h:Calls Tryz.prog 162 #[.pointer (some ⟨bz,oz,none⟩),.pointer (some ⟨bx,ox,none⟩),.pointer (some ⟨bu,ou,none⟩),.pointer (some ⟨br,or,none⟩)] w.drew fun e w'=>e=.returned (.tuple #[.pointer (some ⟨bz,oz,none⟩),.pointer (some ⟨br,or,none⟩)])∧R w') :
  Calls Tryz.prog 121 #[.pointer (some ⟨bz,oz,none⟩),.pointer (some ⟨bx,ox,none⟩),.pointer (some ⟨bu,ou,none⟩),.pointer (some ⟨br,or,none⟩)] w fun e w'=>e=.returned (.tuple #[.pointer (some ⟨bz,oz,none⟩),.pointer (some ⟨br,or,none⟩)])∧R w':=by
 have H:=Lh h
 clear h
 go_enter Tryz.func121, Tryz.ntmps121
 go_wp2_with fail
 go_still_tail 12,(by kernel_rfl)
 go_wp2_with (go_at_call 162;refine H.out.mono ?_;rintro e w1 ⟨rfl,hR⟩;have HR:=Lh hR;clear hR)
 go_ret2
 exact ⟨rfl,HR.out⟩
theorem Q2q {w:World}{bz oz bx ox:Nat}{R:World→Prop}(h:Calls Tryz.prog 146 #[.pointer (some ⟨bz,oz,none⟩),.pointer (some ⟨bx,ox,none⟩)] w.drew fun e w'=>e=.returned (.pointer (some ⟨bz,oz,none⟩))∧R w') :
  Calls Tryz.prog 106 #[.pointer (some ⟨bz,oz,none⟩),.pointer (some ⟨bx,ox,none⟩)] w fun e w'=>e=.returned (.pointer (some ⟨bz,oz,none⟩))∧R w':=by
 have H:=Lh h
 clear h
 go_enter Tryz.func106, Tryz.ntmps106
 go_wp2_with fail
 go_still_tail 6,(by kernel_rfl)
 go_wp2_with (go_at_call 146;refine H.out.mono ?_;rintro e w1 ⟨rfl,hR⟩;have HR:=Lh hR;clear hR)
 go_ret
 exact ⟨rfl,HR.out⟩
theorem Q3f {w:World}{bz oz bx ox:Nat}{R:World→Prop}(h:Calls Tryz.prog 159 #[.pointer (some ⟨bz,oz,none⟩),.pointer (some ⟨bx,ox,none⟩)] w.drew fun e w'=>e=.returned (.pointer (some ⟨bz,oz,none⟩))∧R w') :
  Calls Tryz.prog 118 #[.pointer (some ⟨bz,oz,none⟩),.pointer (some ⟨bx,ox,none⟩)] w fun e w'=>e=.returned (.pointer (some ⟨bz,oz,none⟩))∧R w':=by
 have H:=Lh h
 clear h
 go_enter Tryz.func118, Tryz.ntmps118
 go_wp2_with fail
 go_still_tail 6,(by kernel_rfl)
 go_wp2_with (go_at_call 159;refine H.out.mono ?_;rintro e w1 ⟨rfl,hR⟩;have HR:=Lh hR;clear hR)
 go_ret
 exact ⟨rfl,HR.out⟩
theorem Qan {w:World}{bz oz bx ox bu ou:Nat}{R:World→Prop}(h:Calls Tryz.prog 205 #[.pointer (some ⟨bz,oz,none⟩),.pointer (some ⟨bx,ox,none⟩),.pointer (some ⟨bu,ou,none⟩),.pointer none] w.drew fun e w'=>e=.returned (.pointer (some ⟨bz,oz,none⟩))∧R w') :
  Calls Tryz.prog 184 #[.pointer (some ⟨bz,oz,none⟩),.pointer (some ⟨bx,ox,none⟩),.pointer (some ⟨bu,ou,none⟩),.pointer none] w fun e w'=>e=.returned (.pointer (some ⟨bz,oz,none⟩))∧R w':=by
 have H:=Lh h
 clear h
 go_enter Tryz.func184, Tryz.ntmps184
 go_wp2_with fail
 go_still_tail 9,(by kernel_rfl)
 go_wp2_with (go_at_call 205;refine H.out.mono ?_;rintro e w1 ⟨rfl,hR⟩;have HR:=Lh hR;clear hR)
 go_ret
 exact ⟨rfl,HR.out⟩
theorem Q2r {w:World}{bx ox bu ou:Nat}{v:Int}{R:World→Prop}(h:Calls Tryz.prog 145 #[.pointer (some ⟨bx,ox,none⟩),.pointer (some ⟨bu,ou,none⟩)] w.drew fun e w'=>e=.returned (.int .i64 v)∧R w') :
  Calls Tryz.prog 100 #[.pointer (some ⟨bx,ox,none⟩),.pointer (some ⟨bu,ou,none⟩)] w fun e w'=>e=.returned (.int .i64 v)∧R w':=by
 have H:=Lh h
 clear h
 go_enter Tryz.func100, Tryz.ntmps100
 go_wp2_with fail
 go_still_tail 6,(by kernel_rfl)
 go_wp2_with (go_at_call 145;refine H.out.mono ?_;rintro e w1 ⟨rfl,hR⟩;have HR:=Lh hR;clear hR)
 go_ret
 exact ⟨rfl,HR.out⟩
theorem Q1z {w:World}{bx ox:Nat}{v:Int}{R:World→Prop}(h:Calls Tryz.prog 163 #[.pointer (some ⟨bx,ox,none⟩)] w fun e w'=>e=.returned (.int .i64 v)∧R w') :
  Calls Tryz.prog 122 #[.pointer (some ⟨bx,ox,none⟩)] w fun e w'=>e=.returned (.int .i64 v)∧R w':=by
 have H:=Lh h
 clear h
 go_enter Tryz.func122, Tryz.ntmps122
 go_wp2_with (go_at_call 163;refine H.out.mono ?_;rintro e w1 ⟨rfl,hR⟩;have HR:=Lh hR;clear hR)
 go_ret
 exact ⟨rfl,HR.out⟩
theorem Q3U {w:World}{bx ox:Nat}{v:Int}{R:World→Prop}(h:Calls Tryz.prog 190 #[.pointer (some ⟨bx,ox,none⟩)] w fun e w'=>e=.returned (.int .i64 v)∧R w') :
  Calls Tryz.prog 160 #[.pointer (some ⟨bx,ox,none⟩)] w fun e w'=>e=.returned (.int .i64 v)∧R w':=by
 have H:=Lh h
 clear h
 go_enter Tryz.func160, Tryz.ntmps160
 go_wp2_with (go_at_call 190;refine H.out.mono ?_;rintro e w1 ⟨rfl,hR⟩;have HR:=Lh hR;clear hR)
 go_ret
 exact ⟨rfl,HR.out⟩
theorem Q9v {w:World}{bx ox:Nat}{v:Int}{R:World→Prop}(h:Calls Tryz.prog 213 #[.pointer (some ⟨bx,ox,none⟩),.int .i64 0] w fun e w'=>e=.returned (.int .u64 v)∧R w') :
  Calls Tryz.prog 192 #[.pointer (some ⟨bx,ox,none⟩),.int .i64 0] w fun e w'=>e=.returned (.int .u64 v)∧R w':=by
 have H:=Lh h
 clear h
 go_enter Tryz.func192, Tryz.ntmps192
 go_wp2_with (go_at_call 213;refine H.out.mono ?_;rintro e w1 ⟨rfl,hR⟩;have HR:=Lh hR;clear hR)
 go_ret
 exact ⟨rfl,HR.out⟩
theorem Q0m {w:World}{bz oz:Nat}{v:Int}{R:World→Prop}(h:Calls Tryz.prog 178 #[.pointer (some ⟨bz,oz,none⟩),.int .i64 v] w fun e w'=>e=.returned (.pointer (some ⟨bz,oz,none⟩))∧R w') :
  Calls Tryz.prog 141 #[.pointer (some ⟨bz,oz,none⟩),.int .i64 v] w fun e w'=>e=.returned (.pointer (some ⟨bz,oz,none⟩))∧R w':=by
 have H:=Lh h
 clear h
 go_enter Tryz.func141, Tryz.ntmps141
 go_wp2_with (go_at_call 178;refine H.out.mono ?_;rintro e w1 ⟨rfl,hR⟩;have HR:=Lh hR;clear hR)
 go_ret
 exact ⟨rfl,HR.out⟩
def Ext (σ τ:Sg):Prop:=∀ b ob,σ b=some ob→τ b=some ob
theorem Ext.refl (σ:Sg):Ext σ σ:=fun _ _ h=>h
theorem Ext.trans {σ τ υ:Sg}(h:Ext σ τ)(k:Ext τ υ):Ext σ υ:=fun b ob hb=>k b ob (h b ob hb)
theorem Ext.new {σ:Sg}{b:Nat}(h:σ b=none)(o:Ob):Ext σ (upd σ b o):=fun k ob hk=>by
 rw [Qc σ o (by rintro rfl;rw [h] at hk;cases hk)];exact hk
theorem Ext.upd {σ τ:Sg}(h:Ext σ τ)(b:Nat)(o:Ob):Ext (upd σ b o) (Go.Proofs.YtpfjmeadikdddaaGreatDoor.upd τ b o):=fun k ob hk=>by
 by_cases e:k=b
 ·subst e;rw [Qa] at hk ⊢;exact hk
 ·rw [Qc σ o e] at hk;rw [Qc τ o e];exact h k ob hk
theorem Ext.setN {σ τ:Sg}(h:Ext σ τ)(b:Nat)(v:Int):Ext (setN σ b v) (Go.Proofs.YtpfjmeadikdddaaGreatDoor.setN τ b v):=fun k ob hk=>by
 by_cases e:k=b
 ·subst e
  cases hs:σ k with
  | none=>simp [Go.Proofs.YtpfjmeadikdddaaGreatDoor.setN,hs] at hk
  | some o=>have ht:=h k o hs;simp only [Go.Proofs.YtpfjmeadikdddaaGreatDoor.setN,if_true,hs,ht] at hk ⊢;exact hk
 ·rw [Qm σ v e] at hk;rw [Qm τ v e];exact h k ob hk
theorem Ext.num {σ τ:Sg}(h:Ext σ τ){b o:Nat}{v:Int}(k:Num σ b o v):Num τ b o v:=by
 rcases k with ⟨k,rfl⟩ | ⟨f,n,e,k,rfl⟩
 ·exact .inl ⟨h _ _ k,rfl⟩
 ·exact .inr ⟨f,n,e,h _ _ k,rfl⟩
theorem Ext.setN_skip {σ τ:Sg}(h:Ext σ τ){b:Nat}(hb:σ b=none)(v:Int):Ext σ (Go.Proofs.YtpfjmeadikdddaaGreatDoor.setN τ b v):=fun k ob hk=>by
 rw [Qm τ v (by rintro rfl;rw [hb] at hk;cases hk)];exact h k ob hk
theorem Ext.upd_skip {σ τ:Sg}(h:Ext σ τ){b:Nat}(hb:σ b=none)(o:Ob):Ext σ (Go.Proofs.YtpfjmeadikdddaaGreatDoor.upd τ b o):=fun k ob hk=>by
 rw [Qc τ o (by rintro rfl;rw [hb] at hk;cases hk)];exact h k ob hk
theorem St.less {W:World}{σ τ:Sg}{w:World}(h:St W τ w)(k:Ext σ τ):St W σ w:=h.mono k
theorem Q56 (σ:Sg)(b:Nat)(u v:Int)(k:Nat):setN (upd σ b (.big u)) b v k=upd σ b (.big v) k:=by
 by_cases e:k=b
 ·subst e;rw [Q03 (Qa _ _ _),Qa]
 ·rw [Qm _ _ e,Qc _ _ e,Qc _ _ e]
theorem St.big_new {W:World}{σ:Sg}{w:World}{b:Nat}{u v:Int}(h:St W (setN (upd σ b (.big u)) b v) w):St W (upd σ b (.big v)) w:=h.ext fun k=>(Q56 σ b u v k).symm
def NewBig (W:World)(σ:Sg)(v:Int)(e:Ending)(w':World):Prop:=∃ b,e=.returned (.pointer (some ⟨b,0,none⟩))∧σ b=none∧St W (upd σ b (.big v)) w'
theorem Q1A {W:World}{σ:Sg}{w:World}(h:St W σ w)(v:Int)(hv:v.natAbs<2^62) :
  Calls Tryz.prog 161 #[.int .i64 v] w (NewBig W σ v):=by
 have hn:=h.none_new
 have HA:=Lh (Q0m (Q0l (h.alloc_big 78) (Num.big (Qa _ _ _)) hv))
 clear h hv
 go_enter Tryz.func161, Tryz.ntmps161
 go_wp2_with (go_at_call 141;refine HA.out.mono ?_;rintro e w1 ⟨rfl,hR⟩;have HR:=Lh hR;clear hR)
 go_ret
 exact ⟨_,rfl,hn,HR.out.big_new⟩
theorem Q3g {W:World}{σ:Sg}{w:World}(h:St W σ w):Calls Tryz.prog 126 #[] w (NewBig W σ 1):=by
 have HA:=Lh (Q1A h 1 (by decide))
 clear h
 go_enter Tryz.func126, Tryz.ntmps126
 go_wp2_with (go_at_call 161;refine HA.out.mono ?_;rintro e w1 ⟨b,rfl,hR⟩;have HR:=Lh hR;clear hR)
 go_ret
 exact ⟨b,rfl,HR.out⟩
theorem Q88 {W:World}{σ:Sg}{w:World}(h:St W σ w):Calls Tryz.prog 123 #[] w (NewBig W σ 2):=by
 have HA:=Lh (Q1A h 2 (by decide))
 clear h
 go_enter Tryz.func123, Tryz.ntmps123
 go_wp2_with (go_at_call 161;refine HA.out.mono ?_;rintro e w1 ⟨b,rfl,hR⟩;have HR:=Lh hR;clear hR)
 go_ret
 exact ⟨b,rfl,HR.out⟩
theorem Q7f {W:World}{σ:Sg}{w:World}(h:St W σ w):Calls Tryz.prog 194 #[] w (NewBig W σ 5):=by
 have HA:=Lh (Q1A h 5 (by decide))
 clear h
 go_enter Tryz.func194, Tryz.ntmps194
 go_wp2_with (go_at_call 161;refine HA.out.mono ?_;rintro e w1 ⟨b,rfl,hR⟩;have HR:=Lh hR;clear hR)
 go_ret
 exact ⟨b,rfl,HR.out⟩
theorem Q26 {W:World}{σ:Sg}{w:World}(h:St W σ w):Calls Tryz.prog 120 #[] w (NewBig W σ 10):=by
 have HA:=Lh (Q1A h 10 (by decide))
 clear h
 go_enter Tryz.func120, Tryz.ntmps120
 go_wp2_with (go_at_call 161;refine HA.out.mono ?_;rintro e w1 ⟨b,rfl,hR⟩;have HR:=Lh hR;clear hR)
 go_ret
 exact ⟨b,rfl,HR.out⟩
set_option exponentiation.threshold 2000 in
theorem Q2s {Y:Nat}(hY:Y≤423):(10:Nat)^Y<BB^22:=Nat.lt_of_le_of_lt (Nat.pow_le_pow_right (by decide) hY) (by unfold BB;decide)
theorem Q27 {W:World}{σ:Sg}{w:World}(hW:GW W)(h:St W σ w){bz oz:Nat}{vz:Int}(hz:Num σ bz oz vz)(Y:Nat)(hY:Y≤423) :
  Calls Tryz.prog 148 #[.pointer (some ⟨bz,oz,none⟩),.int .i64 (Y:Int)] w fun e w'=>e=.returned (.tuple #[])∧St W (setN σ bz ((10^Y:Nat):Int)) w':=by
 have hn:=h.none_new
 have hlt:=Q2s hY
 have HA:=Lh (Q0m (Q0l (h.alloc_big 78) (Num.big (Qa _ _ _)) (v:=(Y:Int)) (by rw [Int.natAbs_natCast];omega)))
 have hzb:bz≠w.heap.size:=by rintro rfl;exact hz.ne_none hn
 obtain ⟨bt,hbt⟩:∃ bt,bt=w.heap.size:=⟨_,rfl⟩
 rw [← hbt] at HA hzb hn
 have HS:Hid (∀ w1,St W (setN (upd σ bt (.big 0)) bt (Y:Int)) w1→Calls Tryz.prog 120 #[] w1 fun e w2=>∃ b,e=.returned (.pointer (some ⟨b,0,none⟩))∧Calls Tryz.prog 184 #[.pointer (some ⟨bz,oz,none⟩),.pointer (some ⟨b,0,none⟩),.pointer (some ⟨bt,0,none⟩),.pointer none] w2 fun e w3=>e=.returned (.pointer (some ⟨bz,oz,none⟩))∧St W (setN σ bz ((10^Y:Nat):Int)) w3):=fun w1 h1=>by
  refine (Q26 h1.big_new).mono ?_
  rintro e w2 ⟨b,rfl,hb,h2⟩
  have hbt':b≠bt:=by rintro rfl;rw [Qa] at hb;cases hb
  have hbσ:σ b=none:=by rw [Qc _ _ hbt'] at hb;exact hb
  have hbz:bz≠b:=by rintro rfl;exact hz.ne_none hbσ
  refine ⟨b,rfl,Qan ((Qak hW h2.drew ((hz.upd_ne hzb).upd_ne hbz) (Num.big (v:=((10:Nat):Int)) (Qa _ _ _)) hbz (Num.big (v:=(Y:Int)) (by rw [Qc _ _ hbt'.symm,Qa])) hzb (by decide) (by unfold BB;decide) (by unfold BB;omega) hlt).mono ?_)⟩
  rintro e w3 ⟨rfl,h3⟩
  refine ⟨rfl,h3.less ?_⟩
  exact (((Ext.new hn _).trans (Ext.new hb _))).setN bz _
 clear h hlt hz hY hW
 obtain ⟨T,hT⟩:∃ T:Nat,T=10^Y:=⟨_,rfl⟩
 rw [← hT] at HS ⊢
 clear hT
 go_enter Tryz.func148, Tryz.ntmps148
 go_wp2_with fail
 rw [← hbt]
 clear hbt
 refine HA.out.mono ?_
 rintro e w1 ⟨rfl,hR⟩
 have HB:=Lh (HS.out _ hR);clear hR HS HA
 go_wp2_with fail
 refine HB.out.mono ?_
 rintro e w2 ⟨b,rfl,hE⟩
 have HE:=Lh hE;clear hE HB
 go_wp2_with fail
 refine HE.out.mono ?_
 rintro e w3 ⟨rfl,hF⟩
 have HF:=Lh hF;clear hF HE
 go_wp2_with fail
 go_returns
 exact ⟨rfl,HF.out⟩
def ndR (bl:Nat):Option Nat:=floatBits .quo .f64 (floatOfInt .f64 (bl:Int)) 4614662735865160561
def ndQ (bl:Nat):Option Int:=(ndR bl).bind fun r=>floatToIntVal .f64 r .i64
def ndOk (bl:Nat):Bool:=match ndQ bl with
 | some (.ofNat n)=>decide (n≤423) && decide (2^bl≤10^(n+1)) && (n == 0 || decide (10^(n - 1)≤2^(bl - 1)))
 | _=>false
theorem Q89:(List.range 1400).all (fun i=>ndOk (i+1))=true:=by kernel_rfl
theorem Q6u {bl:Nat}(h0:0<bl)(h:bl≤1400):∃ r n:Nat,floatBits .quo .f64 (floatOfInt .f64 (bl:Int)) 4614662735865160561=some r∧floatToIntVal .f64 r .i64=some (n:Int)∧n≤423∧2^bl≤10^(n+1)∧(n=0∨10^(n - 1)≤2^(bl - 1)):=by
 have:=List.all_eq_true.1 Q89 (bl - 1) (List.mem_range.2 (by omega))
 rw [show bl - 1+1=bl by omega] at this
 unfold ndOk at this
 cases hq:ndQ bl with
 | none=>rw [hq] at this;cases this
 | some v =>
  rw [hq] at this
  cases v with
  | negSucc n=>cases this
  | ofNat n =>
   simp only [Bool.and_eq_true,Bool.or_eq_true,decide_eq_true_eq,beq_iff_eq] at this
   unfold ndQ at hq
   cases hr:ndR bl with
   | none=>rw [hr] at hq;cases hq
   | some r =>
    rw [hr] at hq
    exact ⟨r,n,hr,hq,this.1.1,this.1.2,this.2⟩
theorem QY {W:World}{σ:Sg}{w:World}(hW:GW W)(h:St W σ w){bz oz:Nat}{vz:Int}(hz:Num σ bz oz vz)(Y:Nat)(hY:Y≤423) :
  Calls Tryz.prog 108 #[.int .i64 (Y:Int),.pointer (some ⟨bz,oz,none⟩)] w fun e w'=>e=.returned (.pointer (some ⟨bz,oz,none⟩))∧St W (setN σ bz ((10^Y:Nat):Int)) w':=by
 have HA:=Lh (Q27 hW h hz Y hY)
 obtain ⟨T,hT⟩:∃ T:Nat,T=10^Y:=⟨_,rfl⟩
 rw [← hT] at HA ⊢
 clear h hz hY hW hT
 go_enter Tryz.func108, Tryz.ntmps108
 go_wp2_with fail
 refine HA.out.mono ?_
 rintro e w1 ⟨rfl,hR⟩
 have HR:=Lh hR;clear hR HA
 go_wp2_with fail
 go_ret
 exact ⟨rfl,HR.out⟩
theorem Q3A {W:World}{σ:Sg}{w:World}(hW:GW W)(h:St W σ w){bx ox:Nat}{x:Nat}(hx:Num σ bx ox (x:Int))(hb:0<bits2 x)(hl:bits2 x≤1400)(hx100:x<BB^100) :
  ∃ n d:Nat,2^bits2 x≤10^(n+1)∧(n=0∨10^(n - 1)≤2^(bits2 x - 1))∧d=(if 10^n≤x then n+1 else n) ∧
  Calls Tryz.prog 119 #[.pointer (some ⟨bx,ox,none⟩)] w fun e w'=>e=.returned (.int .i64 (d:Int))∧St W σ w':=by
 obtain ⟨r,n,h1,h2,h3,h4,h5⟩:=Q6u hb hl
 obtain ⟨d,hd⟩:∃ d:Nat,d=(if 10^n≤x then n+1 else n):=⟨_,rfl⟩
 refine ⟨n,d,h4,h5,hd,?_⟩
 have HB:=Lh (Q3U (Q3T h hx))
 rw [Int.natAbs_natCast] at HB
 have c1:=fun w1:World=>run_convert_int_float (P:=Tryz.prog) w1 3 172 .i64 .f64 ((bits2 x:Nat):Int) (by kernel_rfl) (by kernel_rfl)
 have c2:=fun w1:World=>run_float_arith (P:=Tryz.prog) w1 .quo 172 .f64 _ _ _ h1
 have c3:=fun w1:World=>run_convert_float_int (P:=Tryz.prog) w1 172 2 .f64 .i64 r (n:Int) (by kernel_rfl) (by kernel_rfl) h2
 generalize bits2 x=bl at HB hb c1 c2
 generalize floatOfInt .f64 (bl:Int)=fl at c1 c2
 have h6:(0:Int)<(bl:Int):=by omega
 clear h1 h2 h4 h5 hl
 obtain ⟨T,hT⟩:∃ T:Nat,T=10^n:=⟨_,rfl⟩
 rw [← hT] at hd
 have HD:=Lh hd
 clear hd
 have hlx:((x:Int)).natAbs<BB^100:=by rw [Int.natAbs_natCast];exact hx100
 have hn:=h.none_new
 obtain ⟨bt,hbt⟩:∃ bt,bt=w.heap.size:=⟨_,rfl⟩
 have HS:Hid (Calls Tryz.prog 108 #[.int .i64 (n:Int),.pointer (some ⟨bt,0,none⟩)] (w.alloc (.cells #[.bool false,.slice none 0 0] 78)) fun e w1=>e=.returned (.pointer (some ⟨bt,0,none⟩))∧St W (upd σ bt (.big (T:Int))) w1):=by
  rw [hbt,hT]
  refine (QY hW (h.alloc_big 78) (Num.big (Qa _ _ _)) n h3).mono ?_
  rintro e w1 ⟨rfl,h1⟩
  exact ⟨rfl,h1.big_new⟩
 rw [← hbt] at hn
 have HX:Hid (∀ w1,St W (upd σ bt (.big (T:Int))) w1→bx≠bt∧bx≠w1.heap.size∧bt≠w1.heap.size∧Calls Tryz.prog 118 #[.pointer (some ⟨w1.heap.size,0,none⟩),.pointer (some ⟨bx,ox,none⟩)] (w1.alloc (.cells #[.bool false,.slice none 0 0] 78)) fun e w2=>e=.returned (.pointer (some ⟨w1.heap.size,0,none⟩))∧St W (upd (upd σ bt (.big (T:Int))) w1.heap.size (.big (x:Int))) w2):=fun w1 h1=>by
  have hn1:=h1.none_new
  have e1:bx≠bt:=by rintro rfl;exact hx.ne_none hn
  have hx1:=hx.upd_ne (x:=.big (T:Int)) e1
  have e2:bx≠w1.heap.size:=by rintro e;exact hx1.ne_none (by rw [e];exact hn1)
  have e3:bt≠w1.heap.size:=by rintro e;rw [← e,Qa] at hn1;cases hn1
  refine ⟨e1,e2,e3,Q3f ((Q1O (h1.alloc_big 78).drew (Num.big (Qa _ _ _)) (hx1.upd_ne e2) e2.symm hlx).mono ?_)⟩
  rintro e w2 ⟨rfl,h2⟩
  refine ⟨rfl,?_⟩
  have:=h2.big_new
  rw [Int.natAbs_natCast] at this
  exact this
 have HY:Hid (∀ ba w2,ba≠bt→St W (upd (upd σ bt (.big (T:Int))) ba (.big (x:Int))) w2→σ ba=none→Calls Tryz.prog 100 #[.pointer (some ⟨ba,0,none⟩),.pointer (some ⟨bt,0,none⟩)] w2 fun e w3=>e=.returned (.int .i64 (cmpI x T))∧St W σ w3):=fun ba w2 hne h2 hb=>by
  refine Q2r ((Q2n h2.drew (Num.big (Qa _ _ _)) (Num.big (v:=((T:Nat):Int)) (by rw [Qc _ _ hne.symm,Qa])) hne).mono ?_)
  rintro e w3 ⟨rfl,q,rfl⟩
  exact ⟨rfl,(h2.drew.drewN q).less ((Ext.new hn _).upd_skip hb _)⟩
 have hn423:=h3
 clear h hx hlx h3 hT hx100 hW
 go_enter Tryz.func119, Tryz.ntmps119
 go_wp2_with fail
 refine HB.out.mono ?_
 rintro e w1 ⟨rfl,hR⟩
 subst hR
 go_wp2_with fail
 rw [← hbt]
 refine HS.out.mono ?_
 rintro e w2 ⟨rfl,h2⟩
 have H2:=Lh (HX.out _ h2)
 have hn2:=h2.none_new
 clear h2 HS HX hbt
 obtain ⟨ba,hba⟩:∃ ba,ba=w2.heap.size:=⟨_,rfl⟩
 rw [← hba] at hn2 H2
 go_wp2_with fail
 rw [← hba]
 clear hba
 refine H2.out.2.2.2.mono ?_
 rintro e w3 ⟨rfl,h3⟩
 have H3:=Lh (HY.out _ _ H2.out.2.2.1.symm h3 (by rw [Qc _ _ H2.out.2.2.1.symm] at hn2;exact hn2))
 clear h3 H2 hn2 HY
 go_wp2_with fail
 refine H3.out.mono ?_
 rintro e w4 ⟨rfl,h4⟩
 have H4:=Lh h4
 clear h4 H3
 by_cases hc:T≤x
 ·have hcm:decide ((0:Int)≤cmpI x T)=true:=by
   unfold cmpI;rw [if_neg (by omega)];split <;> decide
  generalize cmpI x T=cm at hcm ⊢
  have hcm':(0:Int)≤cm:=by simpa using hcm
  have hw:wrap64 ((n:Int)+1)=((n+1:Nat):Int):=by unfold wrap64;omega
  clear hcm
  go_wp2_with fail
  go_ret
  have:=HD.out
  rw [if_pos hc] at this
  subst this
  exact ⟨by first | rfl | simp,H4.out⟩
 ·have hcm:cmpI x T<0:=by
   unfold cmpI;rw [if_pos (by omega)];decide
  generalize cmpI x T=cm at hcm ⊢
  have hcm':¬ ((0:Int)≤cm):=by omega
  go_wp2_with fail
  go_ret
  have:=HD.out
  rw [if_neg hc] at this
  subst this
  exact ⟨by first | rfl | simp,H4.out⟩
theorem Q6v (σ:Sg)(b:Nat)(x y:Ob)(k:Nat):upd (upd σ b x) b y k=upd σ b y k:=by
 by_cases e:k=b
 ·subst e;rw [Qa,Qa]
 ·rw [Qc _ _ e,Qc _ _ e,Qc _ _ e]
theorem Q3V (σ:Sg)(b:Nat)(f:Int)(n:Bool)(e u v:Int)(k:Nat):setN (upd σ b (.dec f n e u)) b v k=upd σ b (.dec f n e v) k:=by
 by_cases h:k=b
 ·subst h;rw [Q08 (Qa _ _ _),Qa]
 ·rw [Qm _ _ h,Qc _ _ h,Qc _ _ h]
theorem St.decN {W:World}{σ:Sg}{w:World}{b:Nat}{f:Int}{n:Bool}{e u v:Int}(h:St W (setN (upd σ b (.dec f n e u)) b v) w):St W (upd σ b (.dec f n e v)) w:=h.ext fun k=>(Q3V σ b f n e u v k).symm
theorem St.upd2 {W:World}{σ:Sg}{w:World}{b:Nat}{x y:Ob}(h:St W (upd (upd σ b x) b y) w):St W (upd σ b y) w:=h.ext fun k=>(Q6v σ b x y k).symm
theorem Q1P {W:World}{σ:Sg}{w:World}(h:St W σ w){b:Nat}{f:Int}{n:Bool}{e c:Int}(hb:σ b=some (.dec f n e c))(v:Nat)(hv:v<2^62) :
  Calls Tryz.prog 197 #[.pointer (some ⟨b,0,none⟩),.int .i64 (v:Int)] w fun r w'=>r=.returned (.tuple #[])∧St W (upd σ b (.dec 0 false e (v:Int))) w':=by
 obtain ⟨c0,c1,c2,f0,f1,f2⟩:=h.dec hb
 have h1:=h.setNeg hb false
 have HA:=Lh (Q0m (Q0l h1 (Num.dec (Qa _ _ _)) (v:=(v:Int)) (by rw [Int.natAbs_natCast];exact hv)))
 have HS:Hid (∀ w1,St W (upd σ b (.dec f false e (v:Int))) w1→(Calls Tryz.prog 118 #[.pointer (some ⟨b,3,none⟩),.pointer (some ⟨b,3,none⟩)] w1 fun r w2=>r=.returned (.pointer (some ⟨b,3,none⟩))∧(w2.cell? ⟨b,0,none⟩=some (.int .i8 f)∧w2.frozen? ⟨b,0,none⟩=false)∧St W (upd σ b (.dec 0 false e (v:Int))) (w2.setCell ⟨b,0,none⟩ (.int .i8 0)))):=fun w1 k1=>by
  refine Q3f ((Q2B k1.drew (Num.dec (Qa _ _ _))).mono ?_)
  rintro r w2 ⟨rfl,k2⟩
  rw [Int.natAbs_natCast] at k2
  have k3:=k2.decN
  obtain ⟨d0,_,_,g0,_⟩:=k3.dec (Qa _ _ _)
  exact ⟨rfl,⟨d0,g0⟩,(k3.setForm (Qa _ _ _) 0).upd2⟩
 have hn:¬ ((v:Int)<0):=by omega
 clear h h1 hb hv
 go_enter Tryz.func197, Tryz.ntmps197
 go_wp2_with fail
 refine HA.out.mono ?_
 rintro r w1 ⟨rfl,k1⟩
 have H1:=Lh (HS.out _ k1.decN.drew)
 clear k1 HA HS
 go_wp2_with fail
 go_still_tail 6,(by kernel_rfl)
 go_wp2_with fail
 refine H1.out.mono ?_
 rintro r w2 ⟨rfl,⟨d0,g0⟩,k2⟩
 have H2:=Lh k2
 clear k2 H1
 go_wp2_with fail
 go_returns
 exact ⟨rfl,H2.out⟩
theorem Q3B {W:World}{σ:Sg}{w:World}(h:St W σ w){b:Nat}{f:Int}{n:Bool}{e c:Int}(hb:σ b=some (.dec f n e c))(v:Nat)(hv:v<2^62)(e':Int) :
  Calls Tryz.prog 174 #[.pointer (some ⟨b,0,none⟩),.int .i64 (v:Int),.int .i32 e'] w fun r w'=>r=.returned (.pointer (some ⟨b,0,none⟩))∧St W (upd σ b (.dec 0 false e' (v:Int))) w':=by
 have HA:=Lh (Q1P h hb v hv)
 clear h hb hv
 go_enter Tryz.func174, Tryz.ntmps174
 go_wp2_with fail
 refine HA.out.mono ?_
 rintro r w1 ⟨rfl,k1⟩
 obtain ⟨_,_,d2,_,_,g2⟩:=k1.dec (Qa _ _ _)
 have H1:=Lh (k1.setExp (Qa _ _ _) e').upd2
 clear k1 HA
 go_wp2_with fail
 go_ret
 exact ⟨rfl,H1.out⟩
def NewDec (W:World)(σ:Sg)(f:Int)(n:Bool)(e c:Int)(r:Ending)(w':World):Prop:=∃ b,r=.returned (.pointer (some ⟨b,0,none⟩))∧σ b=none∧St W (upd σ b (.dec f n e c)) w'
theorem Q9w {W:World}{σ:Sg}{w:World}(h:St W σ w)(v:Nat)(hv:v<2^62)(e':Int) :
  Calls Tryz.prog 158 #[.int .i64 (v:Int),.int .i32 e'] w (NewDec W σ 0 false e' (v:Int)):=by
 have hn:=h.none_new
 have HA:=Lh (Q3B (h.alloc_dec 80 0 0 false) (Qa _ _ _) v hv e')
 clear h hv
 go_enter Tryz.func158, Tryz.ntmps158
 go_wp2_with fail
 refine HA.out.mono ?_
 rintro r w1 ⟨rfl,k1⟩
 have H1:=Lh k1.upd2
 clear k1 HA
 go_wp2_with fail
 go_ret
 exact ⟨_,rfl,hn,H1.out⟩
theorem QJ {W:World}{σ:Sg}{w:World}(h:St W σ w):Calls Tryz.prog 155 #[] w (NewDec W σ 0 false (-1) 5):=by
 have HA:=Lh (Q9w h 5 (by decide) (-1))
 clear h
 go_enter Tryz.func155, Tryz.ntmps155
 go_wp2_with fail
 refine HA.out.mono ?_
 rintro r w1 ⟨b,rfl,hR⟩
 have HR:=Lh hR;clear hR
 go_wp2_with fail
 go_ret
 exact ⟨b,rfl,HR.out⟩
end Go.Proofs.YtpfjmeadikdddaaGreatDoor
