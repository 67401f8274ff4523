/- a part of the proof -/
import Derived.Test.YtpfjmeadikdddaaGreatDoorZ6
import Derived.Test.YtpfjmeadikdddaaGreatDoorZ7
import Derived.Test.YtpfjmeadikdddaaGreatDoorZ9
import Derived.Test.YtpfjmeadikdddaaGreatDoorZ10
set_option linter.all false
set_option maxRecDepth 100000
set_option maxHeartbeats 16000000
namespace Go.Proofs.YtpfjmeadikdddaaGreatDoor
open Go Go.RowKit
theorem St.decRow {W:World}{σ:Sg}{w:World}(h:St W σ w){b:Nat}{f:Int}{n:Bool}{e c:Int}(hb:σ b=some (.dec f n e c)):∃ N T,Row w b N T:=by
 obtain ⟨ab,h⟩:=h
 obtain ⟨_,_,⟨T,hT⟩,_⟩:=h.holds b _ hb
 exact ⟨_,T,hT⟩
theorem Q9y:∃ i,Tryz.prog.info? 80=some i∧i.size=5:=by
 have h:(Tryz.prog.info? 80).map (·.size)=some 5:=by kernel_rfl
 cases hc:Tryz.prog.info? 80 with
 | none=>rw [hc] at h;cases h
 | some i=>rw [hc] at h;exact ⟨i,rfl,by simpa using h⟩
theorem Q8b {w:World}{bx by_ N N':Nat}{T T':TypeId}(hR:Row w bx N T)(hR':Row w by_ N' T') :
  (binOp .eql 69 (.pointer (some ⟨bx,0,none⟩)) (.pointer (some ⟨by_,0,none⟩))).run Tryz.prog w=.ok (.bool (decide (bx=by_))) w:=by
 obtain ⟨i,hi,hs⟩:=Q9y
 have:=Q1k Tryz.underlying69 hi (by rw [hs];omega) (a:=⟨bx,0,none⟩) (b:=⟨by_,0,none⟩) hR hR'
 rw [this]
 by_cases e:bx=by_ <;> simp [e]
def decSgn (f:Int)(n:Bool)(c:Nat):Int:=if f=0∧c=0 then 0 else if n then -1 else 1
theorem QL {W:World}{σ:Sg}{w:World}(h:St W σ w){b:Nat}{f:Int}{n:Bool}{e:Int}{c:Nat}(hb:σ b=some (.dec f n e (c:Int))) :
  Calls Tryz.prog 105 #[.pointer (some ⟨b,0,none⟩)] w fun r w'=>r=.returned (.int .i64 (decSgn f n c))∧w'=w:=by
 obtain ⟨c0,c1,c2,f0,f1,f2⟩:=h.dec hb
 have HA:=Lh (Q1z (Q1y h (Num.dec hb)))
 obtain ⟨s,hs⟩:∃ s,s=signI (c:Int):=⟨_,rfl⟩
 rw [← hs] at HA
 have hs1:s=if c=0 then 0 else 1:=by
  rw [hs];unfold signI
  by_cases e:c=0
  ·rw [if_pos (by omega),if_pos e]
  ·rw [if_neg (by omega),if_neg (by omega),if_neg e]
 clear h hb hs
 unfold decSgn
 by_cases hf:f=0
 ·subst hf
  by_cases hc:c=0
  ·rw [if_pos hc] at hs1;subst hs1
   rw [if_pos ⟨rfl,hc⟩]
   clear hc
   go_enter Tryz.func105, Tryz.ntmps105
   go_wp2_with fail
   refine HA.out.mono ?_
   rintro r w1 ⟨rfl,hw⟩
   subst hw
   go_wp2_with fail
   go_ret
   exact ⟨rfl,rfl⟩
  ·rw [if_neg hc] at hs1;subst hs1
   rw [if_neg (fun e=>hc e.2)]
   clear hc
   cases n
   ·go_enter Tryz.func105, Tryz.ntmps105
    go_wp2_with fail
    refine HA.out.mono ?_
    rintro r w1 ⟨rfl,hw⟩
    subst hw
    go_wp2_with fail
    go_ret
    exact ⟨rfl,rfl⟩
   ·go_enter Tryz.func105, Tryz.ntmps105
    go_wp2_with fail
    refine HA.out.mono ?_
    rintro r w1 ⟨rfl,hw⟩
    subst hw
    go_wp2_with fail
    go_ret
    exact ⟨rfl,rfl⟩
 ·rw [if_neg (fun e=>hf e.1)]
  have hf':(f == 0)=false:=by simpa using hf
  clear hs1
  cases n
  ·go_enter Tryz.func105, Tryz.ntmps105
   go_wp2_with fail
   go_ret
   exact ⟨rfl,rfl⟩
  ·go_enter Tryz.func105, Tryz.ntmps105
   go_wp2_with fail
   go_ret
   exact ⟨rfl,rfl⟩
theorem Qt {W:World}{σ:Sg}{w:World}(h:St W σ w){b:Nat}{f:Int}{n:Bool}{e:Int}{c:Nat}(hb:σ b=some (.dec f n e (c:Int))) :
  Calls Tryz.prog 113 #[.pointer (some ⟨b,0,none⟩)] w fun r w'=>r=.returned (.bool (decide (f=0∧c=0)))∧w'=w:=by
 have HA:=Lh (QL h hb)
 obtain ⟨s,hs⟩:∃ s,s=decSgn f n c:=⟨_,rfl⟩
 have hz:(s == 0)=decide (f=0∧c=0):=by
  rw [hs];unfold decSgn
  by_cases e:f=0∧c=0
  ·rw [if_pos e];simp [e]
  ·rw [if_neg e];cases n <;> simp [e]
 rw [← hs] at HA
 rw [← hz]
 clear h hb hs hz
 go_enter Tryz.func113, Tryz.ntmps113
 go_wp2_with fail
 refine HA.out.mono ?_
 rintro r w1 ⟨rfl,hw⟩
 subst hw
 go_wp2_with fail
 go_ret
 exact ⟨rfl,rfl⟩
theorem Q57 {W:World}{σ:Sg}{w:World}(h:St W σ w){b bx:Nat}{f f':Int}{n n':Bool}{e c e' c':Int}(hb:σ b=some (.dec f n e c))(hx:σ bx=some (.dec f' n' e' c'))(hne:b≠bx)(hc:c'.natAbs<BB^100) :
  Calls Tryz.prog 139 #[.pointer (some ⟨b,0,none⟩),.pointer (some ⟨bx,0,none⟩)] w fun r w'=>r=.returned (.pointer (some ⟨b,0,none⟩))∧St W (upd σ b (.dec f' n' e' c')) w':=by
 obtain ⟨x0,x1,x2,_,_,_⟩:=h.dec hx
 obtain ⟨b0,b1,b2,g0,g1,g2⟩:=h.dec hb
 have h1:=h.setForm hb f'
 have h2:=(h1.setNeg (Qa _ _ _) n').upd2
 have h3:=(h2.setExp (Qa _ _ _) e').upd2
 have HA:=Lh (Q2q (Q05 h3.drew.drew (Num.dec (Qa _ _ _)) (Num.dec (by rw [Qc _ _ hne.symm];exact hx)) hne hc))
 clear h h1 h2 h3 hb hx hc
 go_enter Tryz.func139, Tryz.ntmps139
 go_wp2_with fail
 go_still_tail 6,(by kernel_rfl)
 go_wp2_with fail
 refine HA.out.mono ?_
 rintro r w1 ⟨rfl,hR⟩
 have HR:=Lh hR.decN;clear hR HA
 go_wp2_with fail
 go_ret
 exact ⟨rfl,HR.out⟩
theorem Q0K {W:World}{σ:Sg}{w:World}(h:St W σ w){b:Nat}{f:Int}{n:Bool}{e c:Int}(hb:σ b=some (.dec f n e c)) :
  Calls Tryz.prog 87 #[.pointer (some ⟨b,0,none⟩),.pointer (some ⟨b,0,none⟩)] w fun r w'=>r=.returned (.pointer (some ⟨b,0,none⟩))∧w'=w:=by
 obtain ⟨N,T,hR⟩:=h.decRow hb
 have hp:=Q8b hR hR
 rw [decide_eq_true rfl] at hp
 clear h hb hR
 go_enter Tryz.func87, Tryz.ntmps87
 go_wp2_with fail
 go_ret
 exact ⟨rfl,rfl⟩
theorem Q1Q {W:World}{σ:Sg}{w:World}(h:St W σ w){b bx:Nat}{f f':Int}{n n':Bool}{e c e' c':Int}(hb:σ b=some (.dec f n e c))(hx:σ bx=some (.dec f' n' e' c'))(hne:b≠bx)(hc:c'.natAbs<BB^100) :
  Calls Tryz.prog 87 #[.pointer (some ⟨b,0,none⟩),.pointer (some ⟨bx,0,none⟩)] w fun r w'=>r=.returned (.pointer (some ⟨b,0,none⟩))∧St W (upd σ b (.dec f' n' e' c')) w':=by
 obtain ⟨N,T,hR⟩:=h.decRow hb
 obtain ⟨N',T',hR'⟩:=h.decRow hx
 have hp:=Q8b hR hR'
 rw [decide_eq_false hne] at hp
 have HA:=Lh (Q57 h hb hx hne hc)
 clear h hb hR hx hR' hc
 go_enter Tryz.func87, Tryz.ntmps87
 go_wp2_with fail
 refine HA.out.mono ?_
 rintro r w1 ⟨rfl,k⟩
 have H1:=Lh k
 clear k HA
 go_wp2_with fail
 go_ret
 exact ⟨rfl,H1.out⟩
theorem Q58 {W:World}{σ:Sg}{w:World}(h:St W σ w){b:Nat}{f:Int}{n:Bool}{e c:Int}(hb:σ b=some (.dec f n e c)) :
  Calls Tryz.prog 130 #[.pointer (some ⟨b,0,none⟩),.pointer (some ⟨b,0,none⟩)] w fun r w'=>r=.returned (.pointer (some ⟨b,0,none⟩))∧St W (upd σ b (.dec f false e c)) w':=by
 have HA:=Lh (Q0K h hb)
 obtain ⟨_,c1,_,_,g1,_⟩:=h.dec hb
 have H1:=Lh (h.setNeg hb false)
 clear h hb
 go_enter Tryz.func130, Tryz.ntmps130
 go_wp2_with fail
 refine HA.out.mono ?_
 rintro r w1 ⟨rfl,hw⟩
 subst hw
 clear HA
 go_wp2_with fail
 go_ret
 exact ⟨rfl,H1.out⟩
theorem Q3h {W:World}{σ:Sg}{w:World}(h:St W σ w){bx ox:Nat}(hx:Num σ bx ox (0:Int)) :
  Calls Tryz.prog 119 #[.pointer (some ⟨bx,ox,none⟩)] w fun e w'=>e=.returned (.int .i64 1)∧St W σ w':=by
 have HB:=Lh (Q3U (Q3T h hx))
 rw [show bits2 (0:Int).natAbs=0 from rfl] at HB
 have H:=Lh h
 clear h hx
 go_enter Tryz.func119, Tryz.ntmps119
 go_wp2_with fail
 refine HB.out.mono ?_
 rintro e w1 ⟨rfl,hR⟩
 subst hR
 go_wp2_with fail
 go_ret
 exact ⟨rfl,H.out⟩
set_option exponentiation.threshold 2000 in
theorem Q8c {x:Nat}(h:x<BB^21):x<2^1344:=Nat.lt_of_lt_of_le h (by unfold BB;decide)
theorem QV {W:World}{σ:Sg}{w:World}(hW:GW W)(h:St W σ w){bx ox:Nat}{x:Nat}(hx:Num σ bx ox (x:Int))(hl:x<BB^21) :
  Calls Tryz.prog 119 #[.pointer (some ⟨bx,ox,none⟩)] w fun e w'=>e=.returned (.int .i64 (ndg x:Int))∧St W σ w':=by
 by_cases h0:x=0
 ·subst h0
  rw [Qi (by decide)]
  exact Q3h h hx
 ·have h1:=Q3a h0
  have h2:=Q4Z x
  have hb:bits2 x≤1344:=by
   rcases Nat.lt_or_ge 1344 (bits2 x) with k | k
   ·have:=Nat.pow_le_pow_right (n:=2) (by decide) (show 1344≤bits2 x - 1 by omega)
    have:=Q8c hl
    omega
   ·exact k
  have hl100:x<BB^100:=Nat.lt_of_lt_of_le hl (Nat.pow_le_pow_right (by unfold BB;decide) (by decide))
  obtain ⟨n,d,q1,q2,q3,q4⟩:=Q3A hW h hx h1.2 (by omega) hl100
  have e:d=ndg x:=by
   rw [q3]
   by_cases hc:10^n≤x
   ·rw [if_pos hc];exact (Q5N (by omega) hc).symm
   ·rw [if_neg hc]
    rcases q2 with rfl | q2
    ·exfalso;apply hc;simp;omega
    ·rcases n with _ | m
     ·exfalso;apply hc;simp;omega
     ·exact (Q5N (k:=m) (by omega) (by rw [Nat.add_sub_cancel] at q2;omega)).symm
  rw [e] at q4
  exact q4
theorem Qo {W:World}{σ:Sg}{w:World}(hW:GW W)(h:St W σ w){b:Nat}{f:Int}{n:Bool}{e:Int}{c:Nat}(hb:σ b=some (.dec f n e (c:Int)))(hl:c<BB^21) :
  Calls Tryz.prog 91 #[.pointer (some ⟨b,0,none⟩)] w fun r w'=>r=.returned (.int .i64 (ndg c:Int))∧St W σ w':=by
 have HA:=Lh (QV hW h (Num.dec hb) hl)
 generalize ndg c=d at HA ⊢
 clear h hW hb hl
 go_enter Tryz.func91, Tryz.ntmps91
 go_wp2_with fail
 refine HA.out.mono ?_
 rintro r w1 ⟨rfl,k⟩
 have H1:=Lh k
 clear k HA
 go_wp2_with fail
 go_ret
 exact ⟨rfl,H1.out⟩
theorem St.sm {W:World}{σ:Sg}{w w':World}(h:St W σ w)(k:SM w w'):St W σ w':=k.st h
theorem Q3i (n:Bool):decSgn 0 n 0=0:=by unfold decSgn;rw [if_pos ⟨rfl,rfl⟩]
theorem Q5b {c:Nat}(h:0<c):decSgn 0 false c=1:=by unfold decSgn;rw [if_neg (by omega)];rfl
def sgI:Bool→Int→Int
 | true,v => -v
 | false,v=>v
theorem Q2a {c:Nat}(n:Bool)(h:0<c):decSgn 0 n c=sgI n 1:=by unfold decSgn;rw [if_neg (by omega)];cases n <;> rfl
theorem Q4o (c c':Nat):(cmpI c c').natAbs≤1:=by unfold cmpI;(repeat' split) <;> decide
theorem Q5P {W:World}{σ:Sg}{w:World}(h:St W σ w){b b':Nat}{e e':Int}{c c':Nat}(hb:σ b=some (.dec 0 false e (c:Int)))(hx:σ b'=some (.dec 0 false e' (c':Int)))(hs:c=0∨c'=0) :
  Calls Tryz.prog 57 #[.pointer (some ⟨b,0,none⟩),.pointer (some ⟨b',0,none⟩)] w fun r w'=>r=.returned (.int .i64 (cmpD e c e' c'))∧w'=w:=by
 have HA:=Lh (QL h hb)
 have HB:=Lh (QL h hx)
 rcases Nat.eq_zero_or_pos c with h0 | h0
 ·subst h0
  rw [Q3i] at HA
  rcases Nat.eq_zero_or_pos c' with h1 | h1
  ·subst h1
   rw [Q3i] at HB
   rw [Q9A]
   clear h hb hx hs
   go_enter Tryz.func57, Tryz.ntmps57
   go_wp2_with fail
   refine HA.out.mono ?_
   rintro r w1 ⟨rfl,hw⟩
   subst hw
   go_wp2_with fail
   refine HB.out.mono ?_
   rintro r w1 ⟨rfl,hw⟩
   subst hw
   go_wp2_with fail
   go_ret
   exact ⟨rfl,rfl⟩
  ·rw [Q5b h1] at HB
   rw [Qao _ _ h1]
   clear h hb hx hs
   go_enter Tryz.func57, Tryz.ntmps57
   go_wp2_with fail
   refine HA.out.mono ?_
   rintro r w1 ⟨rfl,hw⟩
   subst hw
   go_wp2_with fail
   refine HB.out.mono ?_
   rintro r w1 ⟨rfl,hw⟩
   subst hw
   go_wp2_with fail
   go_ret
   exact ⟨rfl,rfl⟩
 ·obtain rfl:c'=0:=by omega
  rw [Q3i] at HB
  rw [Q5b h0] at HA
  rw [Qap _ _ h0]
  clear h hb hx hs
  go_enter Tryz.func57, Tryz.ntmps57
  go_wp2_with fail
  refine HA.out.mono ?_
  rintro r w1 ⟨rfl,hw⟩
  subst hw
  go_wp2_with fail
  refine HB.out.mono ?_
  rintro r w1 ⟨rfl,hw⟩
  subst hw
  go_wp2_with fail
  go_ret
  exact ⟨rfl,rfl⟩
theorem Q2C {W:World}{σ:Sg}{w:World}(h:St W σ w){b b':Nat}{n:Bool}{e:Int}{c c':Nat}(hb:σ b=some (.dec 0 n e (c:Int)))(hx:σ b'=some (.dec 0 n e (c':Int)))(hne:b≠b')(h0:0<c)(h1:0<c') :
  Calls Tryz.prog 57 #[.pointer (some ⟨b,0,none⟩),.pointer (some ⟨b',0,none⟩)] w fun r w'=>r=.returned (.int .i64 (sgI n (cmpD e c e c')))∧St W σ w':=by
 have HA:=Lh (QL h hb)
 have HB:=Lh (QL h hx)
 rw [Q2a n h0] at HA
 rw [Q2a n h1] at HB
 rw [Q7g]
 have HC:Hid (∀ w2,SM w w2→Calls Tryz.prog 100 #[.pointer (some ⟨b,3,none⟩),.pointer (some ⟨b',3,none⟩)] w2 fun r w'=>r=.returned (.int .i64 (cmpI c c'))∧St W σ w'):=fun w2 hw=>by
  refine Q2r ((Q2n (h.sm hw).drew (Num.dec hb) (Num.dec hx) hne).mono ?_)
  rintro e w1 ⟨rfl,q,rfl⟩
  exact ⟨rfl,((h.sm hw).drew).drewN q⟩
 obtain ⟨c0,c1,c2,_,_,_⟩:=h.dec hb
 obtain ⟨x0,x1,x2,_,_,_⟩:=h.dec hx
 have hv:=Q4o c c'
 generalize cmpI c c'=v at HC hv ⊢
 have hw0:wrap64 (-v) = -v:=by unfold wrap64;omega
 clear h hb hx h0 h1 hv
 cases n
 all_goals
  first | rw [show sgI true 1 = -1 from rfl] at HA HB | rw [show sgI false 1=1 from rfl] at HA HB
  go_enter Tryz.func57, Tryz.ntmps57
  go_wp2_with fail
  refine HA.out.mono ?_
  rintro r w1 ⟨rfl,hw⟩
  subst hw
  go_wp2_with fail
  refine HB.out.mono ?_
  rintro r w1 ⟨rfl,hw⟩
  subst hw
  go_wp2_with fail
  go_quiet (fail)
  go_wp2_with fail
  go_still_tail 6,(by kernel_rfl)
  go_wp2_with fail
  refine (HC.out _ (by exact ⟨rfl,rfl,rfl,rfl⟩)).mono ?_
  rintro r w1 ⟨rfl,k⟩
  have H1:=Lh k
  clear k HC
  go_wp2_with fail
  go_ret
  first
  | exact ⟨rfl,H1.out⟩
  | exact ⟨(show Ending.returned (.int .i64 (wrap64 (-v)))=.returned (.int .i64 (-v)) by rw [hw0]),H1.out⟩
theorem Q0y (σ:Sg)(b:Nat)(u v:Int):setN (upd σ b (.big u)) b v=upd σ b (.big v):=funext (Q56 σ b u v)
theorem Q1R (σ:Sg)(b:Nat)(f:Int)(n:Bool)(e u v:Int):setN (upd σ b (.dec f n e u)) b v=upd σ b (.dec f n e v):=funext (Q3V σ b f n e u v)
theorem Q0W (σ:Sg)(b:Nat)(x y:Ob):upd (upd σ b x) b y=upd σ b y:=funext (Q6v σ b x y)
theorem QO (σ:Sg){b b':Nat}(x:Ob)(v:Int)(h:b≠b'):setN (upd σ b' x) b v=upd (setN σ b v) b' x:=funext fun k=>by
 by_cases e:k=b'
 ·subst e;rw [Qm _ _ h.symm,Qa,Qa]
 ·rw [Qc _ _ e]
  by_cases e2:k=b
  ·subst e2;simp only [setN,if_true];rw [Qc _ _ h]
  ·rw [Qm _ _ e2,Qm _ _ e2,Qc _ _ e]
theorem Q06 (w:World)(o:Obj):(w.alloc o).heap.size=w.heap.size+1:=by simp
theorem St.two_big {W:World}{σ:Sg}{w:World}(h:St W σ w)(T:TypeId):σ w.heap.size=none∧σ (w.heap.size+1)=none ∧
  St W (upd (upd σ w.heap.size (.big 0)) (w.heap.size+1) (.big 0)) ((w.alloc (.cells #[.bool false,.slice none 0 0] T)).alloc (.cells #[.bool false,.slice none 0 0] T)):=by
 refine ⟨h.none_new,?_,?_⟩
 ·have:=(h.alloc_any (.cells #[.bool false,.slice none 0 0] T)).none_new
  rw [Q06] at this
  exact this
 ·have:=(h.alloc_big T).alloc_big T
  rw [Q06] at this
  exact this
theorem Q2D {W:World}{σ:Sg}{w:World}(hW:GW W)(h:St W σ w){bs os c:Nat}(hs:Num σ bs os (c:Int))(hc:c<BB^21)(k:Nat)(hk:k≤423)(t1 t2:Nat)(ht1:t1=w.heap.size)(ht2:t2=t1+1) :
  (Calls Tryz.prog 106 #[.pointer (some ⟨t1,0,none⟩),.pointer (some ⟨bs,os,none⟩)] ((w.alloc (.cells #[.bool false,.slice none 0 0] 78)).alloc (.cells #[.bool false,.slice none 0 0] 78)) fun r w'=>r=.returned (.pointer (some ⟨t1,0,none⟩))∧St W (upd (upd σ t1 (.big (c:Int))) t2 (.big 0)) w') ∧
  (∀ w2,St W (upd (upd σ t1 (.big (c:Int))) t2 (.big 0)) w2→Calls Tryz.prog 108 #[.int .i64 (k:Int),.pointer (some ⟨t2,0,none⟩)] w2 fun r w'=>r=.returned (.pointer (some ⟨t2,0,none⟩))∧St W (upd (upd σ t1 (.big (c:Int))) t2 (.big ((10^k:Nat):Int))) w') ∧
  (∀ w2,St W (upd (upd σ t1 (.big (c:Int))) t2 (.big ((10^k:Nat):Int))) w2→Calls Tryz.prog 107 #[.pointer (some ⟨t1,0,none⟩),.pointer (some ⟨t1,0,none⟩),.pointer (some ⟨t2,0,none⟩)] w2 fun r w'=>r=.returned (.pointer (some ⟨t1,0,none⟩))∧St W (upd (upd σ t1 (.big ((c*10^k:Nat):Int))) t2 (.big ((10^k:Nat):Int))) w') ∧
  (∀ x y,Ext σ (upd (upd σ t1 x) t2 y))∧σ t1=none∧σ t2=none∧t1≠t2:=by
 obtain ⟨n1,n2,h2⟩:=h.two_big 78
 rw [← ht1] at n1 n2 h2
 rw [← ht2] at n2 h2
 have ne:t1≠t2:=by omega
 have e1:bs≠t1:=by rintro rfl;exact hs.ne_none n1
 have e2:bs≠t2:=by rintro rfl;exact hs.ne_none n2
 have hT:=Q2s hk
 have b39:c<BB^39:=Nat.lt_of_lt_of_le hc (Nat.pow_le_pow_right (by unfold BB;decide) (by decide))
 have Q1i:c<BB^100:=Nat.lt_of_lt_of_le hc (Nat.pow_le_pow_right (by unfold BB;decide) (by decide))
 have hT2:10^k<BB^100:=Nat.lt_of_lt_of_le hT (Nat.pow_le_pow_right (by unfold BB;decide) (by decide))
 refine ⟨Q2q ((Q05 h2.drew (Num.big (v:=0) (by rw [Qc _ _ ne,Qa])) ((hs.upd_ne e1).upd_ne e2) e1.symm (by rw [Int.natAbs_natCast];exact Q1i)).mono ?_),fun w2 k2=>(QY hW k2 (Num.big (Qa _ _ _)) k hk).mono ?_,fun w2 k2=>Q2o ((Q29 hW k2.drew (Num.big (by rw [Qc _ _ ne,Qa])) (Num.big (Qa _ _ _)) ne b39 hT2).mono ?_),fun x y=>(Ext.new n1 x).upd_skip n2 y,n1,n2,ne⟩
 ·rintro r w' ⟨rfl,k1⟩
  rw [QO _ _ _ ne,Q0y] at k1
  exact ⟨rfl,k1⟩
 ·rintro r w' ⟨rfl,k1⟩
  rw [Q0y] at k1
  exact ⟨rfl,k1⟩
 ·rintro r w' ⟨rfl,k1⟩
  rw [QO _ _ _ ne,Q0y] at k1
  exact ⟨rfl,k1⟩
set_option exponentiation.threshold 2000 in
theorem QA {c:Nat}(h:c<BB^21):ndg c≤405:=Q0A (by decide) (Nat.lt_of_lt_of_le h (by unfold BB;decide))
theorem Q3Y {W:World}{σ:Sg}{w:World}(hW:GW W)(h:St W σ w){b b':Nat}{n:Bool}{e e':Int}{c c':Nat}(hb:σ b=some (.dec 0 n e (c:Int)))(hx:σ b'=some (.dec 0 n e' (c':Int)))(hne:b≠b')(h0:0<c)(h1:0<c')(hc:c<BB^21)(hc':c'<BB^21)(hee:e≠e')(he:e.natAbs≤100000)(he':e'.natAbs≤100000)(hd:(e - e').natAbs≤423) :
  Calls Tryz.prog 57 #[.pointer (some ⟨b,0,none⟩),.pointer (some ⟨b',0,none⟩)] w fun r w'=>r=.returned (.int .i64 (sgI n (cmpD e c e' c')))∧St W σ w':=by
 have HA:=Lh (QL h hb)
 have HB:=Lh (QL h hx)
 rw [Q2a n h0] at HA
 rw [Q2a n h1] at HB
 obtain ⟨c0,c1,c2,_,_,_⟩:=h.dec hb
 obtain ⟨x0,x1,x2,_,_,_⟩:=h.dec hx
 have HN:Hid (∀ w2,St W σ w2→Calls Tryz.prog 91 #[.pointer (some ⟨b,0,none⟩)] w2 fun r w'=>r=.returned (.int .i64 (ndg c:Int))∧St W σ w'):=fun w2 h2=>Qo hW h2 hb hc
 have HN':Hid (∀ w2,St W σ w2→Calls Tryz.prog 91 #[.pointer (some ⟨b',0,none⟩)] w2 fun r w'=>r=.returned (.int .i64 (ndg c':Int))∧St W σ w'):=fun w2 h2=>Qo hW h2 hx hc'
 have HC:Hid (∀ w2,St W σ w2→w2.cell? ⟨b,2,none⟩=some (.int .i32 e)∧w2.cell? ⟨b',2,none⟩=some (.int .i32 e')):=fun w2 h2=>⟨(h2.dec hb).2.2.1,(h2.dec hx).2.2.1⟩
 have H0:=Lh h
 have n1:=QA hc
 have n2:=QA hc'
 have Hlt:=Lh (fun k=>Q59 (c:=c) (c':=c') (e:=e) (e':=e') h1 k)
 have Hgt:=Lh (fun k=>Q5a (c:=c) (c':=c') (e:=e) (e':=e') h0 k)
 generalize ndg c=nd at HN n1 Hlt Hgt
 generalize ndg c'=nd' at HN' n2 Hlt Hgt
 have g1:wrap64 ((nd:Int)+e)=(nd:Int)+e:=by unfold wrap64;omega
 have g2:wrap64 ((nd':Int)+e')=(nd':Int)+e':=by unfold wrap64;omega
 replace hb:=Lh hb;replace hx:=Lh hx;replace hc:=Lh hc;replace hc':=Lh hc'
 clear h h0 h1
 cases n
 all_goals
  first | rw [show sgI true 1 = -1 from rfl] at HA HB | rw [show sgI false 1=1 from rfl] at HA HB
  go_enter Tryz.func57, Tryz.ntmps57
  go_wp2_with fail
  refine HA.out.mono ?_
  rintro r w1 ⟨rfl,hw⟩
  subst hw
  go_wp2_with fail
  refine HB.out.mono ?_
  rintro r w1 ⟨rfl,hw⟩
  subst hw
  go_wp2_with fail
  go_quiet (fail)
  go_wp2_with fail
  go_region_held3 (fun x=>x.cell? ⟨b,2,none⟩=some (.int .i32 e)) (first | exact c2 | exact d2) (first | (go_at_call 91;refine (HN.out _ (by exact H0.out.sm ⟨rfl,rfl,rfl,rfl⟩)).mono ?_;rintro r w2 ⟨rfl,k⟩;have d2:=(HC.out _ k).1;have H1:=Lh k;clear k))
  clear HN
  have z2:=(HC.out _ H1.out).2
  go_wp2_with fail
  go_region_held3 (fun x=>x.cell? ⟨b',2,none⟩=some (.int .i32 e')) (first | exact z2 | exact y2) (first | (go_at_call 91;refine (HN'.out _ (by exact H1.out.sm ⟨rfl,rfl,rfl,rfl⟩)).mono ?_;rintro r w3 ⟨rfl,k⟩;have y2:=(HC.out _ k).2;have H2:=Lh k;clear k))
  clear HN' H1 z2
  have z2:=(HC.out _ H2.out).1
  rcases Int.lt_trichotomy ((nd:Int)+e) ((nd':Int)+e') with k | k | k
  ·go_wp2_with fail
   go_ret
   exact ⟨by rw [Hlt.out k];rfl,H2.out⟩
  ·clear Hlt Hgt
   rcases Int.lt_or_gt_of_ne hee with hl | hl
   ·go_wp2_with fail
    go_quiet (fail)
    have H3:=Lh (H2.out.drewN nq)
    obtain ⟨v1,v2⟩:=HC.out _ H3.out
    clear H2 z2 y2
    generalize w3.drewN nq=w4 at H3 v1 v2 ⊢
    obtain ⟨kk,hkk⟩:∃ kk:Nat,kk=(e' - e).toNat:=⟨_,rfl⟩
    have HV:=Lh (Q6w (by omega:e≤e') c c')
    rw [← hkk] at HV
    have HW:=Lh (show IntKind.i64.wrap (IntKind.i64.wrap e' - IntKind.i64.wrap e)=(kk:Int) by rw [IntWalk.i64_in e (by omega),IntWalk.i64_in e' (by omega),IntWalk.i64_in _ (by omega)];omega)
    obtain ⟨t1,ht1⟩:∃ t1,t1=w4.heap.size:=⟨_,rfl⟩
    obtain ⟨t2,ht2⟩:∃ t2,t2=t1+1:=⟨_,rfl⟩
    have HS:=Lh (Q2D hW H3.out (Num.dec hx.out) hc'.out kk (by omega) t1 t2 ht1 ht2)
    have HF:Hid (∀ w2,St W (upd (upd σ t1 (.big ((c'*10^kk:Nat):Int))) t2 (.big ((10^kk:Nat):Int))) w2→Calls Tryz.prog 100 #[.pointer (some ⟨b,3,none⟩),.pointer (some ⟨t1,0,none⟩)] w2 fun r w'=>r=.returned (.int .i64 (cmpI c (c'*10^kk)))∧St W σ w'):=fun w2 k2=>by
     obtain ⟨_,_,_,q4,q5,q6,q7⟩:=HS.out
     have i1:b≠t1:=by rintro rfl;rw [q5] at hb;cases hb.out
     have i2:b≠t2:=by rintro rfl;rw [q6] at hb;cases hb.out
     refine Q2r ((Q2n k2.drew (Num.dec (by rw [Qc _ _ i2,Qc _ _ i1];exact hb.out)) (Num.big (v:=((c'*10^kk:Nat):Int)) (by rw [Qc _ _ q7,Qa])) i1).mono ?_)
     rintro r w' ⟨rfl,q,rfl⟩
     exact ⟨rfl,(k2.drew.drewN q).less (q4 _ _)⟩
    obtain ⟨v,hv⟩:∃ v,v=cmpI c (c'*10^kk):=⟨_,rfl⟩
    rw [← hv] at HF HV
    have hvb:v.natAbs≤1:=by rw [hv];exact Q4o _ _
    have hw0:wrap64 (-v) = -v:=by unfold wrap64;omega
    clear hkk hv hvb
    generalize hT:10^kk=T at HS HF
    clear hT
    go_wp2_with fail
    rw [← ht1,← ht2]
    clear ht1 ht2
    refine HS.out.1.mono ?_
    rintro r w5 ⟨rfl,k5⟩
    have H5:=Lh k5;clear k5
    obtain ⟨u1,u2⟩:=HC.out _ (H5.out.less (HS.out.2.2.2.1 _ _))
    clear H3 v1 v2
    go_wp2_with fail
    go_region_held3 (fun x=>x.cell? ⟨b,2,none⟩=some (.int .i32 e)∧x.cell? ⟨b',2,none⟩=some (.int .i32 e')) (first | exact ⟨u1,u2⟩ | exact ⟨p1,p2⟩ | exact ⟨q1,q2⟩) (first | (go_at_call 108;rw [HW.out];refine (HS.out.2.1 _ (by exact H5.out.sm ⟨rfl,rfl,rfl,rfl⟩)).mono ?_;rintro r w6 ⟨rfl,k6⟩;have H6:=Lh k6;clear k6;obtain ⟨p1,p2⟩:=HC.out _ (H6.out.less (HS.out.2.2.2.1 _ _))) | (go_at_call 107;refine (HS.out.2.2.1 _ (by exact H6.out.sm ⟨rfl,rfl,rfl,rfl⟩)).mono ?_;rintro r w7 ⟨rfl,k7⟩;have H7:=Lh k7;clear k7;obtain ⟨q1,q2⟩:=HC.out _ (H7.out.less (HS.out.2.2.2.1 _ _))))
    go_wp2_with fail
    refine (HF.out _ H7.out).mono ?_
    rintro r w8 ⟨rfl,k8⟩
    have H8:=Lh k8;clear k8 H7
    go_wp2_with fail
    go_ret
    rw [HV.out]
    first
    | exact ⟨rfl,H8.out⟩
    | exact ⟨(show Ending.returned (.int .i64 (wrap64 (-v)))=.returned (.int .i64 (-v)) by rw [hw0]),H8.out⟩
   ·go_wp2_with fail
    go_quiet (fail)
    have H3:=Lh (H2.out.drewN nq)
    obtain ⟨v1,v2⟩:=HC.out _ H3.out
    clear H2 z2 y2
    generalize w3.drewN nq=w4 at H3 v1 v2 ⊢
    obtain ⟨kk,hkk⟩:∃ kk:Nat,kk=(e - e').toNat:=⟨_,rfl⟩
    have HV:=Lh (Q9z (by omega:e'≤e) c c')
    rw [← hkk] at HV
    have HW:=Lh (show IntKind.i64.wrap (IntKind.i64.wrap e - IntKind.i64.wrap e')=(kk:Int) by rw [IntWalk.i64_in e (by omega),IntWalk.i64_in e' (by omega),IntWalk.i64_in _ (by omega)];omega)
    obtain ⟨t1,ht1⟩:∃ t1,t1=w4.heap.size:=⟨_,rfl⟩
    obtain ⟨t2,ht2⟩:∃ t2,t2=t1+1:=⟨_,rfl⟩
    have HS:=Lh (Q2D hW H3.out (Num.dec hb.out) hc.out kk (by omega) t1 t2 ht1 ht2)
    have HF:Hid (∀ w2,St W (upd (upd σ t1 (.big ((c*10^kk:Nat):Int))) t2 (.big ((10^kk:Nat):Int))) w2→Calls Tryz.prog 100 #[.pointer (some ⟨t1,0,none⟩),.pointer (some ⟨b',3,none⟩)] w2 fun r w'=>r=.returned (.int .i64 (cmpI (c*10^kk) c'))∧St W σ w'):=fun w2 k2=>by
     obtain ⟨_,_,_,q4,q5,q6,q7⟩:=HS.out
     have i1:t1≠b':=by rintro rfl;rw [q5] at hx;cases hx.out
     have i2:t2≠b':=by rintro rfl;rw [q6] at hx;cases hx.out
     refine Q2r ((Q2n k2.drew (Num.big (v:=((c*10^kk:Nat):Int)) (by rw [Qc _ _ q7,Qa])) (Num.dec (by rw [Qc _ _ i2.symm,Qc _ _ i1.symm];exact hx.out)) i1).mono ?_)
     rintro r w' ⟨rfl,q,rfl⟩
     exact ⟨rfl,(k2.drew.drewN q).less (q4 _ _)⟩
    obtain ⟨v,hv⟩:∃ v,v=cmpI (c*10^kk) c':=⟨_,rfl⟩
    rw [← hv] at HF HV
    have hvb:v.natAbs≤1:=by rw [hv];exact Q4o _ _
    have hw0:wrap64 (-v) = -v:=by unfold wrap64;omega
    clear hkk hv hvb
    generalize hT:10^kk=T at HS HF
    clear hT
    go_wp2_with fail
    rw [← ht1,← ht2]
    clear ht1 ht2
    refine HS.out.1.mono ?_
    rintro r w5 ⟨rfl,k5⟩
    have H5:=Lh k5;clear k5
    obtain ⟨u1,u2⟩:=HC.out _ (H5.out.less (HS.out.2.2.2.1 _ _))
    clear H3 v1 v2
    go_wp2_with fail
    go_region_held3 (fun x=>x.cell? ⟨b,2,none⟩=some (.int .i32 e)∧x.cell? ⟨b',2,none⟩=some (.int .i32 e')) (first | exact ⟨u1,u2⟩ | exact ⟨p1,p2⟩ | exact ⟨q1,q2⟩) (first | (go_at_call 108;rw [HW.out];refine (HS.out.2.1 _ (by exact H5.out.sm ⟨rfl,rfl,rfl,rfl⟩)).mono ?_;rintro r w6 ⟨rfl,k6⟩;have H6:=Lh k6;clear k6;obtain ⟨p1,p2⟩:=HC.out _ (H6.out.less (HS.out.2.2.2.1 _ _))) | (go_at_call 107;refine (HS.out.2.2.1 _ (by exact H6.out.sm ⟨rfl,rfl,rfl,rfl⟩)).mono ?_;rintro r w7 ⟨rfl,k7⟩;have H7:=Lh k7;clear k7;obtain ⟨q1,q2⟩:=HC.out _ (H7.out.less (HS.out.2.2.2.1 _ _))))
    go_wp2_with fail
    refine (HF.out _ H7.out).mono ?_
    rintro r w8 ⟨rfl,k8⟩
    have H8:=Lh k8;clear k8 H7
    go_wp2_with fail
    go_ret
    rw [HV.out]
    first
    | exact ⟨rfl,H8.out⟩
    | exact ⟨(show Ending.returned (.int .i64 (wrap64 (-v)))=.returned (.int .i64 (-v)) by rw [hw0]),H8.out⟩
  ·go_wp2_with fail
   go_ret
   exact ⟨by rw [Hgt.out k];rfl,H2.out⟩
theorem Q3j {W:World}{σ:Sg}{w:World}(hW:GW W)(h:St W σ w){b b':Nat}{e e':Int}{c c':Nat}(hb:σ b=some (.dec 0 false e (c:Int)))(hx:σ b'=some (.dec 0 false e' (c':Int)))(hne:b≠b')(hc:c<BB^21)(hc':c'<BB^21)(he:e.natAbs≤100000)(he':e'.natAbs≤100000)(hd:(e - e').natAbs≤423) :
  Calls Tryz.prog 57 #[.pointer (some ⟨b,0,none⟩),.pointer (some ⟨b',0,none⟩)] w fun r w'=>r=.returned (.int .i64 (cmpD e c e' c'))∧St W σ w':=by
 by_cases h0:c=0∨c'=0
 ·exact (Q5P h hb hx h0).mono fun r w' ⟨a,k⟩=>⟨a,k ▸ h⟩
 ·by_cases hee:e=e'
  ·subst hee
   exact Q2C h hb hx hne (by omega) (by omega)
  ·exact Q3Y hW h hb hx hne (by omega) (by omega) hc hc' hee he he' hd
theorem Qaq {W:World}{σ:Sg}{w:World}(h:St W σ w)(p:Value)(n:Bool)(u:Int) :
  Calls Tryz.prog 164 #[p,.bool n,.int .i64 u] w fun r w'=>r=.returned (.bool false)∧St W σ w':=by
 have H:=Lh h;clear h
 go_enter Tryz.func164, Tryz.ntmps164
 go_wp2_with fail
 go_ret
 exact ⟨rfl,H.out⟩
theorem QaS {W:World}{σ:Sg}{w:World}(h:St W σ w)(p:Value)(n:Bool)(u:Int) :
  Calls Tryz.prog 170 #[p,.bool n,.int .i64 u] w fun r w'=>r=.returned (.bool true)∧St W σ w':=by
 have H:=Lh h;clear h
 go_enter Tryz.func170, Tryz.ntmps170
 go_wp2_with fail
 go_ret
 exact ⟨rfl,H.out⟩
theorem Q8d {W:World}{σ:Sg}{w:World}(h:St W σ w)(p:Value)(n:Bool)(u:Int) :
  Calls Tryz.prog 165 #[p,.bool n,.int .i64 u] w fun r w'=>r=.returned (.bool (decide (0≤u)))∧St W σ w':=by
 have H:=Lh h;clear h
 go_enter Tryz.func165, Tryz.ntmps165
 go_wp2_with fail
 go_ret
 exact ⟨rfl,H.out⟩
theorem Q5R {W:World}{σ:Sg}{w:World}(h:St W σ w)(p:Value)(n:Bool)(u:Int) :
  Calls Tryz.prog 169 #[p,.bool n,.int .i64 u] w fun r w'=>r=.returned (.bool (decide (0<u)))∧St W σ w':=by
 have H:=Lh h;clear h
 go_enter Tryz.func169, Tryz.ntmps169
 go_wp2_with fail
 go_ret
 exact ⟨rfl,H.out⟩
theorem Q9B {W:World}{σ:Sg}{w:World}(h:St W σ w)(p:Value)(n:Bool)(u:Int) :
  Calls Tryz.prog 168 #[p,.bool n,.int .i64 u] w fun r w'=>r=.returned (.bool n)∧St W σ w':=by
 have H:=Lh h;clear h
 go_enter Tryz.func168, Tryz.ntmps168
 go_wp2_with fail
 go_ret
 exact ⟨rfl,H.out⟩
theorem Q7j {W:World}{σ:Sg}{w:World}(h:St W σ w)(p:Value)(n:Bool)(u:Int) :
  Calls Tryz.prog 167 #[p,.bool n,.int .i64 u] w fun r w'=>r=.returned (.bool (!n))∧St W σ w':=by
 have H:=Lh h;clear h
 go_enter Tryz.func167, Tryz.ntmps167
 go_wp2_with fail
 go_ret
 exact ⟨rfl,H.out⟩
theorem Q5S {W:World}{σ:Sg}{w:World}(h:St W σ w){bq oq q:Nat}(hq:Num σ bq oq (q:Int))(n:Bool)(u:Int) :
  Calls Tryz.prog 166 #[.pointer (some ⟨bq,oq,none⟩),.bool n,.int .i64 u] w fun r w'=>r=.returned (.bool (decide (0<u) || (decide (u=0) && decide (q % 2=1))))∧St W σ w':=by
 have HB:=Lh (Q9v (Q9u h hq))
 have H:=Lh h;clear h hq
 have hm:q % 2<2:=Nat.mod_lt _ (by omega)
 generalize q % 2=m at HB hm ⊢
 rcases Int.lt_trichotomy u 0 with hu | hu | hu
 ·go_enter Tryz.func166, Tryz.ntmps166
  go_wp2_with fail
  go_ret
  refine ⟨?_,H.out⟩
  simp;omega
 ·subst hu
  go_enter Tryz.func166, Tryz.ntmps166
  go_wp2_with fail
  refine HB.out.mono ?_
  rintro r w1 ⟨rfl,hw⟩
  subst hw
  clear HB
  go_wp2_with fail
  go_ret
  refine ⟨?_,H.out⟩
  rcases (show m=0∨m=1 by omega) with rfl | rfl <;> simp
 ·go_enter Tryz.func166, Tryz.ntmps166
  go_wp2_with fail
  go_ret
  refine ⟨?_,H.out⟩
  simp;omega
theorem Qar {W:World}{σ:Sg}{w:World}(hW:GW W)(h:St W σ w){bq oq q:Nat}(hq:Num σ bq oq (q:Int))(hl:q<BB^100)(n:Bool)(u:Int) :
  Calls Tryz.prog 171 #[.pointer (some ⟨bq,oq,none⟩),.bool n,.int .i64 u] w fun r w'=>r=.returned (.bool (decide (q % 5=0)))∧St W σ w':=by
 have hn:=h.none_new
 have H0:=Lh (h.alloc_big 78)
 obtain ⟨t,ht⟩:∃ t,t=w.heap.size:=⟨_,rfl⟩
 rw [← ht] at H0 hn
 have hne:t≠bq:=by rintro rfl;exact hq.ne_none hn
 have HR:Hid (∀ (v:Int) (d:Nat) w1 b,d≠0→d<100→b≠t→b≠bq→St W (upd (upd σ t (.big v)) b (.big (d:Int))) w1→(upd σ t (.big v)) b=none→Calls Tryz.prog 193 #[.pointer (some ⟨t,0,none⟩),.pointer (some ⟨bq,oq,none⟩),.pointer (some ⟨b,0,none⟩)] w1 fun r w2=>r=.returned (.pointer (some ⟨t,0,none⟩))∧St W (upd σ t (.big ((q % d:Nat):Int))) w2):=fun v d w1 b d0 d1 hbt hbq k1 hb=>by
  refine Qam ((Q5Q hW k1.drew (vz:=v) (x:=q) (y:=d) (Num.big (by rw [Qc _ _ hbt.symm,Qa])) ((hq.upd_ne hne.symm).upd_ne hbq.symm) hne (Num.big (Qa _ _ _)) hbt.symm d0 hl (by unfold BB;omega)).mono ?_)
  rintro r w2 ⟨rfl,k2⟩
  refine ⟨rfl,k2.less ?_⟩
  intro k ob hk
  by_cases e:k=t
  ·subst e
   rw [Qa] at hk
   rw [Q03 (u:=v) (by rw [Qc _ _ hbt.symm,Qa])]
   exact hk
  ·rw [Qc _ _ e] at hk
   rw [Qm _ _ e]
   have e2:k≠b:=by
    rintro rfl
    rw [Qc _ _ e] at hb;rw [hb] at hk;cases hk
   rw [Qc _ _ e2,Qc _ _ e];exact hk
 have HN:Hid (∀ (v:Int) b,(upd σ t (.big v)) b=none→b≠t∧b≠bq):=fun v b hb=>by
  have e1:b≠t:=by rintro rfl;rw [Qa] at hb;cases hb
  refine ⟨e1,?_⟩
  rintro rfl
  rw [Qc _ _ e1] at hb;exact hq.ne_none hb
 have HE:Hid (∀ v:Int,Ext σ (upd σ t (.big v))):=fun v=>Ext.new hn _
 clear h hq hl
 go_enter Tryz.func171, Tryz.ntmps171
 go_wp2_with fail
 rw [← ht]
 refine (Q7f H0.out).mono ?_
 rintro r w1 ⟨b,rfl,hb,k1⟩
 have H1:=Lh (HR.out 0 5 w1 b (by omega) (by omega) (HN.out _ _ hb).1 (HN.out _ _ hb).2 k1 hb)
 clear k1 hb H0 ht
 go_wp2_with fail
 refine H1.out.mono ?_
 rintro r w2 ⟨rfl,k2⟩
 have H2:=Lh k2
 have HS:=Lh (Q1z (Q1y k2 (Num.big (Qa _ _ _))))
 clear k2 H1
 go_wp2_with fail
 refine HS.out.mono ?_
 rintro r w3 ⟨rfl,hw⟩
 subst hw
 clear HS
 by_cases h5:q % 5=0
 ·rw [h5]
  rw [show signI ((0:Nat):Int)=0 by rfl]
  go_wp2_with fail
  go_ret
  exact ⟨by rw [decide_eq_true h5];rfl,H2.out.less (HE.out _)⟩
 ·have hs:signI ((q % 5:Nat):Int)=1:=by unfold signI;rw [if_neg (by omega),if_neg (by omega)]
  rw [hs]
  go_wp2_with fail
  refine (Q26 H2.out).mono ?_
  rintro r w4 ⟨b,rfl,hb,k4⟩
  have H4:=Lh (HR.out _ 10 w4 b (by omega) (by omega) (HN.out _ _ hb).1 (HN.out _ _ hb).2 k4 hb)
  clear k4 hb H2
  go_wp2_with fail
  refine H4.out.mono ?_
  rintro r w5 ⟨rfl,k5⟩
  have H5:=Lh k5
  have HS:=Lh (Q1z (Q1y k5 (Num.big (Qa _ _ _))))
  clear k5 H4
  have hs2:signI ((q % 10:Nat):Int)=1:=by unfold signI;rw [if_neg (by omega),if_neg (by omega)]
  rw [hs2] at HS
  go_wp2_with fail
  refine HS.out.mono ?_
  rintro r w6 ⟨rfl,hw⟩
  subst hw
  clear HS
  go_wp2_with fail
  go_ret
  exact ⟨by simp [h5],H5.out.less (HE.out _)⟩
def rndS (m:Nat):ByteArray :=
 match m with
 | 0=>⟨#[100,111,119,110]⟩
 | 1=>⟨#[104,97,108,102,95,117,112]⟩
 | 2=>⟨#[104,97,108,102,95,101,118,101,110]⟩
 | 3=>⟨#[99,101,105,108,105,110,103]⟩
 | 4=>⟨#[102,108,111,111,114]⟩
 | 5=>⟨#[104,97,108,102,95,100,111,119,110]⟩
 | 6=>⟨#[117,112]⟩
 | 7=>⟨#[48,53,117,112]⟩
 | _=>⟨#[]⟩
theorem Q0c {W:World}{σ:Sg}{w:World}(hW:GW W)(h:St W σ w){bq oq q:Nat}(hq:Num σ bq oq (q:Int))(hl:q<BB^100)(m:Nat)(hm:m<8)(n:Bool)(u:Int) :
  Calls Tryz.prog 124 #[.string (rndS m),.pointer (some ⟨bq,oq,none⟩),.bool n,.int .i64 u] w fun r w'=>r=.returned (.bool (upR m n q u))∧St W σ w':=by
 match m,hm with
 | 0,_ =>
  have HA:Hid (Calls Tryz.prog 164 #[.pointer (some ⟨bq,oq,none⟩),.bool n,.int .i64 u] w fun r w'=>r=.returned (.bool (upR 0 n q u))∧St W σ w'):=Lh (Qaq h _ n u)
  generalize upR 0 n q u=v at HA ⊢
  clear h hq hl hW
  rw [show rndS 0=⟨#[100,111,119,110]⟩ from rfl]
  go_enter Tryz.func124, Tryz.ntmps124
  go_wp2_with fail
  refine HA.out.mono ?_
  rintro r w1 ⟨rfl,k⟩
  have H1:=Lh k
  clear k HA
  go_wp2_with fail
  go_ret
  exact ⟨rfl,H1.out⟩
 | 1,_ =>
  have HA:Hid (Calls Tryz.prog 165 #[.pointer (some ⟨bq,oq,none⟩),.bool n,.int .i64 u] w fun r w'=>r=.returned (.bool (upR 1 n q u))∧St W σ w'):=Lh (Q8d h _ n u)
  generalize upR 1 n q u=v at HA ⊢
  clear h hq hl hW
  rw [show rndS 1=⟨#[104,97,108,102,95,117,112]⟩ from rfl]
  go_enter Tryz.func124, Tryz.ntmps124
  go_wp2_with fail
  refine HA.out.mono ?_
  rintro r w1 ⟨rfl,k⟩
  have H1:=Lh k
  clear k HA
  go_wp2_with fail
  go_ret
  exact ⟨rfl,H1.out⟩
 | 2,_ =>
  have HA:Hid (Calls Tryz.prog 166 #[.pointer (some ⟨bq,oq,none⟩),.bool n,.int .i64 u] w fun r w'=>r=.returned (.bool (upR 2 n q u))∧St W σ w'):=Lh (Q5S h hq n u)
  generalize upR 2 n q u=v at HA ⊢
  clear h hq hl hW
  rw [show rndS 2=⟨#[104,97,108,102,95,101,118,101,110]⟩ from rfl]
  go_enter Tryz.func124, Tryz.ntmps124
  go_wp2_with fail
  refine HA.out.mono ?_
  rintro r w1 ⟨rfl,k⟩
  have H1:=Lh k
  clear k HA
  go_wp2_with fail
  go_ret
  exact ⟨rfl,H1.out⟩
 | 3,_ =>
  have HA:Hid (Calls Tryz.prog 167 #[.pointer (some ⟨bq,oq,none⟩),.bool n,.int .i64 u] w fun r w'=>r=.returned (.bool (upR 3 n q u))∧St W σ w'):=Lh (Q7j h _ n u)
  generalize upR 3 n q u=v at HA ⊢
  clear h hq hl hW
  rw [show rndS 3=⟨#[99,101,105,108,105,110,103]⟩ from rfl]
  go_enter Tryz.func124, Tryz.ntmps124
  go_wp2_with fail
  refine HA.out.mono ?_
  rintro r w1 ⟨rfl,k⟩
  have H1:=Lh k
  clear k HA
  go_wp2_with fail
  go_ret
  exact ⟨rfl,H1.out⟩
 | 4,_ =>
  have HA:Hid (Calls Tryz.prog 168 #[.pointer (some ⟨bq,oq,none⟩),.bool n,.int .i64 u] w fun r w'=>r=.returned (.bool (upR 4 n q u))∧St W σ w'):=Lh (Q9B h _ n u)
  generalize upR 4 n q u=v at HA ⊢
  clear h hq hl hW
  rw [show rndS 4=⟨#[102,108,111,111,114]⟩ from rfl]
  go_enter Tryz.func124, Tryz.ntmps124
  go_wp2_with fail
  refine HA.out.mono ?_
  rintro r w1 ⟨rfl,k⟩
  have H1:=Lh k
  clear k HA
  go_wp2_with fail
  go_ret
  exact ⟨rfl,H1.out⟩
 | 5,_ =>
  have HA:Hid (Calls Tryz.prog 169 #[.pointer (some ⟨bq,oq,none⟩),.bool n,.int .i64 u] w fun r w'=>r=.returned (.bool (upR 5 n q u))∧St W σ w'):=Lh (Q5R h _ n u)
  generalize upR 5 n q u=v at HA ⊢
  clear h hq hl hW
  rw [show rndS 5=⟨#[104,97,108,102,95,100,111,119,110]⟩ from rfl]
  go_enter Tryz.func124, Tryz.ntmps124
  go_wp2_with fail
  refine HA.out.mono ?_
  rintro r w1 ⟨rfl,k⟩
  have H1:=Lh k
  clear k HA
  go_wp2_with fail
  go_ret
  exact ⟨rfl,H1.out⟩
 | 6,_ =>
  have HA:Hid (Calls Tryz.prog 170 #[.pointer (some ⟨bq,oq,none⟩),.bool n,.int .i64 u] w fun r w'=>r=.returned (.bool (upR 6 n q u))∧St W σ w'):=Lh (QaS h _ n u)
  generalize upR 6 n q u=v at HA ⊢
  clear h hq hl hW
  rw [show rndS 6=⟨#[117,112]⟩ from rfl]
  go_enter Tryz.func124, Tryz.ntmps124
  go_wp2_with fail
  refine HA.out.mono ?_
  rintro r w1 ⟨rfl,k⟩
  have H1:=Lh k
  clear k HA
  go_wp2_with fail
  go_ret
  exact ⟨rfl,H1.out⟩
 | 7,_ =>
  have HA:Hid (Calls Tryz.prog 171 #[.pointer (some ⟨bq,oq,none⟩),.bool n,.int .i64 u] w fun r w'=>r=.returned (.bool (upR 7 n q u))∧St W σ w'):=Lh (Qar hW h hq hl n u)
  generalize upR 7 n q u=v at HA ⊢
  clear h hq hl hW
  rw [show rndS 7=⟨#[48,53,117,112]⟩ from rfl]
  go_enter Tryz.func124, Tryz.ntmps124
  go_wp2_with fail
  refine HA.out.mono ?_
  rintro r w1 ⟨rfl,k⟩
  have H1:=Lh k
  clear k HA
  go_wp2_with fail
  go_ret
  exact ⟨rfl,H1.out⟩
theorem Q7l (σ:Sg)(b:Nat)(u v:Int):setN (setN σ b u) b v=setN σ b v:=funext fun k=>by
 by_cases e:k=b
 ·subst e
  cases h:σ k with
  | none=>simp [setN,h]
  | some o=>cases o <;> simp [setN,h]
 ·rw [Qm _ _ e,Qm _ _ e,Qm _ _ e]
theorem Q1i {c n:Nat}(h:c<BB^n)(hn:n≤100):c<BB^100:=Nat.lt_of_lt_of_le h (Nat.pow_le_pow_right (by unfold BB;decide) hn)
theorem b39 {c n:Nat}(h:c<BB^n)(hn:n≤39):c<BB^39:=Nat.lt_of_lt_of_le h (Nat.pow_le_pow_right (by unfold BB;decide) hn)
theorem Q2G {W:World}{σ:Sg}{w:World}(hW:GW W)(h:St W σ w){bq oq q:Nat}(hq:Num σ bq oq (q:Int)){bd d:Nat}{T:TypeId}(hd:σ bd=some (.raw (.cells #[.int .i64 (d:Int)] T)))(lq:q+1<BB^21)(hdl:d<2^62) :
  Calls Tryz.prog 179 #[.pointer (some ⟨bq,oq,none⟩),.pointer (some ⟨bd,0,none⟩)] w fun r w'=>r=.returned (.tuple #[])∧St W (upd (setN σ bq ((if ndg q<ndg (q+1) then (q+1) / 10 else q+1:Nat):Int)) bd (.raw (.cells #[.int .i64 ((if ndg q<ndg (q+1) then d+1 else d:Nat):Int)] T))) w':=by
 have H0:=Lh h
 have HS:=Lh (Q1z (Q1y h hq))
 have hs:(0:Int)≤signI (q:Int):=by unfold signI;split;omega;rw [if_neg (by omega)];omega
 generalize signI (q:Int)=s at HS hs
 have hns:¬ (s<0):=by omega
 have HD:=Lh (QV hW h hq (by omega))
 have hqd:bd≠bq:=by
  rintro rfl
  rcases hq with ⟨e,_⟩ | ⟨_,_,_,e,_⟩ <;> rw [hd] at e <;> cases e
 have HO:Hid (∀ w1 b1,σ b1=none→St W (upd σ b1 (.big 1)) w1→Calls Tryz.prog 125 #[.pointer (some ⟨bq,oq,none⟩),.pointer (some ⟨bq,oq,none⟩),.pointer (some ⟨b1,0,none⟩)] w1 fun r w'=>r=.returned (.pointer (some ⟨bq,oq,none⟩))∧St W (setN σ bq ((q+1:Nat):Int)) w'):=fun w1 b1 hb k1=>by
  have e1:bq≠b1:=by rintro rfl;exact hq.ne_none hb
  refine Q5M ((Q3Z hW k1.drew (x:=q) (y:=1) (hq.upd_ne e1) (Num.big (Qa _ _ _)) e1 (Q1i (n:=21) (by omega) (by decide)) (Q1i (n:=21) (by unfold BB;decide) (by decide))).mono ?_)
  rintro r w' ⟨rfl,k2⟩
  rw [QO _ _ _ e1] at k2
  exact ⟨rfl,k2.less (Ext.new (by rw [Qm _ _ e1.symm];exact hb) _)⟩
 have HD2:Hid (∀ w1,St W (setN σ bq ((q+1:Nat):Int)) w1→Calls Tryz.prog 119 #[.pointer (some ⟨bq,oq,none⟩)] w1 fun r w'=>r=.returned (.int .i64 (ndg (q+1):Int))∧St W (setN σ bq ((q+1:Nat):Int)) w'):=fun w1 k1=>QV hW k1 (hq.set _) lq
 have HQ:Hid (∀ w1 b1,(setN σ bq ((q+1:Nat):Int)) b1=none→St W (upd (setN σ bq ((q+1:Nat):Int)) b1 (.big 10)) w1→Calls Tryz.prog 129 #[.pointer (some ⟨bq,oq,none⟩),.pointer (some ⟨bq,oq,none⟩),.pointer (some ⟨b1,0,none⟩)] w1 fun r w'=>r=.returned (.pointer (some ⟨bq,oq,none⟩))∧(w'.cell? ⟨bd,0,none⟩=some (.int .i64 (d:Int))∧w'.frozen? ⟨bd,0,none⟩=false)∧St W (upd (setN σ bq (((q+1) / 10:Nat):Int)) bd (.raw (.cells #[.int .i64 ((d+1:Nat):Int)] T))) (w'.setCell ⟨bd,0,none⟩ (.int .i64 ((d+1:Nat):Int)))):=fun w1 b1 hb k1=>by
  have hq':=hq.set ((q+1:Nat):Int)
  have e1:bq≠b1:=by rintro rfl;exact hq'.ne_none hb
  refine Qal ((Q7k hW k1.drew (x:=q+1) (y:=10) (hq'.upd_ne e1) (Num.big (Qa _ _ _)) e1 (by decide) (Q1i lq (by decide)) (b39 (n:=1) (by unfold BB;decide) (by decide))).mono ?_)
  rintro r w' ⟨rfl,k2⟩
  rw [QO _ _ _ e1,Q7l] at k2
  have k3:=k2.less (Ext.new (by rw [Qm _ _ e1.symm] at hb ⊢;exact hb) _)
  have hd':(setN σ bq (((q+1) / 10:Nat):Int)) bd=some (.raw (.cells #[.int .i64 (d:Int)] T)):=by rw [Qm _ _ hqd];exact hd
  have hr:=k3.raw hd'
  refine ⟨rfl,⟨?_,?_⟩,k3.setRaw hd' 0 _⟩
  ·unfold World.cell?;rw [hr];rfl
  ·exact (Row.of_block hr).free _
 generalize ndg q=nd at HD ⊢
 generalize ndg (q+1)=nd2 at HD2 ⊢
 generalize hq1:(if nd<nd2 then (q+1) / 10 else q+1)=q1
 generalize hd1:(if nd<nd2 then d+1 else d)=d1
 replace hq1:=Lh hq1;replace hd1:=Lh hd1
 have hw:wrap64 ((d:Int)+1)=((d+1:Nat):Int):=by unfold wrap64;omega
 have HF:Hid (∀ w1,St W (setN σ bq ((q+1:Nat):Int)) w1→St W (upd (setN σ bq ((q+1:Nat):Int)) bd (.raw (.cells #[.int .i64 (d:Int)] T))) w1):=fun w1 k1=>k1.mono fun b ob hb=>by
  by_cases e:b=bd
  ·subst e;rw [Qa] at hb;rw [Qm _ _ hqd];rw [← hb];exact hd
  ·rw [Qc _ _ e] at hb;exact hb
 clear h hq hd lq
 go_enter Tryz.func179, Tryz.ntmps179
 go_wp2_with fail
 refine HS.out.mono ?_
 rintro r w1 ⟨rfl,hw1⟩
 subst hw1
 clear HS
 go_wp2_with fail
 refine HD.out.mono ?_
 rintro r w2 ⟨rfl,k2⟩
 have H2:=Lh k2;clear k2 HD H0
 go_wp2_with fail
 refine (Q3g H2.out).mono ?_
 rintro r w3 ⟨b1,rfl,hb1,k3⟩
 have H3:=Lh (HO.out _ _ hb1 k3);clear k3 hb1 H2 HO
 go_wp2_with fail
 refine H3.out.mono ?_
 rintro r w4 ⟨rfl,k4⟩
 have H4:=Lh (HD2.out _ k4);clear k4 H3 HD2
 go_wp2_with fail
 refine H4.out.mono ?_
 rintro r w5 ⟨rfl,k5⟩
 have H5:=Lh k5;clear k5 H4
 by_cases hc:nd<nd2
 ·go_wp2_with fail
  refine (Q26 H5.out).mono ?_
  rintro r w6 ⟨b2,rfl,hb2,k6⟩
  have H6:=Lh (HQ.out _ _ hb2 k6);clear k6 hb2 H5 HQ
  go_wp2_with fail
  refine H6.out.mono ?_
  rintro r w7 ⟨rfl,⟨c7,f7⟩,k7⟩
  have H7:=Lh k7;clear k7 H6
  go_wp2_with fail
  go_returns
  exact ⟨rfl,by rw [← hq1.out,← hd1.out,if_pos hc,if_pos hc];exact H7.out⟩
 ·go_wp2_with fail
  go_returns
  exact ⟨rfl,by rw [← hq1.out,← hd1.out,if_neg hc,if_neg hc];exact HF.out _ H5.out⟩
theorem Q8e {W:World}{σ:Sg}{w:World}(hW:GW W)(h:St W σ w){b bi bf:Nat}{n ni nf:Bool}{ei ef ci cf:Int}{k c:Nat}(hb:σ b=some (.dec 0 n (-(k:Int)) (c:Int)))(hi:σ bi=some (.dec 0 ni ei ci))(hf:σ bf=some (.dec 0 nf ef cf))(n1:b≠bi)(n2:b≠bf)(n3:bi≠bf)(hc:c<BB^21)(hk:k≤423)(hlt:ndg c<k) :
  Calls Tryz.prog 134 #[.pointer (some ⟨b,0,none⟩),.pointer (some ⟨bi,0,none⟩),.pointer (some ⟨bf,0,none⟩)] w fun r w'=>r=.returned (.tuple #[])∧St W (upd (upd σ bi (.dec 0 n 0 0)) bf (.dec 0 n (-(k:Int)) (c:Int))) w':=by
 obtain ⟨_,c1,c2,_,_,_⟩:=h.dec hb
 have HD:=Lh (Qo hW h hb hc)
 have HS:Hid (∀ w1,St W (upd σ bi (.dec 0 n 0 ci)) w1→Calls Tryz.prog 141 #[.pointer (some ⟨bi,3,none⟩),.int .i64 0] w1 fun r w'=>r=.returned (.pointer (some ⟨bi,3,none⟩))∧St W (upd σ bi (.dec 0 n 0 0)) w'):=fun w1 k1 =>
  Q0m ((Q0l k1 (Num.dec (Qa _ _ _)) (v:=0) (by decide)).mono (by rintro r w' ⟨rfl,k2⟩;exact ⟨rfl,k2.decN⟩))
 have HT:Hid (∀ w1,St W (upd σ bi (.dec 0 n 0 0)) w1→Calls Tryz.prog 87 #[.pointer (some ⟨bf,0,none⟩),.pointer (some ⟨b,0,none⟩)] w1 fun r w'=>r=.returned (.pointer (some ⟨bf,0,none⟩))∧St W (upd (upd σ bi (.dec 0 n 0 0)) bf (.dec 0 n (-(k:Int)) (c:Int))) w'):=fun w1 k1 =>
  Q1Q k1 (by rw [Qc _ _ n3.symm];exact hf) (by rw [Qc _ _ n1];exact hb) n2.symm (by rw [Int.natAbs_natCast];exact Q1i hc (by decide))
 have HI:Hid (∀ w1,St W σ w1→w1.cell? ⟨b,2,none⟩=some (.int .i32 (-(k:Int)))∧(∃ v,w1.cell? ⟨bi,1,none⟩=some v)∧w1.frozen? ⟨bi,1,none⟩=false∧w1.frozen? ⟨bi,2,none⟩=false∧w1.cell? ⟨bi,1,none⟩=some (.bool ni)∧w1.cell? ⟨bi,2,none⟩=some (.int .i32 ei)∧St W (upd σ bi (.dec 0 n 0 ci)) ((w1.setCell ⟨bi,1,none⟩ (.bool n)).setCell ⟨bi,2,none⟩ (.int .i32 0))):=fun w1 k1=>by
  obtain ⟨_,d1,d2,_,g1,g2⟩:=k1.dec hi
  exact ⟨(k1.dec hb).2.2.1,⟨_,d1⟩,g1,g2,d1,d2,((k1.setNeg hi n).setExp (Qa _ _ _) 0).upd2⟩
 generalize ndg c=nd at HD hlt
 have hw1:wrap64 (-(-(k:Int)))=(k:Int):=by unfold wrap64;omega
 have hle:¬ (0<(-(k:Int))):=by omega
 clear h hb hi hf hc
 go_enter Tryz.func134, Tryz.ntmps134
 go_wp2_with fail
 refine HD.out.mono ?_
 rintro r w1 ⟨rfl,k1⟩
 obtain ⟨d2,⟨v,dv⟩,g1,g2,e1,e2,H1⟩:=HI.out _ k1
 replace H1:=Lh H1
 clear k1 HD HI dv
 go_wp2_with fail
 refine (HS.out _ H1.out).mono ?_
 rintro r w2 ⟨rfl,k2⟩
 have H2:=Lh k2;clear k2 H1 HS
 go_wp2_with fail
 refine (HT.out _ H2.out).mono ?_
 rintro r w3 ⟨rfl,k3⟩
 have H3:=Lh k3;clear k3 H2 HT
 go_wp2_with fail
 go_returns
 exact ⟨rfl,H3.out⟩
theorem Q7m {W:World}{σ:Sg}{w:World}(hW:GW W)(h:St W σ w){b bi bf:Nat}{n ni nf:Bool}{ei ef ci cf:Int}{k c:Nat}(hb:σ b=some (.dec 0 n (-(k:Int)) (c:Int)))(hi:σ bi=some (.dec 0 ni ei ci))(hf:σ bf=some (.dec 0 nf ef cf))(n1:b≠bi)(n2:b≠bf)(n3:bi≠bf)(hc:c<BB^21)(hk:k≤423)(hge:k≤ndg c) :
  Calls Tryz.prog 134 #[.pointer (some ⟨b,0,none⟩),.pointer (some ⟨bi,0,none⟩),.pointer (some ⟨bf,0,none⟩)] w fun r w'=>r=.returned (.tuple #[])∧St W (upd (upd σ bi (.dec 0 n 0 ((c / 10^k:Nat):Int))) bf (.dec 0 n (-(k:Int)) ((c % 10^k:Nat):Int))) w':=by
 obtain ⟨_,c1,c2,_,_,_⟩:=h.dec hb
 have HD:=Lh (Qo hW h hb hc)
 have hT:=Q2s hk
 have hT0:10^k≠0:=Nat.pos_iff_ne_zero.1 (Nat.pow_pos (by decide))
 have HE:Hid (∀ w1,St W σ w1→∃ t,t=w1.heap.size∧σ t=none∧Calls Tryz.prog 108 #[.int .i64 (k:Int),.pointer (some ⟨t,0,none⟩)] (w1.alloc (.cells #[.bool false,.slice none 0 0] 78)) fun r w'=>r=.returned (.pointer (some ⟨t,0,none⟩))∧St W (upd σ t (.big ((10^k:Nat):Int))) w'):=fun w1 k1=>by
  refine ⟨_,rfl,k1.none_new,(QY hW (k1.alloc_big 78) (Num.big (Qa _ _ _)) k hk).mono ?_⟩
  rintro r w' ⟨rfl,k2⟩
  exact ⟨rfl,k2.big_new⟩
 have HI:Hid (∀ w1 t T,σ t=none→St W (upd σ t (.big T)) w1→t≠bi∧t≠b∧t≠bf∧w1.cell? ⟨b,2,none⟩=some (.int .i32 (-(k:Int)))∧w1.frozen? ⟨bi,1,none⟩=false∧w1.frozen? ⟨bi,2,none⟩=false∧w1.cell? ⟨bi,1,none⟩=some (.bool ni)∧w1.cell? ⟨bi,2,none⟩=some (.int .i32 ei)∧St W (upd (upd σ t (.big T)) bi (.dec 0 n 0 ci)) ((w1.setCell ⟨bi,2,none⟩ (.int .i32 0)).setCell ⟨bi,1,none⟩ (.bool n))):=fun w1 t T ht k1=>by
  have e1:t≠bi:=by rintro rfl;rw [hi] at ht;cases ht
  have e2:t≠b:=by rintro rfl;rw [hb] at ht;cases ht
  have e3:t≠bf:=by rintro rfl;rw [hf] at ht;cases ht
  have hi':(upd σ t (.big T)) bi=some (.dec 0 ni ei ci):=by rw [Qc _ _ e1.symm];exact hi
  have hb':(upd σ t (.big T)) b=some (.dec 0 n (-(k:Int)) (c:Int)):=by rw [Qc _ _ e2.symm];exact hb
  obtain ⟨_,d1,d2,_,g1,g2⟩:=k1.dec hi'
  exact ⟨e1,e2,e3,(k1.dec hb').2.2.1,g1,g2,d1,d2,((k1.setExp hi' 0).setNeg (Qa _ _ _) n).upd2⟩
 have HQ:Hid (∀ w1 t,t≠bi→t≠b→t≠bf→St W (upd (upd σ t (.big ((10^k:Nat):Int))) bi (.dec 0 n 0 ci)) w1→Calls Tryz.prog 121 #[.pointer (some ⟨bi,3,none⟩),.pointer (some ⟨b,3,none⟩),.pointer (some ⟨t,0,none⟩),.pointer (some ⟨bf,3,none⟩)] w1 fun r w'=>r=.returned (.tuple #[.pointer (some ⟨bi,3,none⟩),.pointer (some ⟨bf,3,none⟩)])∧w'.cell? ⟨b,2,none⟩=some (.int .i32 (-(k:Int)))∧(w'.cell? ⟨bf,1,none⟩=some (.bool nf)∧w'.frozen? ⟨bf,1,none⟩=false)∧(w'.cell? ⟨bf,2,none⟩=some (.int .i32 ef)∧w'.frozen? ⟨bf,2,none⟩=false)∧St W (upd (upd (upd σ t (.big ((10^k:Nat):Int))) bi (.dec 0 n 0 ((c / 10^k:Nat):Int))) bf (.dec 0 n (-(k:Int)) ((c % 10^k:Nat):Int))) ((w'.setCell ⟨bf,2,none⟩ (.int .i32 (-(k:Int)))).setCell ⟨bf,1,none⟩ (.bool n))):=fun w1 t e1 e2 e3 k1=>by
  have hb':(upd (upd σ t (.big ((10^k:Nat):Int))) bi (.dec 0 n 0 ci)) b=some (.dec 0 n (-(k:Int)) (c:Int)):=by rw [Qc _ _ n1,Qc _ _ e2.symm];exact hb
  have hf':(upd (upd σ t (.big ((10^k:Nat):Int))) bi (.dec 0 n 0 ci)) bf=some (.dec 0 nf ef cf):=by rw [Qc _ _ n3.symm,Qc _ _ e3.symm];exact hf
  refine Q2p ((Q1G hW k1.drew (Num.dec (Qa _ _ _)) (Num.dec hf') (Num.dec hb') n3 n1.symm n2.symm (Num.big (v:=((10^k:Nat):Int)) (by rw [Qc _ _ e1,Qa])) e1.symm e3.symm hT0 (Q1i hc (by decide)) (b39 hT (by decide))).mono ?_)
  rintro r w' ⟨rfl,k2⟩
  rw [Q1R] at k2
  have hf2:(upd (upd σ t (.big ((10^k:Nat):Int))) bi (.dec 0 n 0 ((c / 10^k:Nat):Int))) bf=some (.dec 0 nf ef cf):=by rw [Qc _ _ n3.symm,Qc _ _ e3.symm];exact hf
  have k3:St W (upd (upd (upd σ t (.big ((10^k:Nat):Int))) bi (.dec 0 n 0 ((c / 10^k:Nat):Int))) bf (.dec 0 nf ef ((c % 10^k:Nat):Int))) w':=k2.ext fun i=>by
   by_cases e:i=bf
   ·subst e;rw [Qa,Q08 hf2]
   ·rw [Qc _ _ e,Qm _ _ e]
  obtain ⟨_,d1,d2,_,g1,g2⟩:=k3.dec (Qa _ _ _)
  refine ⟨rfl,(k3.dec (b:=b) (by rw [Qc _ _ n2,Qc _ _ n1,Qc _ _ e2.symm];exact hb)).2.2.1,⟨d1,g1⟩,⟨d2,g2⟩,((k3.setExp (Qa _ _ _) (-(k:Int))).setNeg (by exact Qa _ _ _) n).upd2.ext fun i=>by rw [Q0W]⟩
 have HX:Hid (∀ w' t,σ t=none→t≠bi→t≠bf→St W (upd (upd (upd σ t (.big ((10^k:Nat):Int))) bi (.dec 0 n 0 ((c / 10^k:Nat):Int))) bf (.dec 0 n (-(k:Int)) ((c % 10^k:Nat):Int))) w'→St W (upd (upd σ bi (.dec 0 n 0 ((c / 10^k:Nat):Int))) bf (.dec 0 n (-(k:Int)) ((c % 10^k:Nat):Int))) w'):=fun w' t ht _ _ k1 =>
  k1.less (((Ext.new ht _).upd bi _).upd bf _)
 have HC:Hid (∀ w1,St W σ w1→w1.cell? ⟨b,2,none⟩=some (.int .i32 (-(k:Int)))):=fun w1 k1=>(k1.dec hb).2.2.1
 generalize hC:c / 10^k=C at HQ HX ⊢
 generalize hR:c % 10^k=R at HQ HX ⊢
 generalize 10^k=T at hC hR HE HQ HX
 clear hC hR hT hT0
 generalize ndg c=nd at HD hge
 have hw1:wrap64 (-(-(k:Int)))=(k:Int):=by unfold wrap64;omega
 have hle:¬ (0<(-(k:Int))):=by omega
 clear h hb hi hf hc
 go_enter Tryz.func134, Tryz.ntmps134
 go_wp2_with fail
 refine HD.out.mono ?_
 rintro r w1 ⟨rfl,k1⟩
 obtain ⟨t,ht,hn,H1⟩:=HE.out _ k1
 replace H1:=Lh H1
 have d2:=HC.out _ k1
 clear k1 HD HE HC
 go_wp2_with fail
 rw [← ht]
 clear ht
 refine H1.out.mono ?_
 rintro r w2 ⟨rfl,k2⟩
 obtain ⟨e1,e2,e3,p1,p2,p3,p4,p5,H2⟩:=HI.out _ t _ hn k2
 replace H2:=Lh H2
 clear k2 H1 HI
 go_wp2_with fail
 go_still_tail 8,(by kernel_rfl)
 go_wp2_with fail
 refine (HQ.out _ t e1 e2 e3 (by exact H2.out.sm ⟨rfl,rfl,rfl,rfl⟩)).mono ?_
 rintro r w3 ⟨rfl,v1,⟨v2,v3⟩,⟨v4,v5⟩,k3⟩
 have H3:=Lh (HX.out _ t hn e1 e3 k3);clear k3 H2 HQ
 go_wp2_with fail
 go_returns
 exact ⟨rfl,H3.out⟩
theorem Q8f {W:World}{σ:Sg}{w:World}(hW:GW W)(h:St W σ w){b bi bf:Nat}{n ni nf:Bool}{ei ef ci cf:Int}{k c:Nat}(hb:σ b=some (.dec 0 n (-(k:Int)) (c:Int)))(hi:σ bi=some (.dec 0 ni ei ci))(hf:σ bf=some (.dec 0 nf ef cf))(n1:b≠bi)(n2:b≠bf)(n3:bi≠bf)(hc:c<BB^21)(hk:k≤423) :
  Calls Tryz.prog 134 #[.pointer (some ⟨b,0,none⟩),.pointer (some ⟨bi,0,none⟩),.pointer (some ⟨bf,0,none⟩)] w fun r w'=>r=.returned (.tuple #[])∧St W (upd (upd σ bi (.dec 0 n 0 ((c / 10^k:Nat):Int))) bf (.dec 0 n (-(k:Int)) ((c % 10^k:Nat):Int))) w':=by
 by_cases hlt:ndg c<k
 ·obtain ⟨e1,e2⟩:=Q1g (by omega:ndg c≤k)
  rw [e1,e2]
  exact Q8e hW h hb hi hf n1 n2 n3 hc hk hlt
 ·exact Q7m hW h hb hi hf n1 n2 n3 hc hk (by omega)
end Go.Proofs.YtpfjmeadikdddaaGreatDoor
