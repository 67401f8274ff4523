/- a part of the proof -/
import Derived.Test.YtpfjmeadikdddaaGreatDoorZ21
import Derived.Test.YtpfjmeadikdddaaGreatDoorZ48
set_option linter.all false
set_option maxRecDepth 100000
set_option maxHeartbeats 16000000
namespace Go.Proofs.YtpfjmeadikdddaaGreatDoor
open Go Go.RowKit
theorem QaU {W:World}{σ:Sg}{w:World}(h:St W σ w){b:Nat}{f:Int}{n:Bool}{e c:Int}(hb:σ b=some (.dec f n e c))(hf:0≤f∧f<4) :
  Calls Tryz.prog 99 #[.pointer (some ⟨b,0,none⟩)] w fun r w'=>r=.returned (.int .i64 (ordI f n))∧w'=w:=by
 obtain ⟨c0,c1,_,_,_,_⟩:=h.dec hb
 rcases (show f=0∨f=1∨f=2∨f=3 by omega) with rfl | rfl | rfl | rfl <;> cases n
 all_goals
  clear h hb
  go_enter Tryz.func99, Tryz.ntmps99
  go_wp2_with fail
  go_ret
  exact ⟨rfl,rfl⟩
def totP (f:Int)(n:Bool)(e:Int)(c:Nat)(f':Int)(n':Bool)(e':Int)(c':Nat):Int :=
 if ordI f n<ordI f' n' then -1 else if ordI f' n'<ordI f n then 1
 else if f=0 then (if cmpS f n e c f' n' e' c'=0 then (if e<e' then (if n then 1 else -1) else if e'<e then (if n then -1 else 1) else 0) else cmpS f n e c f' n' e' c')
 else 0
theorem QaV {W:World}{σ:Sg}{w:World}(hW:GW W)(h:St W σ w){b b':Nat}{f f':Int}{n n':Bool}{e e':Int}{c c':Nat}(hb:σ b=some (.dec f n e (c:Int)))(hx:σ b'=some (.dec f' n' e' (c':Int)))(hne:b≠b')(hf:0≤f∧f<4)(hf':0≤f'∧f'<4)(h0:f≠0→c=0)(h0':f'≠0→c'=0)(hc:c<BB^21)(hc':c'<BB^21)(he:e.natAbs≤200)(he':e'.natAbs≤200) :
  Calls Tryz.prog 48 #[.pointer (some ⟨b,0,none⟩),.pointer (some ⟨b',0,none⟩)] w fun r w'=>r=.returned (.int .i64 (totP f n e c f' n' e' c'))∧St W σ w':=by
 have HA:=Lh (QaU h hb hf)
 have HB:=Lh (QaU h hx hf')
 have H:=Lh h
 obtain ⟨d0,d1,d2,_,_,_⟩:=h.dec hb
 obtain ⟨x0,x1,x2,_,_,_⟩:=h.dec hx
 unfold totP
 have hq:=fun q=>QaW (f:=f) (f':=f') (n:=n) (n':=n') hf.1 hf'.1 q
 generalize hA:ordI f n=A at HA hq ⊢
 generalize hB:ordI f' n'=B at HB hq ⊢
 clear hA hB
 by_cases h1:A<B
 ·rw [if_pos h1]
  clear h hb hx hf hf' h0 h0' hc hc' he he' hq
  go_enter Tryz.func48, Tryz.ntmps48
  go_wp2_with fail
  refine HA.out.mono ?_
  rintro r w_ ⟨rfl,hw_⟩
  subst hw_
  go_wp2_with fail
  refine HB.out.mono ?_
  rintro r w_ ⟨rfl,hw_⟩
  subst hw_
  go_wp2_with fail
  go_ret
  exact ⟨rfl,H.out⟩
 ·rw [if_neg h1]
  by_cases h2:B<A
  ·rw [if_pos h2]
   clear h hb hx hf hf' h0 h0' hc hc' he he' hq
   go_enter Tryz.func48, Tryz.ntmps48
   go_wp2_with fail
   refine HA.out.mono ?_
   rintro r w_ ⟨rfl,hw_⟩
   subst hw_
   go_wp2_with fail
   refine HB.out.mono ?_
   rintro r w_ ⟨rfl,hw_⟩
   subst hw_
   go_wp2_with fail
   go_ret
   exact ⟨rfl,H.out⟩
  ·rw [if_neg h2]
   obtain ⟨rfl,rfl⟩:=hq (by omega)
   obtain rfl:A=B:=by omega
   by_cases h3:f=0
   ·subst h3
    rw [if_pos rfl]
    have HC:=Lh (Q5d hW h hb hx hne (.inl rfl) (.inl rfl) hc hc' (by omega) (by omega) (by omega))
    have HD:Hid (∀ w1,St W σ w1→w1.cell? ⟨b,1,none⟩=some (.bool n)∧w1.cell? ⟨b,2,none⟩=some (.int .i32 e)∧w1.cell? ⟨b',2,none⟩=some (.int .i32 e')):=Lh (fun w1 q=>⟨(q.dec hb).2.1,(q.dec hb).2.2.1,(q.dec hx).2.2.1⟩)
    generalize cmpS 0 n e c 0 n e' c'=v at HC ⊢
    clear h hb hx hf hf' h0 h0' hc hc' he he' hq h1 h2
    by_cases hv:v=0
    ·rw [if_pos hv]
     subst hv
     have htri:e<e'∨e'<e∨e=e':=by omega
     rcases htri with t1 | t1 | t1
     ·rw [if_pos t1]
      cases n
      all_goals
       go_enter Tryz.func48, Tryz.ntmps48
       go_wp2_with fail
       refine HA.out.mono ?_
       rintro r w_ ⟨rfl,hw_⟩
       subst hw_
       go_wp2_with fail
       refine HB.out.mono ?_
       rintro r w_ ⟨rfl,hw_⟩
       subst hw_
       go_wp2_with fail
       refine HC.out.mono ?_
       rintro r w1 ⟨rfl,q1⟩
       obtain ⟨d1,d2,x2⟩:=HD.out _ q1
       have H1:=Lh q1;clear q1
       go_wp2_with fail
       go_quiet (fail)
       go_wp2_with fail
       go_ret
       exact ⟨rfl,H1.out.drewN _⟩
     ·rw [if_neg (by omega),if_pos t1]
      have t2:¬ (e<e'):=by omega
      cases n
      all_goals
       go_enter Tryz.func48, Tryz.ntmps48
       go_wp2_with fail
       refine HA.out.mono ?_
       rintro r w_ ⟨rfl,hw_⟩
       subst hw_
       go_wp2_with fail
       refine HB.out.mono ?_
       rintro r w_ ⟨rfl,hw_⟩
       subst hw_
       go_wp2_with fail
       refine HC.out.mono ?_
       rintro r w1 ⟨rfl,q1⟩
       obtain ⟨d1,d2,x2⟩:=HD.out _ q1
       have H1:=Lh q1;clear q1
       go_wp2_with fail
       go_quiet (fail)
       go_wp2_with fail
       go_quiet (fail)
       go_wp2_with fail
       go_ret
       exact ⟨rfl,by exact H1.out.sm ⟨rfl,rfl,rfl,rfl⟩⟩
     ·rw [if_neg (by omega),if_neg (by omega)]
      subst t1
      cases n
      all_goals
       go_enter Tryz.func48, Tryz.ntmps48
       go_wp2_with fail
       refine HA.out.mono ?_
       rintro r w_ ⟨rfl,hw_⟩
       subst hw_
       go_wp2_with fail
       refine HB.out.mono ?_
       rintro r w_ ⟨rfl,hw_⟩
       subst hw_
       go_wp2_with fail
       refine HC.out.mono ?_
       rintro r w1 ⟨rfl,q1⟩
       obtain ⟨d1,d2,x2⟩:=HD.out _ q1
       have H1:=Lh q1;clear q1
       go_wp2_with fail
       go_quiet (fail)
       go_wp2_with fail
       go_quiet (fail)
       go_wp2_with fail
       go_ret
       exact ⟨rfl,by exact H1.out.sm ⟨rfl,rfl,rfl,rfl⟩⟩
    ·rw [if_neg hv]
     have hv1:(v == 0)=false:=by simpa using hv
     have hv2:(v != 0)=true:=by simpa using hv
     go_enter Tryz.func48, Tryz.ntmps48
     go_wp2_with fail
     refine HA.out.mono ?_
     rintro r w_ ⟨rfl,hw_⟩
     subst hw_
     go_wp2_with fail
     refine HB.out.mono ?_
     rintro r w_ ⟨rfl,hw_⟩
     subst hw_
     go_wp2_with fail
     refine HC.out.mono ?_
     rintro r w1 ⟨rfl,q1⟩
     have H1:=Lh q1;clear q1
     go_wp2_with fail
     go_ret
     exact ⟨rfl,H1.out⟩
   ·rw [if_neg h3]
    have hz:=h0 h3
    have hz':=h0' h3
    subst hz;subst hz'
    have hC:=fun w1 (hw:SM w w1)=>Q2r (Q2n (h.sm hw).drew (Num.dec hb) (Num.dec hx) hne)
    rw [show cmpI 0 0=0 from Q21 rfl] at hC
    have HC:=Lh hC
    have HM:=Lh (SM.refl w)
    rcases (show f=1∨f=2∨f=3 by omega) with rfl | rfl | rfl
    ·clear h hb hx hf hf' h0 h0' hc hc' he he' hq h1 h2 h3 hC
     go_enter Tryz.func48, Tryz.ntmps48
     go_wp2_with fail
     refine HA.out.mono ?_
     rintro r w_ ⟨rfl,hw_⟩
     subst hw_
     go_wp2_with fail
     refine HB.out.mono ?_
     rintro r w_ ⟨rfl,hw_⟩
     subst hw_
     go_wp2_with fail
     go_ret
     exact ⟨rfl,H.out⟩
    all_goals
     clear h hb hx hf hf' h0 h0' hc hc' he he' hq h1 h2 h3 hC
     go_enter Tryz.func48, Tryz.ntmps48
     go_wp2_with fail
     refine HA.out.mono ?_
     rintro r w_ ⟨rfl,hw_⟩
     subst hw_
     go_wp2_with fail
     refine HB.out.mono ?_
     rintro r w_ ⟨rfl,hw_⟩
     subst hw_
     go_wp2_with fail
     go_still_tail 6,(by kernel_rfl)
     go_wp2_with fail
     refine (HC.out _ (by exact ⟨rfl,rfl,rfl,rfl⟩)).mono ?_
     rintro r w1 ⟨rfl,q,hw1⟩
     have H1:Hid (St W σ w1):=Lh (by rw [hw1];exact H.out.sm ⟨rfl,rfl,rfl,rfl⟩)
     clear hw1
     go_wp2_with fail
     go_ret
     exact ⟨rfl,H1.out⟩
end Go.Proofs.YtpfjmeadikdddaaGreatDoor
