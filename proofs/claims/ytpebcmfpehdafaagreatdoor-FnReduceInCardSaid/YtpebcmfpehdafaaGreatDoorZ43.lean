/- a part of the proof -/
import Derived.Test.YtpebcmfpehdafaaGreatDoorZ38
import Derived.Test.YtpebcmfpehdafaaGreatDoorZ42
set_option linter.all false
set_option maxRecDepth 100000
set_option maxHeartbeats 16000000
namespace Go.Proofs.YtpebcmfpehdafaaGreatDoor
open Go Go.RowKit
theorem Q7m {p:Nat}{mx mn:Int}{md:Nat}{n:Bool}{e:Int}{c:Nat}(h:(finS p mx mn md n e c).known=true)(ho:(finS p mx mn md n e c).over=false)(hk:(finS p mx mn md n e c).d.k=0):(finS p mx mn md n e c).d=⟨0,n,e,c,0⟩:=by
 have he:∀ (e':Int) (c' k':Nat),(endS mx n e' c' k').over=false→(endS mx n e' c' k').d=⟨0,n,e',c',k'⟩:=by
  intro e' c' k' h
  unfold endS at h ⊢
  by_cases a:mx<e'+ndg c' - 1
  ·rw [if_pos a] at h;cases h
  ·rw [if_neg a]
 have hc:∀ d,cutK c d≠0:=fun d=>by have:=Q6j c d;omega
 revert h ho hk
 unfold finS
 by_cases c0:c=0
 ·rw [if_pos c0]
  by_cases a:e<mn - p+1∨mx<e
  ·rw [if_pos a];intro h;cases h
  ·rw [if_neg a];intro _ _ _;rw [c0]
 ·rw [if_neg c0]
  by_cases a:e+ndg c - 1<mn
  ·rw [if_pos a]
   by_cases b:p=0
   ·rw [if_pos b];intro h;cases h
   ·rw [if_neg b]
    by_cases d:e<mn - p+1
    ·rw [if_pos d]
     split
     ·intro h;cases h
     ·intro _ _ hk
      exfalso
      revert hk
      show subK _ _=0→False
      unfold subK
      (repeat' split) <;> decide
    ·rw [if_neg d];intro _ _ hk;cases hk
  ·rw [if_neg a]
   split
   ·split
    ·intro _ ho hk
     rw [he _ _ _ ho] at hk
     exact absurd hk (hc _)
    ·intro _ ho hk
     rw [he _ _ _ ho] at hk
     exact absurd hk (hc _)
   ·intro _ ho _
    exact he _ _ _ ho
theorem Q5Q {w:World}(hW:GW w){Tv:TypeId}{av:Value}(hE:EOFv w Tv av)(p md tr:Nat)(mx mn:Int)(hp:p≤60)(hmx:0≤mx∧mx≤500)(hmn:mn≤0 ∧ -500≤mn)(hmd:md<8)(htr:tr<4294967296)(n:Bool)(e:Int)(s:ByteArray)(hs:Canon s∧s.size≤40)(he : -200≤e∧e≤200)(al:Bool)(c2 z:Nat)(e2:Int)(hr:strp (vl (sdL s 0))=(c2,z))(he2:e2=if vl (sdL s 0)=0 then 0 else e+z)
  (hk:(finS p mx mn md n e2 c2).known=true) (ho:(finS p mx mn md n e2 c2).over=false) (h0:(finS p mx mn md n e2 c2).d.k=0) :
  Calls Tryz.prog 13 #[CV p mx mn tr md,DV 0 n e s,.bool al] w fun r w'=>r=.returned (.tuple #[DV 0 n e2 (decS c2),.int .i64 (z:Int),.int .u32 0,.bool false])∧Below w.heap.size w w':=by
 have hv:=hs.1.val_lt hs.2
 have hfk:=Q7m hk ho h0
 obtain ⟨q1,_,q3,_⟩:=Q86 hk
 have hrn:=(q1 ho).trans hfk
 have hB:∀ k,9≤k→10^40<BB^k:=fun k hk=>Nat.lt_of_lt_of_le (show 10^40<BB^9 by unfold BB;decide) (Nat.pow_le_pow_right (by unfold BB;decide) hk)
 have hB8:10^40<BB^8:=by unfold BB;decide
 have hcz:c2≤vl (sdL s 0)∧z≤40:=by
  by_cases c0:vl (sdL s 0)=0
  ·rw [c0,QW (by omega)] at hr
   cases hr
   exact ⟨Nat.zero_le _,by decide⟩
  ·have h1:=Q2I c0
   rw [hr] at h1
   have h2:=Q09 (k:=40) (by decide) hv
   exact ⟨h1.1,by have:=h1.2;simp only at this;omega⟩
 refine Q9X p md tr mx mn n e s al n e2 c2 z (fun σ w1 bC bX bA bD bN bK bF h B=>Q9z hW h hE p md tr mx mn hmd htr (by omega) n e s (hs.1.digs hs.2) al B n e2 c2 z (by omega) ?_)
 rw [Q8t]
 generalize vl (sdL s 0)=c at hv hr he2 hcz
 intro τ w2 bk bz bx f n' e' c' h' hkk hb hx hcc
 have key:∀ n2,Calls Tryz.prog 67 #[.pointer (some ⟨bz,0,none⟩),.pointer (some ⟨bx,0,none⟩)] w2 (fun r w'=>r=.returned (.tuple #[.pointer (some ⟨bz,0,none⟩),.int .i64 (z:Int)])∧St w (upd τ bz (.dec 0 n2 e2 (c2:Int))) w')→Calls Tryz.prog 30 #[.pointer (some ⟨bk,0,none⟩),.pointer (some ⟨bz,0,none⟩),.pointer (some ⟨bx,0,none⟩)] w2 fun r w'=>r=.returned (.tuple #[.int .i64 (z:Int),.int .u32 0,.nilIface])∧St w (upd τ bz (.dec 0 n e2 (c2:Int))) w':=fun n2 HRd=>by
  refine (Q7j hW h' hkk (Nat.mod_lt _ (by decide)) hb hx HRd (Nat.lt_of_le_of_lt hcz.1 (Nat.lt_trans hv (hB 20 (by decide)))) (by rw [he2];split <;> omega) q3).mono ?_
  rintro r w' ⟨⟨v,rfl,hv⟩,q⟩
  rw [hrn] at hv q ⊢
  have hb0:badK 0 (tr % 4096)=false:=by unfold badK;simp
  rcases hv with ⟨hv,_⟩ | ⟨_,rfl⟩
  ·rw [show badK _ _=false from hb0] at hv;cases hv
  ·exact ⟨rfl,q⟩
 by_cases c0:c=0
 ·rw [c0,QW (by omega)] at hr
  cases hr
  rw [if_pos c0] at he2
  subst he2
  subst c0
  have hc':c'=((0:Nat):Int):=by rcases hcc with h | h <;> exact h
  rw [hc'] at hb
  exact key false (Q3g hW h' hb hx)
 ·rw [if_neg c0] at he2
  subst he2
  have e1:(strp c).1=c2:=by rw [hr]
  have e3:(strp c).2=z:=by rw [hr]
  by_cases hBB:c<BB
  ·have q:=Q3f h' hb hx c0 hBB (by omega)
   rw [e1,e3] at q
   exact key n q
  ·have q:=Q3t hW h' hb hx c0 hBB (Nat.lt_trans hv (hB 21 (by decide))) (by omega)
   rw [e1,e3] at q
   exact key n q
end Go.Proofs.YtpebcmfpehdafaaGreatDoor
