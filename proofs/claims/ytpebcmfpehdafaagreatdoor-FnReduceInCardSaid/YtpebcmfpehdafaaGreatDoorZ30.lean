/- a part of the proof -/
import Derived.Test.YtpebcmfpehdafaaGreatDoorZ25
set_option linter.all false
set_option maxRecDepth 100000
set_option maxHeartbeats 16000000
namespace Go.Proofs.YtpebcmfpehdafaaGreatDoor
open Go Go.RowKit
def strp (c:Nat):Nat × Nat :=
 if h:c≠0∧c % 10=0 then
  have:c / 10<c:=Nat.div_lt_self (Nat.pos_of_ne_zero h.1) (by decide)
  ((strp (c / 10)).1,(strp (c / 10)).2+1)
 else (c,0)
termination_by c
theorem QW {c:Nat}(h:¬ (c≠0∧c % 10=0)):strp c=(c,0):=by rw [strp,dif_neg h]
theorem Q1t {c:Nat}(h0:c≠0)(h:c % 10=0):strp c=((strp (c / 10)).1,(strp (c / 10)).2+1):=by rw [strp,dif_pos ⟨h0,h⟩]
theorem Q54 (k:Nat):∀ (q:Nat),q≠0→strp (q*10^k)=((strp q).1,(strp q).2+k):=by
 induction k with
 | zero=>intro q _;rw [Nat.pow_zero,Nat.mul_one];rfl
 | succ k ih =>
  intro q hq
  have h1:q*10^(k+1)=(q*10^k)*10:=by rw [Nat.pow_succ,Nat.mul_assoc]
  have h2:q*10^k≠0:=Nat.mul_ne_zero hq (by have:=QE k;omega)
  rw [h1,Q1t (by omega) (by omega),Nat.mul_div_cancel _ (by decide),ih q hq]
  rfl
theorem Q4q {c:Nat}(h0:c≠0):(strp c).1≠0∧(strp c).1 % 10≠0∧c=(strp c).1*10^(strp c).2:=by
 induction c using Nat.strongRecOn with
 | _ c ih =>
  by_cases h:c % 10=0
  ·obtain ⟨a,b,e⟩:=ih (c / 10) (Nat.div_lt_self (Nat.pos_of_ne_zero h0) (by decide)) (by omega)
   rw [Q1t h0 h]
   refine ⟨a,b,?_⟩
   show c=(strp (c / 10)).1*10^((strp (c / 10)).2+1)
   rw [Nat.pow_succ,← Nat.mul_assoc,← e];omega
  ·rw [QW (by omega)]
   exact ⟨h0,h,by show c=c*10^0;rw [Nat.pow_zero,Nat.mul_one]⟩
theorem Q9y {c q k:Nat}(hq:q % 10≠0)(h:c=q*10^k):strp c=(q,k):=by
 have h0:q≠0:=by rintro rfl;exact hq rfl
 rw [h,Q54 k q h0,QW (by omega),Nat.zero_add]
theorem Q2I {c:Nat}(h0:c≠0):(strp c).1≤c∧(strp c).2<ndg c:=by
 obtain ⟨a,_,e⟩:=Q4q h0
 have hp:=QE (strp c).2
 refine ⟨?_,?_⟩
 ·have:=Nat.le_mul_of_pos_right (strp c).1 hp
  omega
 ·refine Q44 ?_
  have:=Nat.le_mul_of_pos_left (10^(strp c).2) (Nat.pos_of_ne_zero a)
  omega
theorem Q3O {c:Nat}(h0:c≠0)(h:c % 10000=0):strp c=((strp (c / 10000)).1,(strp (c / 10000)).2+4):=by
 have h1:c / 10000≠0:=by omega
 have h2:=Q54 4 (c / 10000) h1
 have h3:c / 10000*10^4=c:=by
  have:(10:Nat)^4=10000:=by decide
  rw [this];omega
 rw [h3] at h2
 exact h2
theorem Q57 (c:Nat):(txS c).size=ndg c:=by
 show (txB c).toArray.size=ndg c
 rw [List.size_toArray,Q0Y]
theorem Q6p (c i:Nat)(h:i<(txB c).length):((txB c)[i]).toNat=48+c / 10^(ndg c - 1 - i) % 10:=by
 have h2:(txB c)[i]=UInt8.ofNat (48+c / 10^(ndg c - 1 - i) % 10):=by simp [txB]
 have:c / 10^(ndg c - 1 - i) % 10<10:=Nat.mod_lt _ (by decide)
 rw [h2,UInt8.toNat_ofNat_of_lt' (by simp [UInt8.size];omega)]
theorem Q9A {c:Nat}(h:c≠0):sdL (txS c) 0=dgs c:=by
 have e:sdL (txS c) 0=((txB c).reverse).map fun x=>x.toNat - 48:=by
  unfold sdL;rw [List.drop_zero];rfl
 rw [e]
 have hl:=Q0Y c
 refine List.ext_getElem (by rw [List.length_map,List.length_reverse,hl,Qw c h]) (fun i h1 h2=>?_)
 rw [List.length_map,List.length_reverse,hl] at h1
 rw [List.getElem_map,List.getElem_reverse,Q2D,Q6p,hl,show ndg c - 1 - (ndg c - 1 - i)=i by omega]
 omega
theorem Q8B:txS 0=⟨#[48]⟩:=by unfold txS txB;rw [Qj (by decide)];rfl
theorem Q9B (c:Nat):vl (sdL (txS c) 0)=c:=by
 by_cases h:c=0
 ·subst h;rw [Q8B];decide
 ·rw [Q9A h,Q46]
theorem Q7l (c:Nat):Canon (txS c):=by
 have hs:=Q57 c
 have hl:=Q0Y c
 have hp:=Qi c
 have hg:∀ k (hk:k<(txS c).size),(txS c)[k].toNat=48+c / 10^(ndg c - 1 - k) % 10:=fun k hk=>Q6p c k (by omega)
 refine ⟨fun k hk=>?_,by omega,fun h1=>?_⟩
 ·rw [hg k hk]
  have:=Nat.mod_lt (c / 10^(ndg c - 1 - k)) (show 10 > 0 by decide)
  omega
 ·rw [hg 0 (by omega),Nat.sub_zero]
  have h0:0<c:=by
   rcases Nat.eq_zero_or_pos c with e | e
   ·exfalso;subst e;rw [Qj (by decide)] at hs;omega
   ·exact e
  have h2:=Q0y h0
  have h3:=Q0m c
  obtain ⟨j,hj⟩:∃ j,ndg c=j+1:=⟨ndg c - 1,by omega⟩
  rw [hj,Nat.add_sub_cancel] at h2 ⊢
  rw [hj,Nat.pow_succ] at h3
  have h4:1≤c / 10^j:=(Nat.le_div_iff_mul_le (QE j)).2 (by omega)
  have h5:c / 10^j<10:=(Nat.div_lt_iff_lt_mul (QE j)).2 (by omega)
  omega
end Go.Proofs.YtpebcmfpehdafaaGreatDoor
