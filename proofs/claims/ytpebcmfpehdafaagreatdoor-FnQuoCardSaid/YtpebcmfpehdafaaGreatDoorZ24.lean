/- a part of the proof -/
import Derived.Test.YtpebcmfpehdafaaGreatDoorZ18
set_option linter.all false
set_option maxRecDepth 100000
set_option maxHeartbeats 16000000
namespace Go.Proofs.YtpebcmfpehdafaaGreatDoor
open Go Go.RowKit
theorem Q57 (c:Nat):(txS c).size=ndg c:=by
 show (txB c).toArray.size=ndg c
 rw [List.size_toArray,Q0Y]
theorem Q6p (c i:Nat)(h:i<(txB c).length):((txB c)[i]).toNat=48+c / 10^(ndg c - 1 - i) % 10:=by
 have h2:(txB c)[i]=UInt8.ofNat (48+c / 10^(ndg c - 1 - i) % 10):=by simp [txB]
 have:c / 10^(ndg c - 1 - i) % 10<10:=Nat.mod_lt _ (by decide)
 rw [h2,UInt8.toNat_ofNat_of_lt' (by simp [UInt8.size];omega)]
theorem Q9A {c:Nat}(h:c≠0):sdL (txS c) 0=dgs c:=by
 have e:sdL (txS c) 0=((txB c).reverse).map fun x=>x.toNat - 48:=by
  unfold sdL;rw [List.drop_zero];rfl
 rw [e]
 have hl:=Q0Y c
 refine List.ext_getElem (by rw [List.length_map,List.length_reverse,hl,Qw c h]) (fun i h1 h2=>?_)
 rw [List.length_map,List.length_reverse,hl] at h1
 rw [List.getElem_map,List.getElem_reverse,Q2D,Q6p,hl,show ndg c - 1 - (ndg c - 1 - i)=i by omega]
 omega
theorem Q8B:txS 0=⟨#[48]⟩:=by unfold txS txB;rw [Qj (by decide)];rfl
theorem Q9B (c:Nat):vl (sdL (txS c) 0)=c:=by
 by_cases h:c=0
 ·subst h;rw [Q8B];decide
 ·rw [Q9A h,Q46]
theorem Q7l (c:Nat):Canon (txS c):=by
 have hs:=Q57 c
 have hl:=Q0Y c
 have hp:=Qi c
 have hg:∀ k (hk:k<(txS c).size),(txS c)[k].toNat=48+c / 10^(ndg c - 1 - k) % 10:=fun k hk=>Q6p c k (by omega)
 refine ⟨fun k hk=>?_,by omega,fun h1=>?_⟩
 ·rw [hg k hk]
  have:=Nat.mod_lt (c / 10^(ndg c - 1 - k)) (show 10 > 0 by decide)
  omega
 ·rw [hg 0 (by omega),Nat.sub_zero]
  have h0:0<c:=by
   rcases Nat.eq_zero_or_pos c with e | e
   ·exfalso;subst e;rw [Qj (by decide)] at hs;omega
   ·exact e
  have h2:=Q0y h0
  have h3:=Q0m c
  obtain ⟨j,hj⟩:∃ j,ndg c=j+1:=⟨ndg c - 1,by omega⟩
  rw [hj,Nat.add_sub_cancel] at h2 ⊢
  rw [hj,Nat.pow_succ] at h3
  have h4:1≤c / 10^j:=(Nat.le_div_iff_mul_le (QE j)).2 (by omega)
  have h5:c / 10^j<10:=(Nat.div_lt_iff_lt_mul (QE j)).2 (by omega)
  omega
def stripN:Nat→Nat→Nat × Nat
 | 0,c=>(c,0)
 | s+1,c=>if c≠0∧c % 10=0 then ((stripN s (c / 10)).1,(stripN s (c / 10)).2+1) else (c,0)
theorem Qaw:∀ (s c:Nat),c=(stripN s c).1*10^(stripN s c).2∧(stripN s c).2≤s:=by
 intro s
 induction s with
 | zero=>intro c;exact ⟨by show c=c*10^0;rw [Nat.pow_zero,Nat.mul_one],Nat.le_refl _⟩
 | succ s ih =>
  intro c
  unfold stripN
  by_cases h:c≠0∧c % 10=0
  ·rw [if_pos h]
   obtain ⟨a,b⟩:=ih (c / 10)
   refine ⟨?_,by show _+1≤_;omega⟩
   show c=(stripN s (c / 10)).1*10^((stripN s (c / 10)).2+1)
   rw [Nat.pow_succ,← Nat.mul_assoc,← a];omega
  ·rw [if_neg h]
   exact ⟨by show c=c*10^0;rw [Nat.pow_zero,Nat.mul_one],Nat.zero_le _⟩
def qsS (p cx cy:Nat):Nat:=p+2+ndg cy - ndg cx
def quoS (p:Nat)(ex ey:Int)(cx cy:Nat):Int × Nat :=
 if cx*10^qsS p cx cy % cy≠0 then (ex - ey - (qsS p cx cy:Nat) - 1,cx*10^qsS p cx cy / cy*10+1)
 else (ex - ey - (qsS p cx cy:Nat)+((stripN (qsS p cx cy) (cx*10^qsS p cx cy / cy)).2:Nat),(stripN (qsS p cx cy) (cx*10^qsS p cx cy / cy)).1)
theorem Qb0 {s c:Nat}(h:c≠0∧c % 10=0):stripN (s+1) c=((stripN s (c / 10)).1,(stripN s (c / 10)).2+1):=by rw [stripN,if_pos h]
theorem QaJ {s c:Nat}(h:s=0∨¬ (c≠0∧c % 10=0)):stripN s c=(c,0):=by
 cases s with
 | zero=>rfl
 | succ s=>rw [stripN,if_neg (by omega)]
def SR_ (s Q j x:Nat):Prop:=j≤s∧Q=x*10^j∧stripN s Q=((stripN (s - j) x).1,(stripN (s - j) x).2+j)
theorem Qb8 (s Q:Nat):SR_ s Q 0 Q:=⟨Nat.zero_le _,by rw [Nat.pow_zero,Nat.mul_one],rfl⟩
theorem QbF {s Q j x:Nat}(h:SR_ s Q j x)(hj:j<s)(hx:x≠0)(h10:x % 10=0):SR_ s Q (j+1) (x / 10):=by
 obtain ⟨a,b,c⟩:=h
 refine ⟨hj,?_,?_⟩
 ·rw [b,Nat.pow_succ,Nat.mul_comm (10^j) 10,← Nat.mul_assoc,show x / 10*10=x by omega]
 ·rw [c,show s - j=(s - (j+1))+1 by omega,Qb0 ⟨hx,h10⟩]
  show (_,_+1+j)=(_,_+(j+1))
  rw [Nat.add_right_comm,Nat.add_assoc]
theorem QaQ {s Q j x:Nat}(h:SR_ s Q j x)(hj:j=s∨¬ (x≠0∧x % 10=0)):stripN s Q=(x,j):=by
 obtain ⟨a,b,c⟩:=h
 rw [c,QaJ (by omega),Nat.zero_add]
end Go.Proofs.YtpebcmfpehdafaaGreatDoor
