/- a part of the proof -/
import Derived.Test.YtpebcmfpehdafaaGreatDoorZ0
set_option linter.all false
set_option maxRecDepth 100000
set_option maxHeartbeats 16000000
namespace Go.Proofs.YtpebcmfpehdafaaGreatDoor
open Go Go.RowKit
def ndg (n:Nat):Nat:=if n<10 then 1 else ndg (n / 10)+1
termination_by n
theorem Qj {n:Nat}(h:n<10):ndg n=1:=by rw [ndg,if_pos h]
theorem QT {n:Nat}(h:10≤n):ndg n=ndg (n / 10)+1:=by rw [ndg,if_neg (by omega)]
theorem Qi (n:Nat):0<ndg n:=by rw [ndg];split <;> omega
theorem Q0m (n:Nat):n<10^ndg n:=by
 induction n using Nat.strongRecOn with
 | ind n ih =>
  by_cases h:n<10
  ·rw [Qj h];omega
  ·have:=ih (n / 10) (by omega)
   rw [QT (by omega),Nat.pow_succ];omega
theorem Q0y {n:Nat}(h0:0<n):10^(ndg n - 1)≤n:=by
 induction n using Nat.strongRecOn with
 | ind n ih =>
  by_cases h:n<10
  ·rw [Qj h];simp;omega
  ·have:=ih (n / 10) (by omega) (by omega)
   have hp:=Qi (n / 10)
   rw [QT (by omega),Nat.add_sub_cancel]
   have e:ndg (n / 10)=ndg (n / 10) - 1+1:=by omega
   rw [e,Nat.pow_succ];omega
theorem QE (k:Nat):0<10^k:=Nat.pow_pos (by omega)
theorem QI {a b:Nat}(h:a≤b):10^a≤10^b:=Nat.pow_le_pow_right (by omega) h
theorem Qbl {a b:Nat}(h:a<b):10^a<10^b:=Nat.pow_lt_pow_right (by omega) h
theorem Q1R {a b:Nat}(h:10^a<10^b):a<b:=by
 rcases Nat.lt_or_ge a b with h1 | h1
 ·exact h1
 ·have:=QI h1;omega
theorem Q5n {n k:Nat}(h1:n<10^(k+1))(h2:10^k≤n):ndg n=k+1:=by
 have h0:0<n:=by have:=QE k;omega
 have a:=Q0m n
 have b:=Q0y h0
 have c:10^k<10^ndg n:=by omega
 have d:10^(ndg n - 1)<10^(k+1):=by omega
 have:=Q1R c
 have:=Q1R d
 have:=Qi n
 omega
theorem Q09 {n k:Nat}(h0:0<k)(h:n<10^k):ndg n≤k:=by
 rcases Nat.eq_zero_or_pos n with e | e
 ·subst e;rw [Qj (by omega)];omega
 ·have:=Q1R (Nat.lt_of_le_of_lt (Q0y e) h);omega
theorem Q45 {n k:Nat}(h:k<ndg n):ndg (n / 10^k)=ndg n - k:=by
 rcases Nat.eq_zero_or_pos n with e | e
 ·subst e
  have h1:=Qj (n:=0) (by omega)
  obtain rfl:k=0:=by omega
  simp [h1]
 ·obtain ⟨m,hm⟩:∃ m,ndg n=m+1+k:=⟨ndg n - k - 1,by omega⟩
  rw [hm,show m+1+k - k=m+1 by omega]
  have a:=Q0m n
  have b:=Q0y e
  rw [hm] at a b
  apply Q5n
  ·rw [Nat.div_lt_iff_lt_mul (QE k),← Nat.pow_add];exact a
  ·rw [Nat.le_div_iff_mul_le (QE k),← Nat.pow_add]
   rw [show m+1+k - 1=m+k by omega] at b;exact b
theorem Q2j {n k:Nat}(h:ndg n≤k):n / 10^k=0∧n % 10^k=n:=by
 have:n<10^k:=Nat.lt_of_lt_of_le (Q0m n) (QI h)
 exact ⟨Nat.div_eq_of_lt this,Nat.mod_eq_of_lt this⟩
def cmpN (a b:Nat):Int:=if a<b then -1 else if b<a then 1 else 0
def upR (m:Nat)(neg:Bool)(q:Nat)(half:Int):Bool :=
 match m with
 | 1=>decide (0≤half)
 | 2=>decide (0<half) || (decide (half=0) && decide (q % 2=1))
 | 3=>!neg
 | 4=>neg
 | 5=>decide (0<half)
 | 6=>true
 | 7=>decide (q % 5=0)
 | _=>false
def rdiv (m:Nat)(neg:Bool)(n k:Nat):Nat :=
 if n % 10^k=0 then n / 10^k else if upR m neg (n / 10^k) (cmpN (2*(n % 10^k)) (10^k)) then n / 10^k+1 else n / 10^k
theorem Q2C (m:Nat)(neg:Bool)(n k:Nat):n / 10^k≤rdiv m neg n k∧rdiv m neg n k≤n / 10^k+1:=by
 unfold rdiv;split
 ·omega
 ·split <;> omega
structure DR where
 f:Int
 n:Bool
 e:Int
 c:Nat
 k:Nat
def orN (a b:Nat):Nat:=a ||| b
def dgs (n:Nat):List Nat:=if n=0 then [] else n % 10 :: dgs (n / 10)
termination_by n
theorem Qp:dgs 0=[]:=by rw [dgs,if_pos rfl]
theorem Q0a {n:Nat}(h:n≠0):dgs n=n % 10 :: dgs (n / 10):=by rw [dgs,if_neg h]
def vl:List Nat→Nat
 | []=>0
 | d :: l=>d+10*vl l
theorem Q46 (n:Nat):vl (dgs n)=n:=by
 induction n using Nat.strongRecOn with
 | ind n ih =>
  by_cases h:n=0
  ·subst h;rw [Qp];rfl
  ·rw [Q0a h];unfold vl;rw [ih (n / 10) (by omega)];omega
theorem Q5o (n:Nat):∀ d ∈ dgs n,d<10:=by
 induction n using Nat.strongRecOn with
 | ind n ih =>
  by_cases h:n=0
  ·subst h;rw [Qp];intro d hd;cases hd
  ·rw [Q0a h];intro d hd
   rcases List.mem_cons.1 hd with e | e
   ·omega
   ·exact ih (n / 10) (by omega) d e
theorem Qw (n:Nat)(h:n≠0):(dgs n).length=ndg n:=by
 induction n using Nat.strongRecOn with
 | ind n ih =>
  rw [Q0a h,List.length_cons]
  by_cases h10:n<10
  ·have:n / 10=0:=by omega
   rw [this,Qp,Qj h10];rfl
  ·rw [ih (n / 10) (by omega) (by omega),← QT (n:=n) (by omega)]
theorem Q94 {n:Nat}:dgs n=[] ↔ n=0:=by
 constructor
 ·intro h
  by_cases e:n=0
  ·exact e
  ·rw [Q0a e] at h;cases h
 ·rintro rfl;exact Qp
theorem Q2U {n:Nat}:(dgs n).length=0 ↔ n=0:=by rw [List.length_eq_zero_iff,Q94]
theorem Q2D (n i:Nat)(h:i<(dgs n).length):(dgs n)[i]=n / 10^i % 10:=by
 induction i generalizing n with
 | zero =>
  have hn:n≠0:=by rintro rfl;rw [Qp] at h;cases h
  simp only [Q0a hn];simp
 | succ i ih =>
  have hn:n≠0:=by rintro rfl;rw [Qp] at h;cases h
  have h2:i<(dgs (n / 10)).length:=by rw [Q0a hn] at h;simpa using h
  have:=ih (n / 10) h2
  simp only [Q0a hn,List.getElem_cons_succ]
  rw [this,Nat.pow_succ,Nat.mul_comm,Nat.div_div_eq_div_mul]
theorem Q24 (l:List Nat)(m:List Nat):vl (l ++ m)=vl l+10^l.length*vl m:=by
 induction l with
 | nil=>simp [vl]
 | cons d l ih =>
  simp only [List.cons_append,vl,ih,List.length_cons,Nat.pow_succ]
  rw [Nat.mul_add,← Nat.mul_assoc,Nat.mul_comm 10 (10^l.length)];omega
theorem Q65 (l:List Nat)(h:∀ d ∈ l,d<10):vl l<10^l.length:=by
 induction l with
 | nil=>simp [vl]
 | cons d l ih =>
  have h1:=ih (fun x hx=>h x (List.mem_cons_of_mem _ hx))
  have h2:=h d List.mem_cons_self
  simp only [vl,List.length_cons,Nat.pow_succ];omega
theorem Q7M (l:List Nat)(h:∀ d ∈ l,d<10)(hl:∀ (h0:l≠[]),l.getLast h0≠0):dgs (vl l)=l:=by
 induction l with
 | nil=>exact Qp
 | cons d l ih =>
  have hd:=h d List.mem_cons_self
  have h1:vl l≠0∨l=[]:=by
   by_cases e:l=[]
   ·exact .inr e
   ·left
    have hne:=hl (by simp)
    rw [List.getLast_cons e] at hne
    obtain ⟨m,x,hx⟩:∃ m x,l=m ++ [x]:=⟨l.dropLast,l.getLast e,(List.dropLast_concat_getLast e).symm⟩
    subst hx
    rw [List.getLast_concat] at hne
    rw [Q24]
    simp only [vl]
    have:=QE m.length
    intro e2
    have h3:10^m.length*(x+10*0)=0:=by omega
    rcases Nat.mul_eq_zero.1 h3 with h4 | h4 <;> omega
  have h2:vl (d :: l)≠0:=by
   rcases h1 with h1 | h1
   ·simp only [vl];omega
   ·subst h1
    have:=hl (by simp)
    simp only [List.getLast_singleton] at this
    simp only [vl];omega
  have e:vl (d :: l)=d+10*vl l:=rfl
  rw [Q0a h2]
  have q1:vl (d :: l) % 10=d:=by rw [e];omega
  have q2:vl (d :: l) / 10=vl l:=by rw [e];omega
  rw [q1,q2]
  congr 1
  exact ih (fun x hx=>h x (List.mem_cons_of_mem _ hx)) (fun h0=>by have:=hl (by simp);rwa [List.getLast_cons h0] at this)
theorem Q7N (l:List Nat):vl (l ++ [0])=vl l:=by rw [Q24];simp [vl]
theorem Q0F (l:List Nat)(d:Nat):vl (l ++ [d])=vl l+10^l.length*d:=by rw [Q24];simp [vl]
theorem QR {m n:Nat}(h:m≤n):(dgs m).length≤(dgs n).length:=by
 by_cases e:m=0
 ·subst e;rw [Qp];simp
 ·rw [Qw m e,Qw n (by omega)]
  exact Q09 (Qi n) (Nat.lt_of_le_of_lt h (Q0m n))
theorem QM (n:Nat):n<10^(dgs n).length:=by
 have:=Q65 (dgs n) (Q5o n);rwa [Q46] at this
end Go.Proofs.YtpebcmfpehdafaaGreatDoor
