/- a part of the proof -/
import Derived.Test.YtpfjmeadikdddaaGreatDoorZ21
import Derived.Test.YtpfjmeadikdddaaGreatDoorZ27
set_option linter.all false
set_option maxRecDepth 100000
set_option maxHeartbeats 16000000
namespace Go.Proofs.YtpfjmeadikdddaaGreatDoor
open Go Go.RowKit
def spS (f:Int)(n:Bool)(e:Int)(c:Nat)(f':Int)(n':Bool)(e':Int)(c':Nat):Int :=
 if f=1 then (if f'=1 then (if n=n' then 0 else if n then -1 else 1) else if n then -1 else 1)
 else if f'=1 then (if n' then 1 else -1)
 else cmZ (ngZ n (c*10^(e - min e e').toNat)) (c*10^(e - min e e').toNat) (ngZ n' (c'*10^(e' - min e e').toNat)) (c'*10^(e' - min e e').toNat)
theorem Q9P (a b:Nat):cmpI a b=cm a b:=rfl
theorem Q9Q (a b:Nat):cm a b = -(cm b a):=by unfold cm;(repeat' split) <;> omega
theorem Qaz {c:Nat}(k:Nat):c*10^k=0 ↔ c=0:=by
 have:=Nat.pow_pos (n:=k) (show 0<10 by decide)
 constructor
 ·intro h;rcases Nat.mul_eq_zero.1 h with h | h
  ·exact h
  ·omega
 ·rintro rfl;omega
theorem Qag (n:Bool)(c k:Nat):ngZ n (c*10^k)=ngZ n c:=by
 unfold ngZ
 rw [decide_eq_decide.2 (not_congr (Qaz k))]
theorem QaA {f:Int}{n:Bool}{e:Int}{c:Nat}{f':Int}{n':Bool}{e':Int}{c':Nat}(hf:f=0∨f=1)(hf':f'=0∨f'=1):cmpS f n e c f' n' e' c'=spS f n e c f' n' e' c':=by
 unfold cmpS spS
 rcases hf with rfl | rfl <;> rcases hf' with rfl | rfl
 ·rw [if_neg (by decide:¬ (0:Int)=1),if_neg (by decide:¬ (0:Int)=1),if_neg (by decide:¬ (0:Int)=1),if_neg (by decide:¬ (0:Int)=1),Qag,Qag]
  unfold cmpD
  rw [Q9P]
  have hA:=Qaz (c:=c) (e - min e e').toNat
  have hB:=Qaz (c:=c') (e' - min e e').toNat
  generalize c*10^(e - min e e').toNat=A at hA ⊢
  generalize c'*10^(e' - min e e').toNat=B at hB ⊢
  have hs:=Q9Q B A
  by_cases h:c=0 <;> by_cases h':c'=0
  ·obtain rfl:=hA.2 h;obtain rfl:=hB.2 h'
   cases n <;> cases n' <;> simp [decSgn,h,h',ngZ,cmZ,cm]
  ·obtain rfl:=hA.2 h
   have hb:0<B:=by have:=mt hB.1 h';omega
   cases n <;> cases n' <;> simp [decSgn,h,h',ngZ,cmZ,Q5g hb]
  ·obtain rfl:=hB.2 h'
   have ha:0<A:=by have:=mt hA.1 h;omega
   cases n <;> cases n' <;> simp [decSgn,h,h',ngZ,cmZ,Q5h ha]
  ·cases n <;> cases n' <;> simp [decSgn,h,h',ngZ,cmZ,sgI,hs]
 ·cases n <;> cases n' <;> by_cases h:c=0 <;> simp [decSgn,h]
 ·cases n <;> cases n' <;> by_cases h:c'=0 <;> simp [decSgn,h]
 ·cases n <;> cases n' <;> simp [decSgn]
end Go.Proofs.YtpfjmeadikdddaaGreatDoor
