/- a part of the proof -/
import Derived.Test.YtpfjmeadikdddaaGreatDoorZ32
import Derived.Test.YtpfjmeadikdddaaGreatDoorZ41
import Derived.Test.YtpfjmeadikdddaaGreatDoorZ49
import Derived.Test.YtpfjmeadikdddaaGreatDoorZ50
set_option linter.all false
set_option maxRecDepth 100000
set_option maxHeartbeats 16000000
namespace Go.Proofs.YtpfjmeadikdddaaGreatDoor
open Go Go.RowKit
theorem Qb3 (n:Bool)(a:Nat)(m:Bool)(b:Nat):cmZ m b n a = -(cmZ n a m b):=by
 have h:=Q9Q a b
 cases n <;> cases m <;> simp [cmZ,h]
theorem Qb4 {f:Int}{n:Bool}{e:Int}{c:Nat}{f':Int}{n':Bool}{e':Int}{c':Nat}(hf:0≤f)(hf':0≤f'):totP f n e c f' n' e' c'=totS f n e c f' n' e' c':=by
 unfold totP totS
 by_cases h1:ordI f n<ordI f' n'
 ·rw [if_pos h1,if_pos h1]
 ·rw [if_neg h1,if_neg h1]
  by_cases h2:ordI f' n'<ordI f n
  ·rw [if_pos h2,if_pos h2]
  ·rw [if_neg h2,if_neg h2]
   have hoo:ordI f n=ordI f' n':=by omega
   obtain ⟨rfl,rfl⟩:=QaW hf hf' hoo
   by_cases h3:f=0
   ·subst h3
    have hs:spS 0 n e c 0 n e' c'=cmZ (ngZ n (c*10^(e - min e e').toNat)) (c*10^(e - min e e').toNat) (ngZ n (c'*10^(e' - min e e').toNat)) (c'*10^(e' - min e e').toNat):=by
     unfold spS
     rw [if_neg (show ¬ (0:Int)=1 by decide),if_neg (show ¬ (0:Int)=1 by decide)]
    rw [if_pos rfl,if_pos rfl,QaA (.inl rfl) (.inl rfl),hs]
   ·rw [if_neg h3,if_neg h3]
theorem QaZ {f:Int}{n:Bool}{e:Int}{c:Nat}{f':Int}{n':Bool}{e':Int}{c':Nat}(hf:0≤f)(hf':0≤f'):totS f' n' e' c' f n e c = -(totS f n e c f' n' e' c'):=by
 unfold totS
 by_cases h1:ordI f n<ordI f' n'
 ·rw [if_neg (by omega),if_pos h1,if_pos h1];rfl
 ·by_cases h2:ordI f' n'<ordI f n
  ·rw [if_pos h2,if_neg h1,if_pos h2]
  ·rw [if_neg h2,if_neg h1,if_neg h1,if_neg h2]
   have hoo:ordI f n=ordI f' n':=by omega
   obtain ⟨rfl,rfl⟩:=QaW hf hf' hoo
   by_cases h3:f=0
   ·rw [if_pos h3,if_pos h3,Int.min_comm e' e,Qb3 (ngZ n (c*10^(e - min e e').toNat))]
    generalize cmZ (ngZ n (c*10^(e - min e e').toNat)) (c*10^(e - min e e').toNat) (ngZ n (c'*10^(e' - min e e').toNat)) (c'*10^(e' - min e e').toNat)=V
    by_cases hv:V=0
    ·subst hv
     rw [if_pos (by rfl),if_pos rfl]
     rcases (show e<e'∨e'<e∨e=e' by omega) with t | t | t
     ·rw [if_neg (show ¬ e'<e by omega),if_pos t,if_pos t];cases n <;> rfl
     ·rw [if_pos t,if_neg (show ¬ e<e' by omega),if_pos t];cases n <;> rfl
     ·rw [if_neg (show ¬ e'<e by omega),if_neg (show ¬ e<e' by omega),if_neg (show ¬ e<e' by omega),if_neg (show ¬ e'<e by omega)];rfl
    ·rw [if_neg (by omega),if_neg hv]
   ·rw [if_neg h3,if_neg h3];rfl
theorem Qba:txS 0=⟨#[48]⟩:=by
 rw [← Q5v];unfold decS decB;rw [Qi (by decide)];decide
theorem Qb9:txS 1=⟨#[49]⟩:=by
 rw [← Q5v];unfold decS decB;rw [Qi (by decide)];decide
end Go.Proofs.YtpfjmeadikdddaaGreatDoor
