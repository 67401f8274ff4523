/- a part of the proof -/
import Derived.WalkLawsBesides
import Derived.Lib.SlBytesConst
import Derived.Laws.IdiomStrings
import Derived.Test.YtpebcmfpehdafaaGreatDoorZ15
set_option linter.all false
set_option maxRecDepth 100000
set_option maxHeartbeats 16000000
namespace Go.Proofs.YtpebcmfpehdafaaGreatDoor
open Go Go.RowKit
def dgt (x k:Nat):Nat:=48+x / 10^k % 10
structure DigR (w:World) (bs L x i:Nat):Prop where
 row:Row w bs L 5
 fill:∀ pos,i≤pos→pos<L→w.cell? ⟨bs,pos,none⟩=some (.int .u8 ((dgt x (L - 1 - pos):Nat):Int))
structure ConvR (w0:World) (bs L x:Nat) (qp:Option Addr) (i:Nat) (p:Option Addr) (len cap q:Nat) (wr:World):Prop where
 fr:Fr (fun k=>k=bs∨∃ a,qp=some a∧a.block=k) w0 wr
 dg:DigR wr bs L x i
 nt:Nt wr p len cap q
 own:p=qp∨(∃ b,p=some ⟨b,0,none⟩∧w0.heap.size≤b)∨p=none
theorem Nt.neT {w:World}{p:Option Addr}{len cap x bs L:Nat}(h:Nt w p len cap x)(k:Row w bs L 5)(a:Addr)(ha:p=some a):a.block≠bs:=by
 rcases h.cases with ⟨rfl,_⟩ | ⟨b,rfl,_,_,_,h4,_⟩
 ·cases ha
 ·cases ha
  exact Q08 h4 k (by decide)
theorem ConvR.put {w0:World}{bs L x i:Nat}{qp p:Option Addr}{len cap q:Nat}{wr:World}(h:ConvR w0 bs L x qp (i+1) p len cap q wr)(hi:i<L)(v:Int)(hv:v=((dgt x (L - 1 - i):Nat):Int)):ConvR w0 bs L x qp i p len cap q (wr.setCell ⟨bs,i,none⟩ (.int .u8 v)):=by
 obtain ⟨v0,hv0⟩:=h.dg.row.cell i hi
 refine ⟨Q0I h.fr (.inl rfl) _,⟨h.dg.row.setCell _ _,?_⟩,h.nt.congr fun a ha=>Below.heap_setCell _ _ _ _ (h.nt.neT h.dg.row a ha),h.own⟩
 intro pos h1 h2
 by_cases e:pos=i
 ·subst e
  rw [World.cell?_setCell_same _ _ _ hv0,hv]
 ·rw [World.cell?_setCell_other _ _ _ _ (by intro e2;cases e2;exact e rfl)]
  exact h.dg.fill pos (by omega) h2
theorem ConvR.div {w0:World}{bs L x i:Nat}{qp p:Option Addr}{len cap q:Nat}{wr w2:World}(h:ConvR w0 bs L x qp i p len cap q wr)(hb:bs<w0.heap.size){q':Nat}{p':Option Addr}{l' c':Nat}(hn:NatAt wr p q' p' l' c' w2):ConvR w0 bs L x qp i p' l' c' q' w2:=by
 obtain ⟨n1,n2,n3⟩:=hn
 have hs:=h.fr.size
 have hbs:¬ ∃ a,p=some a∧a.block=bs:=fun ⟨a,ha,e⟩=>h.nt.neT h.dg.row a ha e
 refine ⟨h.fr.trans' n3 ?_,⟨n3.row h.dg.row,fun pos h1 h2=>by rw [n3.cell (by omega) hbs];exact h.dg.fill pos h1 h2⟩,n1,?_⟩
 ·rintro i hi ⟨a,ha,e⟩
  rcases h.own with e1 | ⟨b,e1,e2⟩ | e1
  ·exact .inr ⟨a,by rw [← e1];exact ha,e⟩
  ·rw [e1] at ha;cases ha;simp at e;omega
  ·rw [e1] at ha;cases ha
 ·rcases n2 with e | ⟨b,e1,e2⟩ | e
  ·rw [e];exact h.own
  ·exact .inr (.inl ⟨b,e1,by omega⟩)
  ·exact .inr (.inr e)
theorem Q8f {x c j r L i:Nat}(hr:r=x / 10^(19*c) % 10^19 / 10^j)(hj:j<19)(hL:L=i+1+19*c+j):48+r % 10=dgt x (L - 1 - i)∧r / 10=x / 10^(19*c) % 10^19 / 10^(j+1):=by
 subst hr
 refine ⟨?_,by rw [Nat.div_div_eq_div_mul,← Nat.pow_succ]⟩
 unfold dgt
 congr 1
 rw [show L - 1 - i=19*c+j by omega,Nat.pow_add,← Nat.div_div_eq_div_mul]
 generalize x / 10^(19*c)=y
 have h1:y % 10^19 / 10^j=y / 10^j % 10^(19 - j):=by
  have:(10:Nat)^19=10^j*10^(19 - j):=by rw [← Nat.pow_add];congr 1;omega
  rw [this,Nat.mod_mul_right_div_self]
 rw [h1]
 have h2:(10:Nat)^(19 - j)=10*10^(18 - j):=by rw [← Nat.pow_succ'];congr 1;omega
 rw [h2,Nat.mod_mul_right_mod]
theorem Q29 (p:Option Addr)(len cap x:Nat)(stk:Value)(bs L cs:Nat)(w:World)(hx:Nt w p len cap x)(hl:len≤100)(hs:Row w bs L 5)(hL:L≤1000000)(hcs:L≤cs) :
  Calls Tryz.prog 212 #[.slice p len cap,stk,.slice (some ⟨bs,0,none⟩) L cs,.int .u64 10,.int .i64 19,.int .u64 10000000000000000000,.slice none 0 0] w fun e w'=>e=.returned (.tuple #[])∧DigR w' bs L x 0∧Fr (fun k=>k=bs∨∃ a,p=some a∧a.block=k) w w':=by
 have hb:=hs.lt
 have HNm:Hid (Nm 10000000000000000000 0):=⟨by decide,by decide,by decide,by unfold BB;decide⟩
 have HX:=Lh hx
 have H0:Hid (ConvR w bs L x p L p len cap x w):=⟨Fr.refl _ _,⟨hs,fun pos h1 h2=>by omega⟩,hx,.inl rfl⟩
 have HN:Hid (x<10^(19*x)):=Nat.lt_of_lt_of_le (Nat.lt_pow_self (by decide)) (Nat.pow_le_pow_right (by decide) (by omega))
 have HB:Hid (∀ q len' p' cap' wr,q≤x→Nt wr p' len' cap' q→len'≤100):=fun q len' p' cap' wr hq hn=>Nat.le_trans (hn.len_of_lt (Nat.lt_of_le_of_lt hq hx.lt)) hl
 obtain ⟨N,hN⟩:∃ N,N=x:=⟨_,rfl⟩
 rw [show 19*x=19*N by rw [hN]] at HN
 clear hx hs hN
 have hT:∀ w1:World,(binOp .neq 226 (.slice none 0 0) (.slice none 0 0)).run Tryz.prog w1=.ok (.bool false) w1:=fun _=>by kernel_rfl
 go_enter Tryz.func212, Tryz.ntmps212
 go_wp2_with fail
 go_loopg [0,19] N (fun gk qv iv wr=>∃ (c i len' cap' q:Nat) (p':Option Addr),c+gk=N∧qv=.slice p' len' cap'∧iv=.int .i64 (i:Int)∧i≤L∧q=x / 10^(19*c)∧(L=i+19*c∨(i=0∧L≤19*c))∧ConvR w bs L x p i p' len' cap' q wr)
 case atStart=>exact ⟨0,L,len,cap,x,p,by omega,rfl,rfl,Nat.le_refl _,by simp,.inl (by omega),H0.out⟩
 case round =>
  obtain ⟨c,i,len',cap',q,p',hc,rfl,rfl,hi,hq,hcase,hC⟩:=hrel
  obtain ⟨wo,rfl⟩:∃ wo:World,wo=wr:=⟨_,rfl⟩
  have hzi:=hC.nt.zero_iff
  have hl100:=HB.out q len' p' cap' wo (by rw [hq];exact Nat.div_le_self _ _) hC.nt
  by_cases hq0:q=0
  ·have hl0:len'=0:=hzi.2 hq0
   subst hl0
   have hx0:i=0∨x<10^(L - i):=by
    rcases hcase with h | h
    ·right
     rw [show L - i=19*c by omega]
     rw [hq0] at hq
     have:=Nat.lt_of_div_eq_zero (Nat.pow_pos (by decide)) hq.symm
     exact this
    ·exact .inl h.1
   have HCC:=Lh hC;have HX0:=Lh hx0
   clear hC hx0 hq hcase hzi hq0
   go_wp2_with fail
   go_loopw [19] (fun iv wr2=>∃ i2:Nat,iv=.int .i64 (i2:Int)∧i2≤L∧(i2=0∨x<10^(L - i2))∧ConvR w bs L x p i2 p' 0 cap' q wr2) (fun iv _=>(intOf iv).toNat)
   case atStart=>exact ⟨i,rfl,hi,HX0.out,HCC.out⟩
   case round =>
    obtain ⟨i2,rfl,hi2,hx2,hC2⟩:=hrel
    rcases Nat.eq_zero_or_pos i2 with h0 | h0
    ·subst h0
     have HE:Hid (DigR wr bs L x 0∧Fr (fun k=>k=bs∨∃ a,p=some a∧a.block=k) w wr):=⟨hC2.dg,hC2.fr⟩
     clear hC2 hx2
     go_wp2_with fail
     go_returns
     exact ⟨rfl,HE.out⟩
    ·obtain ⟨i3,rfl⟩:∃ i3,i2=i3+1:=⟨i2 - 1,by omega⟩
     obtain ⟨v0,hv0⟩:=hC2.dg.row.cell i3 (by omega)
     have hf0:=hC2.dg.row.free i3
     have HP:Hid (∀ v:Int,v=48→ConvR w bs L x p i3 p' 0 cap' q (wr.setCell ⟨bs,i3,none⟩ (.int .u8 v))):=fun v hv=>hC2.put (by omega) v (by
      rw [hv];unfold dgt
      have:x / 10^(L - 1 - i3)=0:=Nat.div_eq_of_lt (by
       rcases hx2 with h | h
       ·omega
       ·rw [show L - 1 - i3=L - (i3+1) by omega];exact h)
      rw [this];rfl)
     have HX2:Hid (i3=0∨x<10^(L - i3)):=.inr (by
      rcases hx2 with h | h
      ·omega
      ·exact Nat.lt_of_lt_of_le h (Nat.pow_le_pow_right (by decide) (by omega)))
     have hix:(i3:Int)<(L:Int):=by omega
     clear hC2 hx2
     go_wp2_with fail
     go_roundw
     case rel=>exact ⟨i3,by first | rfl | (congr 1;omega),by omega,HX2.out,HP.out _ rfl⟩
     case measure=>simp [intOf]
  ·obtain ⟨gk',rfl⟩:∃ g,gk=g+1:=by
    rcases Nat.eq_zero_or_pos gk with h | h
    ·exfalso
     apply hq0
     rw [hq,show c=N by omega]
     exact Nat.div_eq_of_lt HN.out
    ·exact ⟨gk - 1,by omega⟩
   have hl0:(0:Int)<(len':Int):=by have:=hzi.1;omega
   have HD:=Lh (Q4E p' len' cap' p' len' cap' q 10000000000000000000 0 wo hC.nt.1 hC.nt (by unfold CAP;omega) HNm.out)
   have HCC:=Lh hC;have HQ:=Lh hq;have HCs:=Lh hcase
   clear hC hq hcase hzi hq0 hl100
   go_wp2_with fail
   refine HD.out.mono ?_
   rintro e w2 ⟨p2,l2,c2,rfl,hn⟩
   have HC2:=Lh (HCC.out.div hb hn)
   clear hn HD
   generalize hq2:q / 10000000000000000000=q2 at HC2
   have HQ2:Hid (q2=x / 10^(19*(c+1))):=by
    rw [← hq2,HQ.out,show 19*(c+1)=19*c+19 by omega,Nat.pow_add,← Nat.div_div_eq_div_mul]
    exact Lh rfl
   clear hq2
   generalize hr0:q % 10000000000000000000=r0
   have HR0:Hid (r0=x / 10^(19*c) % 10^19):=by rw [← HQ.out];exact hr0.symm
   clear hr0
   go_wp2_with fail
   go_loopw [19,20,21] (fun iv rv jv wr=>∃ i2 r j:Nat,iv=.int .i64 (i2:Int)∧rv=.int .u64 (r:Int)∧jv=.int .i64 (j:Int)∧i2≤L∧j≤19∧r<BB∧r=x / 10^(19*c) % 10^19 / 10^j∧(L=i2+19*c+j∨(i2=0∧L≤19*c+j))∧ConvR w bs L x p i2 p2 l2 c2 q2 wr) (fun _ _ j _=>19 - (intOf j).toNat)
   case atStart =>
    refine ⟨i,r0,0,rfl,rfl,rfl,hi,by omega,?_,by rw [Nat.pow_zero,Nat.div_one];exact HR0.out,by have:=HCs.out;omega,HC2.out⟩
    rw [HR0.out]
    exact Nat.lt_trans (Nat.mod_lt _ (Nat.pow_pos (by decide))) (by unfold BB;decide)
   case round =>
    obtain ⟨i2,r,j,rfl,rfl,rfl,hi2,hj,hrB,hr,hcs2,hC3⟩:=hrel
    by_cases hex:j<19∧0<i2
    ·obtain ⟨i3,rfl⟩:∃ i3,i2=i3+1:=⟨i2 - 1,by omega⟩
     have hLL:L=i3+1+19*c+j:=by omega
     obtain ⟨hd1,hd2⟩:=Q8f hr hex.1 hLL
     obtain ⟨v0,hv0⟩:=hC3.dg.row.cell i3 (by omega)
     have hf0:=hC3.dg.row.free i3
     have HP:Hid (∀ v:Int,v=((48+r % 10:Nat):Int)→ConvR w bs L x p i3 p2 l2 c2 q2 (wr.setCell ⟨bs,i3,none⟩ (.int .u8 v))):=fun v hv=>hC3.put (by omega) v (by rw [hv,hd1])
     have HRr:=Lh hd2
     have hix:(i3:Int)<(L:Int):=by omega
     have hj19:(j:Int)<19:=by omega
     have hi30:(0:Int)<(i3:Int)+1:=by omega
     have hrB2:r<18446744073709551616:=hrB
     obtain ⟨t,ht⟩:∃ t,t=r / 10:=⟨_,rfl⟩
     clear hC3 hr hcs2 hd1 hd2
     go_wp2_with fail
     go_roundw
     case rel=>exact ⟨i3,r / 10,j+1,by first | rfl | (congr 1;omega),by first | rfl | (congr 1;omega),by first | rfl | (congr 1;omega),by omega,by omega,by unfold BB;omega,HRr.out,by omega,HP.out _ (by omega)⟩
     case measure=>simp [intOf];omega
    ·have HC3:=Lh hC3
     have HCs2:Hid (L=i2+19*(c+1)∨(i2=0∧L≤19*(c+1))):=by
      show L=i2+19*(c+1)∨(i2=0∧L≤19*(c+1))
      omega
     by_cases hj9:j=19
     ·subst hj9
      clear hC3 hr hcs2 hex
      go_wp2_with fail
      go_roundg gk'
      case measure=>omega
      case rel=>exact ⟨c+1,i2,l2,c2,q2,p2,by omega,rfl,rfl,hi2,HQ2.out,HCs2.out,HC3.out⟩
     ·have h0:i2=0:=by omega
      subst h0
      have hj9:(j:Int)<19:=by omega
      clear hC3 hr hcs2 hex
      go_wp2_with fail
      go_roundg gk'
      case measure=>omega
      case rel=>exact ⟨c+1,0,l2,c2,q2,p2,by omega,rfl,rfl,hi2,HQ2.out,by have:=HCs2.out;omega,HC3.out⟩
theorem Q8g (w:World):Calls Tryz.prog 305 #[.float .f64 4621819117588971520] w fun e w'=>e=.returned (.bool false)∧w'=w:=by
 go_enter Tryz.func305, Tryz.ntmps305
 go_wp2_with fail
 go_ret
 exact ⟨rfl,rfl⟩
theorem Q8h (w:World):Calls Tryz.prog 316 #[.float .f64 4621819117588971520] w fun e w'=>e=.returned (.float .f64 4621819117588971520)∧w'=w:=by
 have q0:∀ w1:World,(callFunc 307 #[.float .f64 4621819117588971520]).run Tryz.prog w1=.ok (.value (.int .u64 4621819117588971520)) w1:=fun _=>by kernel_rfl
 have q1:∀ w1:World,(callFunc 308 #[.int .u64 4621819117588971520]).run Tryz.prog w1=.ok (.value (.float .f64 4621819117588971520)) w1:=fun _=>by kernel_rfl
 have q2:bits .andNot .u64 4621819117588971520 9223372036854775808=4621819117588971520:=by kernel_rfl
 go_enter Tryz.func316, Tryz.ntmps316
 go_wp2_with fail
 go_ret
 exact ⟨rfl,rfl⟩
theorem Q5K (w:World):Calls Tryz.prog 304 #[.float .f64 4621819117588971520,.int .i64 0] w fun e w'=>e=.returned (.bool false)∧w'=w:=by
 have q0:(FloatKind.f64.format.order 4621819117588971520 9218868437227405311 == some Ordering.gt)=false:=by kernel_rfl
 have q1:(FloatKind.f64.format.order 4621819117588971520 18442240474082181119 == some Ordering.lt)=false:=by kernel_rfl
 have HA:=Lh (Q8h w)
 go_enter Tryz.func304, Tryz.ntmps304
 go_wp2_with fail
 refine HA.out.mono ?_
 rintro r w_ ⟨rfl,hw_⟩
 subst hw_
 go_wp2_with fail
 go_ret
 exact ⟨rfl,rfl⟩
theorem Q4k (w:World):Calls Tryz.prog 306 #[.float .f64 4621819117588971520] w fun e w'=>e=.returned (.tuple #[.float .f64 4621819117588971520,.int .i64 0])∧w'=w:=by
 have q0:(FloatKind.f64.format.order 4621819117588971520 4503599627370496 == some Ordering.lt)=false:=by kernel_rfl
 have HA:=Lh (Q8h w)
 go_enter Tryz.func306, Tryz.ntmps306
 go_wp2_with fail
 refine HA.out.mono ?_
 rintro r w_ ⟨rfl,hw_⟩
 subst hw_
 go_wp2_with fail
 go_ret2
 exact ⟨rfl,rfl⟩
theorem Q8i (w:World):Calls Tryz.prog 292 #[.float .f64 4621819117588971520] w fun e w'=>e=.returned (.tuple #[.float .f64 4603804719079489536,.int .i64 4])∧w'=w:=by
 have q0:∀ w1:World,(callFunc 307 #[.float .f64 4621819117588971520]).run Tryz.prog w1=.ok (.value (.int .u64 4621819117588971520)) w1:=fun _=>by kernel_rfl
 have q1:∀ w1:World,(binOp .shr 92 (.int .u64 4621819117588971520) (.int .u64 52)).run Tryz.prog w1=.ok (.int .u64 1026) w1:=fun _=>by kernel_rfl
 have q2:bits .and .u64 1026 2047=1026:=by kernel_rfl
 have q3:bits .andNot .u64 4621819117588971520 9218868437227405312=1125899906842624:=by kernel_rfl
 have q4:bits .or .u64 1125899906842624 4602678819172646912=4603804719079489536:=by kernel_rfl
 have q5:∀ w1:World,(callFunc 308 #[.int .u64 4603804719079489536]).run Tryz.prog w1=.ok (.value (.float .f64 4603804719079489536)) w1:=fun _=>by kernel_rfl
 have q6:(FloatKind.f64.format.order 4621819117588971520 0 == some Ordering.eq)=false:=by kernel_rfl
 have H1:=Lh (Q5K w)
 have H2:=Lh (Q8g w)
 have H3:=Lh (Q4k w)
 go_enter Tryz.func292, Tryz.ntmps292
 go_wp2_with fail
 refine H1.out.mono ?_
 rintro r w_ ⟨rfl,hw_⟩
 subst hw_
 go_wp2_with fail
 refine H2.out.mono ?_
 rintro r w_ ⟨rfl,hw_⟩
 subst hw_
 go_wp2_with fail
 refine H3.out.mono ?_
 rintro r w_ ⟨rfl,hw_⟩
 subst hw_
 go_wp2_with fail
 go_ret2
 exact ⟨rfl,rfl⟩
theorem Q8j (w:World):Calls Tryz.prog 275 #[.float .f64 4621819117588971520] w fun e w'=>e=.returned (.tuple #[.float .f64 4603804719079489536,.int .i64 4])∧w'=w:=by
 have H1:=Lh (Q8i w)
 go_enter Tryz.func275, Tryz.ntmps275
 go_wp2_with fail
 refine H1.out.mono ?_
 rintro r w_ ⟨rfl,hw_⟩
 subst hw_
 go_wp2_with fail
 go_ret2
 exact ⟨rfl,rfl⟩
theorem Qa3 (w:World):Calls Tryz.prog 276 #[.float .f64 4603804719079489536] w fun e w'=>e=.returned (.float .f64 13825510489450817230)∧w'=w:=by
 have q0:∀ w1:World,(callFunc 293 #[.float .f64 4603804719079489536]).run Tryz.prog w1=.ok (.value (.float .f64 13825510489450817230)) w1:=fun _=>by kernel_rfl
 go_enter Tryz.func276, Tryz.ntmps276
 go_wp2_with fail
 go_ret
 exact ⟨rfl,rfl⟩
theorem Q9n (w:World):Calls Tryz.prog 245 #[.float .f64 4621819117588971520] w fun e w'=>e=.returned (.float .f64 4614662735865160561)∧w'=w:=by
 have q0:(FloatKind.f64.format.order 4603804719079489536 4602678819172646912 == some Ordering.eq)=false:=by kernel_rfl
 have q1:∀ w1:World,(binOp .mul 158 (.float .f64 13825510489450817230) (.float .f64 4609176140021203710)).run Tryz.prog w1=.ok (.float .f64 13827654785158443579) w1:=fun _=>by kernel_rfl
 have q2:∀ w1:World,(convert 3 158 (.int .i64 (4))).run Tryz.prog w1=.ok (.float .f64 4616189618054758400) w1:=fun _=>by kernel_rfl
 have q3:∀ w1:World,(binOp .add 158 (.float .f64 13827654785158443579) (.float .f64 4616189618054758400)).run Tryz.prog w1=.ok (.float .f64 4614662735865160561) w1:=fun _=>by kernel_rfl
 have H1:=Lh (Q8j w)
 have H2:=Lh (Qa3 w)
 go_enter Tryz.func245, Tryz.ntmps245
 go_wp2_with fail
 refine H1.out.mono ?_
 rintro r w_ ⟨rfl,hw_⟩
 subst hw_
 go_wp2_with fail
 refine H2.out.mono ?_
 rintro r w_ ⟨rfl,hw_⟩
 subst hw_
 go_wp2_with fail
 go_ret
 exact ⟨rfl,rfl⟩
theorem Q9o (w:World):Calls Tryz.prog 208 #[.float .f64 4621819117588971520] w fun e w'=>e=.returned (.float .f64 4614662735865160561)∧w'=w:=by
 have H1:=Lh (Q9n w)
 go_enter Tryz.func208, Tryz.ntmps208
 go_wp2_with fail
 refine H1.out.mono ?_
 rintro r w_ ⟨rfl,hw_⟩
 subst hw_
 go_wp2_with fail
 go_ret
 exact ⟨rfl,rfl⟩
theorem Q4X (w:World):Calls Tryz.prog 210 #[.int .u64 10] w fun e w'=>e=.returned (.tuple #[.int .u64 10000000000000000000,.int .i64 19])∧w'=w:=by
 go_enter Tryz.func210, Tryz.ntmps210
 go_wp2_with fail
 refine wp_loop_rounds 19 ?_
 iterate 19 (rw [rounds_succ];go_wp2_with fail)
 go_ret2
 exact ⟨rfl,rfl⟩
theorem Q4Y (stk:Value)(m:Nat)(hm:m≤8)(u v y:Value)(w:World)(hg:w.cell? ⟨8,0,none⟩=some (.int .i64 8)) :
  Calls Tryz.prog 211 #[stk,.int .i64 (m:Int),u,v,y] w fun e w'=>e=.returned (.slice none 0 0)∧w'=w:=by
 have h8:(m:Int)≤8:=by omega
 go_enter Tryz.func211, Tryz.ntmps211
 go_wp2_with fail
 go_ret
 exact ⟨rfl,rfl⟩
theorem Q8k:(Tryz.prog.info? 5).map (fun i=>(i.zero,i.size,i.bytes))=some (some (.int .u8 0),1,1):=by kernel_rfl
def ITo (w:World)(x:Nat)(e:Ending)(w':World):Prop :=
 ∃ bs off cap,e=.returned (.slice (some ⟨bs,off,none⟩) (ndg x) cap)∧(∀ i,i<ndg x→w'.cell? ⟨bs,off+i,none⟩=some (.int .u8 ((dgt x (ndg x - 1 - i):Nat):Int)))∧Fr (fun _=>False) w w'
theorem Q7b (xp:Option Addr)(xl xc:Nat)(w:World)(hx:Nt w xp xl xc 0):Calls Tryz.prog 185 #[.slice xp xl xc,.bool false,.int .i64 10] w (ITo w 0):=by
 have hl:xl=0:=hx.zero_iff.2 rfl
 subst hl
 have HE:Hid (∀ (o:Obj) m,o=.cells #[.int .u8 48] 5 m→∀ cap,ITo w 0 (.returned (.slice (some ⟨w.heap.size,0,none⟩) 1 cap)) (w.alloc o)):=fun o m ho cap=>by
  refine ⟨_,0,cap,by rw [Qj (by decide)],?_,Fr.alloc _ _ _⟩
  intro i hi
  rw [Qj (by decide)] at hi
  obtain rfl:i=0:=by omega
  rw [Qj (by decide),ho]
  exact (Qk _ _ _ _ _).trans (by simp [dgt])
 have hcv:=Lib.run_convert_bytes_const (P:=Tryz.prog) w 35 5 #[.int .u8 48] 1 1 Tryz.underlying35 Tryz.underlying5
 clear hx
 go_enter_defers Tryz.func185,Tryz.ntmps185
 go_wp2_with fail
 refine ⟨_,results_tmp rfl _ _ _,?_⟩
 exact HE.out _ (1,2) rfl 1
theorem Q7c {x:Nat}(h0:0<x)(hl:bits2 x≤1400):∃ r n:Nat,floatBits .quo .f64 (floatOfInt .f64 ((bits2 x:Nat):Int)) 4614662735865160561=some r∧floatToIntVal .f64 r .i64=some (n:Int)∧n≤423∧x<10^(n+1):=by
 have h1:=Q2P (x:=x) (by omega)
 obtain ⟨r,n,q1,q2,q3,q4,q5⟩:=Q6c h1.2 hl
 exact ⟨r,n,q1,q2,q3,Nat.lt_of_lt_of_le (Q4D x) q4⟩
theorem Q8l {x k:Nat}(h:ndg x≤k):dgt x k=48:=by
 unfold dgt
 rw [Nat.div_eq_of_lt (Nat.lt_of_lt_of_le (Q0m x) (QI h))]
theorem Q7d {x:Nat}(h:0<x):dgt x (ndg x - 1)≠48∧dgt x (ndg x - 1)<58:=by
 unfold dgt
 have h1:=Q0y h
 have h2:=Q0m x
 have h3:=Qi x
 have h4:0<x / 10^(ndg x - 1):=Nat.div_pos h1 (QE _)
 have h5:x / 10^(ndg x - 1)<10:=by
  rw [Nat.div_lt_iff_lt_mul (QE _),← Nat.pow_succ',show (ndg x - 1).succ=ndg x by omega]
  exact h2
 omega
theorem Q8m (xp:Option Addr)(xl xc x:Nat)(w:World)(hx:Nt w xp xl xc x)(h0:0<x)(hl:xl≤8)(hg:GK w):Calls Tryz.prog 185 #[.slice xp xl xc,.bool false,.int .i64 10] w (ITo w x):=by
 have hbl:bits2 x≤1400:=by
  have h1:=Q2P (x:=x) (by omega)
  rcases Nat.lt_or_ge 1400 (bits2 x) with k | k
  ·have h2:=Nat.pow_le_pow_right (n:=2) (by decide) (show 1344≤bits2 x - 1 by omega)
   have h3:=Q7X (Nat.lt_of_lt_of_le hx.lt (Nat.pow_le_pow_right (by unfold BB;decide) (show xl≤21 by omega)))
   omega
  ·exact k
 obtain ⟨r,n,q1,q2,q3,q4⟩:=Q7c h0 hbl
 have HBl:=Lh (Q2Q xp xl xc x w hx)
 have c1:=fun w1:World=>run_convert_int_float (P:=Tryz.prog) w1 3 158 .i64 .f64 ((bits2 x:Nat):Int) (by kernel_rfl) (by kernel_rfl)
 have c2:=fun w1:World=>run_float_arith (P:=Tryz.prog) w1 .quo 158 .f64 _ _ _ q1
 have c3:=fun w1:World=>run_convert_float_int (P:=Tryz.prog) w1 158 3 .f64 .i64 r (n:Int) (by kernel_rfl) (by kernel_rfl) q2
 have c4:∀ w1:World,(convert 3 158 (.int .i64 10)).run Tryz.prog w1=.ok (.float .f64 4621819117588971520) w1:=fun _=>by kernel_rfl
 generalize bits2 x=bl at HBl c1 c2
 generalize floatOfInt .f64 (bl:Int)=fl at c1 c2
 have hxl0:0<xl:=by
  rcases Nat.eq_zero_or_pos xl with e | e
  ·have:=hx.zero_iff.1 e;omega
  ·exact e
 have hxl1:((xl:Int) == 0)=false:=by simp;omega
 have HLog:=Lh (Q9o w)
 have HMP:=Lh Q4X
 have b1:bits .and .u64 10 18446744073709551606=2:=by kernel_rfl
 have hxx:=Lh hx;have hgg:=Lh hg;have hx4:=Lh q4
 obtain ⟨i0,hi,hz0,hz1,hz2⟩:=info_parts Q8k
 have hrun:=fun w=>run_makeSlice (P:=Tryz.prog) w 35 5 i0 (.int .u8 0) Tryz.underlying35 hi hz0 .i64 .i64 (n+1) ((n:Int)+1) (by omega) (by omega) (by rw [hz1];omega) (by rw [hz2];omega) (by omega)
 clear hx hg q1 q2 q4 hbl
 go_enter_defers Tryz.func185,Tryz.ntmps185
 go_wp2_with fail
 refine HBl.out.mono ?_
 rintro e w ⟨rfl,hw_⟩
 subst hw_
 go_wp2_with fail
 refine HLog.out.mono ?_
 rintro e w ⟨rfl,hw_⟩
 subst hw_
 go_wp2_with fail
 obtain ⟨bs,hbs⟩:∃ bs,bs=w.heap.size:=⟨_,rfl⟩
 have HR1:Hid (Row (w.alloc (.cells (madeCells #[.int .u8 0] (n+1)) 5)) bs (n+1) 5∧Fr (fun _=>False) w (w.alloc (.cells (madeCells #[.int .u8 0] (n+1)) 5))∧(w.alloc (.cells (madeCells #[.int .u8 0] (n+1)) 5)).heap.size=bs+1):=by
  refine ⟨?_,Fr.alloc _ _ _,by simp [hbs]⟩
  have:Row (w.alloc (.cells (madeCells #[.int .u8 0] (n+1)) 5)) w.heap.size _ 5:=Row.of_block (Q0c _ _)
  rw [size_madeCells] at this
  rw [hbs];exact this
 have hbsw:=Lh hbs
 rw [← hbs]
 generalize w.alloc (.cells (madeCells #[.int .u8 0] (n+1)) 5)=w1 at HR1 ⊢
 refine (Q0V w1).mono ?_
 rintro e w2 ⟨rfl,hw2⟩
 have HS2:Hid (Stk w2 w1.heap.size none 0∧Fr (fun _=>False) w1 w2∧w2.heap.size=w1.heap.size+1):=by
  rw [hw2]
  exact ⟨⟨Row.of_block (Q23 _ _),by simp,rfl⟩,Fr.alloc _ _ _,by simp⟩
 clear hw2
 have HF2:Hid (Nt w2 xp xl xc x∧GK w2∧Row w2 bs (n+1) 5∧Fr (fun _=>False) w w2):=by
  have f:=HR1.out.2.1.trans HS2.out.2.1
  exact ⟨f.nt hxx.out (fun _ _ h=>h),f.gk hgg.out (fun _ h=>h.elim),HS2.out.2.1.row HR1.out.1,f⟩
 have HDv:=Lh (fun stk u v y=>Q4Y stk xl hl u v y w2 HF2.out.2.1.leaf)
 have HSet:=Lh (Q0T none 0 0 xp xl xc x w2 ⟨rfl,rfl⟩ HF2.out.1 (by unfold CAP;omega))
 clear hbs
 go_wp2_with fail
 refine (HMP.out _).mono ?_
 rintro e w2 ⟨rfl,hw_⟩
 subst hw_
 go_wp2_with fail
 refine (HDv.out _ _ _ _).mono ?_
 rintro e w2 ⟨rfl,hw_⟩
 subst hw_
 go_wp2_with fail
 refine HSet.out.mono ?_
 rintro e w3 ⟨p3,l3,c3,rfl,n3,o3,f3⟩
 have HN3:=Lh (And.intro n3 (And.intro o3 f3))
 have HCv:=Lh (fun stk=>Q29 p3 l3 c3 x stk bs (n+1) (n+1) w3 n3 (Nat.le_trans (n3.len_of_lt (Nat.lt_of_lt_of_le hxx.out.lt (Nat.pow_le_pow_right (by unfold BB;decide) hl))) (by decide)) (f3.row HF2.out.2.2.1) (by omega) (Nat.le_refl _))
 clear n3 o3 f3 HSet HDv
 go_wp2_with fail
 refine (HCv.out _).mono ?_
 rintro e w4 ⟨rfl,hdg,hf4⟩
 have hsb:w1.heap.size≠bs:=by have:=HR1.out.2.2;omega
 have HK:Hid (Stk w4 w1.heap.size none 0∧Fr (fun _=>False) w w4):=by
  obtain ⟨k1,k2,k3⟩:=HS2.out
  obtain ⟨m1,m2,m3⟩:=HN3.out
  obtain ⟨r1,r2,r3⟩:=HR1.out
  have hS:¬ (w1.heap.size=bs∨∃ a,p3=some a∧a.block=w1.heap.size):=by
   rintro (e | ⟨a,ha,e⟩)
   ·exact hsb e
   ·rcases m2 with e2 | ⟨b,e2,e3⟩ | e2
    ·rw [e2] at ha;cases ha
    ·rw [e2] at ha;cases ha;simp at e;omega
    ·rw [e2] at ha;cases ha
  have f23:Fr (fun _=>False) w2 w3:=m3.mono (fun k _ ⟨a,ha,_⟩=>by cases ha)
  refine ⟨⟨hf4.row (f23.row k1.1),?_,rfl⟩,?_⟩
  ·rw [hf4.cell (by have:=f23.size;omega) hS,f23.cell (by omega) (fun h=>h)]
   exact k1.2.1
  ·have f3:=HF2.out.2.2.2.trans f23
   refine f3.trans' hf4 (fun i hi e=>?_)
   rcases e with e | ⟨a,ha,e⟩
   ·have:=r2.size
    have h9:=hbsw.out
    omega
   ·rcases m2 with e2 | ⟨b,e2,e3⟩ | e2
    ·rw [e2] at ha;cases ha
    ·rw [e2] at ha;cases ha;simp at e;have:=HF2.out.2.2.2.size;omega
    ·rw [e2] at ha;cases ha
 have HDG:=Lh hdg
 clear hdg hf4 HCv HN3
 have hnd:ndg x≤n+1:=Q09 (by omega) hx4.out
 have hnp:=Qi x
 go_wp2_with fail
 obtain ⟨K,hK⟩:∃ K,K=n+1 - ndg x:=⟨_,rfl⟩
 have HKe:=Lh hK
 have hKn:K≤n:=by omega
 have HC1:Hid (∀ k,k<K→w4.cell? ⟨bs,k,none⟩=some (.int .u8 48)):=fun k hk=>by
  have:=HDG.out.fill k (by omega) (by omega)
  rw [Q8l (by omega)] at this
  exact this
 have HC2:Hid (w4.cell? ⟨bs,K,none⟩=some (.int .u8 ((dgt x (ndg x - 1):Nat):Int))):=by
  have:=HDG.out.fill K (by omega) (by omega)
  rw [show n+1 - 1 - K=ndg x - 1 by omega] at this
  exact this
 have hdf:=Q7d h0
 have HIT:Hid (∀ w5,Fr (fun _=>False) w4 w5→ITo w x (.returned (.slice (some ⟨bs,K,none⟩) (n+1 - K) (n+1 - K))) w5):=fun w5 f=>by
  refine ⟨bs,K,n+1 - K,by rw [show n+1 - K=ndg x by omega],?_,HK.out.2.trans f⟩
  intro i hi
  rw [f.cell (by have:=HDG.out.row.lt;exact this) (fun h=>h)]
  have:=HDG.out.fill (K+i) (by omega) (by omega)
  rw [show n+1 - 1 - (K+i)=ndg x - 1 - i by omega] at this
  exact this
 generalize dgt x (ndg x - 1)=d at HC2 hdf
 clear hK hnd hnp
 go_loop [7] (fun i=>∃ k:Nat,k≤K∧i=.int .i64 (k:Int)) (fun i=>n+1 - (intOf i).toNat)
 case atStart=>exact ⟨0,by omega,rfl⟩
 case round =>
  obtain ⟨k,hk,rfl⟩:=hrel
  by_cases hkK:k<K
  ·have hcell:=HC1.out k hkK
   have hix:(k:Int)<(n:Int)+1:=by omega
   go_wp2_with fail
   go_round
   case rel=>exact ⟨k+1,by omega,by first | rfl | (congr 1;omega)⟩
   case measure=>simp [intOf];omega
  ·obtain rfl:k=K:=by omega
   have hcell:=HC2.out
   have hix:(k:Int)<(n:Int)+1:=by omega
   have hd:((d:Int) == 48)=false:=by simp;omega
   go_wp2_with fail
   refine leaves_cons (f:=193) (args:=#[.pointer (some ⟨w1.heap.size,0,none⟩)]) (by simp) (by simp [go_sem]) ?_
   refine (Q0E w1.heap.size none 0 .returning w4 HK.out.1).mono ?_
   rintro e u' w5 ⟨rfl,rfl,hw,hf⟩
   refine ⟨_,results_tmp rfl _ _ _,?_⟩
   exact HIT.out _ (hf.mono (fun j _ hj=>by obtain ⟨_,_,h,_⟩:=hj;cases h))
theorem Q8n (xp:Option Addr)(xl xc x:Nat)(w:World)(hx:Nt w xp xl xc x)(hl:xl≤8)(hg:GK w):Calls Tryz.prog 185 #[.slice xp xl xc,.bool false,.int .i64 10] w (ITo w x):=by
 rcases Nat.eq_zero_or_pos x with h | h
 ·subst h;exact Q7b xp xl xc w hx
 ·exact Q8m xp xl xc x w hx h hl hg
def decB (x:Nat):List UInt8:=(List.range (ndg x)).map fun i=>UInt8.ofNat (dgt x (ndg x - 1 - i))
def decS (x:Nat):ByteArray:=⟨(decB x).toArray⟩
theorem Q50 (x:Nat):(decB x).length=ndg x:=by simp [decB]
theorem Q9U (x k:Nat):dgt x k<58:=by unfold dgt;omega
theorem Q8p (x i:Nat)(h:i<(decB x).length):((decB x)[i].toNat:Int)=((dgt x (ndg x - 1 - i):Nat):Int):=by
 have h2:(decB x)[i]=UInt8.ofNat (dgt x (ndg x - 1 - i)):=by simp [decB]
 have:=Q9U x (ndg x - 1 - i)
 rw [h2,UInt8.toNat_ofNat_of_lt' (by simpa [UInt8.size] using (by omega:dgt x (ndg x - 1 - i)<256))]
theorem ITo.conv {w w':World}{x:Nat}{e:Ending}(h:ITo w x e w'):∃ v,e=.returned v∧(convert 35 9 v).run Tryz.prog w'=.ok (.string (decS x)) w'∧Fr (fun _=>False) w w':=by
 obtain ⟨bs,off,cap,rfl,h1,h2⟩:=h
 refine ⟨_,rfl,?_,h2⟩
 have:=run_convert_bytes_back (P:=Tryz.prog) w' 35 9 5 ⟨bs,off,none⟩ cap (decB x) Tryz.underlying35 Tryz.underlying5 Tryz.underlying9 (fun j hj=>by
  rw [Q8p x j hj]
  rw [Q50] at hj
  have:=h1 j hj
  have e:(⟨bs,off,none⟩:Addr).add j=⟨bs,off+j,none⟩:=by unfold Addr.add;split <;> simp_all
  rw [e];exact this)
 rw [Q50] at this
 exact this
theorem St.frF {W:World}{σ:Sg}{w w':World}(h:St W σ w)(hf:Fr (fun _=>False) w w'):St W σ w':=h.frame _ hf (fun _ e=>e)
theorem Q9r {W:World}{σ:Sg}{w:World}(hW:GW W)(h:St W σ w){b o x:Nat}(hx:Num σ b o (x:Int))(hl:x<BB^8) :
  Calls Tryz.prog 164 #[.pointer (some ⟨b,o,none⟩),.int .i64 10] w fun r w'=>r=.returned (.string (decS x))∧St W σ w':=by
 obtain ⟨xp,xl,xc,hZ⟩:=h.za hx
 have c0:=hZ.cell0;have c1:=hZ.cell1
 rw [Ql] at c0
 have hxl:=hZ.len_le (n:=8) (by rw [Int.natAbs_natCast];exact hl)
 have HI:Hid (∀ w2,SM w w2→Calls Tryz.prog 185 #[.slice xp xl xc,.bool false,.int .i64 10] w2 fun e w'=>∃ v,e=.returned v∧(convert 35 9 v).run Tryz.prog w'=.ok (.string (decS x)) w'∧(w'.cell? ⟨b,o,none⟩=some (.bool false)∧w'.cell? ⟨b,o+1,none⟩=some (.slice xp xl xc))∧St W σ w'):=fun w2 hw=>by
  have hnt:=hw.nt hZ.nt
  rw [Int.natAbs_natCast] at hnt
  refine (Q8n xp xl xc x w2 hnt hxl (hw.gk (h.gk hW))).mono ?_
  rintro e w' hI
  obtain ⟨v,rfl,hv,hf⟩:=hI.conv
  have hb:b<w.heap.size:=by
   obtain ⟨ob,hob⟩:=hx.some
   exact h.lt hob
  have hb2:b<w2.heap.size:=by rw [hw.1];exact hb
  refine ⟨v,rfl,hv,⟨?_,?_⟩,(hw.st h).frF hf⟩
  ·rw [hf.cell hb2 (fun h=>h),hw.cell];exact c0
  ·rw [hf.cell hb2 (fun h=>h),hw.cell];exact c1
 have HM:=Lh (SM.refl w)
 clear h hx hl hZ
 go_enter Tryz.func164, Tryz.ntmps164
 go_wp2_with fail
 refine AH.start (fun x=>x.cell? ⟨b,o,none⟩=some (.bool false)∧x.cell? ⟨b,o+1,none⟩=some (.slice xp xl xc)) (by kernel_rfl) ?_
 refine AH.z 0 ⟨c0,c1⟩ ?_
 refine AH.z 1 ⟨c0,c1⟩ ?_
 refine AH.z 2 ⟨c0,c1⟩ ?_
 refine AH.z 3 ⟨c0,c1⟩ ?_
 refine AH.z 4 ⟨c0,c1⟩ ?_
 refine AH.z 5 ⟨c0,c1⟩ ?_
 refine AH.z 6 ⟨c0,c1⟩ ?_
 refine AH.z 7 ⟨c0,c1⟩ ?_
 refine AH.z 8 ⟨c0,c1⟩ ?_
 refine AH.o 9 (fun K hK=>?_)
 go_simp
 refine (HI.out _ (by exact ⟨rfl,rfl,rfl,rfl⟩)).mono ?_
 rintro e w2 ⟨v,rfl,hv,⟨d0,d1⟩,q⟩
 have H1:=Lh q;clear q
 refine hK _ _ ⟨d0,d1⟩ ?_
 clear hK K
 try simp only [Act.put,Zp_]
 refine AH.o 10 (fun K hK=>?_)
 go_simp
 refine hK _ _ ⟨d0,d1⟩ ?_
 clear hK K
 try simp only [Act.put,Zp_]
 refine AH.z 11 ⟨d0,d1⟩ ?_
 refine AH.done (by kernel_rfl) ?_
 go_wp2_with fail
 go_ret
 exact ⟨rfl,H1.out⟩
theorem Q7e {W:World}{σ:Sg}{w:World}(hW:GW W)(h:St W σ w){b o x:Nat}(hx:Num σ b o (x:Int))(hl:x<BB^8) :
  Calls Tryz.prog 122 #[.pointer (some ⟨b,o,none⟩)] w fun r w'=>r=.returned (.string (decS x))∧St W σ w':=by
 have HT:=Lh (Q9r hW h hx hl)
 clear h hx hl
 go_enter Tryz.func122, Tryz.ntmps122
 go_wp2_with fail
 refine HT.out.mono ?_
 rintro r w1 ⟨rfl,q⟩
 have H1:=Lh q;clear q HT
 go_wp2_with fail
 go_ret
 exact ⟨rfl,H1.out⟩
theorem Q7f {W:World}{σ:Sg}{w:World}(hW:GW W)(h:St W σ w){b o x:Nat}(hx:Num σ b o (x:Int))(hl:x<BB^8) :
  Calls Tryz.prog 70 #[.pointer (some ⟨b,o,none⟩)] w fun r w'=>r=.returned (.string (decS x))∧St W σ w':=by
 have HT:=Lh (Q7e hW h hx hl)
 clear h hx hl
 go_enter Tryz.func70, Tryz.ntmps70
 go_wp2_with fail
 refine HT.out.mono ?_
 rintro r w1 ⟨rfl,q⟩
 have H1:=Lh q;clear q HT
 go_wp2_with fail
 go_ret
 exact ⟨rfl,H1.out⟩
def Rdr (s:ByteArray)(i:Nat):Ob:=.raw (.cells #[.string s,.int .i64 (i:Int),.int .i64 (-1)] 192)
theorem Q0e {W:World}{σ:Sg}{w:World}(h:St W σ w){b i:Nat}{s:ByteArray}(hb:σ b=some (Rdr s i)) :
  (w.cell? ⟨b,0,none⟩=some (.string s)∧w.cell? ⟨b,1,none⟩=some (.int .i64 (i:Int))∧w.cell? ⟨b,2,none⟩=some (.int .i64 (-1)))∧(w.frozen? ⟨b,0,none⟩=false∧w.frozen? ⟨b,1,none⟩=false∧w.frozen? ⟨b,2,none⟩=false) ∧
  (∀ j:Nat,St W (upd σ b (Rdr s j)) (w.setCell ⟨b,1,none⟩ (.int .i64 (j:Int))))∧St W σ (w.setCell ⟨b,2,none⟩ (.int .i64 (-1))):=by
 have hr:=h.raw hb
 have hR:Row w b 3 192:=Row.of_block hr
 refine ⟨⟨?_,?_,?_⟩,⟨hR.free _,hR.free _,hR.free _⟩,?_,?_⟩
 ·unfold World.cell?;rw [hr];rfl
 ·unfold World.cell?;rw [hr];rfl
 ·unfold World.cell?;rw [hr];rfl
 ·intro j
  exact h.setRaw hb 1 (.int .i64 (j:Int))
 ·refine (h.setRaw hb 2 (.int .i64 (-1))).ext fun k=>?_
  by_cases e:k=b
  ·subst e;rw [Q1,hb];rfl
  ·rw [Qa _ _ e]
theorem Q3b {W:World}{σ:Sg}{w:World}(h:St W σ w){b i:Nat}{s:ByteArray}(hb:σ b=some (Rdr s i))(hi:i<s.size)(hs:s.size<2^62) :
  Calls Tryz.prog 339 #[.pointer (some ⟨b,0,none⟩)] w fun e w'=>e=.returned (.tuple #[.int .u8 ((s[i].toNat:Nat):Int),.nilIface])∧St W (upd σ b (Rdr s (i+1))) w':=by
 obtain ⟨⟨a0,a1,a2⟩,⟨b0,b1,b2⟩,h1,h2⟩:=Q0e h hb
 have HB:=Lh hb
 have H2:=Lh h2
 have hlt:(i:Int)<(s.size:Int):=by omega
 clear h hb h1 h2
 go_enter Tryz.func339, Tryz.ntmps339
 go_wp2_with fail
 clear a0 a1 a2 b0 b1 b2
 generalize w.setCell ⟨b,2,none⟩ (.int .i64 (-1))=w1 at H2 ⊢
 obtain ⟨⟨c0,c1,c2⟩,⟨f0,f1,f2⟩,h3,h4⟩:=Q0e H2.out HB.out
 have H3:Hid (∀ w2,SM w1 w2→St W (upd σ b (Rdr s (i+1))) (w2.setCell ⟨b,1,none⟩ (.int .i64 ((i+1:Nat):Int)))):=fun w2 hw=>(Q0e (hw.st H2.out) HB.out).2.2.1 (i+1)
 clear h3 h4
 go_quiet (fail)
 go_wp2_with fail
 go_quiet (fail)
 go_wp2_with fail
 go_ret2
 exact ⟨rfl,H3.out _ (by exact ⟨rfl,rfl,rfl,rfl⟩)⟩
theorem Q9s {W:World}{σ:Sg}{w:World}(h:St W σ w){b:Nat}{s:ByteArray}(hb:σ b=some (Rdr s s.size))(hs:s.size<2^62)(v:Value)(hv:w.cell? ⟨0,0,none⟩=some v)(hb0:b≠0) :
  Calls Tryz.prog 339 #[.pointer (some ⟨b,0,none⟩)] w fun e w'=>e=.returned (.tuple #[.int .u8 0,v])∧St W σ w':=by
 obtain ⟨⟨a0,a1,a2⟩,⟨b0,b1,b2⟩,h1,h2⟩:=Q0e h hb
 have HB:=Lh hb
 have H2:=Lh h2
 have hv2:(w.setCell ⟨b,2,none⟩ (.int .i64 (-1))).cell? ⟨0,0,none⟩=some v:=by
  rw [World.cell?_setCell_other _ _ _ _ (by intro e;cases e)];exact hv
 clear h hb h1 h2 hv hb0
 go_enter Tryz.func339, Tryz.ntmps339
 go_wp2_with fail
 clear a0 a1 a2 b0 b1 b2
 generalize w.setCell ⟨b,2,none⟩ (.int .i64 (-1))=w1 at H2 hv2 ⊢
 obtain ⟨⟨c0,c1,c2⟩,_,_,_⟩:=Q0e H2.out HB.out
 go_quiet (fail)
 go_wp2_with fail
 go_quiet (fail)
 go_wp2_with fail
 go_ret2
 exact ⟨rfl,H2.out.sm ⟨rfl,rfl,rfl,rfl⟩⟩
theorem Q5M {W:World}{σ:Sg}{w:World}(h:St W σ w){b i:Nat}{s:ByteArray}(hb:σ b=some (Rdr s (i+1)))(hs:i<2^62) :
  Calls Tryz.prog 340 #[.pointer (some ⟨b,0,none⟩)] w fun e w'=>e=.returned .nilIface∧St W (upd σ b (Rdr s i)) w':=by
 obtain ⟨⟨a0,a1,a2⟩,⟨b0,b1,b2⟩,h1,h2⟩:=Q0e h hb
 have H3:Hid (St W (upd σ b (Rdr s i)) ((w.setCell ⟨b,2,none⟩ (.int .i64 (-1))).setCell ⟨b,1,none⟩ (.int .i64 (i:Int)))):=(Q0e h2 hb).2.2.1 i
 clear h hb h1 h2
 go_enter Tryz.func340, Tryz.ntmps340
 go_wp2_with fail
 go_ret
 refine ⟨rfl,?_⟩
 have:=H3.out
 simpa using this
theorem Q3c {W:World}{σ:Sg}{w:World}(h:St W σ w){b:Nat}{s:ByteArray}(hb:σ b=some (Rdr s 0))(h0:0<s.size)(hs:s.size<2^62)(hd:48≤s[0].toNat) :
  Calls Tryz.prog 203 #[.iface 169 (.pointer (some ⟨b,0,none⟩))] w fun e w'=>e=.returned (.tuple #[.bool false,.nilIface])∧St W σ w':=by
 have H1:=Lh (Q3b h hb h0 hs)
 have HB:=Lh hb
 generalize hd0:s[0].toNat=d at H1 hd
 have e1:((d:Int) == 45)=false:=by simp;omega
 have e2:((d:Int) == 43)=false:=by simp;omega
 clear h hb hd0
 go_enter Tryz.func203, Tryz.ntmps203
 go_wp2_with fail
 refine H1.out.mono ?_
 rintro r w1 ⟨rfl,q1⟩
 have H2:=Lh (Q5M q1 (Q1 _ _ _) (by decide))
 clear q1 H1
 go_wp2_with fail
 refine H2.out.mono ?_
 rintro r w2 ⟨rfl,q2⟩
 have H3:Hid (St W σ w2):=q2.ext fun k=>by
  by_cases e:k=b
  ·subst e;rw [Q1];exact HB.out
  ·rw [Qa _ _ e,Qa _ _ e]
 clear q2 H2
 go_wp2_with fail
 go_ret2
 exact ⟨rfl,H3.out⟩
theorem Q0A (a b c:Int)(h:IntKind.u64.wrap (a*b)=c)(w1:World):(binOp .mul 203 (.int .u64 a) (.int .u64 b)).run Tryz.prog w1=.ok (.int .u64 c) w1:=by
 subst h
 kernel_rfl
theorem Q9V (i:Int)(h0:0<i)(h:i<19)(w:World):Calls Tryz.prog 239 #[.int .u64 10,.int .i64 i] w fun e w'=>e=.returned (.int .u64 ((10^i.toNat:Nat):Int))∧w'=w:=by
 have a0:bits .and .i64 1 1=1:=by kernel_rfl
 have a1:bits .and .i64 2 1=0:=by kernel_rfl
 have a2:bits .and .i64 3 1=1:=by kernel_rfl
 have a3:bits .and .i64 4 1=0:=by kernel_rfl
 have a4:bits .and .i64 5 1=1:=by kernel_rfl
 have a5:bits .and .i64 6 1=0:=by kernel_rfl
 have a6:bits .and .i64 7 1=1:=by kernel_rfl
 have a7:bits .and .i64 8 1=0:=by kernel_rfl
 have a8:bits .and .i64 9 1=1:=by kernel_rfl
 have a9:bits .and .i64 10 1=0:=by kernel_rfl
 have a10:bits .and .i64 11 1=1:=by kernel_rfl
 have a11:bits .and .i64 12 1=0:=by kernel_rfl
 have a12:bits .and .i64 13 1=1:=by kernel_rfl
 have a13:bits .and .i64 14 1=0:=by kernel_rfl
 have a14:bits .and .i64 15 1=1:=by kernel_rfl
 have a15:bits .and .i64 16 1=0:=by kernel_rfl
 have a16:bits .and .i64 17 1=1:=by kernel_rfl
 have a17:bits .and .i64 18 1=0:=by kernel_rfl
 have s0:∀ w1:World,(binOp .shr 3 (.int .i64 1) (.int .u64 1)).run Tryz.prog w1=.ok (.int .i64 0) w1:=fun _=>by kernel_rfl
 have s1:∀ w1:World,(binOp .shr 3 (.int .i64 2) (.int .u64 1)).run Tryz.prog w1=.ok (.int .i64 1) w1:=fun _=>by kernel_rfl
 have s2:∀ w1:World,(binOp .shr 3 (.int .i64 3) (.int .u64 1)).run Tryz.prog w1=.ok (.int .i64 1) w1:=fun _=>by kernel_rfl
 have s3:∀ w1:World,(binOp .shr 3 (.int .i64 4) (.int .u64 1)).run Tryz.prog w1=.ok (.int .i64 2) w1:=fun _=>by kernel_rfl
 have s4:∀ w1:World,(binOp .shr 3 (.int .i64 5) (.int .u64 1)).run Tryz.prog w1=.ok (.int .i64 2) w1:=fun _=>by kernel_rfl
 have s5:∀ w1:World,(binOp .shr 3 (.int .i64 6) (.int .u64 1)).run Tryz.prog w1=.ok (.int .i64 3) w1:=fun _=>by kernel_rfl
 have s6:∀ w1:World,(binOp .shr 3 (.int .i64 7) (.int .u64 1)).run Tryz.prog w1=.ok (.int .i64 3) w1:=fun _=>by kernel_rfl
 have s7:∀ w1:World,(binOp .shr 3 (.int .i64 8) (.int .u64 1)).run Tryz.prog w1=.ok (.int .i64 4) w1:=fun _=>by kernel_rfl
 have s8:∀ w1:World,(binOp .shr 3 (.int .i64 9) (.int .u64 1)).run Tryz.prog w1=.ok (.int .i64 4) w1:=fun _=>by kernel_rfl
 have s9:∀ w1:World,(binOp .shr 3 (.int .i64 10) (.int .u64 1)).run Tryz.prog w1=.ok (.int .i64 5) w1:=fun _=>by kernel_rfl
 have s10:∀ w1:World,(binOp .shr 3 (.int .i64 11) (.int .u64 1)).run Tryz.prog w1=.ok (.int .i64 5) w1:=fun _=>by kernel_rfl
 have s11:∀ w1:World,(binOp .shr 3 (.int .i64 12) (.int .u64 1)).run Tryz.prog w1=.ok (.int .i64 6) w1:=fun _=>by kernel_rfl
 have s12:∀ w1:World,(binOp .shr 3 (.int .i64 13) (.int .u64 1)).run Tryz.prog w1=.ok (.int .i64 6) w1:=fun _=>by kernel_rfl
 have s13:∀ w1:World,(binOp .shr 3 (.int .i64 14) (.int .u64 1)).run Tryz.prog w1=.ok (.int .i64 7) w1:=fun _=>by kernel_rfl
 have s14:∀ w1:World,(binOp .shr 3 (.int .i64 15) (.int .u64 1)).run Tryz.prog w1=.ok (.int .i64 7) w1:=fun _=>by kernel_rfl
 have s15:∀ w1:World,(binOp .shr 3 (.int .i64 16) (.int .u64 1)).run Tryz.prog w1=.ok (.int .i64 8) w1:=fun _=>by kernel_rfl
 have s16:∀ w1:World,(binOp .shr 3 (.int .i64 17) (.int .u64 1)).run Tryz.prog w1=.ok (.int .i64 8) w1:=fun _=>by kernel_rfl
 have s17:∀ w1:World,(binOp .shr 3 (.int .i64 18) (.int .u64 1)).run Tryz.prog w1=.ok (.int .i64 9) w1:=fun _=>by kernel_rfl
 have m0:=Q0A 1 10 10 (by kernel_rfl)
 have m1:=Q0A 10 10 100 (by kernel_rfl)
 have m2:=Q0A 1 100 100 (by kernel_rfl)
 have m3:=Q0A 100 100 10000 (by kernel_rfl)
 have m4:=Q0A 10 100 1000 (by kernel_rfl)
 have m5:=Q0A 1 10000 10000 (by kernel_rfl)
 have m6:=Q0A 10000 10000 100000000 (by kernel_rfl)
 have m7:=Q0A 10 10000 100000 (by kernel_rfl)
 have m8:=Q0A 100 10000 1000000 (by kernel_rfl)
 have m9:=Q0A 1000 10000 10000000 (by kernel_rfl)
 have m10:=Q0A 1 100000000 100000000 (by kernel_rfl)
 have m11:=Q0A 100000000 100000000 10000000000000000 (by kernel_rfl)
 have m12:=Q0A 10 100000000 1000000000 (by kernel_rfl)
 have m13:=Q0A 100 100000000 10000000000 (by kernel_rfl)
 have m14:=Q0A 1000 100000000 100000000000 (by kernel_rfl)
 have m15:=Q0A 10000 100000000 1000000000000 (by kernel_rfl)
 have m16:=Q0A 100000 100000000 10000000000000 (by kernel_rfl)
 have m17:=Q0A 1000000 100000000 100000000000000 (by kernel_rfl)
 have m18:=Q0A 10000000 100000000 1000000000000000 (by kernel_rfl)
 have m19:=Q0A 1 10000000000000000 10000000000000000 (by kernel_rfl)
 have m20:=Q0A 10000000000000000 10000000000000000 9632337040368467968 (by kernel_rfl)
 have m21:=Q0A 10 10000000000000000 100000000000000000 (by kernel_rfl)
 have m22:=Q0A 100 10000000000000000 1000000000000000000 (by kernel_rfl)
 rcases (show i=1∨i=2∨i=3∨i=4∨i=5∨i=6∨i=7∨i=8∨i=9∨i=10∨i=11∨i=12∨i=13∨i=14∨i=15∨i=16∨i=17∨i=18 by omega) with rfl | rfl | rfl | rfl | rfl | rfl | rfl | rfl | rfl | rfl | rfl | rfl | rfl | rfl | rfl | rfl | rfl | rfl
 all_goals
  go_enter Tryz.func239, Tryz.ntmps239
  go_wp2_with fail
  refine wp_loop_rounds 6 ?_
  repeat (rw [rounds_succ];go_wp2_with fail)
  go_ret
  exact ⟨rfl,rfl⟩
theorem Qa5 (i:Nat)(h0:0<i)(h:i<19)(w:World):Calls Tryz.prog 239 #[.int .u64 10,.int .i64 (i:Int)] w fun e w'=>e=.returned (.int .u64 ((10^i:Nat):Int))∧w'=w:=Q9V i (by omega) (by omega) w
theorem St.frameRaw {W:World}{σ:Sg}{w w':World}(h:St W σ w)(hr:∀ b ob,σ b=some ob→∃ o,ob=.raw o)(S:Nat→Prop)(hf:Fr S w w')(hS:∀ k,S k→W.heap.size≤k∧σ k=none):St W σ w':=by
 obtain ⟨ab,h⟩:=h
 refine ⟨ab,h.below.trans ⟨hf.os,hf.tape,hf.output,hf.size,fun k hk=>hf.block k (by have:=h.below.size;omega) (fun e=>by have:=(hS k e).1;omega)⟩,h.dom,?_,?_,h.inj⟩
 ·intro b ob hb
  obtain ⟨h1,h2,h3⟩:=h.holds b ob hb
  refine ⟨h1,by have:=hf.size;omega,h3.congr (hf.block b h2 (fun e=>by rw [(hS b e).2] at hb;cases hb)) (fun k hk=>?_)⟩
  obtain ⟨o,rfl⟩:=hr b ob hb
  rw [h3.2] at hk;cases hk
 ·intro b k hk
  obtain ⟨h1,h2,h3⟩:=h.own b k hk
  exact ⟨h1,by have:=hf.size;omega,h3⟩
theorem St.know {W:World}{σ:Sg}{w:World}(h:St W σ w)(hr:∀ b ob,σ b=some ob→∃ o,ob=.raw o){b:Nat}{o:Obj}(hb:σ b=none)(hW:W.heap.size≤b)(ho:w.heap[b]?=some o):St W (upd σ b (.raw o)) w:=by
 obtain ⟨ab,h⟩:=h
 have hab:∀ k,ab k=none:=by
  intro k
  cases hs:σ k with
  | none=>exact h.dom k hs
  | some ob =>
   obtain ⟨o,rfl⟩:=hr k ob hs
   exact (h.holds k _ hs).2.2.2
 refine ⟨ab,h.below,?_,?_,?_,h.inj⟩
 ·intro k hk;exact hab k
 ·intro k ob hk
  by_cases e:k=b
  ·subst e
   rw [Q1] at hk;cases hk
   exact ⟨hW,(Array.getElem?_eq_some_iff.1 ho).1,ho,hab _⟩
  ·rw [Qa _ _ e] at hk;exact h.holds k ob hk
 ·intro k j hj;rw [hab k] at hj;cases hj
def E0:Sg:=fun _=>none
theorem Q5N (br:Nat)(s:ByteArray)(i:Nat):∀ b ob,(upd E0 br (Rdr s i)) b=some ob→∃ o,ob=.raw o:=fun b ob hb=>by
 by_cases e:b=br
 ·subst e;rw [Q1] at hb;cases hb;exact ⟨_,rfl⟩
 ·rw [Qa _ _ e] at hb;cases hb
def OwnZ (W1:World)(br:Nat)(p:Option Addr):Prop:=∀ a,p=some a→W1.heap.size≤a.block∧a.block≠br
structure ZR (W1:World) (br:Nat) (s:ByteArray) (i:Nat) (p:Option Addr) (l c x:Nat) (w:World):Prop where
 st:St W1 (upd E0 br (Rdr s i)) w
 nt:Nt w p l c x
 own:OwnZ W1 br p
theorem ZR.read {W1 w:World}{br i l c x:Nat}{s:ByteArray}{p:Option Addr}(h:ZR W1 br s i p l c x w)(hi:i<s.size)(hs:s.size<2^62) :
  Calls Tryz.prog 339 #[.pointer (some ⟨br,0,none⟩)] w fun e w'=>e=.returned (.tuple #[.int .u8 ((s[i].toNat:Nat):Int),.nilIface])∧ZR W1 br s (i+1) p l c x w':=by
 rcases h.nt.cases with ⟨rfl,rfl,rfl,rfl⟩ | ⟨bz,rfl,n1,n2,n3,n4,n5,n6,n7⟩
 ·refine (Q3b h.st (Q1 _ _ _) hi hs).mono ?_
  rintro e w' ⟨rfl,q⟩
  exact ⟨rfl,q.upd2,⟨⟨rfl,rfl⟩,rfl⟩,h.own⟩
 ·obtain ⟨o1,o2⟩:=h.own _ rfl
  obtain ⟨C,hC,_⟩:=n4.block
  have hk:=h.st.know (Q5N br s i) (b:=bz) (by rw [Qa _ _ o2];rfl) o1 hC
  refine (Q3b hk (b:=br) (i:=i) (s:=s) (by rw [Qa _ _ o2.symm,Q1]) hi hs).mono ?_
  rintro e w' ⟨rfl,q⟩
  have hr:=q.raw (b:=bz) (by rw [Qa _ _ o2,Q1])
  refine ⟨rfl,?_,h.nt.congr fun a ha=>by cases ha;rw [hr,hC],h.own⟩
  refine q.less ?_
  intro k ob hkk
  by_cases e:k=br
  ·subst e;rw [Q1] at hkk ⊢;exact hkk
  ·rw [Qa _ _ e] at hkk;cases hkk
theorem ZR.readEnd {W1 w:World}{br l c x:Nat}{s:ByteArray}{p:Option Addr}(h:ZR W1 br s s.size p l c x w)(hs:s.size<2^62)(v:Value)(hv:W1.cell? ⟨0,0,none⟩=some v) :
  Calls Tryz.prog 339 #[.pointer (some ⟨br,0,none⟩)] w fun e w'=>e=.returned (.tuple #[.int .u8 0,v])∧ZR W1 br s s.size p l c x w':=by
 have hlt:=World.block_lt_of_cell? _ _ hv
 have hv':w.cell? ⟨0,0,none⟩=some v:=by
  rw [World.cell?_of_block (w:=W1) (h.st.below.block _ hlt)];exact hv
 have hbr:br≠0:=by
  have:=h.st.ge (Q1 _ _ _)
  intro e;rw [e] at this
  have hlt':0<W1.heap.size:=hlt
  omega
 rcases h.nt.cases with ⟨rfl,rfl,rfl,rfl⟩ | ⟨bz,rfl,n1,n2,n3,n4,n5,n6,n7⟩
 ·refine (Go.Proofs.YtpebcmfpehdafaaGreatDoor.Q9s h.st (Q1 _ _ _) hs v hv' hbr).mono ?_
  rintro e w' ⟨rfl,q⟩
  exact ⟨rfl,q,⟨⟨rfl,rfl⟩,rfl⟩,h.own⟩
 ·obtain ⟨o1,o2⟩:=h.own _ rfl
  obtain ⟨C,hC,_⟩:=n4.block
  have hk:=h.st.know (Q5N br s s.size) (b:=bz) (by rw [Qa _ _ o2];rfl) o1 hC
  refine (Go.Proofs.YtpebcmfpehdafaaGreatDoor.Q9s hk (b:=br) (s:=s) (by rw [Qa _ _ o2.symm,Q1]) hs v hv' hbr).mono ?_
  rintro e w' ⟨rfl,q⟩
  have hr:=q.raw (b:=bz) (Q1 _ _ _)
  exact ⟨rfl,q.less (Ext.new (by rw [Qa _ _ o2];rfl) _),h.nt.congr fun a ha=>by cases ha;rw [hr,hC],h.own⟩
theorem ZR.mulAdd {W1 w:World}{br i l c x:Nat}{s:ByteArray}{p:Option Addr}(h:ZR W1 br s i p l c x w)(hl:l+5≤CAP)(y r:Nat)(hy:y<BB)(hr:r<BB) :
  Calls Tryz.prog 218 #[.slice p l c,.slice p l c,.int .u64 (y:Int),.int .u64 (r:Int)] w fun e w'=>∃ p' l' c',e=.returned (.slice p' l' c')∧ZR W1 br s i p' l' c' (x*y+r) w':=by
 refine (Q1O p l c p l c x y r w h.nt.1 h.nt hl hy hr).mono ?_
 rintro e w' ⟨p',l',c',rfl,n1,n2,n3⟩
 have hsz:=h.st.below.size
 have hbr:=h.st.lt (Q1 _ _ _)
 refine ⟨p',l',c',rfl,h.st.frameRaw (Q5N br s i) _ n3 ?_,n1,?_⟩
 ·rintro k ⟨a,ha,rfl⟩
  obtain ⟨o1,o2⟩:=h.own a ha
  exact ⟨o1,by rw [Qa _ _ o2];rfl⟩
 ·intro a ha
  rcases n2 with e | ⟨b,e,hb⟩ | e
  ·exact h.own a (by rw [← e];exact ha)
  ·rw [e] at ha;cases ha
   exact ⟨by simp only;omega,by simp only;omega⟩
  ·rw [e] at ha;cases ha
def valS (s:ByteArray):Nat→Nat
 | 0=>0
 | k+1=>valS s k*10+((s.data[k]?.getD 48).toNat - 48)
theorem Q6m (s:ByteArray)(hd:∀ k (h:k<s.size),48≤s[k].toNat∧s[k].toNat≤57)(k:Nat)(hk:k≤s.size):valS s k<10^k:=by
 induction k with
 | zero=>simp [valS]
 | succ k ih =>
  have h1:=ih (by omega)
  have h2:=hd k (by omega)
  have h3:s.data[k]?.getD 48=s[k]:=by
   rw [Array.getElem?_eq_getElem (by exact hk)];rfl
  unfold valS
  rw [h3,Nat.pow_succ]
  omega
def byteAt (s:ByteArray)(k:Nat):Nat:=(s.data[k]?.getD 48).toNat
def SI (W1:World)(br:Nat)(s:ByteArray)(v:Value)(gk k ii d:Nat)(p:Option Addr)(l c x:Nat)(err ch:Value)(w:World):Prop :=
 k+gk=s.size∧ii<19∧d<10^ii∧valS s k=x*10^ii+d∧((gk=0∧err=v∧ZR W1 br s s.size p l c x w)∨(0<gk∧err=.nilIface∧ch=.int .u8 ((byteAt s k:Nat):Int)∧ZR W1 br s (k+1) p l c x w))
theorem Q9t {W1:World}{br:Nat}{s:ByteArray}{w:World}(h:ZR W1 br s 0 none 0 0 0 w)(h0:0<s.size)(h100:s.size≤100)(hd:∀ k (h:k<s.size),48≤s[k].toNat∧s[k].toNat≤57)(Tv:TypeId)(av:Value)(hv:W1.cell? ⟨0,0,none⟩=some (.iface Tv av))(hEq:∀ w2,Below W1.heap.size W1 w2→(binOp .eql 74 (.iface Tv av) (.iface Tv av)).run Tryz.prog w2=.ok (.bool true) w2) :
  Calls Tryz.prog 204 #[.slice none 0 0,.iface 169 (.pointer (some ⟨br,0,none⟩)),.int .i64 10,.bool false] w fun e w'=>∃ p l c,e=.returned (.tuple #[.slice p l c,.int .i64 10,.int .i64 (s.size:Int),.nilIface])∧ZR W1 br s s.size p l c (valS s s.size) w':=by
 have HD:Hid (∀ k,k<s.size→48≤byteAt s k∧byteAt s k≤57):=fun k hk=>by
  unfold byteAt;rw [Array.getElem?_eq_getElem (by exact hk)];exact hd k hk
 have HRd:Hid (∀ (k:Nat) (p:Option Addr) (l c x:Nat) (w2:World),ZR W1 br s k p l c x w2→k<s.size→Calls Tryz.prog 339 #[.pointer (some ⟨br,0,none⟩)] w2 fun e w'=>e=.returned (.tuple #[.int .u8 ((byteAt s k:Nat):Int),.nilIface])∧ZR W1 br s (k+1) p l c x w'):=fun k p l c x w2 hz hk=>by
  have:=hz.read hk (by omega)
  unfold byteAt;rw [Array.getElem?_eq_getElem (by exact hk)]
  exact this
 have HRe:Hid (∀ (p:Option Addr) (l c x:Nat) (w2:World),ZR W1 br s s.size p l c x w2→Calls Tryz.prog 339 #[.pointer (some ⟨br,0,none⟩)] w2 fun e w'=>e=.returned (.tuple #[.int .u8 0,.iface Tv av])∧ZR W1 br s s.size p l c x w'):=fun p l c x w2 hz=>hz.readEnd (by omega) _ hv
 have HEq:=Lh hEq
 have HMP:=Lh Q4X
 have HVl:Hid (∀ k,k≤s.size→valS s k<10^k):=Q6m s hd
 have HL:Hid (∀ (k ii d x l c:Nat) (p:Option Addr) (w2:World),k≤s.size→valS s k=x*10^ii+d→Nt w2 p l c x→l+5≤CAP):=fun k ii d x l c p w2 hk hx hn=>by
  have h1:=Q6m s hd k hk
  have h2:x<BB^100:=by
   have:x≤x*10^ii:=Nat.le_mul_of_pos_right _ (QE ii)
   have h3:10^k≤10^100:=QI (by omega)
   exact Nat.lt_of_lt_of_le (show x<10^100 by omega) (by unfold BB;decide)
  have:=hn.len_of_lt h2
  unfold CAP;omega
 have H0:=Lh h
 have Hv:Hid (∀ w2,Below W1.heap.size W1 w2→w2.cell? ⟨0,0,none⟩=some (.iface Tv av)):=fun w2 hb=>by
  rw [World.cell?_of_block (w:=W1) (hb.block _ (World.block_lt_of_cell? _ _ hv))];exact hv
 obtain ⟨n,hn⟩:∃ n,n=s.size:=⟨_,rfl⟩
 clear h hd hv hEq
 go_enter Tryz.func204, Tryz.ntmps204
 go_wp2_with fail
 refine (HRd.out 0 _ _ _ _ _ H0.out h0).mono ?_
 rintro e w2 ⟨rfl,hz⟩
 have H1:=Lh hz;clear hz H0
 go_wp2_with fail
 refine (HMP.out _).mono ?_
 rintro e w2 ⟨rfl,hw_⟩
 subst hw_
 go_wp2_with fail
 go_loopg [0,10,11,13,14,15,20,21,22] s.size (fun gk zv cnt err prev isv ch dv iv dp wr=>∃ (k ii d l c x:Nat) (p:Option Addr),zv=.slice p l c∧cnt=.int .i64 (k:Int)∧(∃ pv:Int,prev=.int .i32 pv∧(k=0∨pv=48))∧isv=.bool false∧dp=.int .i64 (-1)∧dv=.int .u64 (d:Int)∧iv=.int .i64 (ii:Int)∧SI W1 br s (.iface Tv av) gk k ii d p l c x err ch wr)
 case atStart=>exact ⟨0,0,0,0,0,0,none,rfl,rfl,⟨46,rfl,.inl rfl⟩,rfl,rfl,rfl,rfl,by omega,by decide,by decide,rfl,.inr ⟨h0,rfl,rfl,H1.out⟩⟩
 case round =>
  obtain ⟨k,ii,d,l,c,x,p,rfl,rfl,⟨pv,rfl,hpv⟩,rfl,rfl,rfl,rfl,hk,hii,hdd,hval,hcase⟩:=hrel
  have hB:d<BB:=Nat.lt_trans (Nat.lt_of_lt_of_le hdd (QI (show ii≤18 by omega))) (by unfold BB;decide)
  rcases hcase with ⟨rfl,rfl,hz⟩ | ⟨hg0,rfl,rfl,hz⟩
  ·obtain rfl:k=s.size:=by omega
   have hpv2:pv=48:=by omega
   subst hpv2
   have g1:=Hv.out _ hz.st.below
   have g2:=HEq.out _ hz.st.below
   have hlen:=HL.out s.size ii d x l c p _ (Nat.le_refl _) hval hz.nt
   have hzh:=Lh hz;have hvh:=Lh hval;have hlh:=Lh hlen
   have hn0:((s.size:Int) == 0)=false:=beq_eq_false_iff_ne.2 (by omega)
   clear hz hval hlen hpv
   rcases Nat.eq_zero_or_pos ii with hi0 | hi0
   ·subst hi0
    have hd0:d=0:=by simpa using hdd
    subst hd0
    go_wp2_with fail
    refine bodyPost_ret (Q14 rfl _ _ _) rfl ?_
    refine ⟨p,l,c,rfl,?_⟩
    have:=hvh.out
    rw [Nat.pow_zero,Nat.mul_one,Nat.add_zero] at this
    rw [this]
    exact hzh.out
   ·have HPw:=Lh (fun w3=>Qa5 ii hi0 hii w3)
    have hpB:10^ii<BB:=Nat.lt_of_le_of_lt (QI (show ii≤18 by omega)) (by unfold BB;decide)
    have HMA:=Lh (hzh.out.mulAdd hlh.out (10^ii) d hpB hB)
    generalize 10^ii=T at HPw HMA hvh
    have hi1:(0:Int)<(ii:Int):=by omega
    clear hdd hpB
    go_wp2_with fail
    refine (HPw.out _).mono ?_
    rintro e w3 ⟨rfl,hw3⟩
    subst hw3
    go_wp2_with fail
    refine HMA.out.mono ?_
    rintro e w4 ⟨p4,l4,c4,rfl,hz4⟩
    have HZ4:=Lh hz4;clear hz4
    go_wp2_with fail
    refine bodyPost_ret (Q14 rfl _ _ _) rfl ?_
    refine ⟨p4,l4,c4,rfl,?_⟩
    rw [hvh.out]
    exact HZ4.out
  ·obtain ⟨g,rfl⟩:∃ g,gk=g+1:=⟨gk - 1,by omega⟩
   have hks:k<s.size:=by omega
   have hby:=HD.out k hks
   have hvs:valS s (k+1)=x*10^(ii+1)+(d*10+(byteAt s k - 48)):=by
    show valS s k*10+(byteAt s k - 48)=_
    rw [hval,Nat.pow_succ,Nat.add_mul,Nat.mul_assoc,Nat.add_assoc]
   have hdd2:d*10+(byteAt s k - 48)<10^(ii+1):=by rw [Nat.pow_succ];omega
   have hvb:=HVl.out (k+1) (by omega)
   have hlen:=HL.out k ii d x l c p _ (by omega) hval hz.nt
   generalize byteAt s k=ch at hby hvs hdd2
   have hB2:d*10+(ch - 48)<18446744073709551616:=Nat.lt_of_lt_of_le hdd2 (Nat.le_trans (QI (show ii+1≤19 by omega)) (by decide))
   have hpvh:=Lh hpv;have hvsh:=Lh hvs;have hddh:=Lh hdd2;have hzh:=Lh hz;have hlh:=Lh hlen
   have e1:(48:Int)≤(ch:Int):=by omega
   have e2:(ch:Int)≤57:=by omega
   have e3:((ch:Int) == 46)=false:=by simp;omega
   have e4:((ch:Int) == 95)=false:=by simp;omega
   clear hpv hvs hdd2 hz hlen hval hdd hvb
   by_cases h19:ii=18
   ·subst h19
    go_wp2_with fail
    rw [show (d:Int)*10+((ch:Int) - 48)=((d*10+(ch - 48):Nat):Int) by omega]
    refine (hzh.out.mulAdd hlh.out 10000000000000000000 (d*10+(ch - 48)) (by unfold BB;decide) (by unfold BB;exact hB2)).mono ?_
    rintro e w3 ⟨p3,l3,c3,rfl,hz3⟩
    have HZ3:=Lh hz3;clear hz3
    go_wp2_with fail
    rcases Nat.lt_or_ge (k+1) s.size with hk2 | hk2
    ·refine (HRd.out (k+1) _ _ _ _ _ HZ3.out hk2).mono ?_
     rintro e w4 ⟨rfl,hz4⟩
     have HZ4:=Lh hz4;clear hz4
     go_wp2_with fail
     go_roundg g
     case measure=>omega
     case rel=>exact ⟨k+1,0,0,l3,c3,(x*10000000000000000000+(d*10+(ch - 48))),p3,rfl,by first | rfl | (congr 1;omega),⟨48,rfl,.inr rfl⟩,rfl,rfl,by first | rfl | (congr 1;omega),by first | rfl | (congr 1;omega),by omega,by omega,by decide,by rw [hvsh.out];simp,.inr ⟨by omega,rfl,rfl,HZ4.out⟩⟩
    ·have hkk:k+1=s.size:=by omega
     refine (HRe.out _ _ _ _ _ (hkk ▸ HZ3.out)).mono ?_
     rintro e w4 ⟨rfl,hz4⟩
     have HZ4:=Lh hz4;clear hz4
     go_wp2_with fail
     go_roundg g
     case measure=>omega
     case rel=>exact ⟨k+1,0,0,l3,c3,(x*10000000000000000000+(d*10+(ch - 48))),p3,rfl,by first | rfl | (congr 1;omega),⟨48,rfl,.inr rfl⟩,rfl,rfl,by first | rfl | (congr 1;omega),by first | rfl | (congr 1;omega),by omega,by omega,by decide,by rw [hvsh.out];simp,.inl ⟨by omega,rfl,HZ4.out⟩⟩
   ·have h18:(ii:Int)+1≠19:=by omega
    have h18':((ii:Int)+1 == 19)=false:=by simp;omega
    go_wp2_with fail
    rcases Nat.lt_or_ge (k+1) s.size with hk2 | hk2
    ·refine (HRd.out (k+1) _ _ _ _ _ hzh.out hk2).mono ?_
     rintro e w4 ⟨rfl,hz4⟩
     have HZ4:=Lh hz4;clear hz4
     go_wp2_with fail
     go_roundg g
     case measure=>omega
     case rel=>exact ⟨k+1,(ii+1),(d*10+(ch - 48)),l,c,x,p,rfl,by first | rfl | (congr 1;omega),⟨48,rfl,.inr rfl⟩,rfl,rfl,by first | rfl | (congr 1;omega),by first | rfl | (congr 1;omega),by omega,by omega,hddh.out,hvsh.out,.inr ⟨by omega,rfl,rfl,HZ4.out⟩⟩
    ·have hkk:k+1=s.size:=by omega
     refine (HRe.out _ _ _ _ _ (hkk ▸ hzh.out)).mono ?_
     rintro e w4 ⟨rfl,hz4⟩
     have HZ4:=Lh hz4;clear hz4
     go_wp2_with fail
     go_roundg g
     case measure=>omega
     case rel=>exact ⟨k+1,(ii+1),(d*10+(ch - 48)),l,c,x,p,rfl,by first | rfl | (congr 1;omega),⟨48,rfl,.inr rfl⟩,rfl,rfl,by first | rfl | (congr 1;omega),by first | rfl | (congr 1;omega),by omega,by omega,hddh.out,hvsh.out,.inl ⟨by omega,rfl,HZ4.out⟩⟩
end Go.Proofs.YtpebcmfpehdafaaGreatDoor
