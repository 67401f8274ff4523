/- a part of the proof -/
import Derived.Test.YtpfjmeadikdddaaGreatDoorZ26
import Derived.Test.YtpfjmeadikdddaaGreatDoorZ36
import Derived.Test.YtpfjmeadikdddaaGreatDoorZ40
set_option linter.all false
set_option maxRecDepth 100000
set_option maxHeartbeats 16000000
namespace Go.Proofs.YtpfjmeadikdddaaGreatDoor
open Go Go.RowKit
structure BS (w:World) (C X Y:Array Value) (w2:World):Prop where
 cb:w2.heap[w.heap.size]?=some (.cells C 24 (0,0))
 xb:w2.heap[w.heap.size+1]?=some (.cells X 26 (0,0))
 yb:w2.heap[w.heap.size+1+1]?=some (.cells Y 26 (0,0))
 bw:Below w.heap.size w w2
theorem BS.start (w:World)(C X Y:Array Value):BS w C X Y (((w.alloc (.cells C 24)).alloc (.cells X 26)).alloc (.cells Y 26)):=by
 obtain ⟨w1,hw1⟩:∃ w1,w1=w.alloc (.cells C 24):=⟨_,rfl⟩
 have s1:w1.heap.size=w.heap.size+1:=by rw [hw1];simp
 have b0:w1.heap[w.heap.size]?=some (.cells C 24 (0,0)):=by rw [hw1,gal]
 have hB:Below w.heap.size w w1:=by rw [hw1];exact Qf w _
 rw [← hw1]
 obtain ⟨w3,hw3⟩:∃ w3,w3=w1.alloc (.cells X 26):=⟨_,rfl⟩
 have s3:w3.heap.size=w.heap.size+1+1:=by rw [hw3];simp [s1]
 have b1:w3.heap[w1.heap.size]?=some (.cells X 26 (0,0)):=by rw [hw3,gal]
 have b0':w3.heap[w.heap.size]?=some (.cells C 24 (0,0)):=by rw [hw3];exact Qb b0 (Qf _ _)
 have hB3:Below w.heap.size w w3:=by rw [hw3];exact bal hB _
 rw [← hw3]
 rw [s1] at b1
 refine ⟨Qb b0' (Qf _ _),Qb b1 (Qf _ _),?_,bal hB3 _⟩
 rw [← s3,gal]
theorem BS.later {w:World}{C X Y:Array Value}{w2 w3:World}(h:BS w C X Y w2)(hB:Below w2.heap.size w2 w3):BS w C X Y w3 :=
 ⟨Qb h.cb hB,Qb h.xb hB,Qb h.yb hB,Qe h.bw hB⟩
theorem Q2f (f:Int)(n:Bool)(e:Int)(s:ByteArray)(w:World):Calls Tryz.prog 10 #[DV f n e s] w (Says (s.size≤2147483647) w):=by
 have HB:=Lh (fun o=>Qf w o)
 unfold DV
 go_enter Tryz.func10, Tryz.ntmps10
 by_cases hs:(2147483647:Int)<(s.size:Int)
 ·go_wp2_with fail
  go_ret
  exact ⟨false,rfl,⟨fun h=>(by cases h),fun h=>absurd h (by omega)⟩,HB.out _⟩
 ·go_wp2_with fail
  go_ret
  exact ⟨true,rfl,⟨fun _=>by omega,fun _=>rfl⟩,HB.out _⟩
theorem Q2E (p mx mn tr md fx:Int)(nx:Bool)(ex:Int)(sx:ByteArray)(fy:Int)(ny:Bool)(ey:Int)(sy:ByteArray)(hex : -2147483648≤ex∧ex≤2147483647)(hsx:sx.size≤2147483647)(hey : -2147483648≤ey∧ey≤2147483647)(hsy:sy.size≤2147483647)(w:World) :
  Calls Tryz.prog 11 #[CV p mx mn tr md,DV fx nx ex sx,DV fy ny ey sy] w (Says (CtxOk p mx mn md∧ArOk 200 fx ex sx∧ArOk 200 fy ey sy) w):=by
 have HS:=Lh (BS.start w #[.int .u32 p,.int .i32 mx,.int .i32 mn,.int .u32 tr,.int .i64 md] #[.int .i64 fx,.bool nx,.int .i32 ex,.string sx] #[.int .i64 fy,.bool ny,.int .i32 ey,.string sy])
 have HR:Hid (∀ w2,Calls Tryz.prog 27 #[.agg #[.int .u32 p,.int .i32 mx,.int .i32 mn,.int .u32 tr,.int .i64 md]] w2 (Says (CtxOk p mx mn md) w2)):=Lh (fun w2=>Q5m p mx mn tr md w2)
 have HX:Hid (∀ w2,Calls Tryz.prog 28 #[.agg #[.int .i64 fx,.bool nx,.int .i32 ex,.string sx],.int .i64 40,.int .i64 200] w2 (Says (ArOk 200 fx ex sx) w2)):=Lh (fun w2=>Q1J 200 (by omega) fx nx ex sx hex hsx w2)
 have HY:Hid (∀ w2,Calls Tryz.prog 28 #[.agg #[.int .i64 fy,.bool ny,.int .i32 ey,.string sy],.int .i64 40,.int .i64 200] w2 (Says (ArOk 200 fy ey sy) w2)):=Lh (fun w2=>Q1J 200 (by omega) fy ny ey sy hey hsy w2)
 obtain ⟨wA,hwA⟩:∃ wA,wA=((w.alloc (.cells #[.int .u32 p,.int .i32 mx,.int .i32 mn,.int .u32 tr,.int .i64 md] 24)).alloc (.cells #[.int .i64 fx,.bool nx,.int .i32 ex,.string sx] 26)).alloc (.cells #[.int .i64 fy,.bool ny,.int .i32 ey,.string sy] 26):=⟨_,rfl⟩
 rw [← hwA] at HS
 unfold CV DV
 clear hex hsx hey hsy
 have c0:=Q1 HS.out.cb 0 rfl;have c1:=Q1 HS.out.cb 1 rfl;have c2:=Q1 HS.out.cb 2 rfl;have c3:=Q1 HS.out.cb 3 rfl;have c4:=Q1 HS.out.cb 4 rfl
 go_enter Tryz.func11, Tryz.ntmps11
 go_upto_region 1 with (fail)
 rw [← hwA]
 clear hwA
 go_wp2_with fail
 refine (HR.out _).mono ?_
 rintro r w1 ⟨b1,rfl,hb1,hB⟩
 have HS1:=Lh (HS.out.later hB)
 have x0:=Q1 HS1.out.xb 0 rfl;have x1:=Q1 HS1.out.xb 1 rfl;have x2:=Q1 HS1.out.xb 2 rfl;have x3:=Q1 HS1.out.xb 3 rfl
 have HB1:=Lh hb1
 clear hB hb1 c0 c1 c2 c3 c4
 cases b1
 ·go_wp2_with fail
  go_ret
  exact ⟨false,rfl,⟨fun h=>(by cases h),fun h=>(by have:=HB1.out.2 h.1;cases this)⟩,HS1.out.bw⟩
 ·go_wp2_with fail
  refine (HX.out _).mono ?_
  rintro r w2 ⟨b2,rfl,hb2,hB⟩
  have HS2:=Lh (HS1.out.later hB)
  have y0:=Q1 HS2.out.yb 0 rfl;have y1:=Q1 HS2.out.yb 1 rfl;have y2:=Q1 HS2.out.yb 2 rfl;have y3:=Q1 HS2.out.yb 3 rfl
  have HB2:=Lh hb2
  clear hB hb2 x0 x1 x2 x3
  cases b2
  ·go_wp2_with fail
   go_ret
   exact ⟨false,rfl,⟨fun h=>(by cases h),fun h=>(by have:=HB2.out.2 h.2.1;cases this)⟩,HS2.out.bw⟩
  ·go_wp2_with fail
   refine (HY.out _).mono ?_
   rintro r w3 ⟨b3,rfl,hb3,hB⟩
   have HS3:=Lh (HS2.out.later hB)
   have HB3:=Lh hb3
   clear hB hb3 y0 y1 y2 y3
   go_wp2_with fail
   go_ret
   exact ⟨b3,rfl,⟨fun h=>⟨HB1.out.1 trivial,HB2.out.1 trivial,HB3.out.1 h⟩,fun h=>HB3.out.2 h.2.2⟩,HS3.out.bw⟩
theorem Q1h (p:Int)(w:World):Calls Tryz.prog 17 #[.int .u32 p] w fun r w'=>r=.returned (CV p 500 (-500) 0 2)∧Below w.heap.size w w':=by
 have HB:=Lh (fun o=>Qf w o)
 go_enter Tryz.func17, Tryz.ntmps17
 go_wp2_with fail
 exact bodyPost_ret (v:=CV p 500 (-500) 0 2) (by simp [results,Tryz.results17,go_sem,CV]) rfl ⟨rfl,HB.out _⟩
theorem Q5v (c:Nat):decS c=txS c:=rfl
theorem Qa3 (s:ByteArray)(k:Nat)(hk:k≤s.size):valS s k=vl (((s.data.toList.take k).reverse).map fun c=>c.toNat - 48):=by
 induction k with
 | zero=>simp [valS,vl]
 | succ k ih =>
  have hk2:k<s.data.size:=hk
  have hk':k<s.data.toList.length:=by simpa using hk2
  rw [List.take_succ_eq_append_getElem hk',List.reverse_append]
  simp only [List.reverse_cons,List.reverse_nil,List.nil_append,List.singleton_append,List.map_cons]
  rw [valS,ih (by omega),vl]
  have h1:s.data[k]?.getD 48=s.data.toList[k]:=by rw [Array.getElem?_eq_getElem hk2];rfl
  rw [h1];omega
theorem Q2g (s:ByteArray):valS s s.size=vl (sdL s 0):=by
 rw [Qa3 s s.size (Nat.le_refl _)]
 unfold sdL
 rw [List.drop_zero,List.take_of_length_le (by rw [Array.length_toList];exact Nat.le_refl _)]
theorem Canon.digs {s:ByteArray}(h:Canon s)(h40:s.size≤40):Digs s:=⟨h.2.1,by omega,h.1⟩
theorem Canon.val_lt {s:ByteArray}(h:Canon s)(h40:s.size≤40):vl (sdL s 0)<10^40:=by
 have h1:=Q6B (sdL s 0) h.1.sdL
 rw [Q4B] at h1
 exact Nat.lt_of_lt_of_le h1 (Nat.pow_le_pow_right (by decide) (by omega))
theorem Q8Y (md:Nat)(n:Bool)(c d:Nat):rdiv md n c d≤c+1:=by
 have h:=(Q0J md n c d).2
 have:=Nat.div_le_self c (10^d)
 omega
theorem Q2h (p:Nat)(mx mn:Int)(md:Nat)(f:Int)(n:Bool)(c nd res:Nat)(s:Int):(sxF p mx mn md f n c nd res s).c≤c+1∧((sxF p mx mn md f n c nd res s).f=f∨(sxF p mx mn md f n c nd res s).f=1):=by
 unfold sxF
 split
 ·split
  ·exact ⟨Q8Y _ _ _ _,.inl rfl⟩
  ·exact ⟨Nat.le_succ _,.inl rfl⟩
 ·split
  ·exact ⟨Nat.le_succ _,.inr rfl⟩
  ·exact ⟨Nat.le_succ _,.inl rfl⟩
theorem Qa4 (md:Nat)(n:Bool)(c d:Nat):(rdq md n c d).1≤c+1:=by
 have:=Nat.div_le_self c (10^d)
 unfold rdq
 split
 ·show c / 10^d≤c+1;omega
 ·split
  ·show (if ndg (c / 10^d)<ndg (c / 10^d+1) then (c / 10^d+1) / 10 else c / 10^d+1)≤c+1
   split <;> omega
  ·show c / 10^d≤c+1;omega
theorem Q8Z (p:Nat)(mx mn:Int)(md:Nat)(f:Int)(n:Bool)(e:Int)(c:Nat):(rndF p mx mn md f n e c).c≤c+2∧((rndF p mx mn md f n e c).f=f∨(rndF p mx mn md f n e c).f=1):=by
 unfold rndF
 split
 ·have h:=Q2h p mx mn md f n c (ndg c) 0 e
  exact ⟨by omega,h.2⟩
 ·split
  ·have h:=Q2h p mx mn md f n c (ndg c) 32 e
   exact ⟨by show (sxF p mx mn md f n c (ndg c) 32 e).c≤c+2;omega,h.2⟩
  ·split
   ·have h:=Q2h p mx mn md f n (rdq md n c (ndg c - p)).1 (ndg (rdq md n c (ndg c - p)).1) (cutK c (ndg c - p)) (e+(rdq md n c (ndg c - p)).2)
    have h2:=Qa4 md n c (ndg c - p)
    exact ⟨by show (sxF p mx mn md f n (rdq md n c (ndg c - p)).1 (ndg (rdq md n c (ndg c - p)).1) (cutK c (ndg c - p)) (e+(rdq md n c (ndg c - p)).2)).c≤c+2;omega,h.2⟩
   ·have h:=Q2h p mx mn md f n c (ndg c) 0 e
    exact ⟨by omega,h.2⟩
theorem Q6J (k tr:Nat)(hk:k<4096)(h3:k &&& 3=0):badK k (tr % 4096)=decide (k &&& tr≠0):=by
 have h:k &&& (tr % 4096)=k &&& tr:=by
  apply Nat.eq_of_testBit_eq
  intro i
  rw [Nat.testBit_and,Nat.testBit_and,show (4096:Nat)=2^12 from rfl,Nat.testBit_mod_two_pow]
  by_cases hi:i<12
  ·simp [hi]
  ·have:k.testBit i=false:=Nat.testBit_lt_two_pow (Nat.lt_of_lt_of_le hk (by rw [show (4096:Nat)=2^12 from rfl];exact Nat.pow_le_pow_right (by decide) (by omega)))
   rw [this];simp
 unfold badK
 rw [h3,h];simp
theorem Q7D {r:SR}(h:r.known=true):∃ f n e s k v o,SRV r=RsV f n e s k true v o:=by
 unfold SRV
 rw [if_pos h]
 split
 ·exact ⟨_,_,_,_,_,_,_,rfl⟩
 ·exact ⟨_,_,_,_,_,_,_,rfl⟩
theorem Q5w {r:SR}(h:¬ r.known=true):SRV r=RsV 0 false 0 ⟨#[]⟩ 0 false false false:=by
 unfold SRV
 rw [if_neg h]
theorem Q47 {mx:Int}{n:Bool}{e:Int}{c k:Nat}(h:(endS mx n e c k).over=false):(endS mx n e c k).d.f=0:=by
 unfold endS at h ⊢
 split at h
 ·cases h
 ·rename_i q;rw [if_neg q]
theorem Q7E {p:Nat}{mx mn:Int}{md:Nat}{n:Bool}{e:Int}{c:Nat}(h:(finS p mx mn md n e c).known=true)(ho:(finS p mx mn md n e c).over=false):(finS p mx mn md n e c).d.f=0:=by
 unfold finS at h ho ⊢
 repeat' split
 all_goals first | rfl | (simp_all [Q47];done) | (exact Q47 (by simp_all))
theorem QaO:ndg 3=1:=Qi (by decide)
theorem QaD:ndg 333=3:=by rw [QS (by decide),QS (by decide),Qi (by decide)]
theorem QaP:decS 3=⟨#[51]⟩:=by unfold decS decB;rw [QaO];decide
theorem Qa5:decS 333=⟨#[51,51,51]⟩:=by unfold decS decB;rw [QaD];decide
theorem Q1E (d:UInt8)(h:48≤d.toNat∧d.toNat≤57):Digs ⟨#[d]⟩ :=
 ⟨by show 0<1;decide,by show 1≤100;decide,fun k hk=>by
  have:k=0:=by have:k<1:=hk;omega
  subst this;exact h⟩
theorem Q90 {w:World}(hW:GW w){Tv:TypeId}{av:Value}(hE:EOFv w Tv av) :
  Calls Tryz.prog 29 #[.int .i64 0,CV 5 500 (-500) 0 2,DV 0 false 0 ⟨#[49]⟩,DV 0 false 0 ⟨#[50]⟩,.int .i64 0] w fun r w'=>r=.returned (.tuple #[DV 0 false 0 ⟨#[51]⟩,.int .u32 0,.bool false])∧Below w.heap.size w w':=by
 have hR:rndF 5 500 (-500) 2 0 false 0 (1+2)=⟨0,false,0,3,0⟩:=by
  unfold rndF sxF
  rw [show 1+2=3 from rfl,QaO]
  rw [if_neg (by decide),if_neg (by decide),if_neg (by decide),if_neg (by decide),if_neg (by decide),Q0E]
 have h:=Q6I (w:=w) 0 0 5 500 (-500) 0 2 0 false 0 ⟨#[49]⟩ 0 false 0 ⟨#[50]⟩ 0 false 0 3 0 (badK 0 (0 % 4096)) (fun σ w1 bC bX bY bA bO bD bK bF h B=>Q4K hW h hE 0 5 2 0 500 (-500) (by decide) (by decide) (by decide) 0 0 0 (by decide) (by decide) false false 0 0 ⟨#[49]⟩ ⟨#[50]⟩ (Q1E 49 (by decide)) (Q1E 50 (by decide)) (by decide) B 0 false 0 3 0 (by decide) (by unfold BB;decide) (by decide)
  (.inl ⟨rfl,fun τ w1 bk bz bx bu f' n' e' c' h hk hb hx hu hn=>by
   have q:=Q5Z (c:=1) (c':=2) hW h hk (by decide) hb hx hu (hn.2 rfl).2.1 (hn.2 rfl).2.2 (by unfold BB;decide) (by unfold BB;decide) (by decide) (by intro h;cases h)
   rw [hR] at q
   exact q⟩))
 rw [QaP] at h
 exact h
theorem Q91 {w:World}(hW:GW w){Tv:TypeId}{av:Value}(hE:EOFv w Tv av) :
  Calls Tryz.prog 29 #[.int .i64 3,CV 3 500 (-500) 0 2,DV 0 false 0 ⟨#[49]⟩,DV 0 false 0 ⟨#[51]⟩,.int .i64 0] w fun r w'=>r=.returned (.tuple #[DV 0 false (-3) ⟨#[51,51,51]⟩,.int .u32 80,.bool false])∧Below w.heap.size w w':=by
 have h:=Q6I (w:=w) 3 0 3 500 (-500) 0 2 0 false 0 ⟨#[49]⟩ 0 false 0 ⟨#[51]⟩ 0 false (-3) 333 80 (badK 80 (0 % 4096)) (fun σ w1 bC bX bY bA bO bD bK bF h B=>Q4K hW h hE 3 3 2 0 500 (-500) (by decide) (by decide) (by decide) 0 0 0 (by decide) (by decide) false false 0 0 ⟨#[49]⟩ ⟨#[51]⟩ (Q1E 49 (by decide)) (Q1E 51 (by decide)) (by decide) B 0 false (-3) 333 80 (by decide) (by unfold BB;decide) (by decide)
  (.inr (.inl ⟨rfl,fun τ w1 bk bz bx bu f' n' e' c' h hk hb hx hu hn =>
   (QaM hW h hk hb hx hu (hn.2 rfl).2.1 (hn.2 rfl).2.2).mono fun r w' q=>⟨⟨.nilIface,q.1,.inr ⟨by decide,rfl⟩⟩,q.2⟩⟩)))
 rw [Qa5] at h
 exact h
theorem Q3u {w:World}(hW:GW w){Tv:TypeId}{av:Value}(hE:EOFv w Tv av):Calls Tryz.prog 12 #[] w fun r w'=>r=.returned (.bool true)∧Below w.heap.size w w':=by
 have HP5:Hid (∀ w2,Calls Tryz.prog 17 #[.int .u32 5] w2 fun r w'=>r=.returned (.agg #[.int .u32 5,.int .i32 500,.int .i32 (-500),.int .u32 0,.int .i64 2])∧Below w2.heap.size w2 w'):=Lh (fun w2=>Q1h 5 w2)
 have HP3:Hid (∀ w2,Calls Tryz.prog 17 #[.int .u32 3] w2 fun r w'=>r=.returned (.agg #[.int .u32 3,.int .i32 500,.int .i32 (-500),.int .u32 0,.int .i64 2])∧Below w2.heap.size w2 w'):=Lh (fun w2=>Q1h 3 w2)
 have HA:Hid (∀ w2,Below w.heap.size w w2→Calls Tryz.prog 29 #[.int .i64 0,.agg #[.int .u32 5,.int .i32 500,.int .i32 (-500),.int .u32 0,.int .i64 2],.agg #[.int .i64 0,.bool false,.int .i32 0,.string ⟨#[49]⟩],.agg #[.int .i64 0,.bool false,.int .i32 0,.string ⟨#[50]⟩],.int .i64 0] w2 fun r w'=>r=.returned (.tuple #[.agg #[.int .i64 0,.bool false,.int .i32 0,.string ⟨#[51]⟩],.int .u32 0,.bool false])∧Below w2.heap.size w2 w'):=Lh (fun w2 h=>Q90 (hW.later h) (hE.next h))
 have HQ:Hid (∀ w2,Below w.heap.size w w2→Calls Tryz.prog 29 #[.int .i64 3,.agg #[.int .u32 3,.int .i32 500,.int .i32 (-500),.int .u32 0,.int .i64 2],.agg #[.int .i64 0,.bool false,.int .i32 0,.string ⟨#[49]⟩],.agg #[.int .i64 0,.bool false,.int .i32 0,.string ⟨#[51]⟩],.int .i64 0] w2 fun r w'=>r=.returned (.tuple #[.agg #[.int .i64 0,.bool false,.int .i32 (-3),.string ⟨#[51,51,51]⟩],.int .u32 80,.bool false])∧Below w2.heap.size w2 w'):=Lh (fun w2 h=>Q91 (hW.later h) (hE.next h))
 have e1:∀ w2:World,(binOp .eql 9 (.string ⟨#[51]⟩) (.string ⟨#[51]⟩)).run Tryz.prog w2=.ok (.bool true) w2:=fun _=>by kernel_rfl
 have e2:∀ w2:World,(binOp .eql 26 (.agg #[.int .i64 0,.bool false,.int .i32 (-3),.string ⟨#[51,51,51]⟩]) (.agg #[.int .i64 0,.bool false,.int .i32 (-3),.string ⟨#[51,51,51]⟩])).run Tryz.prog w2=.ok (.bool true) w2:=fun _=>by kernel_rfl
 clear hW hE
 go_enter Tryz.func12, Tryz.ntmps12
 go_wp2_with fail
 refine (HP5.out _).mono ?_
 rintro r w1 ⟨rfl,hB⟩
 have HB1:=Lh hB
 clear hB
 go_wp2_with fail
 refine (HA.out _ HB1.out).mono ?_
 rintro r w2 ⟨rfl,hB⟩
 have HB2:=Lh (Qe HB1.out hB)
 clear hB HB1
 go_wp2_with fail
 obtain ⟨w3,hw3⟩:∃ w3,w3=w2.alloc (.cells #[.int .i64 0,.bool false,.int .i32 0,.string ⟨#[51]⟩] 26):=⟨_,rfl⟩
 have HG:Hid (w3.heap[w2.heap.size]?=some (.cells #[.int .i64 0,.bool false,.int .i32 0,.string ⟨#[51]⟩] 26 (0,0))):=Lh (by rw [hw3];exact gal _ _)
 have HB3:Hid (Below w.heap.size w w3):=Lh (by rw [hw3];exact bal HB2.out _)
 rw [← hw3]
 clear hw3 HB2
 generalize w2.heap.size=bd at HG ⊢
 refine (HP3.out _).mono ?_
 rintro r w4 ⟨rfl,hB⟩
 have HG4:=Lh (Qb HG.out hB);have HB4:=Lh (Qe HB3.out hB)
 clear hB HG HB3
 go_wp2_with fail
 refine (HQ.out _ HB4.out).mono ?_
 rintro r w5 ⟨rfl,hB⟩
 have HG5:=Lh (Qb HG4.out hB);have HB5:=Lh (Qe HB4.out hB)
 clear hB HG4 HB4
 go_upto_region 3 with (fail)
 obtain ⟨w6,hw6⟩:∃ w6,w6=w5.alloc (.cells #[.int .i64 0,.bool false,.int .i32 (-3),.string ⟨#[51,51,51]⟩] 26):=⟨_,rfl⟩
 have HH:Hid (w6.heap[w5.heap.size]?=some (.cells #[.int .i64 0,.bool false,.int .i32 (-3),.string ⟨#[51,51,51]⟩] 26 (0,0))):=Lh (by rw [hw6];exact gal _ _)
 have HG6:Hid (w6.heap[bd]?=some (.cells #[.int .i64 0,.bool false,.int .i32 0,.string ⟨#[51]⟩] 26 (0,0))):=Lh (by rw [hw6];exact Qb HG5.out (Qf _ _))
 have HB6:Hid (Below w.heap.size w w6):=Lh (by rw [hw6];exact bal HB5.out _)
 rw [← hw6]
 clear hw6 HB5 HG5
 generalize w5.heap.size=bq at HH ⊢
 have d3:w6.cell? ⟨bd,3,none⟩=some (.string ⟨#[51]⟩):=Q1 HG6.out 3 rfl
 have q0:w6.cell? ⟨bq,0,none⟩=some (.int .i64 0):=Q1 HH.out 0 rfl
 have q1:w6.cell? ⟨bq,1,none⟩=some (.bool false):=Q1 HH.out 1 rfl
 have q2:w6.cell? ⟨bq,2,none⟩=some (.int .i32 (-3)):=Q1 HH.out 2 rfl
 have q3:w6.cell? ⟨bq,3,none⟩=some (.string ⟨#[51,51,51]⟩):=Q1 HH.out 3 rfl
 go_wp2_with fail
 go_ret
 exact ⟨rfl,HB6.out⟩
theorem Q92 {w:World}(hW:GW w){Tv:TypeId}{av:Value}(hE:EOFv w Tv av)(op:Int){al al':Nat}(hoc:((op == 11)=false∧(op == 12)=false∧al'=al)∨((op == 11)=true∧al'=0)∨((op == 11)=false∧(op == 12)=true∧al'=0))(p md tr:Nat)(mx mn:Int)(htr:tr<4294967296)(f fy:Nat)(n ny:Bool)(e ey:Int)(s sy:ByteArray)(A:Value)
  (HAr:∀ w2,Calls Tryz.prog 22 #[.int .i64 op,CV p mx mn tr md,DV f n e s,DV fy ny ey sy] w2 fun r w'=>r=.returned A∧Below w2.heap.size w2 w')
  (hA:(∃ f' n' e' s' k' v' o',A=RsV f' n' e' s' k' false v' o')∨∃ (D:DR) (k:Nat),(∃ f' n' e' s' k' v' o',A=RsV f' n' e' s' k' true v' o')∧k<4096∧(∀ w2,Below w.heap.size w w2→Calls Tryz.prog 29 #[.int .i64 op,CV p mx mn tr md,DV f n e s,DV fy ny ey sy,.int .i64 (al':Int)] w2 fun r w'=>r=.returned (.tuple #[DV D.f D.n D.e (decS D.c),.int .u32 (k:Int),.bool (decide (k &&& tr≠0))])∧Below w2.heap.size w2 w') ∧
   ∀ w2,Calls Tryz.prog 16 #[CV p mx mn tr md,A,DV D.f D.n D.e (decS D.c),.int .u32 (k:Int)] w2 fun r w'=>r=.returned (.bool true)∧Below w2.heap.size w2 w') :
  Calls Tryz.prog 13 #[.int .i64 op,CV p mx mn tr md,DV f n e s,DV fy ny ey sy,.int .i64 (al:Int)] w fun r w'=>r=.returned (.bool true)∧Below w.heap.size w w':=by
 have HS:=Lh (BS.start w #[.int .u32 (p:Int),.int .i32 mx,.int .i32 mn,.int .u32 (tr:Int),.int .i64 (md:Int)] #[.int .i64 (f:Int),.bool n,.int .i32 e,.string s] #[.int .i64 (fy:Int),.bool ny,.int .i32 ey,.string sy])
 have HAl:Hid (∀ w2,Below w.heap.size w w2→Calls Tryz.prog 12 #[] w2 fun r w'=>r=.returned (.bool true)∧Below w2.heap.size w2 w'):=Lh (fun w2 h=>Q3u (hW.later h) (hE.next h))
 obtain ⟨wA,hwA⟩:∃ wA,wA=((w.alloc (.cells #[.int .u32 (p:Int),.int .i32 mx,.int .i32 mn,.int .u32 (tr:Int),.int .i64 (md:Int)] 24)).alloc (.cells #[.int .i64 (f:Int),.bool n,.int .i32 e,.string s] 26)).alloc (.cells #[.int .i64 (fy:Int),.bool ny,.int .i32 ey,.string sy] 26):=⟨_,rfl⟩
 rw [← hwA] at HS
 have HARo:=Lh HAr
 have HAo:=Lh hA
 clear HAr hA hW hE
 unfold CV DV at HARo HAo
 unfold CV DV
 have c0:=Q1 HS.out.cb 0 rfl;have c1:=Q1 HS.out.cb 1 rfl;have c2:=Q1 HS.out.cb 2 rfl;have c3:=Q1 HS.out.cb 3 rfl;have c4:=Q1 HS.out.cb 4 rfl
 have x0:=Q1 HS.out.xb 0 rfl;have x1:=Q1 HS.out.xb 1 rfl;have x2:=Q1 HS.out.xb 2 rfl;have x3:=Q1 HS.out.xb 3 rfl
 have y0:=Q1 HS.out.yb 0 rfl;have y1:=Q1 HS.out.yb 1 rfl;have y2:=Q1 HS.out.yb 2 rfl;have y3:=Q1 HS.out.yb 3 rfl
 go_enter Tryz.func13, Tryz.ntmps13
 go_upto_region 1 with (fail)
 rw [← hwA]
 clear hwA
 go_wp2_with fail
 refine (HARo.out _).mono ?_
 rintro r w1 ⟨rfl,hB⟩
 have HS1:=Lh (HS.out.later hB)
 clear hB c0 c1 c2 c3 c4 x0 x1 x2 x3 y0 y1 y2 y3
 rcases HAo.out with ⟨f',n',e',s',k',v',o',hA⟩ | ⟨D,k,⟨f',n',e',s',k',v',o',hA⟩,hk,hDo,hSm⟩
 ·unfold RsV at hA
  subst hA
  clear HAo HARo
  go_upto_region 2 with (fail)
  obtain ⟨w2,hw2⟩:∃ w2,w2=w1.alloc (.cells #[.int .i64 f',.bool n',.int .i32 e',.string s',.int .u32 (k':Int),.bool false,.bool v',.bool o'] 34):=⟨_,rfl⟩
  have hr:w2.heap[w1.heap.size]?=some (.cells #[.int .i64 f',.bool n',.int .i32 e',.string s',.int .u32 (k':Int),.bool false,.bool v',.bool o'] 34 (0,0)):=by rw [hw2];exact gal _ _
  have HB2:Hid (Below w.heap.size w w2):=Lh (by rw [hw2];exact bal HS1.out.bw _)
  have r5:w2.cell? ⟨w1.heap.size,5,none⟩=some (.bool false):=Q1 hr 5 rfl
  rw [← hw2]
  clear hw2 hr
  go_wp2_with fail
  refine (HAl.out _ HB2.out).mono ?_
  rintro r w3 ⟨rfl,hB⟩
  have HB3:=Lh (Qe HB2.out hB)
  clear hB r5
  go_wp2_with fail
  go_ret
  exact ⟨rfl,HB3.out⟩
 ·unfold RsV at hA
  subst hA
  have HDo:=Lh hDo;have HSm:=Lh hSm;have HK:=Lh hk
  clear HAo HARo hDo hSm hk
  generalize decS D.c=ds at HDo HSm
  generalize D.f=df at HDo HSm
  generalize D.n=dn at HDo HSm
  generalize D.e=de at HDo HSm
  go_upto_region 2 with (fail)
  obtain ⟨w2,hw2⟩:∃ w2,w2=w1.alloc (.cells #[.int .i64 f',.bool n',.int .i32 e',.string s',.int .u32 (k':Int),.bool true,.bool v',.bool o'] 34):=⟨_,rfl⟩
  have hr:w2.heap[w1.heap.size]?=some (.cells #[.int .i64 f',.bool n',.int .i32 e',.string s',.int .u32 (k':Int),.bool true,.bool v',.bool o'] 34 (0,0)):=by rw [hw2];exact gal _ _
  have HR2:=Lh hr
  have HS2:Hid (BS w _ _ _ w2):=Lh (by rw [hw2];exact HS1.out.later (Qf _ _))
  have r5:w2.cell? ⟨w1.heap.size,5,none⟩=some (.bool true):=Q1 hr 5 rfl
  rw [← hw2]
  clear hw2 hr HS1
  generalize w1.heap.size=br at HR2 r5 ⊢
  have c0:=Q1 HS2.out.cb 0 rfl;have c1:=Q1 HS2.out.cb 1 rfl;have c2:=Q1 HS2.out.cb 2 rfl;have c3:=Q1 HS2.out.cb 3 rfl;have c4:=Q1 HS2.out.cb 4 rfl
  have x0:=Q1 HS2.out.xb 0 rfl;have x1:=Q1 HS2.out.xb 1 rfl;have x2:=Q1 HS2.out.xb 2 rfl;have x3:=Q1 HS2.out.xb 3 rfl
  have y0:=Q1 HS2.out.yb 0 rfl;have y1:=Q1 HS2.out.yb 1 rfl;have y2:=Q1 HS2.out.yb 2 rfl;have y3:=Q1 HS2.out.yb 3 rfl
  rcases hoc with ⟨o11,o12,rfl⟩ | ⟨o11,rfl⟩ | ⟨o11,o12,rfl⟩
  all_goals
   go_wp2_with fail
   refine (HDo.out _ HS2.out.bw).mono ?_
   rintro r w3 ⟨rfl,hB⟩
   have HR3:=Lh (Qb HR2.out hB)
   have HS3:=Lh (HS2.out.later hB)
   clear hB c0 c1 c2 c3 c4 x0 x1 x2 x3 y0 y1 y2 y3 r5 HR2 HS2
   go_upto_region 7 with (fail)
   obtain ⟨w4,hw4⟩:∃ w4,w4=w3.alloc (.cells #[.int .i64 df,.bool dn,.int .i32 de,.string ds] 26):=⟨_,rfl⟩
   have HD4:Hid (w4.heap[w3.heap.size]?=some (.cells #[.int .i64 df,.bool dn,.int .i32 de,.string ds] 26 (0,0))):=Lh (by rw [hw4];exact gal _ _)
   have HR4:Hid (w4.heap[br]?=some (.cells #[.int .i64 f',.bool n',.int .i32 e',.string s',.int .u32 (k':Int),.bool true,.bool v',.bool o'] 34 (0,0))):=Lh (by rw [hw4];exact Qb HR3.out (Qf _ _))
   have HS4:Hid (BS w _ _ _ w4):=Lh (by rw [hw4];exact HS3.out.later (Qf _ _))
   rw [← hw4]
   clear hw4 HR3 HS3
   generalize w3.heap.size=bd at HD4 ⊢
   go_wp2_with fail
   refine (HAl.out _ HS4.out.bw).mono ?_
   rintro r w5 ⟨rfl,hB⟩
   have HR5:=Lh (Qb HR4.out hB)
   have HD5:=Lh (Qb HD4.out hB)
   have HS5:=Lh (HS4.out.later hB)
   clear hB HR4 HD4 HS4
   have c0:=Q1 HS5.out.cb 0 rfl;have c1:=Q1 HS5.out.cb 1 rfl;have c2:=Q1 HS5.out.cb 2 rfl;have c3:=Q1 HS5.out.cb 3 rfl;have c4:=Q1 HS5.out.cb 4 rfl
   have r0:=Q1 HR5.out 0 rfl;have r1:=Q1 HR5.out 1 rfl;have r2:=Q1 HR5.out 2 rfl;have r3:=Q1 HR5.out 3 rfl;have r4:=Q1 HR5.out 4 rfl;have r5:=Q1 HR5.out 5 rfl;have r6:=Q1 HR5.out 6 rfl;have r7:=Q1 HR5.out 7 rfl
   have d0:=Q1 HD5.out 0 rfl;have d1:=Q1 HD5.out 1 rfl;have d2:=Q1 HD5.out 2 rfl;have d3:=Q1 HD5.out 3 rfl
   go_wp2_with fail
   refine (HSm.out _).mono ?_
   rintro r w6 ⟨rfl,hB⟩
   have HS6:=Lh (HS5.out.later hB)
   clear hB HR5 HD5 HS5 c0 c1 c2 c3 c4 r0 r1 r2 r3 r4 r5 r6 r7 d0 d1 d2 d3
   have c3:=Q1 HS6.out.cb 3 rfl
   have hA:bits .and .u32 (k:Int) (tr:Int)=((k &&& tr:Nat):Int):=u32_and_nat k tr (by have:=HK.out;omega) (by omega)
   generalize k &&& tr=z at hA ⊢
   by_cases hz:z=0
   ·subst hz
    go_wp2_with fail
    go_ret
    exact ⟨rfl,HS6.out.bw⟩
   ·have hz1:((z:Int) == 0)=false:=by simp;omega
    have hz2:((z:Int) != 0)=true:=by simp;omega
    have hz3:((z:Int)=0)=False:=by simp;omega
    go_wp2_with fail
    go_ret
    exact ⟨rfl,HS6.out.bw⟩
theorem ArOk.other {E f e:Int}{s:ByteArray}(h:ArOk E f e s)(hf:f≠0):vl (sdL s 0)=0∧e=0:=by
 unfold ArOk at h
 rw [if_neg hf] at h
 exact ⟨(Q3p h.2.2.2).2.2,h.2.2.1⟩
end Go.Proofs.YtpfjmeadikdddaaGreatDoor
