/- a part of the proof -/
import Derived.Test.YtpebcmfpehdafaaGreatDoorZ16
import Derived.Test.YtpebcmfpehdafaaGreatDoorZ18
import Derived.Test.YtpebcmfpehdafaaGreatDoorZ33
set_option linter.all false
set_option maxRecDepth 100000
set_option maxHeartbeats 16000000
namespace Go.Proofs.YtpebcmfpehdafaaGreatDoor
open Go Go.RowKit
theorem Qbd (c:Nat):decS c=txS c:=rfl
theorem Q9x (s:ByteArray)(k:Nat)(hk:k≤s.size):valS s k=vl (((s.data.toList.take k).reverse).map fun c=>c.toNat - 48):=by
 induction k with
 | zero=>simp [valS,vl]
 | succ k ih =>
  have hk2:k<s.data.size:=hk
  have hk':k<s.data.toList.length:=by simpa using hk2
  rw [List.take_succ_eq_append_getElem hk',List.reverse_append]
  simp only [List.reverse_cons,List.reverse_nil,List.nil_append,List.singleton_append,List.map_cons]
  rw [valS,ih (by omega),vl]
  have h1:s.data[k]?.getD 48=s.data.toList[k]:=by rw [Array.getElem?_eq_getElem hk2];rfl
  rw [h1];omega
theorem Q8t (s:ByteArray):valS s s.size=vl (sdL s 0):=by
 rw [Q9x s s.size (Nat.le_refl _)]
 unfold sdL
 rw [List.drop_zero,List.take_of_length_le (by rw [Array.length_toList];exact Nat.le_refl _)]
theorem Canon.digs {s:ByteArray}(h:Canon s)(h40:s.size≤40):Digs s:=⟨h.2.1,by omega,h.1⟩
theorem Canon.val_lt {s:ByteArray}(h:Canon s)(h40:s.size≤40):vl (sdL s 0)<10^40:=by
 have h1:=Q65 (sdL s 0) h.1.sdL
 rw [Q48] at h1
 exact Nat.lt_of_lt_of_le h1 (Nat.pow_le_pow_right (by decide) (by omega))
theorem Qbn (k tr:Nat)(hk:k<4096)(h3:k &&& 3=0):badK k (tr % 4096)=decide (k &&& tr≠0):=by
 have h:k &&& (tr % 4096)=k &&& tr:=by
  apply Nat.eq_of_testBit_eq
  intro i
  rw [Nat.testBit_and,Nat.testBit_and,show (4096:Nat)=2^12 from rfl,Nat.testBit_mod_two_pow]
  by_cases hi:i<12
  ·simp [hi]
  ·have:k.testBit i=false:=Nat.testBit_lt_two_pow (Nat.lt_of_lt_of_le hk (by rw [show (4096:Nat)=2^12 from rfl];exact Nat.pow_le_pow_right (by decide) (by omega)))
   rw [this];simp
 unfold badK
 rw [h3,h];simp
structure BS (w:World) (C X Y:Array Value) (w2:World):Prop where
 cb:w2.heap[w.heap.size]?=some (.cells C 24 (0,0))
 xb:w2.heap[w.heap.size+1]?=some (.cells X 26 (0,0))
 yb:w2.heap[w.heap.size+1+1]?=some (.cells Y 26 (0,0))
 bw:Below w.heap.size w w2
theorem BS.start (w:World)(C X Y:Array Value):BS w C X Y (((w.alloc (.cells C 24)).alloc (.cells X 26)).alloc (.cells Y 26)):=by
 obtain ⟨w1,hw1⟩:∃ w1,w1=w.alloc (.cells C 24):=⟨_,rfl⟩
 have s1:w1.heap.size=w.heap.size+1:=by rw [hw1];simp
 have b0:w1.heap[w.heap.size]?=some (.cells C 24 (0,0)):=by rw [hw1,gal]
 have hB:Below w.heap.size w w1:=by rw [hw1];exact Qm w _
 rw [← hw1]
 obtain ⟨w3,hw3⟩:∃ w3,w3=w1.alloc (.cells X 26):=⟨_,rfl⟩
 have s3:w3.heap.size=w.heap.size+1+1:=by rw [hw3];simp [s1]
 have b1:w3.heap[w1.heap.size]?=some (.cells X 26 (0,0)):=by rw [hw3,gal]
 have b0':w3.heap[w.heap.size]?=some (.cells C 24 (0,0)):=by rw [hw3];exact Qb b0 (Qm _ _)
 have hB3:Below w.heap.size w w3:=by rw [hw3];exact bal hB _
 rw [← hw3]
 rw [s1] at b1
 refine ⟨Qb b0' (Qm _ _),Qb b1 (Qm _ _),?_,bal hB3 _⟩
 rw [← s3,gal]
theorem BS.later {w:World}{C X Y:Array Value}{w2 w3:World}(h:BS w C X Y w2)(hB:Below w2.heap.size w2 w3):BS w C X Y w3 :=
 ⟨Qb h.cb hB,Qb h.xb hB,Qb h.yb hB,Qd h.bw hB⟩
theorem Q8C (f:Int)(n:Bool)(e:Int)(s:ByteArray)(w:World):Calls Tryz.prog 7 #[DV f n e s] w (Says (s.size≤2147483647) w):=by
 have HB:=Lh (fun o=>Qm w o)
 unfold DV
 go_enter Tryz.func7, Tryz.ntmps7
 by_cases hs:(2147483647:Int)<(s.size:Int)
 ·go_wp2_with fail
  go_ret
  exact ⟨false,rfl,⟨fun h=>(by cases h),fun h=>absurd h (by omega)⟩,HB.out _⟩
 ·go_wp2_with fail
  go_ret
  exact ⟨true,rfl,⟨fun _=>by omega,fun _=>rfl⟩,HB.out _⟩
theorem Q58 (p mx mn tr md fx:Int)(nx:Bool)(ex:Int)(sx:ByteArray)(fy:Int)(ny:Bool)(ey:Int)(sy:ByteArray)(hex : -2147483648≤ex∧ex≤2147483647)(hsx:sx.size≤2147483647)(hey : -2147483648≤ey∧ey≤2147483647)(hsy:sy.size≤2147483647)(w:World) :
  Calls Tryz.prog 8 #[CV p mx mn tr md,DV fx nx ex sx,DV fy ny ey sy] w (Says (CtxOk p mx mn md∧ArOk 200 fx ex sx∧ArOk 200 fy ey sy) w):=by
 have HS:=Lh (BS.start w #[.int .u32 p,.int .i32 mx,.int .i32 mn,.int .u32 tr,.int .i64 md] #[.int .i64 fx,.bool nx,.int .i32 ex,.string sx] #[.int .i64 fy,.bool ny,.int .i32 ey,.string sy])
 have HR:Hid (∀ w2,Calls Tryz.prog 15 #[.agg #[.int .u32 p,.int .i32 mx,.int .i32 mn,.int .u32 tr,.int .i64 md]] w2 (Says (CtxOk p mx mn md) w2)):=Lh (fun w2=>Q4M p mx mn tr md w2)
 have HX:Hid (∀ w2,Calls Tryz.prog 16 #[.agg #[.int .i64 fx,.bool nx,.int .i32 ex,.string sx],.int .i64 40,.int .i64 200] w2 (Says (ArOk 200 fx ex sx) w2)):=Lh (fun w2=>Q1w 200 (by omega) fx nx ex sx hex hsx w2)
 have HY:Hid (∀ w2,Calls Tryz.prog 16 #[.agg #[.int .i64 fy,.bool ny,.int .i32 ey,.string sy],.int .i64 40,.int .i64 200] w2 (Says (ArOk 200 fy ey sy) w2)):=Lh (fun w2=>Q1w 200 (by omega) fy ny ey sy hey hsy w2)
 obtain ⟨wA,hwA⟩:∃ wA,wA=((w.alloc (.cells #[.int .u32 p,.int .i32 mx,.int .i32 mn,.int .u32 tr,.int .i64 md] 24)).alloc (.cells #[.int .i64 fx,.bool nx,.int .i32 ex,.string sx] 26)).alloc (.cells #[.int .i64 fy,.bool ny,.int .i32 ey,.string sy] 26):=⟨_,rfl⟩
 rw [← hwA] at HS
 unfold CV DV
 clear hex hsx hey hsy
 have c0:=Qc HS.out.cb 0 rfl;have c1:=Qc HS.out.cb 1 rfl;have c2:=Qc HS.out.cb 2 rfl;have c3:=Qc HS.out.cb 3 rfl;have c4:=Qc HS.out.cb 4 rfl
 go_enter Tryz.func8, Tryz.ntmps8
 go_upto_region 1 with (fail)
 rw [← hwA]
 clear hwA
 go_wp2_with fail
 refine (HR.out _).mono ?_
 rintro r w1 ⟨b1,rfl,hb1,hB⟩
 have HS1:=Lh (HS.out.later hB)
 have x0:=Qc HS1.out.xb 0 rfl;have x1:=Qc HS1.out.xb 1 rfl;have x2:=Qc HS1.out.xb 2 rfl;have x3:=Qc HS1.out.xb 3 rfl
 have HB1:=Lh hb1
 clear hB hb1 c0 c1 c2 c3 c4
 cases b1
 ·go_wp2_with fail
  go_ret
  exact ⟨false,rfl,⟨fun h=>(by cases h),fun h=>(by have:=HB1.out.2 h.1;cases this)⟩,HS1.out.bw⟩
 ·go_wp2_with fail
  refine (HX.out _).mono ?_
  rintro r w2 ⟨b2,rfl,hb2,hB⟩
  have HS2:=Lh (HS1.out.later hB)
  have y0:=Qc HS2.out.yb 0 rfl;have y1:=Qc HS2.out.yb 1 rfl;have y2:=Qc HS2.out.yb 2 rfl;have y3:=Qc HS2.out.yb 3 rfl
  have HB2:=Lh hb2
  clear hB hb2 x0 x1 x2 x3
  cases b2
  ·go_wp2_with fail
   go_ret
   exact ⟨false,rfl,⟨fun h=>(by cases h),fun h=>(by have:=HB2.out.2 h.2.1;cases this)⟩,HS2.out.bw⟩
  ·go_wp2_with fail
   refine (HY.out _).mono ?_
   rintro r w3 ⟨b3,rfl,hb3,hB⟩
   have HS3:=Lh (HS2.out.later hB)
   have HB3:=Lh hb3
   clear hB hb3 y0 y1 y2 y3
   go_wp2_with fail
   go_ret
   exact ⟨b3,rfl,⟨fun h=>⟨HB1.out.1 trivial,HB2.out.1 trivial,HB3.out.1 h⟩,fun h=>HB3.out.2 h.2.2⟩,HS3.out.bw⟩
theorem Q17 (p:Int)(w:World):Calls Tryz.prog 18 #[.int .u32 p] w fun r w'=>r=.returned (CV p 500 (-500) 0 2)∧Below w.heap.size w w':=by
 have HB:=Lh (fun o=>Qm w o)
 go_enter Tryz.func18, Tryz.ntmps18
 go_wp2_with fail
 exact bodyPost_ret (v:=CV p 500 (-500) 0 2) (by simp [results,Tryz.results18,go_sem,CV]) rfl ⟨rfl,HB.out _⟩
end Go.Proofs.YtpebcmfpehdafaaGreatDoor
