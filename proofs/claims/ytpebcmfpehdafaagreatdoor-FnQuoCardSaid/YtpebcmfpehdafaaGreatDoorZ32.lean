/- a part of the proof -/
import Derived.Test.YtpebcmfpehdafaaGreatDoorZ8
import Derived.Test.YtpebcmfpehdafaaGreatDoorZ31
set_option linter.all false
set_option maxRecDepth 100000
set_option maxHeartbeats 16000000
namespace Go.Proofs.YtpebcmfpehdafaaGreatDoor
open Go Go.RowKit
theorem Q5O (m:Nat)(hm:m<8)(w:World):Calls Tryz.prog 64 #[.int .i64 (m:Int)] w fun e w'=>e=.returned (.string (rndS m))∧w'=w:=by
  rcases (show m=0∨m=1∨m=2∨m=3∨m=4∨m=5∨m=6∨m=7 by omega) with rfl | rfl | rfl | rfl | rfl | rfl | rfl | rfl <;>
  (go_enter Tryz.func64, Tryz.ntmps64
   go_wp2_with fail
   go_ret
   exact ⟨rfl,rfl⟩)
theorem Q2H {W:World}{σ:Sg}{w:World}(h:St W σ w){Tv:TypeId}{av:Value}(hE:EOFv W Tv av)(fi:Int)(n:Bool)(e:Int)(s:ByteArray)(hs:Digs s)(T:TypeId) :
  ((w.alloc (.cells #[.int .i64 fi,.bool n,.int .i32 e,.string s] T)).alloc (.cells #[.int .i8 fi,.bool n,.int .i32 e,.bool false,.slice none 0 0] 71)).cell? ⟨w.heap.size,3,none⟩=some (.string s) ∧
  ∀ w2,SM ((w.alloc (.cells #[.int .i64 fi,.bool n,.int .i32 e,.string s] T)).alloc (.cells #[.int .i8 fi,.bool n,.int .i32 e,.bool false,.slice none 0 0] 71)) w2→Calls Tryz.prog 62 #[.pointer (some ⟨w.heap.size+1,3,none⟩),.string s,.int .i64 10] w2 fun r w'=>r=.returned (.tuple #[.pointer (some ⟨w.heap.size+1,3,none⟩),.bool true])∧St W (upd σ (w.heap.size+1) (.dec fi n e (valS s s.size:Nat))) w':=by
 refine ⟨?_,fun w2 hw=>?_⟩
 ·rw [World.cell?_of_block (w:=w.alloc (.cells #[.int .i64 fi,.bool n,.int .i32 e,.string s] T)) (Below.heap_alloc _ _ _ (by simp))]
  exact Qk _ _ _ _ 3
 ·have h2:=(h.alloc_any (.cells #[.int .i64 fi,.bool n,.int .i32 e,.string s] T)).alloc_dec 71 fi e n
  rw [Q01] at h2
  have hc:w2.cell? ⟨w.heap.size+1,4,none⟩=some (.slice none 0 0):=by
   rw [hw.cell]
   have:=Qk (w.alloc (.cells #[.int .i64 fi,.bool n,.int .i32 e,.string s] T)) #[.int .i8 fi,.bool n,.int .i32 e,.bool false,.slice none 0 0] 71 (0,0) 4
   rw [Q01] at this
   exact this
  refine (Q4p (hw.st h2) (Num.dec (Q1 _ _ _)) hc hs hE).mono ?_
  rintro r w' ⟨rfl,q⟩
  exact ⟨rfl,q.decN⟩
theorem Q5P {W:World}{σ:Sg}{w:World}(h:St W σ w){Tv:TypeId}{av:Value}(hE:EOFv W Tv av)(f:Nat)(hf:f<4)(n:Bool)(e:Int)(s:ByteArray)(hs:Digs s) :
  Calls Tryz.prog 28 #[.agg #[.int .i64 (f:Int),.bool n,.int .i32 e,.string s]] w fun r w'=>∃ b,r=.returned (.pointer (some ⟨b,0,none⟩))∧σ b=none∧St W (upd σ b (.dec (f:Int) n e (valS s s.size:Nat))) w':=by
 have hse:s.toList.isEmpty=false:=by
  rw [ByteArray.toList_eq]
  have h1:0<s.data.toList.length:=hs.1
  cases hc:s.data.toList with
  | nil=>rw [hc] at h1;exact absurd h1 (by decide)
  | cons x l=>rfl
 have hn:σ (w.heap.size+1)=none:=by
  have:=(h.alloc_any (.cells #[] 0)).none_new
  rw [Q01] at this
  exact this
 rcases (show f=0∨f=1∨f=2∨f=3 by omega) with rfl | rfl | rfl | rfl
 ·have HS:=Lh (Q2H h hE (0:Int) n e s hs 26)
  have c3:=HS.out.1
  clear h hE hs
  go_enter Tryz.func28, Tryz.ntmps28
  go_wp2_with fail
  generalize (w.alloc (.cells #[.int .i64 0,.bool n,.int .i32 e,.string s] 26)).alloc (.cells #[.int .i8 0,.bool n,.int .i32 e,.bool false,.slice none 0 0] 71)=w2 at HS c3 ⊢
  go_still_tail 5,(by kernel_rfl)
  go_wp2_with fail
  refine (HS.out.2 _ (SM.refl _).drew).mono ?_
  rintro r w1 ⟨rfl,q⟩
  have H1:=Lh q;clear q HS
  go_wp2_with fail
  go_ret
  exact ⟨_,rfl,hn,H1.out⟩
 ·have HS:=Lh (Q2H h hE (1:Int) n e s hs 26)
  have c3:=HS.out.1
  clear h hE hs
  go_enter Tryz.func28, Tryz.ntmps28
  go_wp2_with fail
  generalize (w.alloc (.cells #[.int .i64 1,.bool n,.int .i32 e,.string s] 26)).alloc (.cells #[.int .i8 1,.bool n,.int .i32 e,.bool false,.slice none 0 0] 71)=w2 at HS c3 ⊢
  go_still_tail 5,(by kernel_rfl)
  go_wp2_with fail
  refine (HS.out.2 _ (SM.refl _).drew).mono ?_
  rintro r w1 ⟨rfl,q⟩
  have H1:=Lh q;clear q HS
  go_wp2_with fail
  go_ret
  exact ⟨_,rfl,hn,H1.out⟩
 ·have HS:=Lh (Q2H h hE (2:Int) n e s hs 26)
  have c3:=HS.out.1
  clear h hE hs
  go_enter Tryz.func28, Tryz.ntmps28
  go_wp2_with fail
  generalize (w.alloc (.cells #[.int .i64 2,.bool n,.int .i32 e,.string s] 26)).alloc (.cells #[.int .i8 2,.bool n,.int .i32 e,.bool false,.slice none 0 0] 71)=w2 at HS c3 ⊢
  go_still_tail 5,(by kernel_rfl)
  go_wp2_with fail
  refine (HS.out.2 _ (SM.refl _).drew).mono ?_
  rintro r w1 ⟨rfl,q⟩
  have H1:=Lh q;clear q HS
  go_wp2_with fail
  go_ret
  exact ⟨_,rfl,hn,H1.out⟩
 ·have HS:=Lh (Q2H h hE (3:Int) n e s hs 26)
  have c3:=HS.out.1
  clear h hE hs
  go_enter Tryz.func28, Tryz.ntmps28
  go_wp2_with fail
  generalize (w.alloc (.cells #[.int .i64 3,.bool n,.int .i32 e,.string s] 26)).alloc (.cells #[.int .i8 3,.bool n,.int .i32 e,.bool false,.slice none 0 0] 71)=w2 at HS c3 ⊢
  go_still_tail 5,(by kernel_rfl)
  go_wp2_with fail
  refine (HS.out.2 _ (SM.refl _).drew).mono ?_
  rintro r w1 ⟨rfl,q⟩
  have H1:=Lh q;clear q HS
  go_wp2_with fail
  go_ret
  exact ⟨_,rfl,hn,H1.out⟩
theorem Q1x (w:World):Calls Tryz.prog 71 #[] w fun e w'=>e=.returned (.slice (some ⟨w.heap.size,0,none⟩) 12 12)∧w'=w.alloc (.cells #[.int .u32 1,.int .u32 2,.int .u32 4,.int .u32 8,.int .u32 16,.int .u32 32,.int .u32 64,.int .u32 128,.int .u32 256,.int .u32 512,.int .u32 1024,.int .u32 2048] 72):=by
 go_enter Tryz.func71, Tryz.ntmps71
 go_wp2_with fail
 go_ret
 exact ⟨rfl,rfl⟩
def tdOk (c k:Nat):Bool:=((c &&& 2^k) == 0 && c % 2^(k+1) == c % 2^k) || ((c &&& 2^k) == 2^k && ((c % 2^k) ||| 2^k) == c % 2^(k+1))
theorem Q8q:(List.range 12).all (fun k=>(List.range 4096).all fun q=>tdOk q k)=true:=by kernel_rfl
theorem td {c k:Nat}(hk:k<12)(hc:c<4096):((c &&& 2^k)=0∧c % 2^(k+1)=c % 2^k)∨((c &&& 2^k)=2^k∧((c % 2^k) ||| 2^k)=c % 2^(k+1)):=by
 have h1:=List.all_eq_true.1 (List.all_eq_true.1 Q8q k (List.mem_range.2 hk)) c (List.mem_range.2 hc)
 unfold tdOk at h1
 simpa only [Bool.or_eq_true,Bool.and_eq_true,beq_iff_eq] using h1
theorem Q6n (c:Nat)(hc:c<4096)(w:World):Calls Tryz.prog 32 #[.int .u32 (c:Int)] w fun e w'=>e=.returned (.int .u32 (c:Int))∧∃ o,w'=w.alloc o:=by
 have HCo:=Lh (Q1x w)
 go_enter Tryz.func32, Tryz.ntmps32
 go_wp2_with fail
 refine HCo.out.mono ?_
 rintro e w1 ⟨rfl,hw1⟩
 have HW:=Lh hw1
 have c0:w1.cell? ⟨w.heap.size,0,none⟩=some (.int .u32 1):=by rw [hw1];exact Qk _ _ _ _ 0
 have c1:w1.cell? ⟨w.heap.size,1,none⟩=some (.int .u32 2):=by rw [hw1];exact Qk _ _ _ _ 1
 have c2:w1.cell? ⟨w.heap.size,2,none⟩=some (.int .u32 4):=by rw [hw1];exact Qk _ _ _ _ 2
 have c3:w1.cell? ⟨w.heap.size,3,none⟩=some (.int .u32 8):=by rw [hw1];exact Qk _ _ _ _ 3
 have c4:w1.cell? ⟨w.heap.size,4,none⟩=some (.int .u32 16):=by rw [hw1];exact Qk _ _ _ _ 4
 have c5:w1.cell? ⟨w.heap.size,5,none⟩=some (.int .u32 32):=by rw [hw1];exact Qk _ _ _ _ 5
 have c6:w1.cell? ⟨w.heap.size,6,none⟩=some (.int .u32 64):=by rw [hw1];exact Qk _ _ _ _ 6
 have c7:w1.cell? ⟨w.heap.size,7,none⟩=some (.int .u32 128):=by rw [hw1];exact Qk _ _ _ _ 7
 have c8:w1.cell? ⟨w.heap.size,8,none⟩=some (.int .u32 256):=by rw [hw1];exact Qk _ _ _ _ 8
 have c9:w1.cell? ⟨w.heap.size,9,none⟩=some (.int .u32 512):=by rw [hw1];exact Qk _ _ _ _ 9
 have c10:w1.cell? ⟨w.heap.size,10,none⟩=some (.int .u32 1024):=by rw [hw1];exact Qk _ _ _ _ 10
 have c11:w1.cell? ⟨w.heap.size,11,none⟩=some (.int .u32 2048):=by rw [hw1];exact Qk _ _ _ _ 11
 clear hw1 HCo
 generalize w.heap.size=bs at *
 go_wp2_with fail
 go_loop [3,8] (fun nv iv=>∃ k:Nat,k≤12∧iv=.int .i64 (k:Int)∧nv=.int .u32 ((c % 2^k:Nat):Int)) (fun _ i=>12 - (intOf i).toNat)
 case atStart=>exact ⟨0,by omega,rfl,by rw [Nat.pow_zero,Nat.mod_one];rfl⟩
 case round =>
  obtain ⟨k,hk,hie,hne⟩:=hrel
  by_cases hk12:k=12
  ·subst hk12
   replace hie:_=Value.int .i64 12:=hie
   subst hie
   rw [Nat.mod_eq_of_lt (by simpa using hc)] at hne
   subst hne
   go_wp2_with fail
   go_ret
   exact ⟨rfl,_,HW.out⟩
  ·have htd:=td (show k<12 by omega) hc
   rcases (show k=0∨k=1∨k=2∨k=3∨k=4∨k=5∨k=6∨k=7∨k=8∨k=9∨k=10∨k=11 by omega) with rfl | rfl | rfl | rfl | rfl | rfl | rfl | rfl | rfl | rfl | rfl | rfl
   ·replace hie:_=Value.int .i64 0:=hie
    subst hie
    have hA:=u32_and_nat c 1 (by omega) (by decide)
    rcases htd with ⟨h1,h2⟩ | ⟨h1,h2⟩
    ·have hA1:bits .and .u32 (c:Int) 1=0:=hA.trans (by show ((c &&& 2^0:Nat):Int)=0;rw [h1];rfl)
     rw [← h2] at hne
     have HR:=Lh hne
     clear hA h1 h2 hne
     go_wp2_with fail
     go_round
     case rel=>exact ⟨0+1,by omega,rfl,HR.out⟩
     case measure=>simp [intOf]
    ·have hA1:bits .and .u32 (c:Int) 1=1:=hA.trans (by show ((c &&& 2^0:Nat):Int)=1;rw [h1];rfl)
     have hS:∀ w1:World,(binOp .shl 22 (.int .u32 1) (.int .u64 0)).run Tryz.prog w1=.ok (.int .u32 1) w1:=fun _=>by kernel_rfl
     have hO:bits .or .u32 ((c % 2^0:Nat):Int) 1=((c % 2^(0+1):Nat):Int):=(u32_or_nat (c % 2^0) 1 (Nat.lt_of_le_of_lt (Nat.mod_le _ _) (by omega)) (by decide)).trans (by rw [← h2])
     generalize c % 2^0=z at hO hne
     generalize hz2:c % 2^(0+1)=z2 at hO
     subst hne
     have HR:=Lh hz2
     clear hA h1 h2 hz2
     go_wp2_with fail
     go_round
     case rel=>exact ⟨0+1,by omega,rfl,by rw [HR.out]⟩
     case measure=>simp [intOf]
   ·replace hie:_=Value.int .i64 1:=hie
    subst hie
    have hA:=u32_and_nat c 2 (by omega) (by decide)
    rcases htd with ⟨h1,h2⟩ | ⟨h1,h2⟩
    ·have hA1:bits .and .u32 (c:Int) 2=0:=hA.trans (by show ((c &&& 2^1:Nat):Int)=0;rw [h1];rfl)
     rw [← h2] at hne
     have HR:=Lh hne
     clear hA h1 h2 hne
     go_wp2_with fail
     go_round
     case rel=>exact ⟨1+1,by omega,rfl,HR.out⟩
     case measure=>simp [intOf]
    ·have hA1:bits .and .u32 (c:Int) 2=2:=hA.trans (by show ((c &&& 2^1:Nat):Int)=2;rw [h1];rfl)
     have hS:∀ w1:World,(binOp .shl 22 (.int .u32 1) (.int .u64 1)).run Tryz.prog w1=.ok (.int .u32 2) w1:=fun _=>by kernel_rfl
     have hO:bits .or .u32 ((c % 2^1:Nat):Int) 2=((c % 2^(1+1):Nat):Int):=(u32_or_nat (c % 2^1) 2 (Nat.lt_of_le_of_lt (Nat.mod_le _ _) (by omega)) (by decide)).trans (by rw [← h2])
     generalize c % 2^1=z at hO hne
     generalize hz2:c % 2^(1+1)=z2 at hO
     subst hne
     have HR:=Lh hz2
     clear hA h1 h2 hz2
     go_wp2_with fail
     go_round
     case rel=>exact ⟨1+1,by omega,rfl,by rw [HR.out]⟩
     case measure=>simp [intOf]
   ·replace hie:_=Value.int .i64 2:=hie
    subst hie
    have hA:=u32_and_nat c 4 (by omega) (by decide)
    rcases htd with ⟨h1,h2⟩ | ⟨h1,h2⟩
    ·have hA1:bits .and .u32 (c:Int) 4=0:=hA.trans (by show ((c &&& 2^2:Nat):Int)=0;rw [h1];rfl)
     rw [← h2] at hne
     have HR:=Lh hne
     clear hA h1 h2 hne
     go_wp2_with fail
     go_round
     case rel=>exact ⟨2+1,by omega,rfl,HR.out⟩
     case measure=>simp [intOf]
    ·have hA1:bits .and .u32 (c:Int) 4=4:=hA.trans (by show ((c &&& 2^2:Nat):Int)=4;rw [h1];rfl)
     have hS:∀ w1:World,(binOp .shl 22 (.int .u32 1) (.int .u64 2)).run Tryz.prog w1=.ok (.int .u32 4) w1:=fun _=>by kernel_rfl
     have hO:bits .or .u32 ((c % 2^2:Nat):Int) 4=((c % 2^(2+1):Nat):Int):=(u32_or_nat (c % 2^2) 4 (Nat.lt_of_le_of_lt (Nat.mod_le _ _) (by omega)) (by decide)).trans (by rw [← h2])
     generalize c % 2^2=z at hO hne
     generalize hz2:c % 2^(2+1)=z2 at hO
     subst hne
     have HR:=Lh hz2
     clear hA h1 h2 hz2
     go_wp2_with fail
     go_round
     case rel=>exact ⟨2+1,by omega,rfl,by rw [HR.out]⟩
     case measure=>simp [intOf]
   ·replace hie:_=Value.int .i64 3:=hie
    subst hie
    have hA:=u32_and_nat c 8 (by omega) (by decide)
    rcases htd with ⟨h1,h2⟩ | ⟨h1,h2⟩
    ·have hA1:bits .and .u32 (c:Int) 8=0:=hA.trans (by show ((c &&& 2^3:Nat):Int)=0;rw [h1];rfl)
     rw [← h2] at hne
     have HR:=Lh hne
     clear hA h1 h2 hne
     go_wp2_with fail
     go_round
     case rel=>exact ⟨3+1,by omega,rfl,HR.out⟩
     case measure=>simp [intOf]
    ·have hA1:bits .and .u32 (c:Int) 8=8:=hA.trans (by show ((c &&& 2^3:Nat):Int)=8;rw [h1];rfl)
     have hS:∀ w1:World,(binOp .shl 22 (.int .u32 1) (.int .u64 3)).run Tryz.prog w1=.ok (.int .u32 8) w1:=fun _=>by kernel_rfl
     have hO:bits .or .u32 ((c % 2^3:Nat):Int) 8=((c % 2^(3+1):Nat):Int):=(u32_or_nat (c % 2^3) 8 (Nat.lt_of_le_of_lt (Nat.mod_le _ _) (by omega)) (by decide)).trans (by rw [← h2])
     generalize c % 2^3=z at hO hne
     generalize hz2:c % 2^(3+1)=z2 at hO
     subst hne
     have HR:=Lh hz2
     clear hA h1 h2 hz2
     go_wp2_with fail
     go_round
     case rel=>exact ⟨3+1,by omega,rfl,by rw [HR.out]⟩
     case measure=>simp [intOf]
   ·replace hie:_=Value.int .i64 4:=hie
    subst hie
    have hA:=u32_and_nat c 16 (by omega) (by decide)
    rcases htd with ⟨h1,h2⟩ | ⟨h1,h2⟩
    ·have hA1:bits .and .u32 (c:Int) 16=0:=hA.trans (by show ((c &&& 2^4:Nat):Int)=0;rw [h1];rfl)
     rw [← h2] at hne
     have HR:=Lh hne
     clear hA h1 h2 hne
     go_wp2_with fail
     go_round
     case rel=>exact ⟨4+1,by omega,rfl,HR.out⟩
     case measure=>simp [intOf]
    ·have hA1:bits .and .u32 (c:Int) 16=16:=hA.trans (by show ((c &&& 2^4:Nat):Int)=16;rw [h1];rfl)
     have hS:∀ w1:World,(binOp .shl 22 (.int .u32 1) (.int .u64 4)).run Tryz.prog w1=.ok (.int .u32 16) w1:=fun _=>by kernel_rfl
     have hO:bits .or .u32 ((c % 2^4:Nat):Int) 16=((c % 2^(4+1):Nat):Int):=(u32_or_nat (c % 2^4) 16 (Nat.lt_of_le_of_lt (Nat.mod_le _ _) (by omega)) (by decide)).trans (by rw [← h2])
     generalize c % 2^4=z at hO hne
     generalize hz2:c % 2^(4+1)=z2 at hO
     subst hne
     have HR:=Lh hz2
     clear hA h1 h2 hz2
     go_wp2_with fail
     go_round
     case rel=>exact ⟨4+1,by omega,rfl,by rw [HR.out]⟩
     case measure=>simp [intOf]
   ·replace hie:_=Value.int .i64 5:=hie
    subst hie
    have hA:=u32_and_nat c 32 (by omega) (by decide)
    rcases htd with ⟨h1,h2⟩ | ⟨h1,h2⟩
    ·have hA1:bits .and .u32 (c:Int) 32=0:=hA.trans (by show ((c &&& 2^5:Nat):Int)=0;rw [h1];rfl)
     rw [← h2] at hne
     have HR:=Lh hne
     clear hA h1 h2 hne
     go_wp2_with fail
     go_round
     case rel=>exact ⟨5+1,by omega,rfl,HR.out⟩
     case measure=>simp [intOf]
    ·have hA1:bits .and .u32 (c:Int) 32=32:=hA.trans (by show ((c &&& 2^5:Nat):Int)=32;rw [h1];rfl)
     have hS:∀ w1:World,(binOp .shl 22 (.int .u32 1) (.int .u64 5)).run Tryz.prog w1=.ok (.int .u32 32) w1:=fun _=>by kernel_rfl
     have hO:bits .or .u32 ((c % 2^5:Nat):Int) 32=((c % 2^(5+1):Nat):Int):=(u32_or_nat (c % 2^5) 32 (Nat.lt_of_le_of_lt (Nat.mod_le _ _) (by omega)) (by decide)).trans (by rw [← h2])
     generalize c % 2^5=z at hO hne
     generalize hz2:c % 2^(5+1)=z2 at hO
     subst hne
     have HR:=Lh hz2
     clear hA h1 h2 hz2
     go_wp2_with fail
     go_round
     case rel=>exact ⟨5+1,by omega,rfl,by rw [HR.out]⟩
     case measure=>simp [intOf]
   ·replace hie:_=Value.int .i64 6:=hie
    subst hie
    have hA:=u32_and_nat c 64 (by omega) (by decide)
    rcases htd with ⟨h1,h2⟩ | ⟨h1,h2⟩
    ·have hA1:bits .and .u32 (c:Int) 64=0:=hA.trans (by show ((c &&& 2^6:Nat):Int)=0;rw [h1];rfl)
     rw [← h2] at hne
     have HR:=Lh hne
     clear hA h1 h2 hne
     go_wp2_with fail
     go_round
     case rel=>exact ⟨6+1,by omega,rfl,HR.out⟩
     case measure=>simp [intOf]
    ·have hA1:bits .and .u32 (c:Int) 64=64:=hA.trans (by show ((c &&& 2^6:Nat):Int)=64;rw [h1];rfl)
     have hS:∀ w1:World,(binOp .shl 22 (.int .u32 1) (.int .u64 6)).run Tryz.prog w1=.ok (.int .u32 64) w1:=fun _=>by kernel_rfl
     have hO:bits .or .u32 ((c % 2^6:Nat):Int) 64=((c % 2^(6+1):Nat):Int):=(u32_or_nat (c % 2^6) 64 (Nat.lt_of_le_of_lt (Nat.mod_le _ _) (by omega)) (by decide)).trans (by rw [← h2])
     generalize c % 2^6=z at hO hne
     generalize hz2:c % 2^(6+1)=z2 at hO
     subst hne
     have HR:=Lh hz2
     clear hA h1 h2 hz2
     go_wp2_with fail
     go_round
     case rel=>exact ⟨6+1,by omega,rfl,by rw [HR.out]⟩
     case measure=>simp [intOf]
   ·replace hie:_=Value.int .i64 7:=hie
    subst hie
    have hA:=u32_and_nat c 128 (by omega) (by decide)
    rcases htd with ⟨h1,h2⟩ | ⟨h1,h2⟩
    ·have hA1:bits .and .u32 (c:Int) 128=0:=hA.trans (by show ((c &&& 2^7:Nat):Int)=0;rw [h1];rfl)
     rw [← h2] at hne
     have HR:=Lh hne
     clear hA h1 h2 hne
     go_wp2_with fail
     go_round
     case rel=>exact ⟨7+1,by omega,rfl,HR.out⟩
     case measure=>simp [intOf]
    ·have hA1:bits .and .u32 (c:Int) 128=128:=hA.trans (by show ((c &&& 2^7:Nat):Int)=128;rw [h1];rfl)
     have hS:∀ w1:World,(binOp .shl 22 (.int .u32 1) (.int .u64 7)).run Tryz.prog w1=.ok (.int .u32 128) w1:=fun _=>by kernel_rfl
     have hO:bits .or .u32 ((c % 2^7:Nat):Int) 128=((c % 2^(7+1):Nat):Int):=(u32_or_nat (c % 2^7) 128 (Nat.lt_of_le_of_lt (Nat.mod_le _ _) (by omega)) (by decide)).trans (by rw [← h2])
     generalize c % 2^7=z at hO hne
     generalize hz2:c % 2^(7+1)=z2 at hO
     subst hne
     have HR:=Lh hz2
     clear hA h1 h2 hz2
     go_wp2_with fail
     go_round
     case rel=>exact ⟨7+1,by omega,rfl,by rw [HR.out]⟩
     case measure=>simp [intOf]
   ·replace hie:_=Value.int .i64 8:=hie
    subst hie
    have hA:=u32_and_nat c 256 (by omega) (by decide)
    rcases htd with ⟨h1,h2⟩ | ⟨h1,h2⟩
    ·have hA1:bits .and .u32 (c:Int) 256=0:=hA.trans (by show ((c &&& 2^8:Nat):Int)=0;rw [h1];rfl)
     rw [← h2] at hne
     have HR:=Lh hne
     clear hA h1 h2 hne
     go_wp2_with fail
     go_round
     case rel=>exact ⟨8+1,by omega,rfl,HR.out⟩
     case measure=>simp [intOf]
    ·have hA1:bits .and .u32 (c:Int) 256=256:=hA.trans (by show ((c &&& 2^8:Nat):Int)=256;rw [h1];rfl)
     have hS:∀ w1:World,(binOp .shl 22 (.int .u32 1) (.int .u64 8)).run Tryz.prog w1=.ok (.int .u32 256) w1:=fun _=>by kernel_rfl
     have hO:bits .or .u32 ((c % 2^8:Nat):Int) 256=((c % 2^(8+1):Nat):Int):=(u32_or_nat (c % 2^8) 256 (Nat.lt_of_le_of_lt (Nat.mod_le _ _) (by omega)) (by decide)).trans (by rw [← h2])
     generalize c % 2^8=z at hO hne
     generalize hz2:c % 2^(8+1)=z2 at hO
     subst hne
     have HR:=Lh hz2
     clear hA h1 h2 hz2
     go_wp2_with fail
     go_round
     case rel=>exact ⟨8+1,by omega,rfl,by rw [HR.out]⟩
     case measure=>simp [intOf]
   ·replace hie:_=Value.int .i64 9:=hie
    subst hie
    have hA:=u32_and_nat c 512 (by omega) (by decide)
    rcases htd with ⟨h1,h2⟩ | ⟨h1,h2⟩
    ·have hA1:bits .and .u32 (c:Int) 512=0:=hA.trans (by show ((c &&& 2^9:Nat):Int)=0;rw [h1];rfl)
     rw [← h2] at hne
     have HR:=Lh hne
     clear hA h1 h2 hne
     go_wp2_with fail
     go_round
     case rel=>exact ⟨9+1,by omega,rfl,HR.out⟩
     case measure=>simp [intOf]
    ·have hA1:bits .and .u32 (c:Int) 512=512:=hA.trans (by show ((c &&& 2^9:Nat):Int)=512;rw [h1];rfl)
     have hS:∀ w1:World,(binOp .shl 22 (.int .u32 1) (.int .u64 9)).run Tryz.prog w1=.ok (.int .u32 512) w1:=fun _=>by kernel_rfl
     have hO:bits .or .u32 ((c % 2^9:Nat):Int) 512=((c % 2^(9+1):Nat):Int):=(u32_or_nat (c % 2^9) 512 (Nat.lt_of_le_of_lt (Nat.mod_le _ _) (by omega)) (by decide)).trans (by rw [← h2])
     generalize c % 2^9=z at hO hne
     generalize hz2:c % 2^(9+1)=z2 at hO
     subst hne
     have HR:=Lh hz2
     clear hA h1 h2 hz2
     go_wp2_with fail
     go_round
     case rel=>exact ⟨9+1,by omega,rfl,by rw [HR.out]⟩
     case measure=>simp [intOf]
   ·replace hie:_=Value.int .i64 10:=hie
    subst hie
    have hA:=u32_and_nat c 1024 (by omega) (by decide)
    rcases htd with ⟨h1,h2⟩ | ⟨h1,h2⟩
    ·have hA1:bits .and .u32 (c:Int) 1024=0:=hA.trans (by show ((c &&& 2^10:Nat):Int)=0;rw [h1];rfl)
     rw [← h2] at hne
     have HR:=Lh hne
     clear hA h1 h2 hne
     go_wp2_with fail
     go_round
     case rel=>exact ⟨10+1,by omega,rfl,HR.out⟩
     case measure=>simp [intOf]
    ·have hA1:bits .and .u32 (c:Int) 1024=1024:=hA.trans (by show ((c &&& 2^10:Nat):Int)=1024;rw [h1];rfl)
     have hS:∀ w1:World,(binOp .shl 22 (.int .u32 1) (.int .u64 10)).run Tryz.prog w1=.ok (.int .u32 1024) w1:=fun _=>by kernel_rfl
     have hO:bits .or .u32 ((c % 2^10:Nat):Int) 1024=((c % 2^(10+1):Nat):Int):=(u32_or_nat (c % 2^10) 1024 (Nat.lt_of_le_of_lt (Nat.mod_le _ _) (by omega)) (by decide)).trans (by rw [← h2])
     generalize c % 2^10=z at hO hne
     generalize hz2:c % 2^(10+1)=z2 at hO
     subst hne
     have HR:=Lh hz2
     clear hA h1 h2 hz2
     go_wp2_with fail
     go_round
     case rel=>exact ⟨10+1,by omega,rfl,by rw [HR.out]⟩
     case measure=>simp [intOf]
   ·replace hie:_=Value.int .i64 11:=hie
    subst hie
    have hA:=u32_and_nat c 2048 (by omega) (by decide)
    rcases htd with ⟨h1,h2⟩ | ⟨h1,h2⟩
    ·have hA1:bits .and .u32 (c:Int) 2048=0:=hA.trans (by show ((c &&& 2^11:Nat):Int)=0;rw [h1];rfl)
     rw [← h2] at hne
     have HR:=Lh hne
     clear hA h1 h2 hne
     go_wp2_with fail
     go_round
     case rel=>exact ⟨11+1,by omega,rfl,HR.out⟩
     case measure=>simp [intOf]
    ·have hA1:bits .and .u32 (c:Int) 2048=2048:=hA.trans (by show ((c &&& 2^11:Nat):Int)=2048;rw [h1];rfl)
     have hS:∀ w1:World,(binOp .shl 22 (.int .u32 1) (.int .u64 11)).run Tryz.prog w1=.ok (.int .u32 2048) w1:=fun _=>by kernel_rfl
     have hO:bits .or .u32 ((c % 2^11:Nat):Int) 2048=((c % 2^(11+1):Nat):Int):=(u32_or_nat (c % 2^11) 2048 (Nat.lt_of_le_of_lt (Nat.mod_le _ _) (by omega)) (by decide)).trans (by rw [← h2])
     generalize c % 2^11=z at hO hne
     generalize hz2:c % 2^(11+1)=z2 at hO
     subst hne
     have HR:=Lh hz2
     clear hA h1 h2 hz2
     go_wp2_with fail
     go_round
     case rel=>exact ⟨11+1,by omega,rfl,by rw [HR.out]⟩
     case measure=>simp [intOf]
theorem Q9v (n k:Nat):((n / 2^k) % 2=0∧n % 2^(k+1)=n % 2^k)∨((n / 2^k) % 2=1∧((n % 2^k) ||| 2^k)=n % 2^(k+1)):=by
 have h1:n % 2^(k+1)=n % 2^k+2^k*(n / 2^k % 2):=by rw [Nat.pow_succ,Nat.mod_mul]
 have h2:n % 2^k<2^k:=Nat.mod_lt _ (Nat.pow_pos (by decide))
 rcases (show n / 2^k % 2=0∨n / 2^k % 2=1 by omega) with h | h
 ·exact .inl ⟨h,by rw [h1,h];omega⟩
 ·refine .inr ⟨h,?_⟩
  have h3:=Nat.two_pow_add_eq_or_of_lt h2 1
  rw [Nat.mul_one] at h3
  rw [h1,h,Nat.mul_one,Nat.or_comm,← h3,Nat.add_comm]
theorem Q0o (n m:Nat)(hn:n<4294967296):bits .and .u32 ((n:Int) / (m:Int)) 1=((n / m % 2:Nat):Int):=by
 have h:n / m<4294967296:=Nat.lt_of_le_of_lt (Nat.div_le_self _ _) hn
 have:=u32_and_nat (n / m) 1 h (by decide)
 rw [Nat.and_one_is_mod] at this
 exact this
theorem Q8r (n:Nat)(hn:n<4294967296)(w:World):Calls Tryz.prog 63 #[.int .u32 (n:Int)] w fun e w'=>e=.returned (.int .u32 ((n % 4096:Nat):Int))∧∃ o,w'=w.alloc o:=by
 have HCo:=Lh (Q1x w)
 have HN:=Lh hn
 go_enter Tryz.func63, Tryz.ntmps63
 go_wp2_with fail
 refine HCo.out.mono ?_
 rintro e w1 ⟨rfl,hw1⟩
 have HW:=Lh hw1
 have c0:w1.cell? ⟨w.heap.size,0,none⟩=some (.int .u32 1):=by rw [hw1];exact Qk _ _ _ _ 0
 have c1:w1.cell? ⟨w.heap.size,1,none⟩=some (.int .u32 2):=by rw [hw1];exact Qk _ _ _ _ 1
 have c2:w1.cell? ⟨w.heap.size,2,none⟩=some (.int .u32 4):=by rw [hw1];exact Qk _ _ _ _ 2
 have c3:w1.cell? ⟨w.heap.size,3,none⟩=some (.int .u32 8):=by rw [hw1];exact Qk _ _ _ _ 3
 have c4:w1.cell? ⟨w.heap.size,4,none⟩=some (.int .u32 16):=by rw [hw1];exact Qk _ _ _ _ 4
 have c5:w1.cell? ⟨w.heap.size,5,none⟩=some (.int .u32 32):=by rw [hw1];exact Qk _ _ _ _ 5
 have c6:w1.cell? ⟨w.heap.size,6,none⟩=some (.int .u32 64):=by rw [hw1];exact Qk _ _ _ _ 6
 have c7:w1.cell? ⟨w.heap.size,7,none⟩=some (.int .u32 128):=by rw [hw1];exact Qk _ _ _ _ 7
 have c8:w1.cell? ⟨w.heap.size,8,none⟩=some (.int .u32 256):=by rw [hw1];exact Qk _ _ _ _ 8
 have c9:w1.cell? ⟨w.heap.size,9,none⟩=some (.int .u32 512):=by rw [hw1];exact Qk _ _ _ _ 9
 have c10:w1.cell? ⟨w.heap.size,10,none⟩=some (.int .u32 1024):=by rw [hw1];exact Qk _ _ _ _ 10
 have c11:w1.cell? ⟨w.heap.size,11,none⟩=some (.int .u32 2048):=by rw [hw1];exact Qk _ _ _ _ 11
 clear hw1 HCo
 generalize w.heap.size=bs at *
 go_wp2_with fail
 go_loop [3,8] (fun nv iv=>∃ k:Nat,k≤12∧iv=.int .i64 (k:Int)∧nv=.int .u32 ((n % 2^k:Nat):Int)) (fun _ i=>12 - (intOf i).toNat)
 case atStart=>exact ⟨0,by omega,rfl,by rw [Nat.pow_zero,Nat.mod_one];rfl⟩
 case round =>
  obtain ⟨k,hk,hie,hne⟩:=hrel
  by_cases hk12:k=12
  ·subst hk12
   replace hie:_=Value.int .i64 12:=hie
   subst hie
   have HNE:=Lh hne
   clear hne
   go_wp2_with fail
   go_ret
   exact ⟨congrArg Ending.returned HNE.out,_,HW.out⟩
  ·have htd:=Q9v n k
   rcases (show k=0∨k=1∨k=2∨k=3∨k=4∨k=5∨k=6∨k=7∨k=8∨k=9∨k=10∨k=11 by omega) with rfl | rfl | rfl | rfl | rfl | rfl | rfl | rfl | rfl | rfl | rfl | rfl
   ·replace hie:_=Value.int .i64 0:=hie
    subst hie
    have hA:bits .and .u32 ((n:Int)) 1=((n / 1 % 2:Nat):Int):=by have:=Q0o n 1 HN.out;rwa [show (n:Int) / ((1:Nat):Int)=(n:Int) from Int.ediv_one _] at this
    rcases htd with ⟨h1,h2⟩ | ⟨h1,h2⟩
    ·have hA1:bits .and .u32 ((n:Int)) 1=0:=hA.trans (by show ((n / 2^0 % 2:Nat):Int)=0;rw [h1];rfl)
     rw [← h2] at hne
     have HR:=Lh hne
     clear hA h1 h2 hne
     go_wp2_with fail
     go_round
     case rel=>exact ⟨0+1,by omega,rfl,HR.out⟩
     case measure=>simp [intOf]
    ·have hA1:bits .and .u32 ((n:Int)) 1=1:=hA.trans (by show ((n / 2^0 % 2:Nat):Int)=1;rw [h1];rfl)
     have hO:bits .or .u32 ((n % 2^0:Nat):Int) 1=((n % 2^(0+1):Nat):Int):=(u32_or_nat (n % 2^0) 1 (Nat.lt_of_le_of_lt (Nat.mod_le _ _) HN.out) (by decide)).trans (by rw [← h2])
     generalize n % 2^0=z at hO hne
     generalize hz2:n % 2^(0+1)=z2 at hO
     subst hne
     have HR:=Lh hz2
     clear hA h1 h2 hz2
     go_wp2_with fail
     go_round
     case rel=>exact ⟨0+1,by omega,rfl,by rw [HR.out]⟩
     case measure=>simp [intOf]
   ·replace hie:_=Value.int .i64 1:=hie
    subst hie
    have hA:bits .and .u32 ((n:Int) / 2) 1=((n / 2 % 2:Nat):Int):=Q0o n 2 HN.out
    rcases htd with ⟨h1,h2⟩ | ⟨h1,h2⟩
    ·have hA1:bits .and .u32 ((n:Int) / 2) 1=0:=hA.trans (by show ((n / 2^1 % 2:Nat):Int)=0;rw [h1];rfl)
     rw [← h2] at hne
     have HR:=Lh hne
     clear hA h1 h2 hne
     go_wp2_with fail
     go_round
     case rel=>exact ⟨1+1,by omega,rfl,HR.out⟩
     case measure=>simp [intOf]
    ·have hA1:bits .and .u32 ((n:Int) / 2) 1=1:=hA.trans (by show ((n / 2^1 % 2:Nat):Int)=1;rw [h1];rfl)
     have hO:bits .or .u32 ((n % 2^1:Nat):Int) 2=((n % 2^(1+1):Nat):Int):=(u32_or_nat (n % 2^1) 2 (Nat.lt_of_le_of_lt (Nat.mod_le _ _) HN.out) (by decide)).trans (by rw [← h2])
     generalize n % 2^1=z at hO hne
     generalize hz2:n % 2^(1+1)=z2 at hO
     subst hne
     have HR:=Lh hz2
     clear hA h1 h2 hz2
     go_wp2_with fail
     go_round
     case rel=>exact ⟨1+1,by omega,rfl,by rw [HR.out]⟩
     case measure=>simp [intOf]
   ·replace hie:_=Value.int .i64 2:=hie
    subst hie
    have hA:bits .and .u32 ((n:Int) / 4) 1=((n / 4 % 2:Nat):Int):=Q0o n 4 HN.out
    rcases htd with ⟨h1,h2⟩ | ⟨h1,h2⟩
    ·have hA1:bits .and .u32 ((n:Int) / 4) 1=0:=hA.trans (by show ((n / 2^2 % 2:Nat):Int)=0;rw [h1];rfl)
     rw [← h2] at hne
     have HR:=Lh hne
     clear hA h1 h2 hne
     go_wp2_with fail
     go_round
     case rel=>exact ⟨2+1,by omega,rfl,HR.out⟩
     case measure=>simp [intOf]
    ·have hA1:bits .and .u32 ((n:Int) / 4) 1=1:=hA.trans (by show ((n / 2^2 % 2:Nat):Int)=1;rw [h1];rfl)
     have hO:bits .or .u32 ((n % 2^2:Nat):Int) 4=((n % 2^(2+1):Nat):Int):=(u32_or_nat (n % 2^2) 4 (Nat.lt_of_le_of_lt (Nat.mod_le _ _) HN.out) (by decide)).trans (by rw [← h2])
     generalize n % 2^2=z at hO hne
     generalize hz2:n % 2^(2+1)=z2 at hO
     subst hne
     have HR:=Lh hz2
     clear hA h1 h2 hz2
     go_wp2_with fail
     go_round
     case rel=>exact ⟨2+1,by omega,rfl,by rw [HR.out]⟩
     case measure=>simp [intOf]
   ·replace hie:_=Value.int .i64 3:=hie
    subst hie
    have hA:bits .and .u32 ((n:Int) / 8) 1=((n / 8 % 2:Nat):Int):=Q0o n 8 HN.out
    rcases htd with ⟨h1,h2⟩ | ⟨h1,h2⟩
    ·have hA1:bits .and .u32 ((n:Int) / 8) 1=0:=hA.trans (by show ((n / 2^3 % 2:Nat):Int)=0;rw [h1];rfl)
     rw [← h2] at hne
     have HR:=Lh hne
     clear hA h1 h2 hne
     go_wp2_with fail
     go_round
     case rel=>exact ⟨3+1,by omega,rfl,HR.out⟩
     case measure=>simp [intOf]
    ·have hA1:bits .and .u32 ((n:Int) / 8) 1=1:=hA.trans (by show ((n / 2^3 % 2:Nat):Int)=1;rw [h1];rfl)
     have hO:bits .or .u32 ((n % 2^3:Nat):Int) 8=((n % 2^(3+1):Nat):Int):=(u32_or_nat (n % 2^3) 8 (Nat.lt_of_le_of_lt (Nat.mod_le _ _) HN.out) (by decide)).trans (by rw [← h2])
     generalize n % 2^3=z at hO hne
     generalize hz2:n % 2^(3+1)=z2 at hO
     subst hne
     have HR:=Lh hz2
     clear hA h1 h2 hz2
     go_wp2_with fail
     go_round
     case rel=>exact ⟨3+1,by omega,rfl,by rw [HR.out]⟩
     case measure=>simp [intOf]
   ·replace hie:_=Value.int .i64 4:=hie
    subst hie
    have hA:bits .and .u32 ((n:Int) / 16) 1=((n / 16 % 2:Nat):Int):=Q0o n 16 HN.out
    rcases htd with ⟨h1,h2⟩ | ⟨h1,h2⟩
    ·have hA1:bits .and .u32 ((n:Int) / 16) 1=0:=hA.trans (by show ((n / 2^4 % 2:Nat):Int)=0;rw [h1];rfl)
     rw [← h2] at hne
     have HR:=Lh hne
     clear hA h1 h2 hne
     go_wp2_with fail
     go_round
     case rel=>exact ⟨4+1,by omega,rfl,HR.out⟩
     case measure=>simp [intOf]
    ·have hA1:bits .and .u32 ((n:Int) / 16) 1=1:=hA.trans (by show ((n / 2^4 % 2:Nat):Int)=1;rw [h1];rfl)
     have hO:bits .or .u32 ((n % 2^4:Nat):Int) 16=((n % 2^(4+1):Nat):Int):=(u32_or_nat (n % 2^4) 16 (Nat.lt_of_le_of_lt (Nat.mod_le _ _) HN.out) (by decide)).trans (by rw [← h2])
     generalize n % 2^4=z at hO hne
     generalize hz2:n % 2^(4+1)=z2 at hO
     subst hne
     have HR:=Lh hz2
     clear hA h1 h2 hz2
     go_wp2_with fail
     go_round
     case rel=>exact ⟨4+1,by omega,rfl,by rw [HR.out]⟩
     case measure=>simp [intOf]
   ·replace hie:_=Value.int .i64 5:=hie
    subst hie
    have hA:bits .and .u32 ((n:Int) / 32) 1=((n / 32 % 2:Nat):Int):=Q0o n 32 HN.out
    rcases htd with ⟨h1,h2⟩ | ⟨h1,h2⟩
    ·have hA1:bits .and .u32 ((n:Int) / 32) 1=0:=hA.trans (by show ((n / 2^5 % 2:Nat):Int)=0;rw [h1];rfl)
     rw [← h2] at hne
     have HR:=Lh hne
     clear hA h1 h2 hne
     go_wp2_with fail
     go_round
     case rel=>exact ⟨5+1,by omega,rfl,HR.out⟩
     case measure=>simp [intOf]
    ·have hA1:bits .and .u32 ((n:Int) / 32) 1=1:=hA.trans (by show ((n / 2^5 % 2:Nat):Int)=1;rw [h1];rfl)
     have hO:bits .or .u32 ((n % 2^5:Nat):Int) 32=((n % 2^(5+1):Nat):Int):=(u32_or_nat (n % 2^5) 32 (Nat.lt_of_le_of_lt (Nat.mod_le _ _) HN.out) (by decide)).trans (by rw [← h2])
     generalize n % 2^5=z at hO hne
     generalize hz2:n % 2^(5+1)=z2 at hO
     subst hne
     have HR:=Lh hz2
     clear hA h1 h2 hz2
     go_wp2_with fail
     go_round
     case rel=>exact ⟨5+1,by omega,rfl,by rw [HR.out]⟩
     case measure=>simp [intOf]
   ·replace hie:_=Value.int .i64 6:=hie
    subst hie
    have hA:bits .and .u32 ((n:Int) / 64) 1=((n / 64 % 2:Nat):Int):=Q0o n 64 HN.out
    rcases htd with ⟨h1,h2⟩ | ⟨h1,h2⟩
    ·have hA1:bits .and .u32 ((n:Int) / 64) 1=0:=hA.trans (by show ((n / 2^6 % 2:Nat):Int)=0;rw [h1];rfl)
     rw [← h2] at hne
     have HR:=Lh hne
     clear hA h1 h2 hne
     go_wp2_with fail
     go_round
     case rel=>exact ⟨6+1,by omega,rfl,HR.out⟩
     case measure=>simp [intOf]
    ·have hA1:bits .and .u32 ((n:Int) / 64) 1=1:=hA.trans (by show ((n / 2^6 % 2:Nat):Int)=1;rw [h1];rfl)
     have hO:bits .or .u32 ((n % 2^6:Nat):Int) 64=((n % 2^(6+1):Nat):Int):=(u32_or_nat (n % 2^6) 64 (Nat.lt_of_le_of_lt (Nat.mod_le _ _) HN.out) (by decide)).trans (by rw [← h2])
     generalize n % 2^6=z at hO hne
     generalize hz2:n % 2^(6+1)=z2 at hO
     subst hne
     have HR:=Lh hz2
     clear hA h1 h2 hz2
     go_wp2_with fail
     go_round
     case rel=>exact ⟨6+1,by omega,rfl,by rw [HR.out]⟩
     case measure=>simp [intOf]
   ·replace hie:_=Value.int .i64 7:=hie
    subst hie
    have hA:bits .and .u32 ((n:Int) / 128) 1=((n / 128 % 2:Nat):Int):=Q0o n 128 HN.out
    rcases htd with ⟨h1,h2⟩ | ⟨h1,h2⟩
    ·have hA1:bits .and .u32 ((n:Int) / 128) 1=0:=hA.trans (by show ((n / 2^7 % 2:Nat):Int)=0;rw [h1];rfl)
     rw [← h2] at hne
     have HR:=Lh hne
     clear hA h1 h2 hne
     go_wp2_with fail
     go_round
     case rel=>exact ⟨7+1,by omega,rfl,HR.out⟩
     case measure=>simp [intOf]
    ·have hA1:bits .and .u32 ((n:Int) / 128) 1=1:=hA.trans (by show ((n / 2^7 % 2:Nat):Int)=1;rw [h1];rfl)
     have hO:bits .or .u32 ((n % 2^7:Nat):Int) 128=((n % 2^(7+1):Nat):Int):=(u32_or_nat (n % 2^7) 128 (Nat.lt_of_le_of_lt (Nat.mod_le _ _) HN.out) (by decide)).trans (by rw [← h2])
     generalize n % 2^7=z at hO hne
     generalize hz2:n % 2^(7+1)=z2 at hO
     subst hne
     have HR:=Lh hz2
     clear hA h1 h2 hz2
     go_wp2_with fail
     go_round
     case rel=>exact ⟨7+1,by omega,rfl,by rw [HR.out]⟩
     case measure=>simp [intOf]
   ·replace hie:_=Value.int .i64 8:=hie
    subst hie
    have hA:bits .and .u32 ((n:Int) / 256) 1=((n / 256 % 2:Nat):Int):=Q0o n 256 HN.out
    rcases htd with ⟨h1,h2⟩ | ⟨h1,h2⟩
    ·have hA1:bits .and .u32 ((n:Int) / 256) 1=0:=hA.trans (by show ((n / 2^8 % 2:Nat):Int)=0;rw [h1];rfl)
     rw [← h2] at hne
     have HR:=Lh hne
     clear hA h1 h2 hne
     go_wp2_with fail
     go_round
     case rel=>exact ⟨8+1,by omega,rfl,HR.out⟩
     case measure=>simp [intOf]
    ·have hA1:bits .and .u32 ((n:Int) / 256) 1=1:=hA.trans (by show ((n / 2^8 % 2:Nat):Int)=1;rw [h1];rfl)
     have hO:bits .or .u32 ((n % 2^8:Nat):Int) 256=((n % 2^(8+1):Nat):Int):=(u32_or_nat (n % 2^8) 256 (Nat.lt_of_le_of_lt (Nat.mod_le _ _) HN.out) (by decide)).trans (by rw [← h2])
     generalize n % 2^8=z at hO hne
     generalize hz2:n % 2^(8+1)=z2 at hO
     subst hne
     have HR:=Lh hz2
     clear hA h1 h2 hz2
     go_wp2_with fail
     go_round
     case rel=>exact ⟨8+1,by omega,rfl,by rw [HR.out]⟩
     case measure=>simp [intOf]
   ·replace hie:_=Value.int .i64 9:=hie
    subst hie
    have hA:bits .and .u32 ((n:Int) / 512) 1=((n / 512 % 2:Nat):Int):=Q0o n 512 HN.out
    rcases htd with ⟨h1,h2⟩ | ⟨h1,h2⟩
    ·have hA1:bits .and .u32 ((n:Int) / 512) 1=0:=hA.trans (by show ((n / 2^9 % 2:Nat):Int)=0;rw [h1];rfl)
     rw [← h2] at hne
     have HR:=Lh hne
     clear hA h1 h2 hne
     go_wp2_with fail
     go_round
     case rel=>exact ⟨9+1,by omega,rfl,HR.out⟩
     case measure=>simp [intOf]
    ·have hA1:bits .and .u32 ((n:Int) / 512) 1=1:=hA.trans (by show ((n / 2^9 % 2:Nat):Int)=1;rw [h1];rfl)
     have hO:bits .or .u32 ((n % 2^9:Nat):Int) 512=((n % 2^(9+1):Nat):Int):=(u32_or_nat (n % 2^9) 512 (Nat.lt_of_le_of_lt (Nat.mod_le _ _) HN.out) (by decide)).trans (by rw [← h2])
     generalize n % 2^9=z at hO hne
     generalize hz2:n % 2^(9+1)=z2 at hO
     subst hne
     have HR:=Lh hz2
     clear hA h1 h2 hz2
     go_wp2_with fail
     go_round
     case rel=>exact ⟨9+1,by omega,rfl,by rw [HR.out]⟩
     case measure=>simp [intOf]
   ·replace hie:_=Value.int .i64 10:=hie
    subst hie
    have hA:bits .and .u32 ((n:Int) / 1024) 1=((n / 1024 % 2:Nat):Int):=Q0o n 1024 HN.out
    rcases htd with ⟨h1,h2⟩ | ⟨h1,h2⟩
    ·have hA1:bits .and .u32 ((n:Int) / 1024) 1=0:=hA.trans (by show ((n / 2^10 % 2:Nat):Int)=0;rw [h1];rfl)
     rw [← h2] at hne
     have HR:=Lh hne
     clear hA h1 h2 hne
     go_wp2_with fail
     go_round
     case rel=>exact ⟨10+1,by omega,rfl,HR.out⟩
     case measure=>simp [intOf]
    ·have hA1:bits .and .u32 ((n:Int) / 1024) 1=1:=hA.trans (by show ((n / 2^10 % 2:Nat):Int)=1;rw [h1];rfl)
     have hO:bits .or .u32 ((n % 2^10:Nat):Int) 1024=((n % 2^(10+1):Nat):Int):=(u32_or_nat (n % 2^10) 1024 (Nat.lt_of_le_of_lt (Nat.mod_le _ _) HN.out) (by decide)).trans (by rw [← h2])
     generalize n % 2^10=z at hO hne
     generalize hz2:n % 2^(10+1)=z2 at hO
     subst hne
     have HR:=Lh hz2
     clear hA h1 h2 hz2
     go_wp2_with fail
     go_round
     case rel=>exact ⟨10+1,by omega,rfl,by rw [HR.out]⟩
     case measure=>simp [intOf]
   ·replace hie:_=Value.int .i64 11:=hie
    subst hie
    have hA:bits .and .u32 ((n:Int) / 2048) 1=((n / 2048 % 2:Nat):Int):=Q0o n 2048 HN.out
    rcases htd with ⟨h1,h2⟩ | ⟨h1,h2⟩
    ·have hA1:bits .and .u32 ((n:Int) / 2048) 1=0:=hA.trans (by show ((n / 2^11 % 2:Nat):Int)=0;rw [h1];rfl)
     rw [← h2] at hne
     have HR:=Lh hne
     clear hA h1 h2 hne
     go_wp2_with fail
     go_round
     case rel=>exact ⟨11+1,by omega,rfl,HR.out⟩
     case measure=>simp [intOf]
    ·have hA1:bits .and .u32 ((n:Int) / 2048) 1=1:=hA.trans (by show ((n / 2^11 % 2:Nat):Int)=1;rw [h1];rfl)
     have hO:bits .or .u32 ((n % 2^11:Nat):Int) 2048=((n % 2^(11+1):Nat):Int):=(u32_or_nat (n % 2^11) 2048 (Nat.lt_of_le_of_lt (Nat.mod_le _ _) HN.out) (by decide)).trans (by rw [← h2])
     generalize n % 2^11=z at hO hne
     generalize hz2:n % 2^(11+1)=z2 at hO
     subst hne
     have HR:=Lh hz2
     clear hA h1 h2 hz2
     go_wp2_with fail
     go_round
     case rel=>exact ⟨11+1,by omega,rfl,by rw [HR.out]⟩
     case measure=>simp [intOf]
theorem Q3d {W:World}{σ:Sg}{w:World}(h:St W σ w)(p:Nat)(mx mn:Int)(tr m:Nat)(hm:m<8)(htr:tr<4294967296) :
  Calls Tryz.prog 29 #[.agg #[.int .u32 (p:Int),.int .i32 mx,.int .i32 mn,.int .u32 (tr:Int),.int .i64 (m:Int)]] w fun r w'=>∃ b T,r=.returned (.pointer (some ⟨b,0,none⟩))∧σ b=none∧St W (upd σ b (.raw (.cells #[.int .u32 (p:Int),.int .i32 mx,.int .i32 mn,.int .u32 ((tr % 4096:Nat):Int),.string (rndS m)] T))) w':=by
 have HA:=Lh (fun w1=>Q8r tr htr w1)
 have HR:=Lh (fun w1=>Q5O m hm w1)
 obtain ⟨P,hP⟩:∃ P:Obj,P=.cells #[.int .u32 (p:Int),.int .i32 mx,.int .i32 mn,.int .u32 (tr:Int),.int .i64 (m:Int)] 24:=⟨_,rfl⟩
 have hx:=h.alloc P
 have hn:=h.none_new
 have HC:Hid (∀ w1,St W (upd σ w.heap.size (.raw P)) w1→w1.cell? ⟨w.heap.size,0,none⟩=some (.int .u32 (p:Int))∧w1.cell? ⟨w.heap.size,1,none⟩=some (.int .i32 mx)∧w1.cell? ⟨w.heap.size,2,none⟩=some (.int .i32 mn)∧w1.cell? ⟨w.heap.size,3,none⟩=some (.int .u32 (tr:Int))∧w1.cell? ⟨w.heap.size,4,none⟩=some (.int .i64 (m:Int))):=fun w1 q=>by
  have hr:=q.raw (Q1 _ _ _)
  rw [hP] at hr
  refine ⟨?_,?_,?_,?_,?_⟩ <;> (unfold World.cell?;rw [hr];rfl)
 have HX:=Lh hx
 rw [hP] at hx
 obtain ⟨bp,hbp⟩:∃ bp,bp=w.heap.size:=⟨_,rfl⟩
 rw [← hbp] at HX HC hn
 rw [hP] at HX HC
 have HE:=Lh (Ext.new hn (.raw (.cells #[.int .u32 (p:Int),.int .i32 mx,.int .i32 mn,.int .u32 (tr:Int),.int .i64 (m:Int)] 24)))
 generalize upd σ bp (.raw (.cells #[.int .u32 (p:Int),.int .i32 mx,.int .i32 mn,.int .u32 (tr:Int),.int .i64 (m:Int)] 24))=σX at HX HC HE
 clear h hx hP
 go_enter Tryz.func29, Tryz.ntmps29
 go_wp2_with fail
 rw [← hbp]
 clear hbp
 generalize w.alloc (.cells #[.int .u32 (p:Int),.int .i32 mx,.int .i32 mn,.int .u32 (tr:Int),.int .i64 (m:Int)] 24)=w1 at HX ⊢
 have g1:=HC.out _ HX.out
 go_region_held3 (fun x=>x.cell? ⟨bp,0,none⟩=some (.int .u32 (p:Int))∧x.cell? ⟨bp,1,none⟩=some (.int .i32 mx)∧x.cell? ⟨bp,2,none⟩=some (.int .i32 mn)∧x.cell? ⟨bp,3,none⟩=some (.int .u32 (tr:Int))∧x.cell? ⟨bp,4,none⟩=some (.int .i64 (m:Int))) (first | exact g1 | exact g2 | exact g3 | exact g4 _) (first | (go_at_call 63;refine (HA.out _).mono ?_;rintro r w2 ⟨rfl,o,hw⟩;have H2:Hid (St W σX w2):=Lh (by rw [hw];exact (HX.out.drew).alloc_any o);have g2:=HC.out _ H2.out;clear hw) | (go_at_call 64;refine (HR.out _).mono ?_;rintro r w3 ⟨rfl,hw⟩;have H3:Hid (St W σX w3):=Lh (by rw [hw];exact H2.out);have g3:=HC.out _ H3.out;have g4:=fun o=>HC.out _ (H3.out.alloc_any o);clear hw))
 have hnn:σ w3.heap.size=none:=by
  cases hc:σ w3.heap.size with
  | none=>rfl
  | some o=>have:=H3.out.none_new;rw [HE.out _ _ hc] at this;cases this
 have HFin:Hid (∀ o T,o=.cells #[.int .u32 (p:Int),.int .i32 mx,.int .i32 mn,.int .u32 ((tr % 4096:Nat):Int),.string (rndS m)] T→St W (upd σ w3.heap.size (.raw (.cells #[.int .u32 (p:Int),.int .i32 mx,.int .i32 mn,.int .u32 ((tr % 4096:Nat):Int),.string (rndS m)] T))) (w3.alloc o)):=fun o T ho=>by
  rw [ho]
  exact (H3.out.alloc _).less (HE.out.upd _ _)
 go_wp2_with fail
 go_ret
 exact ⟨_,_,rfl,hnn,HFin.out _ _ rfl⟩
theorem Q53 {W:World}{σ:Sg}{w:World}(hW:GW W)(h:St W σ w){b:Nat}(f:Nat)(hf:f<4){n:Bool}{e:Int}{c:Nat}(hb:σ b=some (.dec (f:Int) n e (c:Int)))(hc:c<BB^8) :
  Calls Tryz.prog 31 #[.pointer (some ⟨b,0,none⟩)] w fun r w'=>r=.returned (.agg #[.int .i64 (f:Int),.bool n,.int .i32 e,.string (decS c)])∧St W σ w':=by
 have HC:Hid (∀ w2,St W σ w2→w2.cell? ⟨b,1,none⟩=some (.bool n)∧w2.cell? ⟨b,2,none⟩=some (.int .i32 e)):=fun w2 q=>⟨(q.dec hb).2.1,(q.dec hb).2.2.1⟩
 have HF:Hid (∀ w2,St W σ w2→w2.cell? ⟨b,0,none⟩=some (.int .i8 (f:Int))):=fun w2 q=>(q.dec hb).1
 have HS:Hid (∀ σ' w2,Ext σ σ'→St W σ' w2→Calls Tryz.prog 70 #[.pointer (some ⟨b,3,none⟩)] w2 fun r w'=>r=.returned (.string (decS c))∧St W σ' w'):=fun σ' w2 hx q=>Q7f hW q (Num.dec (hx _ _ hb)) hc
 have hn:=h.none_new
 have H0:=Lh (h.alloc (.cells #[.int .i64 0,.bool false,.int .i32 0,.string ⟨#[]⟩] 26))
 obtain ⟨rb,hrb⟩:∃ rb,rb=w.heap.size:=⟨_,rfl⟩
 rw [← hrb] at H0 hn
 have HX:=Lh (Ext.new hn (.raw (.cells #[.int .i64 0,.bool false,.int .i32 0,.string ⟨#[]⟩] 26)))
 have hrr:upd σ rb (.raw (.cells #[.int .i64 0,.bool false,.int .i32 0,.string ⟨#[]⟩] 26)) rb=some (.raw (.cells #[.int .i64 0,.bool false,.int .i32 0,.string ⟨#[]⟩] 26)):=Q1 _ _ _
 generalize upd σ rb (.raw (.cells #[.int .i64 0,.bool false,.int .i32 0,.string ⟨#[]⟩] 26))=σX at H0 HX hrr
 have s0:=HC.out _ (H0.out.less HX.out)
 have Hrr:=Lh hrr
 clear h hb hc hrr
 generalize decS c=S at HS ⊢
 go_enter Tryz.func31, Tryz.ntmps31
 go_wp2_with fail
 rw [← hrb]
 clear hrb
 generalize w.alloc (.cells #[.int .i64 0,.bool false,.int .i32 0,.string ⟨#[]⟩] 26)=w1 at H0 s0 ⊢
 refine AH.start (fun x=>x.cell? ⟨b,1,none⟩=some (.bool n)∧x.cell? ⟨b,2,none⟩=some (.int .i32 e)) (by kernel_rfl) ?_
 refine AH.z 0 s0 ?_
 refine AH.z 1 s0 ?_
 refine AH.z 2 s0 ?_
 refine AH.z 3 s0 ?_
 refine AH.z 4 s0 ?_
 refine AH.z 5 s0 ?_
 refine AH.z 6 s0 ?_
 refine AH.z 7 s0 ?_
 refine AH.z 8 s0 ?_
 refine AH.z 9 s0 ?_
 refine AH.z 10 s0 ?_
 refine AH.t 11 13 (fun K hK=>?_) (fun K hK=>?_)
 ·go_simp
  refine (HS.out _ w1.drew HX.out (by exact H0.out.drew)).mono ?_
  rintro r w3 ⟨rfl,q⟩
  have H1:=Lh q
  have s1:=HC.out _ (q.less HX.out)
  clear q s0
  refine hK _ _ s1 ?_
  clear hK K
  try simp only [Act.put,Zp_]
  refine AH.z 12 s1 ?_
  refine AH.o 13 (fun K hK=>?_)
  go_simp
  refine hK _ _ (HC.out _ ((H1.out.less HX.out).alloc_any _)) ?_
  clear hK K
  try simp only [Act.put,Zp_]
  refine AH.o 14 (fun K hK=>?_)
  go_simp
  refine hK _ _ (HC.out _ ((H1.out.less HX.out).alloc_any _)) ?_
  clear hK K s1
  try simp only [Act.put,Zp_]
  refine AH.done (by kernel_rfl) ?_
  have H5:=Lh (H1.out.alloc (.cells #[.int .i64 0,.bool n,.int .i32 e,.string S] 26))
  have hn2:=H1.out.none_new
  generalize hb2:w3.heap.size=b2 at H5 hn2 ⊢
  generalize hw5:w3.alloc (.cells #[.int .i64 0,.bool n,.int .i32 e,.string S] 26)=w5 at H5 ⊢
  clear hb2 hw5 H1
  have HE5:Hid (Ext σX (upd σX b2 (.raw (.cells #[.int .i64 0,.bool n,.int .i32 e,.string S] 26)))):=Lh (Ext.new hn2 _)
  have r5:=H5.out.raw (HE5.out _ _ Hrr.out)
  have x5:=H5.out.raw (Q1 σX b2 _)
  have c0:=HF.out _ (H5.out.less (HX.out.trans HE5.out))
  have hne:b2≠rb:=by rintro rfl;rw [Hrr.out] at hn2;cases hn2
  have hxR:Row w5 b2 4 26:=Row.of_block x5
  have hrR:Row w5 rb 4 26:=Row.of_block r5
  have x0:w5.cell? ⟨b2,0,none⟩=some (.int .i64 0):=by unfold World.cell?;rw [x5];rfl
  have x1:w5.cell? ⟨b2,1,none⟩=some (.bool n):=by unfold World.cell?;rw [x5];rfl
  have x2:w5.cell? ⟨b2,2,none⟩=some (.int .i32 e):=by unfold World.cell?;rw [x5];rfl
  have x3:w5.cell? ⟨b2,3,none⟩=some (.string S):=by unfold World.cell?;rw [x5];rfl
  have g0:=hxR.free 0
  have r0:w5.cell? ⟨rb,0,none⟩=some (.int .i64 0):=by unfold World.cell?;rw [r5];rfl
  have r1:w5.cell? ⟨rb,1,none⟩=some (.bool false):=by unfold World.cell?;rw [r5];rfl
  have r2:w5.cell? ⟨rb,2,none⟩=some (.int .i32 0):=by unfold World.cell?;rw [r5];rfl
  have r3:w5.cell? ⟨rb,3,none⟩=some (.string ⟨#[]⟩):=by unfold World.cell?;rw [r5];rfl
  have q0:=hrR.free 0;have q1:=hrR.free 1;have q2:=hrR.free 2;have q3:=hrR.free 3
  have HSt:Hid (∀ (k:Int),St W σ ((((w5.setCell ⟨rb,0,none⟩ (.int .i64 k)).setCell ⟨rb,1,none⟩ (.bool n)).setCell ⟨rb,2,none⟩ (.int .i32 e)).setCell ⟨rb,3,none⟩ (.string S))∧St W σ (((((w5.setCell ⟨b2,0,none⟩ (.int .i64 k)).setCell ⟨rb,0,none⟩ (.int .i64 k)).setCell ⟨rb,1,none⟩ (.bool n)).setCell ⟨rb,2,none⟩ (.int .i32 e)).setCell ⟨rb,3,none⟩ (.string S))):=Lh (fun k=>by
   have hrb5:=HE5.out _ _ Hrr.out
   have hE:=HX.out.trans HE5.out
   have nb2:σ b2=none:=by
    cases hc:σ b2 with
    | none=>rfl
    | some o=>have:=HX.out _ _ hc;rw [hn2] at this;cases this
   refine ⟨((((H5.out.setRaw hrb5 0 _).setRaw (Q1 _ _ _) 1 _).setRaw (Q1 _ _ _) 2 _).setRaw (Q1 _ _ _) 3 _).less ((((hE.upd_skip hn _).upd_skip hn _).upd_skip hn _).upd_skip hn _),?_⟩
   exact (((((H5.out.setRaw (Q1 _ _ _) 0 _).setRaw (by rw [Qa _ _ hne.symm];exact hrb5) 0 _).setRaw (Q1 _ _ _) 1 _).setRaw (Q1 _ _ _) 2 _).setRaw (Q1 _ _ _) 3 _).less (((((hE.upd_skip nb2 _).upd_skip hn _).upd_skip hn _).upd_skip hn _).upd_skip hn _))
  clear r5 x5 hxR hrR HC HS
  rcases (show f=0∨f=1∨f=2∨f=3 by omega) with rfl | rfl | rfl | rfl
  ·have c0':w5.cell? ⟨b,0,none⟩=some (.int .i8 0):=c0
   clear c0
   go_wp2_with fail
   exact bodyPost_ret (v:=.agg #[.int .i64 0,.bool n,.int .i32 e,.string S]) (by simp [results,Tryz.results31,go_sem,Q0n r0 r1 r2 r3]) rfl ⟨rfl,(HSt.out _).1⟩
  ·have c0':w5.cell? ⟨b,0,none⟩=some (.int .i8 1):=c0
   clear c0
   go_wp2_with fail
   have HW6:=(HSt.out 1).2
   have hoth:∀ i,(w5.setCell ⟨b2,0,none⟩ (.int .i64 1)).cell? ⟨rb,i,none⟩=w5.cell? ⟨rb,i,none⟩:=fun i=>World.cell?_setCell_other _ _ _ _ (fun e=>hne (by injection e))
   have t0:=(hoth 0).trans r0;have t1:=(hoth 1).trans r1;have t2:=(hoth 2).trans r2;have t3:=(hoth 3).trans r3
   clear hoth
   generalize w5.setCell ⟨b2,0,none⟩ (.int .i64 1)=w6 at t0 t1 t2 t3 HW6 ⊢
   exact bodyPost_ret (v:=.agg #[.int .i64 1,.bool n,.int .i32 e,.string S]) (by simp [results,Tryz.results31,go_sem,Q0n t0 t1 t2 t3]) rfl ⟨rfl,HW6⟩
  ·have c0':w5.cell? ⟨b,0,none⟩=some (.int .i8 2):=c0
   clear c0
   go_wp2_with fail
   have HW6:=(HSt.out 2).2
   have hoth:∀ i,(w5.setCell ⟨b2,0,none⟩ (.int .i64 2)).cell? ⟨rb,i,none⟩=w5.cell? ⟨rb,i,none⟩:=fun i=>World.cell?_setCell_other _ _ _ _ (fun e=>hne (by injection e))
   have t0:=(hoth 0).trans r0;have t1:=(hoth 1).trans r1;have t2:=(hoth 2).trans r2;have t3:=(hoth 3).trans r3
   clear hoth
   generalize w5.setCell ⟨b2,0,none⟩ (.int .i64 2)=w6 at t0 t1 t2 t3 HW6 ⊢
   exact bodyPost_ret (v:=.agg #[.int .i64 2,.bool n,.int .i32 e,.string S]) (by simp [results,Tryz.results31,go_sem,Q0n t0 t1 t2 t3]) rfl ⟨rfl,HW6⟩
  ·have c0':w5.cell? ⟨b,0,none⟩=some (.int .i8 3):=c0
   clear c0
   go_wp2_with fail
   have HW6:=(HSt.out 3).2
   have hoth:∀ i,(w5.setCell ⟨b2,0,none⟩ (.int .i64 3)).cell? ⟨rb,i,none⟩=w5.cell? ⟨rb,i,none⟩:=fun i=>World.cell?_setCell_other _ _ _ _ (fun e=>hne (by injection e))
   have t0:=(hoth 0).trans r0;have t1:=(hoth 1).trans r1;have t2:=(hoth 2).trans r2;have t3:=(hoth 3).trans r3
   clear hoth
   generalize w5.setCell ⟨b2,0,none⟩ (.int .i64 3)=w6 at t0 t1 t2 t3 HW6 ⊢
   exact bodyPost_ret (v:=.agg #[.int .i64 3,.bool n,.int .i32 e,.string S]) (by simp [results,Tryz.results31,go_sem,Q0n t0 t1 t2 t3]) rfl ⟨rfl,HW6⟩
 ·go_simp
  have H1:=Lh (H0.out.alloc (.cells #[.int .i64 0,.bool false,.int .i32 0,.string ⟨#[]⟩] 26))
  have hn2:=H0.out.none_new
  generalize hb2:w1.heap.size=b2 at H1 hn2 ⊢
  refine hK _ _ (HC.out _ ((H0.out.less HX.out).alloc_any (.cells #[.int .i64 0,.bool false,.int .i32 0,.string ⟨#[]⟩] 26)).drew) ?_
  clear hK K
  try simp only [Act.put,Zp_]
  refine AH.o 11 (fun K hK=>?_)
  go_simp
  have HE2:=Lh (Ext.new hn2 (.raw (.cells #[.int .i64 0,.bool false,.int .i32 0,.string ⟨#[]⟩] 26)))
  refine (HS.out _ _ (HX.out.trans HE2.out) (by exact H1.out.drew)).mono ?_
  rintro r w3 ⟨rfl,q⟩
  have H2:=Lh q
  have s1:=HC.out _ (q.less (HX.out.trans HE2.out))
  clear q s0
  refine hK _ _ s1 ?_
  clear hK K
  try simp only [Act.put,Zp_]
  refine AH.z 12 s1 ?_
  have x5:=H2.out.raw (Q1 σX b2 _)
  have hxR:Row w3 b2 4 26:=Row.of_block x5
  have x0:w3.cell? ⟨b2,0,none⟩=some (.int .i64 0):=by unfold World.cell?;rw [x5];rfl
  have x1:w3.cell? ⟨b2,1,none⟩=some (.bool false):=by unfold World.cell?;rw [x5];rfl
  have x2:w3.cell? ⟨b2,2,none⟩=some (.int .i32 0):=by unfold World.cell?;rw [x5];rfl
  have x3:w3.cell? ⟨b2,3,none⟩=some (.string ⟨#[]⟩):=by unfold World.cell?;rw [x5];rfl
  have g0:=hxR.free 0;have g1:=hxR.free 1;have g2:=hxR.free 2;have g3:=hxR.free 3
  have H5:Hid (St W (upd σX b2 (.raw (.cells #[.int .i64 0,.bool n,.int .i32 e,.string S] 26))) ((((w3.setCell ⟨b2,0,none⟩ (.int .i64 0)).setCell ⟨b2,1,none⟩ (.bool n)).setCell ⟨b2,2,none⟩ (.int .i32 e)).setCell ⟨b2,3,none⟩ (.string S))):=Lh (by
   refine ((((H2.out.setRaw (Q1 _ _ _) 0 _).setRaw (Q1 _ _ _) 1 _).setRaw (Q1 _ _ _) 2 _).setRaw (Q1 _ _ _) 3 _).ext fun k=>?_
   by_cases hk:k=b2
   ·subst hk;rw [Q1,Q1];rfl
   ·simp only [Qa _ _ hk])
  have s5:=HC.out _ (H5.out.less (HX.out.trans (Ext.new hn2 _)))
  clear x5 hxR
  refine AH.o 14 (fun K hK=>?_)
  go_simp
  refine hK _ _ s5 ?_
  clear hK K s1 s5 x0 x1 x2 x3 g0 g1 g2 g3
  try simp only [Act.put,Zp_]
  refine AH.done (by kernel_rfl) ?_
  generalize hw5:(((w3.setCell ⟨b2,0,none⟩ (.int .i64 0)).setCell ⟨b2,1,none⟩ (.bool n)).setCell ⟨b2,2,none⟩ (.int .i32 e)).setCell ⟨b2,3,none⟩ (.string S)=w5 at H5 ⊢
  clear hb2 hw5 H1 H2 HE2
  have HE5:Hid (Ext σX (upd σX b2 (.raw (.cells #[.int .i64 0,.bool n,.int .i32 e,.string S] 26)))):=Lh (Ext.new hn2 _)
  have r5:=H5.out.raw (HE5.out _ _ Hrr.out)
  have x5:=H5.out.raw (Q1 σX b2 _)
  have c0:=HF.out _ (H5.out.less (HX.out.trans HE5.out))
  have hne:b2≠rb:=by rintro rfl;rw [Hrr.out] at hn2;cases hn2
  have hxR:Row w5 b2 4 26:=Row.of_block x5
  have hrR:Row w5 rb 4 26:=Row.of_block r5
  have x0:w5.cell? ⟨b2,0,none⟩=some (.int .i64 0):=by unfold World.cell?;rw [x5];rfl
  have x1:w5.cell? ⟨b2,1,none⟩=some (.bool n):=by unfold World.cell?;rw [x5];rfl
  have x2:w5.cell? ⟨b2,2,none⟩=some (.int .i32 e):=by unfold World.cell?;rw [x5];rfl
  have x3:w5.cell? ⟨b2,3,none⟩=some (.string S):=by unfold World.cell?;rw [x5];rfl
  have g0:=hxR.free 0
  have r0:w5.cell? ⟨rb,0,none⟩=some (.int .i64 0):=by unfold World.cell?;rw [r5];rfl
  have r1:w5.cell? ⟨rb,1,none⟩=some (.bool false):=by unfold World.cell?;rw [r5];rfl
  have r2:w5.cell? ⟨rb,2,none⟩=some (.int .i32 0):=by unfold World.cell?;rw [r5];rfl
  have r3:w5.cell? ⟨rb,3,none⟩=some (.string ⟨#[]⟩):=by unfold World.cell?;rw [r5];rfl
  have q0:=hrR.free 0;have q1:=hrR.free 1;have q2:=hrR.free 2;have q3:=hrR.free 3
  have HSt:Hid (∀ (k:Int),St W σ ((((w5.setCell ⟨rb,0,none⟩ (.int .i64 k)).setCell ⟨rb,1,none⟩ (.bool n)).setCell ⟨rb,2,none⟩ (.int .i32 e)).setCell ⟨rb,3,none⟩ (.string S))∧St W σ (((((w5.setCell ⟨b2,0,none⟩ (.int .i64 k)).setCell ⟨rb,0,none⟩ (.int .i64 k)).setCell ⟨rb,1,none⟩ (.bool n)).setCell ⟨rb,2,none⟩ (.int .i32 e)).setCell ⟨rb,3,none⟩ (.string S))):=Lh (fun k=>by
   have hrb5:=HE5.out _ _ Hrr.out
   have hE:=HX.out.trans HE5.out
   have nb2:σ b2=none:=by
    cases hc:σ b2 with
    | none=>rfl
    | some o=>have:=HX.out _ _ hc;rw [hn2] at this;cases this
   refine ⟨((((H5.out.setRaw hrb5 0 _).setRaw (Q1 _ _ _) 1 _).setRaw (Q1 _ _ _) 2 _).setRaw (Q1 _ _ _) 3 _).less ((((hE.upd_skip hn _).upd_skip hn _).upd_skip hn _).upd_skip hn _),?_⟩
   exact (((((H5.out.setRaw (Q1 _ _ _) 0 _).setRaw (by rw [Qa _ _ hne.symm];exact hrb5) 0 _).setRaw (Q1 _ _ _) 1 _).setRaw (Q1 _ _ _) 2 _).setRaw (Q1 _ _ _) 3 _).less (((((hE.upd_skip nb2 _).upd_skip hn _).upd_skip hn _).upd_skip hn _).upd_skip hn _))
  clear r5 x5 hxR hrR HC HS
  rcases (show f=0∨f=1∨f=2∨f=3 by omega) with rfl | rfl | rfl | rfl
  ·have c0':w5.cell? ⟨b,0,none⟩=some (.int .i8 0):=c0
   clear c0
   go_wp2_with fail
   exact bodyPost_ret (v:=.agg #[.int .i64 0,.bool n,.int .i32 e,.string S]) (by simp [results,Tryz.results31,go_sem,Q0n r0 r1 r2 r3]) rfl ⟨rfl,(HSt.out _).1⟩
  ·have c0':w5.cell? ⟨b,0,none⟩=some (.int .i8 1):=c0
   clear c0
   go_wp2_with fail
   have HW6:=(HSt.out 1).2
   have hoth:∀ i,(w5.setCell ⟨b2,0,none⟩ (.int .i64 1)).cell? ⟨rb,i,none⟩=w5.cell? ⟨rb,i,none⟩:=fun i=>World.cell?_setCell_other _ _ _ _ (fun e=>hne (by injection e))
   have t0:=(hoth 0).trans r0;have t1:=(hoth 1).trans r1;have t2:=(hoth 2).trans r2;have t3:=(hoth 3).trans r3
   clear hoth
   generalize w5.setCell ⟨b2,0,none⟩ (.int .i64 1)=w6 at t0 t1 t2 t3 HW6 ⊢
   exact bodyPost_ret (v:=.agg #[.int .i64 1,.bool n,.int .i32 e,.string S]) (by simp [results,Tryz.results31,go_sem,Q0n t0 t1 t2 t3]) rfl ⟨rfl,HW6⟩
  ·have c0':w5.cell? ⟨b,0,none⟩=some (.int .i8 2):=c0
   clear c0
   go_wp2_with fail
   have HW6:=(HSt.out 2).2
   have hoth:∀ i,(w5.setCell ⟨b2,0,none⟩ (.int .i64 2)).cell? ⟨rb,i,none⟩=w5.cell? ⟨rb,i,none⟩:=fun i=>World.cell?_setCell_other _ _ _ _ (fun e=>hne (by injection e))
   have t0:=(hoth 0).trans r0;have t1:=(hoth 1).trans r1;have t2:=(hoth 2).trans r2;have t3:=(hoth 3).trans r3
   clear hoth
   generalize w5.setCell ⟨b2,0,none⟩ (.int .i64 2)=w6 at t0 t1 t2 t3 HW6 ⊢
   exact bodyPost_ret (v:=.agg #[.int .i64 2,.bool n,.int .i32 e,.string S]) (by simp [results,Tryz.results31,go_sem,Q0n t0 t1 t2 t3]) rfl ⟨rfl,HW6⟩
  ·have c0':w5.cell? ⟨b,0,none⟩=some (.int .i8 3):=c0
   clear c0
   go_wp2_with fail
   have HW6:=(HSt.out 3).2
   have hoth:∀ i,(w5.setCell ⟨b2,0,none⟩ (.int .i64 3)).cell? ⟨rb,i,none⟩=w5.cell? ⟨rb,i,none⟩:=fun i=>World.cell?_setCell_other _ _ _ _ (fun e=>hne (by injection e))
   have t0:=(hoth 0).trans r0;have t1:=(hoth 1).trans r1;have t2:=(hoth 2).trans r2;have t3:=(hoth 3).trans r3
   clear hoth
   generalize w5.setCell ⟨b2,0,none⟩ (.int .i64 3)=w6 at t0 t1 t2 t3 HW6 ⊢
   exact bodyPost_ret (v:=.agg #[.int .i64 3,.bool n,.int .i32 e,.string S]) (by simp [results,Tryz.results31,go_sem,Q0n t0 t1 t2 t3]) rfl ⟨rfl,HW6⟩
end Go.Proofs.YtpebcmfpehdafaaGreatDoor
