/- a part of the proof -/
import Derived.Maps.AppendAt
import Derived.Laws.AppendOwn
import Derived.Test.YtpebcmfpehdafaaGreatDoorZ13
import Derived.Test.YtpebcmfpehdafaaGreatDoorZ14
set_option linter.all false
set_option maxRecDepth 100000
set_option maxHeartbeats 16000000
namespace Go.Proofs.YtpebcmfpehdafaaGreatDoor
open Go Go.RowKit
def cutK (c d:Nat):Nat:=if c % 10^d=0 then 64 else 80
def DR.ob (x:DR):Ob:=.dec x.f x.n x.e (x.c:Int)
theorem SX.of {W:World}{σ:Sg}{b bk:Nat}{nd:Int}{res:Nat}{xs:List Int}{k:Nat}{D:Ob}
  (H:∀ w1 ba Ta τ,Ext σ τ→τ ba=some (.raw (.cells (xs.map (Value.int .i64)).toArray Ta))→St W τ w1→Calls Tryz.prog 86 #[.pointer (some ⟨b,0,none⟩),.pointer (some ⟨bk,0,none⟩),.int .i64 nd,.int .u32 (res:Int),.slice (some ⟨ba,0,none⟩) xs.length xs.length] w1 fun r w'=>r=.returned (.int .u32 (k:Int))∧St W (upd τ b D) w'):SX W σ b bk nd res xs k D:=fun w1 ba Ta hn h1 =>
 (H w1 ba Ta _ (Ext.new hn _) (Q1 _ _ _) h1).mono fun r w' ⟨a,q⟩=>⟨a,q.less ((Ext.new hn _).upd b D)⟩
def btOk (q k:Nat):Bool:=(q % 2^k != 0) || (((q &&& 2^k) == 0 && q % 2^(k+1) == 0) || ((q &&& 2^k) == 2^k && (q ^^^ 2^k) % 2^(k+1) == 0 && decide (q ^^^ 2^k<4096)))
theorem Q89:(List.range 12).all (fun k=>(List.range 4096).all fun q=>btOk q k)=true:=by kernel_rfl
theorem bt {q k:Nat}(hk:k<12)(hq:q<4096)(h:q % 2^k=0):((q &&& 2^k)=0∧q % 2^(k+1)=0)∨((q &&& 2^k)=2^k∧(q ^^^ 2^k) % 2^(k+1)=0∧q ^^^ 2^k<4096):=by
 have h1:=List.all_eq_true.1 (List.all_eq_true.1 Q89 k (List.mem_range.2 hk)) q (List.mem_range.2 hq)
 unfold btOk at h1
 simp only [Bool.or_eq_true,Bool.and_eq_true,bne_iff_ne,ne_eq,beq_iff_eq,decide_eq_true_eq] at h1
 rcases h1 with h1 | h1 | ⟨⟨h1,h2⟩,h3⟩
 ·exact absurd h h1
 ·exact .inl h1
 ·exact .inr ⟨h1,h2,h3⟩
theorem Q4h (sep:List UInt8)(r:List (List UInt8))(h:∀ x ∈ r,x.length≤100):(Lib.joinTail sep r).length≤r.length*(sep.length+100):=by
 unfold Lib.joinTail
 induction r with
 | nil=>simp
 | cons x r ih =>
  have h1:=h x (List.mem_cons_self ..)
  have h2:=ih (fun y hy=>h y (List.mem_cons_of_mem _ hy))
  simp only [List.map_cons,List.flatten_cons,List.length_append,List.length_cons]
  rw [Nat.add_mul];omega
theorem Q8a (sep:List UInt8)(xs:List (List UInt8))(h:∀ x ∈ xs,x.length≤100):(Lib.join xs sep).length≤xs.length*(sep.length+100):=by
 cases xs with
 | nil=>simp [Lib.join_nil]
 | cons x r =>
  rw [Lib.join_cons,List.length_append,List.length_cons,Nat.add_mul]
  have h1:=h x (List.mem_cons_self ..)
  have h2:=Q4h sep r (fun y hy=>h y (List.mem_cons_of_mem _ hy))
  omega
theorem Q9l:(Tryz.prog.info? 9).map (fun i=>(i.zero,i.size,i.bytes))=some (some (.string ByteArray.empty),1,16):=by kernel_rfl
theorem Q5G (q0:Nat)(hq0:q0<4096)(w:World):Calls Tryz.prog 163 #[.int .u32 (q0:Int)] w fun e w'=>(∃ s,e=.returned (.string s))∧Below w.heap.size w w':=by
 obtain ⟨i0,hi,hz0,hz1,hz2⟩:=info_parts Q9l
 go_enter Tryz.func163, Tryz.ntmps163
 go_wp2_with fail
 go_loopw [0,3,4,5] (fun r v i s wr=>∃ (q k:Nat) (xs:List ByteArray) (vv:Value),k≤12∧v=vv∧r=.int .u32 (q:Int)∧i=.int .u32 ((2^k:Nat):Int)∧q<4096∧q % 2^k=0∧xs.length≤k∧(∀ x ∈ xs,x.data.toList.length≤100)∧wr.ownsRow w.heap.size 9 1 v xs.length (xs.map Value.string)∧Below w.heap.size w wr)
  (fun _ _ i _ _=>4096 - (intOf i).toNat)
 case atStart=>exact ⟨q0,0,[],_,by omega,rfl,rfl,rfl,hq0,by omega,by simp,by simp,World.ownsRow_nil _ _ _ _,Below.refl _ _⟩
 case round =>
  obtain ⟨q,k,xs,v,hk,hve,rfl,hie,hq,hm,hl,hxs,hown,hnx⟩:=hrel
  replace hve:=hve.symm
  subst hve
  by_cases hq00:q=0
  ·subst hq00
   have HJ:Hid (Calls Tryz.prog 184 #[v,.string ⟨#[44,32]⟩] wr fun e w'=>(∃ s,e=.returned (.string s))∧Below w.heap.size w w'):=by
    rcases hown.2 with ⟨e1,e2⟩ | ⟨g,cap,cur,e1,e2,e3,e4,e5,e6,e7⟩
    ·rw [e1]
     exact (Tryz.strings_Join_none none 0 _ wr).mono fun e w' ⟨h1,h2⟩=>⟨⟨_,h1⟩,h2 ▸ hnx⟩
    ·rw [e1]
     have hg:g<wr.heap.size:=(Array.getElem?_eq_some_iff.1 e3).1
     have h5:(Lib.join (xs.map (·.data.toList)) [44,32]).length≤140737488355328:=by
      have:=Q8a [44,32] (xs.map (·.data.toList)) (by intro x hx;obtain ⟨y,hy,rfl⟩:=List.mem_map.1 hx;exact hxs y hy)
      rw [List.length_map] at this
      have:xs.length*(([44,32]:List UInt8).length+100)≤12*102:=Nat.mul_le_mul (by omega) (by decide)
      omega
     refine (Tryz.strings_Join g 0 cap xs ⟨#[44,32]⟩ wr ?_ hg (by omega) e4 h5).mono fun e w' ⟨h1,h2⟩=>⟨⟨_,h1⟩,hnx.trans (h2.mono hnx.size)⟩
     intro j x hx
     have hj:j<xs.length:=(List.getElem?_eq_some_iff.1 hx).1
     have h7:(cur.toList.take (xs.length*1))[j]?=some (.string x):=by rw [e7,List.getElem?_map,hx];rfl
     rw [List.getElem?_take_of_lt (by omega)] at h7
     unfold World.cell?
     rw [e3]
     simpa using h7
   clear hown hnx hxs hie
   go_wp2_with fail
   refine HJ.out.mono ?_
   rintro r w1 ⟨⟨s1,rfl⟩,hB⟩
   replace hB:=Lh hB
   go_wp2_with fail
   go_ret
   exact ⟨⟨_,rfl⟩,hB.out⟩
  ·have hk12:k<12:=by
    rcases Nat.lt_or_ge k 12 with h | h
    ·exact h
    ·have:k=12:=by omega
     subst this;omega
   have hbt:=bt hk12 hq hm
   have hq1:((q:Int)=0)=False:=by simp;omega
   have hsz:=hnx.size
   rcases (show k=0∨k=1∨k=2∨k=3∨k=4∨k=5∨k=6∨k=7∨k=8∨k=9∨k=10∨k=11 by omega) with rfl | rfl | rfl | rfl | rfl | rfl | rfl | rfl | rfl | rfl | rfl | rfl
   ·replace hie:_=Value.int .u32 1:=hie
    subst hie
    have hS:∀ w1:World,(binOp .shl 72 (.int .u32 1) (.int .u64 1)).run Tryz.prog w1=.ok (.int .u32 2) w1:=fun _=>by kernel_rfl
    have hA:=Lh (u32_and_nat q 1 (by omega) (by decide))
    have hX:=Lh (u32_xor_nat q 1 (by omega) (by decide))
    rcases hbt with ⟨h1,h2⟩ | ⟨h1,h2,h3⟩
    ·have hA1:bits .and .u32 (q:Int) 1=0:=hA.out.trans (by show ((q &&& 2^0:Nat):Int)=0;rw [h1];rfl)
     have HR:=Lh (show q % 2^(0+1)=0 from h2)
     have Hown:=Lh hown;have Hnx:=Lh hnx;have Hxs:=Lh hxs
     clear h1 h2 hA hX hown hnx hxs hm
     go_wp2_with fail
     go_roundw
     case rel=>exact ⟨q,0+1,xs,_,by omega,rfl,rfl,rfl,hq,HR.out,by omega,Hxs.out,Hown.out,Hnx.out⟩
     case measure=>simp [intOf]
    ·have hA1:bits .and .u32 (q:Int) 1=1:=hA.out.trans (by show ((q &&& 2^0:Nat):Int)=1;rw [h1];rfl)
     have hX1:bits .xor .u32 (q:Int) 1=((q ^^^ 2^0:Nat):Int):=hX.out
     generalize hz:q ^^^ 2^0=z at hX1 h2 h3
     have HR:=Lh (show z % 2^(0+1)=0 from h2)
     have Hown:=Lh hown;have Hnx:=Lh hnx;have Hxs:=Lh hxs
     clear h1 h2 hA hX hz hown hnx hxs hm
     go_wp2_with fail
     go_roundw
     case rel=>exact ⟨z,0+1,xs,_,by omega,rfl,rfl,rfl,h3,HR.out,by omega,Hxs.out,Hown.out,Hnx.out⟩
     case measure=>simp [intOf]
   ·replace hie:_=Value.int .u32 2:=hie
    subst hie
    have hS:∀ w1:World,(binOp .shl 72 (.int .u32 2) (.int .u64 1)).run Tryz.prog w1=.ok (.int .u32 4) w1:=fun _=>by kernel_rfl
    have hA:=Lh (u32_and_nat q 2 (by omega) (by decide))
    have hX:=Lh (u32_xor_nat q 2 (by omega) (by decide))
    rcases hbt with ⟨h1,h2⟩ | ⟨h1,h2,h3⟩
    ·have hA1:bits .and .u32 (q:Int) 2=0:=hA.out.trans (by show ((q &&& 2^1:Nat):Int)=0;rw [h1];rfl)
     have HR:=Lh (show q % 2^(1+1)=0 from h2)
     have Hown:=Lh hown;have Hnx:=Lh hnx;have Hxs:=Lh hxs
     clear h1 h2 hA hX hown hnx hxs hm
     go_wp2_with fail
     go_roundw
     case rel=>exact ⟨q,1+1,xs,_,by omega,rfl,rfl,rfl,hq,HR.out,by omega,Hxs.out,Hown.out,Hnx.out⟩
     case measure=>simp [intOf]
    ·have hA1:bits .and .u32 (q:Int) 2=2:=hA.out.trans (by show ((q &&& 2^1:Nat):Int)=2;rw [h1];rfl)
     have hX1:bits .xor .u32 (q:Int) 2=((q ^^^ 2^1:Nat):Int):=hX.out
     generalize hz:q ^^^ 2^1=z at hX1 h2 h3
     have HR:=Lh (show z % 2^(1+1)=0 from h2)
     have Hown:=Lh hown;have Hnx:=Lh hnx;have Hxs:=Lh hxs
     clear h1 h2 hA hX hz hown hnx hxs hm
     go_wp2_with fail
     go_roundw
     case rel=>exact ⟨z,1+1,xs,_,by omega,rfl,rfl,rfl,h3,HR.out,by omega,Hxs.out,Hown.out,Hnx.out⟩
     case measure=>simp [intOf]
   ·replace hie:_=Value.int .u32 4:=hie
    subst hie
    have hS:∀ w1:World,(binOp .shl 72 (.int .u32 4) (.int .u64 1)).run Tryz.prog w1=.ok (.int .u32 8) w1:=fun _=>by kernel_rfl
    have hA:=Lh (u32_and_nat q 4 (by omega) (by decide))
    have hX:=Lh (u32_xor_nat q 4 (by omega) (by decide))
    rcases hbt with ⟨h1,h2⟩ | ⟨h1,h2,h3⟩
    ·have hA1:bits .and .u32 (q:Int) 4=0:=hA.out.trans (by show ((q &&& 2^2:Nat):Int)=0;rw [h1];rfl)
     have HR:=Lh (show q % 2^(2+1)=0 from h2)
     have Hown:=Lh hown;have Hnx:=Lh hnx;have Hxs:=Lh hxs
     clear h1 h2 hA hX hown hnx hxs hm
     go_wp2_with fail
     go_roundw
     case rel=>exact ⟨q,2+1,xs,_,by omega,rfl,rfl,rfl,hq,HR.out,by omega,Hxs.out,Hown.out,Hnx.out⟩
     case measure=>simp [intOf]
    ·have hA1:bits .and .u32 (q:Int) 4=4:=hA.out.trans (by show ((q &&& 2^2:Nat):Int)=4;rw [h1];rfl)
     have hX1:bits .xor .u32 (q:Int) 4=((q ^^^ 2^2:Nat):Int):=hX.out
     generalize hz:q ^^^ 2^2=z at hX1 h2 h3
     have HR:=Lh (show z % 2^(2+1)=0 from h2)
     have Hnx:=Lh hnx;have Hxs:=Lh hxs
     clear h1 h2 hA hX hz hnx hxs hm
     go_wp2_with (first
      | (at_builtin;refine wpList_append_own _ rfl _ _ 196 rfl w.heap.size 9 i0 (.string ByteArray.empty) 1 16 Tryz.underlying196 hi hz0 hz1 hz2 rfl (by decide) _ _ _ rfl (hown.alloc _) ⟨wr.heap.size,0,none⟩ 1 1 [.string ⟨#[111,118,101,114,102,108,111,119]⟩] rfl rfl (cell_one_new _ _ _) (fun x hx=>by simp at hx;subst hx;rfl) (by unfold maxLen;omega) (by omega) (by simp;omega) ?_;intro v' w3 hown' hgrow3 hnil3))
     go_roundw
     case rel=>exact ⟨z,2+1,xs ++ [⟨#[111,118,101,114,102,108,111,119]⟩],_,by omega,rfl,rfl,rfl,h3,HR.out,by simp;omega,by intro x hx;rcases List.mem_append.1 hx with hx | hx;exact Hxs.out x hx;simp at hx;subst hx;decide,by rw [List.map_append,List.length_append];exact hown',(Hnx.out.alloc hsz _).grown hgrow3 (by simp;omega) (fun q hq=>(hown.lt q hq).1)⟩
     case measure=>simp [intOf]
   ·replace hie:_=Value.int .u32 8:=hie
    subst hie
    have hS:∀ w1:World,(binOp .shl 72 (.int .u32 8) (.int .u64 1)).run Tryz.prog w1=.ok (.int .u32 16) w1:=fun _=>by kernel_rfl
    have hA:=Lh (u32_and_nat q 8 (by omega) (by decide))
    have hX:=Lh (u32_xor_nat q 8 (by omega) (by decide))
    rcases hbt with ⟨h1,h2⟩ | ⟨h1,h2,h3⟩
    ·have hA1:bits .and .u32 (q:Int) 8=0:=hA.out.trans (by show ((q &&& 2^3:Nat):Int)=0;rw [h1];rfl)
     have HR:=Lh (show q % 2^(3+1)=0 from h2)
     have Hown:=Lh hown;have Hnx:=Lh hnx;have Hxs:=Lh hxs
     clear h1 h2 hA hX hown hnx hxs hm
     go_wp2_with fail
     go_roundw
     case rel=>exact ⟨q,3+1,xs,_,by omega,rfl,rfl,rfl,hq,HR.out,by omega,Hxs.out,Hown.out,Hnx.out⟩
     case measure=>simp [intOf]
    ·have hA1:bits .and .u32 (q:Int) 8=8:=hA.out.trans (by show ((q &&& 2^3:Nat):Int)=8;rw [h1];rfl)
     have hX1:bits .xor .u32 (q:Int) 8=((q ^^^ 2^3:Nat):Int):=hX.out
     generalize hz:q ^^^ 2^3=z at hX1 h2 h3
     have HR:=Lh (show z % 2^(3+1)=0 from h2)
     have Hnx:=Lh hnx;have Hxs:=Lh hxs
     clear h1 h2 hA hX hz hnx hxs hm
     go_wp2_with (first
      | (at_builtin;refine wpList_append_own _ rfl _ _ 196 rfl w.heap.size 9 i0 (.string ByteArray.empty) 1 16 Tryz.underlying196 hi hz0 hz1 hz2 rfl (by decide) _ _ _ rfl (hown.alloc _) ⟨wr.heap.size,0,none⟩ 1 1 [.string ⟨#[117,110,100,101,114,102,108,111,119]⟩] rfl rfl (cell_one_new _ _ _) (fun x hx=>by simp at hx;subst hx;rfl) (by unfold maxLen;omega) (by omega) (by simp;omega) ?_;intro v' w3 hown' hgrow3 hnil3))
     go_roundw
     case rel=>exact ⟨z,3+1,xs ++ [⟨#[117,110,100,101,114,102,108,111,119]⟩],_,by omega,rfl,rfl,rfl,h3,HR.out,by simp;omega,by intro x hx;rcases List.mem_append.1 hx with hx | hx;exact Hxs.out x hx;simp at hx;subst hx;decide,by rw [List.map_append,List.length_append];exact hown',(Hnx.out.alloc hsz _).grown hgrow3 (by simp;omega) (fun q hq=>(hown.lt q hq).1)⟩
     case measure=>simp [intOf]
   ·replace hie:_=Value.int .u32 16:=hie
    subst hie
    have hS:∀ w1:World,(binOp .shl 72 (.int .u32 16) (.int .u64 1)).run Tryz.prog w1=.ok (.int .u32 32) w1:=fun _=>by kernel_rfl
    have hA:=Lh (u32_and_nat q 16 (by omega) (by decide))
    have hX:=Lh (u32_xor_nat q 16 (by omega) (by decide))
    rcases hbt with ⟨h1,h2⟩ | ⟨h1,h2,h3⟩
    ·have hA1:bits .and .u32 (q:Int) 16=0:=hA.out.trans (by show ((q &&& 2^4:Nat):Int)=0;rw [h1];rfl)
     have HR:=Lh (show q % 2^(4+1)=0 from h2)
     have Hown:=Lh hown;have Hnx:=Lh hnx;have Hxs:=Lh hxs
     clear h1 h2 hA hX hown hnx hxs hm
     go_wp2_with fail
     go_roundw
     case rel=>exact ⟨q,4+1,xs,_,by omega,rfl,rfl,rfl,hq,HR.out,by omega,Hxs.out,Hown.out,Hnx.out⟩
     case measure=>simp [intOf]
    ·have hA1:bits .and .u32 (q:Int) 16=16:=hA.out.trans (by show ((q &&& 2^4:Nat):Int)=16;rw [h1];rfl)
     have hX1:bits .xor .u32 (q:Int) 16=((q ^^^ 2^4:Nat):Int):=hX.out
     generalize hz:q ^^^ 2^4=z at hX1 h2 h3
     have HR:=Lh (show z % 2^(4+1)=0 from h2)
     have Hnx:=Lh hnx;have Hxs:=Lh hxs
     clear h1 h2 hA hX hz hnx hxs hm
     go_wp2_with (first
      | (at_builtin;refine wpList_append_own _ rfl _ _ 196 rfl w.heap.size 9 i0 (.string ByteArray.empty) 1 16 Tryz.underlying196 hi hz0 hz1 hz2 rfl (by decide) _ _ _ rfl (hown.alloc _) ⟨wr.heap.size,0,none⟩ 1 1 [.string ⟨#[105,110,101,120,97,99,116]⟩] rfl rfl (cell_one_new _ _ _) (fun x hx=>by simp at hx;subst hx;rfl) (by unfold maxLen;omega) (by omega) (by simp;omega) ?_;intro v' w3 hown' hgrow3 hnil3))
     go_roundw
     case rel=>exact ⟨z,4+1,xs ++ [⟨#[105,110,101,120,97,99,116]⟩],_,by omega,rfl,rfl,rfl,h3,HR.out,by simp;omega,by intro x hx;rcases List.mem_append.1 hx with hx | hx;exact Hxs.out x hx;simp at hx;subst hx;decide,by rw [List.map_append,List.length_append];exact hown',(Hnx.out.alloc hsz _).grown hgrow3 (by simp;omega) (fun q hq=>(hown.lt q hq).1)⟩
     case measure=>simp [intOf]
   ·replace hie:_=Value.int .u32 32:=hie
    subst hie
    have hS:∀ w1:World,(binOp .shl 72 (.int .u32 32) (.int .u64 1)).run Tryz.prog w1=.ok (.int .u32 64) w1:=fun _=>by kernel_rfl
    have hA:=Lh (u32_and_nat q 32 (by omega) (by decide))
    have hX:=Lh (u32_xor_nat q 32 (by omega) (by decide))
    rcases hbt with ⟨h1,h2⟩ | ⟨h1,h2,h3⟩
    ·have hA1:bits .and .u32 (q:Int) 32=0:=hA.out.trans (by show ((q &&& 2^5:Nat):Int)=0;rw [h1];rfl)
     have HR:=Lh (show q % 2^(5+1)=0 from h2)
     have Hown:=Lh hown;have Hnx:=Lh hnx;have Hxs:=Lh hxs
     clear h1 h2 hA hX hown hnx hxs hm
     go_wp2_with fail
     go_roundw
     case rel=>exact ⟨q,5+1,xs,_,by omega,rfl,rfl,rfl,hq,HR.out,by omega,Hxs.out,Hown.out,Hnx.out⟩
     case measure=>simp [intOf]
    ·have hA1:bits .and .u32 (q:Int) 32=32:=hA.out.trans (by show ((q &&& 2^5:Nat):Int)=32;rw [h1];rfl)
     have hX1:bits .xor .u32 (q:Int) 32=((q ^^^ 2^5:Nat):Int):=hX.out
     generalize hz:q ^^^ 2^5=z at hX1 h2 h3
     have HR:=Lh (show z % 2^(5+1)=0 from h2)
     have Hnx:=Lh hnx;have Hxs:=Lh hxs
     clear h1 h2 hA hX hz hnx hxs hm
     go_wp2_with (first
      | (at_builtin;refine wpList_append_own _ rfl _ _ 196 rfl w.heap.size 9 i0 (.string ByteArray.empty) 1 16 Tryz.underlying196 hi hz0 hz1 hz2 rfl (by decide) _ _ _ rfl (hown.alloc _) ⟨wr.heap.size,0,none⟩ 1 1 [.string ⟨#[115,117,98,110,111,114,109,97,108]⟩] rfl rfl (cell_one_new _ _ _) (fun x hx=>by simp at hx;subst hx;rfl) (by unfold maxLen;omega) (by omega) (by simp;omega) ?_;intro v' w3 hown' hgrow3 hnil3))
     go_roundw
     case rel=>exact ⟨z,5+1,xs ++ [⟨#[115,117,98,110,111,114,109,97,108]⟩],_,by omega,rfl,rfl,rfl,h3,HR.out,by simp;omega,by intro x hx;rcases List.mem_append.1 hx with hx | hx;exact Hxs.out x hx;simp at hx;subst hx;decide,by rw [List.map_append,List.length_append];exact hown',(Hnx.out.alloc hsz _).grown hgrow3 (by simp;omega) (fun q hq=>(hown.lt q hq).1)⟩
     case measure=>simp [intOf]
   ·replace hie:_=Value.int .u32 64:=hie
    subst hie
    have hS:∀ w1:World,(binOp .shl 72 (.int .u32 64) (.int .u64 1)).run Tryz.prog w1=.ok (.int .u32 128) w1:=fun _=>by kernel_rfl
    have hA:=Lh (u32_and_nat q 64 (by omega) (by decide))
    have hX:=Lh (u32_xor_nat q 64 (by omega) (by decide))
    rcases hbt with ⟨h1,h2⟩ | ⟨h1,h2,h3⟩
    ·have hA1:bits .and .u32 (q:Int) 64=0:=hA.out.trans (by show ((q &&& 2^6:Nat):Int)=0;rw [h1];rfl)
     have HR:=Lh (show q % 2^(6+1)=0 from h2)
     have Hown:=Lh hown;have Hnx:=Lh hnx;have Hxs:=Lh hxs
     clear h1 h2 hA hX hown hnx hxs hm
     go_wp2_with fail
     go_roundw
     case rel=>exact ⟨q,6+1,xs,_,by omega,rfl,rfl,rfl,hq,HR.out,by omega,Hxs.out,Hown.out,Hnx.out⟩
     case measure=>simp [intOf]
    ·have hA1:bits .and .u32 (q:Int) 64=64:=hA.out.trans (by show ((q &&& 2^6:Nat):Int)=64;rw [h1];rfl)
     have hX1:bits .xor .u32 (q:Int) 64=((q ^^^ 2^6:Nat):Int):=hX.out
     generalize hz:q ^^^ 2^6=z at hX1 h2 h3
     have HR:=Lh (show z % 2^(6+1)=0 from h2)
     have Hnx:=Lh hnx;have Hxs:=Lh hxs
     clear h1 h2 hA hX hz hnx hxs hm
     go_wp2_with (first
      | (at_builtin;refine wpList_append_own _ rfl _ _ 196 rfl w.heap.size 9 i0 (.string ByteArray.empty) 1 16 Tryz.underlying196 hi hz0 hz1 hz2 rfl (by decide) _ _ _ rfl (hown.alloc _) ⟨wr.heap.size,0,none⟩ 1 1 [.string ⟨#[114,111,117,110,100,101,100]⟩] rfl rfl (cell_one_new _ _ _) (fun x hx=>by simp at hx;subst hx;rfl) (by unfold maxLen;omega) (by omega) (by simp;omega) ?_;intro v' w3 hown' hgrow3 hnil3))
     go_roundw
     case rel=>exact ⟨z,6+1,xs ++ [⟨#[114,111,117,110,100,101,100]⟩],_,by omega,rfl,rfl,rfl,h3,HR.out,by simp;omega,by intro x hx;rcases List.mem_append.1 hx with hx | hx;exact Hxs.out x hx;simp at hx;subst hx;decide,by rw [List.map_append,List.length_append];exact hown',(Hnx.out.alloc hsz _).grown hgrow3 (by simp;omega) (fun q hq=>(hown.lt q hq).1)⟩
     case measure=>simp [intOf]
   ·replace hie:_=Value.int .u32 128:=hie
    subst hie
    have hS:∀ w1:World,(binOp .shl 72 (.int .u32 128) (.int .u64 1)).run Tryz.prog w1=.ok (.int .u32 256) w1:=fun _=>by kernel_rfl
    have hA:=Lh (u32_and_nat q 128 (by omega) (by decide))
    have hX:=Lh (u32_xor_nat q 128 (by omega) (by decide))
    rcases hbt with ⟨h1,h2⟩ | ⟨h1,h2,h3⟩
    ·have hA1:bits .and .u32 (q:Int) 128=0:=hA.out.trans (by show ((q &&& 2^7:Nat):Int)=0;rw [h1];rfl)
     have HR:=Lh (show q % 2^(7+1)=0 from h2)
     have Hown:=Lh hown;have Hnx:=Lh hnx;have Hxs:=Lh hxs
     clear h1 h2 hA hX hown hnx hxs hm
     go_wp2_with fail
     go_roundw
     case rel=>exact ⟨q,7+1,xs,_,by omega,rfl,rfl,rfl,hq,HR.out,by omega,Hxs.out,Hown.out,Hnx.out⟩
     case measure=>simp [intOf]
    ·have hA1:bits .and .u32 (q:Int) 128=128:=hA.out.trans (by show ((q &&& 2^7:Nat):Int)=128;rw [h1];rfl)
     have hX1:bits .xor .u32 (q:Int) 128=((q ^^^ 2^7:Nat):Int):=hX.out
     generalize hz:q ^^^ 2^7=z at hX1 h2 h3
     have HR:=Lh (show z % 2^(7+1)=0 from h2)
     have Hnx:=Lh hnx;have Hxs:=Lh hxs
     clear h1 h2 hA hX hz hnx hxs hm
     go_wp2_with (first
      | (at_builtin;refine wpList_append_own _ rfl _ _ 196 rfl w.heap.size 9 i0 (.string ByteArray.empty) 1 16 Tryz.underlying196 hi hz0 hz1 hz2 rfl (by decide) _ _ _ rfl (hown.alloc _) ⟨wr.heap.size,0,none⟩ 1 1 [.string ⟨#[100,105,118,105,115,105,111,110,32,117,110,100,101,102,105,110,101,100]⟩] rfl rfl (cell_one_new _ _ _) (fun x hx=>by simp at hx;subst hx;rfl) (by unfold maxLen;omega) (by omega) (by simp;omega) ?_;intro v' w3 hown' hgrow3 hnil3))
     go_roundw
     case rel=>exact ⟨z,7+1,xs ++ [⟨#[100,105,118,105,115,105,111,110,32,117,110,100,101,102,105,110,101,100]⟩],_,by omega,rfl,rfl,rfl,h3,HR.out,by simp;omega,by intro x hx;rcases List.mem_append.1 hx with hx | hx;exact Hxs.out x hx;simp at hx;subst hx;decide,by rw [List.map_append,List.length_append];exact hown',(Hnx.out.alloc hsz _).grown hgrow3 (by simp;omega) (fun q hq=>(hown.lt q hq).1)⟩
     case measure=>simp [intOf]
   ·replace hie:_=Value.int .u32 256:=hie
    subst hie
    have hS:∀ w1:World,(binOp .shl 72 (.int .u32 256) (.int .u64 1)).run Tryz.prog w1=.ok (.int .u32 512) w1:=fun _=>by kernel_rfl
    have hA:=Lh (u32_and_nat q 256 (by omega) (by decide))
    have hX:=Lh (u32_xor_nat q 256 (by omega) (by decide))
    rcases hbt with ⟨h1,h2⟩ | ⟨h1,h2,h3⟩
    ·have hA1:bits .and .u32 (q:Int) 256=0:=hA.out.trans (by show ((q &&& 2^8:Nat):Int)=0;rw [h1];rfl)
     have HR:=Lh (show q % 2^(8+1)=0 from h2)
     have Hown:=Lh hown;have Hnx:=Lh hnx;have Hxs:=Lh hxs
     clear h1 h2 hA hX hown hnx hxs hm
     go_wp2_with fail
     go_roundw
     case rel=>exact ⟨q,8+1,xs,_,by omega,rfl,rfl,rfl,hq,HR.out,by omega,Hxs.out,Hown.out,Hnx.out⟩
     case measure=>simp [intOf]
    ·have hA1:bits .and .u32 (q:Int) 256=256:=hA.out.trans (by show ((q &&& 2^8:Nat):Int)=256;rw [h1];rfl)
     have hX1:bits .xor .u32 (q:Int) 256=((q ^^^ 2^8:Nat):Int):=hX.out
     generalize hz:q ^^^ 2^8=z at hX1 h2 h3
     have HR:=Lh (show z % 2^(8+1)=0 from h2)
     have Hnx:=Lh hnx;have Hxs:=Lh hxs
     clear h1 h2 hA hX hz hnx hxs hm
     go_wp2_with (first
      | (at_builtin;refine wpList_append_own _ rfl _ _ 196 rfl w.heap.size 9 i0 (.string ByteArray.empty) 1 16 Tryz.underlying196 hi hz0 hz1 hz2 rfl (by decide) _ _ _ rfl (hown.alloc _) ⟨wr.heap.size,0,none⟩ 1 1 [.string ⟨#[100,105,118,105,115,105,111,110,32,98,121,32,122,101,114,111]⟩] rfl rfl (cell_one_new _ _ _) (fun x hx=>by simp at hx;subst hx;rfl) (by unfold maxLen;omega) (by omega) (by simp;omega) ?_;intro v' w3 hown' hgrow3 hnil3))
     go_roundw
     case rel=>exact ⟨z,8+1,xs ++ [⟨#[100,105,118,105,115,105,111,110,32,98,121,32,122,101,114,111]⟩],_,by omega,rfl,rfl,rfl,h3,HR.out,by simp;omega,by intro x hx;rcases List.mem_append.1 hx with hx | hx;exact Hxs.out x hx;simp at hx;subst hx;decide,by rw [List.map_append,List.length_append];exact hown',(Hnx.out.alloc hsz _).grown hgrow3 (by simp;omega) (fun q hq=>(hown.lt q hq).1)⟩
     case measure=>simp [intOf]
   ·replace hie:_=Value.int .u32 512:=hie
    subst hie
    have hS:∀ w1:World,(binOp .shl 72 (.int .u32 512) (.int .u64 1)).run Tryz.prog w1=.ok (.int .u32 1024) w1:=fun _=>by kernel_rfl
    have hA:=Lh (u32_and_nat q 512 (by omega) (by decide))
    have hX:=Lh (u32_xor_nat q 512 (by omega) (by decide))
    rcases hbt with ⟨h1,h2⟩ | ⟨h1,h2,h3⟩
    ·have hA1:bits .and .u32 (q:Int) 512=0:=hA.out.trans (by show ((q &&& 2^9:Nat):Int)=0;rw [h1];rfl)
     have HR:=Lh (show q % 2^(9+1)=0 from h2)
     have Hown:=Lh hown;have Hnx:=Lh hnx;have Hxs:=Lh hxs
     clear h1 h2 hA hX hown hnx hxs hm
     go_wp2_with fail
     go_roundw
     case rel=>exact ⟨q,9+1,xs,_,by omega,rfl,rfl,rfl,hq,HR.out,by omega,Hxs.out,Hown.out,Hnx.out⟩
     case measure=>simp [intOf]
    ·have hA1:bits .and .u32 (q:Int) 512=512:=hA.out.trans (by show ((q &&& 2^9:Nat):Int)=512;rw [h1];rfl)
     have hX1:bits .xor .u32 (q:Int) 512=((q ^^^ 2^9:Nat):Int):=hX.out
     generalize hz:q ^^^ 2^9=z at hX1 h2 h3
     have HR:=Lh (show z % 2^(9+1)=0 from h2)
     have Hnx:=Lh hnx;have Hxs:=Lh hxs
     clear h1 h2 hA hX hz hnx hxs hm
     go_wp2_with (first
      | (at_builtin;refine wpList_append_own _ rfl _ _ 196 rfl w.heap.size 9 i0 (.string ByteArray.empty) 1 16 Tryz.underlying196 hi hz0 hz1 hz2 rfl (by decide) _ _ _ rfl (hown.alloc _) ⟨wr.heap.size,0,none⟩ 1 1 [.string ⟨#[100,105,118,105,115,105,111,110,32,105,109,112,111,115,115,105,98,108,101]⟩] rfl rfl (cell_one_new _ _ _) (fun x hx=>by simp at hx;subst hx;rfl) (by unfold maxLen;omega) (by omega) (by simp;omega) ?_;intro v' w3 hown' hgrow3 hnil3))
     go_roundw
     case rel=>exact ⟨z,9+1,xs ++ [⟨#[100,105,118,105,115,105,111,110,32,105,109,112,111,115,115,105,98,108,101]⟩],_,by omega,rfl,rfl,rfl,h3,HR.out,by simp;omega,by intro x hx;rcases List.mem_append.1 hx with hx | hx;exact Hxs.out x hx;simp at hx;subst hx;decide,by rw [List.map_append,List.length_append];exact hown',(Hnx.out.alloc hsz _).grown hgrow3 (by simp;omega) (fun q hq=>(hown.lt q hq).1)⟩
     case measure=>simp [intOf]
   ·replace hie:_=Value.int .u32 1024:=hie
    subst hie
    have hS:∀ w1:World,(binOp .shl 72 (.int .u32 1024) (.int .u64 1)).run Tryz.prog w1=.ok (.int .u32 2048) w1:=fun _=>by kernel_rfl
    have hA:=Lh (u32_and_nat q 1024 (by omega) (by decide))
    have hX:=Lh (u32_xor_nat q 1024 (by omega) (by decide))
    rcases hbt with ⟨h1,h2⟩ | ⟨h1,h2,h3⟩
    ·have hA1:bits .and .u32 (q:Int) 1024=0:=hA.out.trans (by show ((q &&& 2^10:Nat):Int)=0;rw [h1];rfl)
     have HR:=Lh (show q % 2^(10+1)=0 from h2)
     have Hown:=Lh hown;have Hnx:=Lh hnx;have Hxs:=Lh hxs
     clear h1 h2 hA hX hown hnx hxs hm
     go_wp2_with fail
     go_roundw
     case rel=>exact ⟨q,10+1,xs,_,by omega,rfl,rfl,rfl,hq,HR.out,by omega,Hxs.out,Hown.out,Hnx.out⟩
     case measure=>simp [intOf]
    ·have hA1:bits .and .u32 (q:Int) 1024=1024:=hA.out.trans (by show ((q &&& 2^10:Nat):Int)=1024;rw [h1];rfl)
     have hX1:bits .xor .u32 (q:Int) 1024=((q ^^^ 2^10:Nat):Int):=hX.out
     generalize hz:q ^^^ 2^10=z at hX1 h2 h3
     have HR:=Lh (show z % 2^(10+1)=0 from h2)
     have Hnx:=Lh hnx;have Hxs:=Lh hxs
     clear h1 h2 hA hX hz hnx hxs hm
     go_wp2_with (first
      | (at_builtin;refine wpList_append_own _ rfl _ _ 196 rfl w.heap.size 9 i0 (.string ByteArray.empty) 1 16 Tryz.underlying196 hi hz0 hz1 hz2 rfl (by decide) _ _ _ rfl (hown.alloc _) ⟨wr.heap.size,0,none⟩ 1 1 [.string ⟨#[105,110,118,97,108,105,100,32,111,112,101,114,97,116,105,111,110]⟩] rfl rfl (cell_one_new _ _ _) (fun x hx=>by simp at hx;subst hx;rfl) (by unfold maxLen;omega) (by omega) (by simp;omega) ?_;intro v' w3 hown' hgrow3 hnil3))
     go_roundw
     case rel=>exact ⟨z,10+1,xs ++ [⟨#[105,110,118,97,108,105,100,32,111,112,101,114,97,116,105,111,110]⟩],_,by omega,rfl,rfl,rfl,h3,HR.out,by simp;omega,by intro x hx;rcases List.mem_append.1 hx with hx | hx;exact Hxs.out x hx;simp at hx;subst hx;decide,by rw [List.map_append,List.length_append];exact hown',(Hnx.out.alloc hsz _).grown hgrow3 (by simp;omega) (fun q hq=>(hown.lt q hq).1)⟩
     case measure=>simp [intOf]
   ·replace hie:_=Value.int .u32 2048:=hie
    subst hie
    have hS:∀ w1:World,(binOp .shl 72 (.int .u32 2048) (.int .u64 1)).run Tryz.prog w1=.ok (.int .u32 4096) w1:=fun _=>by kernel_rfl
    have hA:=Lh (u32_and_nat q 2048 (by omega) (by decide))
    have hX:=Lh (u32_xor_nat q 2048 (by omega) (by decide))
    rcases hbt with ⟨h1,h2⟩ | ⟨h1,h2,h3⟩
    ·have hA1:bits .and .u32 (q:Int) 2048=0:=hA.out.trans (by show ((q &&& 2^11:Nat):Int)=0;rw [h1];rfl)
     have HR:=Lh (show q % 2^(11+1)=0 from h2)
     have Hown:=Lh hown;have Hnx:=Lh hnx;have Hxs:=Lh hxs
     clear h1 h2 hA hX hown hnx hxs hm
     go_wp2_with fail
     go_roundw
     case rel=>exact ⟨q,11+1,xs,_,by omega,rfl,rfl,rfl,hq,HR.out,by omega,Hxs.out,Hown.out,Hnx.out⟩
     case measure=>simp [intOf]
    ·have hA1:bits .and .u32 (q:Int) 2048=2048:=hA.out.trans (by show ((q &&& 2^11:Nat):Int)=2048;rw [h1];rfl)
     have hX1:bits .xor .u32 (q:Int) 2048=((q ^^^ 2^11:Nat):Int):=hX.out
     generalize hz:q ^^^ 2^11=z at hX1 h2 h3
     have HR:=Lh (show z % 2^(11+1)=0 from h2)
     have Hnx:=Lh hnx;have Hxs:=Lh hxs
     clear h1 h2 hA hX hz hnx hxs hm
     go_wp2_with (first
      | (at_builtin;refine wpList_append_own _ rfl _ _ 196 rfl w.heap.size 9 i0 (.string ByteArray.empty) 1 16 Tryz.underlying196 hi hz0 hz1 hz2 rfl (by decide) _ _ _ rfl (hown.alloc _) ⟨wr.heap.size,0,none⟩ 1 1 [.string ⟨#[99,108,97,109,112,101,100]⟩] rfl rfl (cell_one_new _ _ _) (fun x hx=>by simp at hx;subst hx;rfl) (by unfold maxLen;omega) (by omega) (by simp;omega) ?_;intro v' w3 hown' hgrow3 hnil3))
     go_roundw
     case rel=>exact ⟨z,11+1,xs ++ [⟨#[99,108,97,109,112,101,100]⟩],_,by omega,rfl,rfl,rfl,h3,HR.out,by simp;omega,by intro x hx;rcases List.mem_append.1 hx with hx | hx;exact Hxs.out x hx;simp at hx;subst hx;decide,by rw [List.map_append,List.length_append];exact hown',(Hnx.out.alloc hsz _).grown hgrow3 (by simp;omega) (fun q hq=>(hown.lt q hq).1)⟩
     case measure=>simp [intOf]
theorem St.belowH {W:World}{σ:Sg}{w w':World}(h:St W σ w)(hB:Below w.heap.size w w'):St W σ w' :=
 h.frame (fun _=>False) ⟨hB.os,hB.tape,hB.output,hB.size,fun k hk _=>hB.block k hk,fun k hk=>by unfold hd;rw [hB.block k hk]⟩ (fun _ e=>e)
def ErrV (bad:Bool)(v:Value):Prop:=(bad=true∧∃ T x,v=.iface T x)∨(bad=false∧v=.nilIface)
def badK (k tr:Nat):Bool:=decide (k &&& 3≠0) || decide (k &&& tr≠0)
theorem Q8b {W:World}{σ:Sg}{w:World}(h:St W σ w)(s:ByteArray):Calls Tryz.prog 101 #[.string s] w fun r w'=>(∃ T x,r=.returned (.iface T x))∧St W σ w':=by
 have H:=Lh (fun o=>h.alloc_any o)
 clear h
 go_enter Tryz.func101, Tryz.ntmps101
 go_wp2_with fail
 go_ret
 exact ⟨⟨_,_,rfl⟩,H.out _⟩
theorem Qa2 {W:World}{σ:Sg}{w:World}(h:St W σ w){k tr:Nat}(hk:k<4096)(htr:tr<4096):Calls Tryz.prog 121 #[.int .u32 (k:Int),.int .u32 (tr:Int)] w fun r w'=>(∃ v,r=.returned (.tuple #[.int .u32 (k:Int),v])∧ErrV (badK k tr) v)∧St W σ w':=by
 have H:=Lh h
 have hA:=Q1V k 3 hk (by decide)
 have hT:=Q1V k tr hk htr
 have hB:=badK k tr
 have hl:k &&& tr<4096:=Nat.lt_of_le_of_lt Nat.and_le_left hk
 have hA':bits .and .u32 (k:Int) 3=((k &&& 3:Nat):Int):=hA
 clear hA h
 by_cases h3:k &&& 3=0
 ·rw [h3] at hA'
  by_cases ht:k &&& tr=0
  ·have hbad:badK k tr=false:=by unfold badK;simp [h3,ht]
   rw [hbad]
   rw [ht] at hT
   clear hbad h3 ht hl
   go_enter Tryz.func121, Tryz.ntmps121
   go_wp2_with fail
   go_ret2
   exact ⟨⟨_,rfl,.inr ⟨rfl,rfl⟩⟩,H.out⟩
  ·have hbad:badK k tr=true:=by unfold badK;simp [h3,ht]
   rw [hbad]
   have HS:=Lh (fun w1=>Q5G (k &&& tr) hl w1)
   generalize k &&& tr=z at hT ht HS
   have hz:((z:Int)=0)=False:=by simp;omega
   clear hbad h3 hl
   go_enter Tryz.func121, Tryz.ntmps121
   go_wp2_with fail
   refine (HS.out _).mono ?_
   rintro r w1 ⟨⟨s,rfl⟩,hb⟩
   have H1:=Lh (H.out.belowH hb)
   clear hb HS
   go_wp2_with fail
   refine (Q8b H1.out s).mono ?_
   rintro r w2 ⟨⟨T,x,rfl⟩,q⟩
   have H2:=Lh q
   clear q
   go_wp2_with fail
   go_ret2
   exact ⟨⟨_,rfl,.inl ⟨rfl,_,_,rfl⟩⟩,H2.out⟩
 ·have hbad:badK k tr=true:=by unfold badK;simp [h3]
  rw [hbad]
  generalize k &&& 3=z at hA' h3
  have hz:((z:Int)=0)=False:=by simp;omega
  clear hbad hl
  go_enter Tryz.func121, Tryz.ntmps121
  go_wp2_with fail
  refine (Q8b H.out _).mono ?_
  rintro r w2 ⟨⟨T,x,rfl⟩,q⟩
  have H2:=Lh q
  clear q
  go_wp2_with fail
  go_ret2
  exact ⟨⟨_,rfl,.inl ⟨rfl,_,_,rfl⟩⟩,H2.out⟩
theorem Q4i {W:World}{σ:Sg}{w:World}(h:St W σ w){bk p md:Nat}{mx mn:Int}{k tr:Nat}(hc:Ctx σ bk p mx mn (tr:Int) md)(hk:k<4096)(htr:tr<4096):Calls Tryz.prog 69 #[.pointer (some ⟨bk,0,none⟩),.int .u32 (k:Int)] w fun r w'=>(∃ v,r=.returned (.tuple #[.int .u32 (k:Int),v])∧ErrV (badK k tr) v)∧St W σ w':=by
 have H:=Lh h
 have k3:=(h.ctx hc).2.2.2.1
 by_cases h0:k=0
 ·subst h0
  rw [show badK 0 tr=false by unfold badK;simp]
  clear h hc
  go_enter Tryz.func69, Tryz.ntmps69
  go_wp2_with fail
  go_ret2
  exact ⟨⟨_,rfl,.inr ⟨rfl,rfl⟩⟩,H.out⟩
 ·have HG:=Lh (Qa2 h hk htr)
  have hz:((k:Int) == 0)=false:=by simp;omega
  generalize badK k tr=bad at HG ⊢
  clear h hc h0
  go_enter Tryz.func69, Tryz.ntmps69
  go_wp2_with fail
  refine HG.out.mono ?_
  rintro r w1 ⟨⟨v,rfl,hv⟩,q⟩
  have H2:=Lh q;have HV:=Lh hv
  clear q hv HG
  go_wp2_with fail
  go_ret2
  exact ⟨⟨_,rfl,HV.out⟩,H2.out⟩
theorem Q14 {fn:Func}{t u v x:Tmp}(h:fn.results=#[.tmp t,.tmp u,.tmp v,.tmp x])(tmps:Array Value)(P:Program)(w:World) :
  (results fn tmps).run P w=.ok (.tuple #[tmps.getD t undef,tmps.getD u undef,tmps.getD v undef,tmps.getD x undef]) w:=by
 simp [results,h]
theorem Q4l {W:World}{σ:Sg}{w:World}(h:St W σ w){b b':Nat}{f f':Int}{n n':Bool}{e c c':Int}(hb:σ b=some (.dec f n e c))(hx:σ b'=some (.dec f' n' e c'))(t:Value) :
  Calls Tryz.prog 100 #[.pointer (some ⟨b,0,none⟩),.pointer (some ⟨b',0,none⟩),t] w fun r w'=>r=.returned (.tuple #[.pointer (some ⟨b,3,none⟩),.pointer (some ⟨b',3,none⟩),.int .i32 e,.nilIface])∧St W σ w':=by
 obtain ⟨_,_,c2,_,_,_⟩:=h.dec hb
 obtain ⟨_,_,x2,_,_,_⟩:=h.dec hx
 have H:=Lh h
 clear h hb hx
 go_enter Tryz.func100, Tryz.ntmps100
 go_wp2_with fail
 go_quiet (fail)
 go_wp2_with fail
 go_quiet (fail)
 go_wp2_with fail
 refine bodyPost_ret (Q14 rfl _ _ _) rfl ?_
 exact ⟨rfl,H.out.sm ⟨rfl,rfl,rfl,rfl⟩⟩
theorem Q3a {W:World}{σ:Sg}{w:World}(h:St W σ w){bk b b':Nat}{n n':Bool}{e c e' c' f f':Int}(hb:σ b=some (.dec f n e c))(hx:σ b'=some (.dec f' n' e' c'))(hf:f≠2∧f≠3)(hf':f'≠2∧f'≠3) :
  Calls Tryz.prog 65 #[.pointer (some ⟨bk,0,none⟩),.pointer (some ⟨b,0,none⟩),.pointer (some ⟨b',0,none⟩)] w fun r w'=>r=.returned (.bool false)∧w'=w:=by
 obtain ⟨c0,_,_,_,_,_⟩:=h.dec hb
 obtain ⟨x0,_,_,_,_,_⟩:=h.dec hx
 have e2:(f == 2)=false:=by simpa using hf.1
 have e3:(f == 3)=false:=by simpa using hf.2
 have e4:(f' == 2)=false:=by simpa using hf'.1
 have e5:(f' == 3)=false:=by simpa using hf'.2
 clear h hb hx hf hf'
 go_enter Tryz.func65, Tryz.ntmps65
 go_wp2_with fail
 go_ret
 exact ⟨rfl,rfl⟩
theorem Q9p {W:World}{σ:Sg}{w:World}(hW:GW W)(h:St W σ w){b bx bu bk p md:Nat}{mx mn:Int}{tr:Nat}(hk:Ctx σ bk p mx mn (tr:Int) md)(htr:tr<4096){f ed cd e:Int}{nd n:Bool}{c c':Nat}(hb:σ b=some (.dec f nd ed cd))(hx:σ bx=some (.dec 0 n e (c:Int)))(hu:σ bu=some (.dec 0 n e (c':Int)))(n1:b≠bx)(n2:b≠bu)(hc:c<BB^19)(hc':c'<BB^19)(X:DR)(hl:X.k<4096)(hR:∀ w1,St W (upd σ b (.dec 0 n e ((c+c':Nat):Int))) w1→Calls Tryz.prog 68 #[.pointer (some ⟨bk,0,none⟩),.pointer (some ⟨b,0,none⟩),.pointer (some ⟨b,0,none⟩)] w1 fun r w'=>r=.returned (.int .u32 (X.k:Int))∧St W (upd σ b X.ob) w') :
  Calls Tryz.prog 80 #[.pointer (some ⟨bk,0,none⟩),.pointer (some ⟨b,0,none⟩),.pointer (some ⟨bx,0,none⟩),.pointer (some ⟨bu,0,none⟩),.bool false] w fun r w'=>(∃ v,r=.returned (.tuple #[.int .u32 (X.k:Int),v])∧ErrV (badK X.k tr) v)∧St W (upd σ b X.ob) w':=by
 have HN:=Lh (Q3a (bk:=bk) h hx hu (by decide) (by decide))
 obtain ⟨x0,x1,x2,_,_,_⟩:=h.dec hx
 obtain ⟨u0,u1,u2,_,_,_⟩:=h.dec hu
 have HU:Hid (∀ w1 t,SM w w1→Calls Tryz.prog 100 #[.pointer (some ⟨bx,0,none⟩),.pointer (some ⟨bu,0,none⟩),t] (w1.alloc (.cells #[.bool false,.slice none 0 0] 69)) fun r w'=>r=.returned (.tuple #[.pointer (some ⟨bx,3,none⟩),.pointer (some ⟨bu,3,none⟩),.int .i32 e,.nilIface])∧(w'.cell? ⟨b,1,none⟩=some (.bool nd)∧w'.frozen? ⟨b,1,none⟩=false)∧St W (upd σ b (.dec f n ed cd)) (w'.setCell ⟨b,1,none⟩ (.bool n))):=fun w1 t hw=>by
  refine (Q4l ((h.sm hw).alloc_any _) hx hu t).mono ?_
  rintro r w' ⟨rfl,q⟩
  obtain ⟨_,d1,_,_,g1,_⟩:=q.dec hb
  exact ⟨rfl,⟨d1,g1⟩,q.setNeg hb n⟩
 have HA:Hid (∀ w1,St W (upd σ b (.dec f n ed cd)) w1→Calls Tryz.prog 98 #[.pointer (some ⟨b,3,none⟩),.pointer (some ⟨bx,3,none⟩),.pointer (some ⟨bu,3,none⟩)] w1 fun r w'=>r=.returned (.pointer (some ⟨b,3,none⟩))∧(w'.cell? ⟨b,2,none⟩=some (.int .i32 ed)∧w'.frozen? ⟨b,2,none⟩=false)∧(w'.cell? ⟨b,0,none⟩=some (.int .i8 f)∧w'.frozen? ⟨b,0,none⟩=false)∧St W (upd σ b (.dec 0 n e ((c+c':Nat):Int))) ((w'.setCell ⟨b,2,none⟩ (.int .i32 e)).setCell ⟨b,0,none⟩ (.int .i8 0))):=fun w1 q1=>by
  refine Q5t ((Q5A hW q1.drew (Num.dec (Q1 _ _ _)) (Num.dec (by rw [Qa _ _ n1.symm];exact hx)) n1 (Num.dec (by rw [Qa _ _ n2.symm];exact hu)) n2 (Q0B hc (by decide)) (Q0B hc' (by decide))).mono ?_)
  rintro r w' ⟨rfl,q⟩
  have q2:=q.decN
  obtain ⟨d0,_,d2,g0,_,g2⟩:=q2.dec (Q1 _ _ _)
  exact ⟨rfl,⟨d2,g2⟩,⟨d0,g0⟩,((q2.setExp (Q1 _ _ _) e).setForm (Q1 _ _ _) 0).upd2.upd2⟩
 have HR:=Lh hR
 have HK:=Lh (hk.upd hb X.ob)
 have HM:=Lh (fun k=>(SM.refl w).drewN k)
 clear h hb hx hu hk hc hc' hR
 go_enter Tryz.func80, Tryz.ntmps80
 go_wp2_with fail
 refine HN.out.mono ?_
 rintro r w_ ⟨rfl,hw_⟩
 subst hw_
 clear HN
 cases n
 ·go_wp2_with fail
  go_quiet (fail)
  go_wp2_with fail
  refine (HU.out _ _ (by exact ⟨rfl,rfl,rfl,rfl⟩)).mono ?_
  rintro r w1 ⟨rfl,⟨d1,g1⟩,q1⟩
  have H1:=Lh (HA.out _ q1);clear q1 HU HA
  go_wp2_with fail
  refine H1.out.mono ?_
  rintro r w2 ⟨rfl,⟨d2,g2⟩,⟨d0,g0⟩,q2⟩
  have H2:=Lh (HR.out _ q2);clear q2 H1 HR
  go_wp2_with fail
  refine H2.out.mono ?_
  rintro r w3 ⟨rfl,q3⟩
  have H3:=Lh (Q4i q3 HK.out hl htr);clear q3 H2
  go_wp2_with fail
  refine H3.out.mono ?_
  rintro r w4 ⟨⟨v,rfl,hv⟩,q4⟩
  have H4:=Lh q4;have HV:=Lh hv;clear q4 hv H3
  go_wp2_with fail
  go_ret2
  exact ⟨⟨_,rfl,HV.out⟩,H4.out⟩
 ·go_wp2_with fail
  go_quiet (fail)
  go_wp2_with fail
  refine (HU.out _ _ (by exact ⟨rfl,rfl,rfl,rfl⟩)).mono ?_
  rintro r w1 ⟨rfl,⟨d1,g1⟩,q1⟩
  have H1:=Lh (HA.out _ q1);clear q1 HU HA
  go_wp2_with fail
  refine H1.out.mono ?_
  rintro r w2 ⟨rfl,⟨d2,g2⟩,⟨d0,g0⟩,q2⟩
  have H2:=Lh (HR.out _ q2);clear q2 H1 HR
  go_wp2_with fail
  refine H2.out.mono ?_
  rintro r w3 ⟨rfl,q3⟩
  have H3:=Lh (Q4i q3 HK.out hl htr);clear q3 H2
  go_wp2_with fail
  refine H3.out.mono ?_
  rintro r w4 ⟨⟨v,rfl,hv⟩,q4⟩
  have H4:=Lh q4;have HV:=Lh hv;clear q4 hv H3
  go_wp2_with fail
  go_ret2
  exact ⟨⟨_,rfl,HV.out⟩,H4.out⟩
theorem Q5L {W:World}{σ:Sg}{w:World}(hW:GW W)(h:St W σ w){b bx bu bk p md:Nat}{mx mn:Int}{tr:Nat}(hk:Ctx σ bk p mx mn (tr:Int) md)(htr:tr<4096){f ed cd e:Int}{nd n:Bool}{c c':Nat}(hb:σ b=some (.dec f nd ed cd))(hx:σ bx=some (.dec 0 n e (c:Int)))(hu:σ bu=some (.dec 0 n e (c':Int)))(n1:b≠bx)(n2:b≠bu)(hc:c<BB^19)(hc':c'<BB^19)(X:DR)(hl:X.k<4096)(hR:∀ w1,St W (upd σ b (.dec 0 n e ((c+c':Nat):Int))) w1→Calls Tryz.prog 68 #[.pointer (some ⟨bk,0,none⟩),.pointer (some ⟨b,0,none⟩),.pointer (some ⟨b,0,none⟩)] w1 fun r w'=>r=.returned (.int .u32 (X.k:Int))∧St W (upd σ b X.ob) w') :
  Calls Tryz.prog 36 #[.pointer (some ⟨bk,0,none⟩),.pointer (some ⟨b,0,none⟩),.pointer (some ⟨bx,0,none⟩),.pointer (some ⟨bu,0,none⟩)] w fun r w'=>(∃ v,r=.returned (.tuple #[.int .u32 (X.k:Int),v])∧ErrV (badK X.k tr) v)∧St W (upd σ b X.ob) w':=by
 have HA:=Lh (Q9p hW h hk htr hb hx hu n1 n2 hc hc' X hl hR)
 clear h hb hx hu hk hc hc' hR
 go_enter Tryz.func36, Tryz.ntmps36
 go_wp2_with fail
 refine HA.out.mono ?_
 rintro r w4 ⟨⟨v,rfl,hv⟩,q4⟩
 have H4:=Lh q4;have HV:=Lh hv;clear q4 hv HA
 go_wp2_with fail
 go_ret2
 exact ⟨⟨_,rfl,HV.out⟩,H4.out⟩
theorem QbK {W:World}{σ:Sg}{w:World}(hW:GW W)(h:St W σ w){b bk:Nat}{n:Bool}{e:Int}{c p md:Nat}{mx mn tr:Int}(hb:σ b=some (.dec 0 n e (c:Int)))(hk:Ctx σ bk p mx mn tr md)(hc:0<c∧c<BB^21)(he:e.natAbs≤40000)(hp:p≠0)(h1:mn≤e+ndg c - 1)(h2:e+ndg c - 1≤mx)(h3:ndg c≤p) :
  Calls Tryz.prog 68 #[.pointer (some ⟨bk,0,none⟩),.pointer (some ⟨b,0,none⟩),.pointer (some ⟨b,0,none⟩)] w fun r w'=>r=.returned (.int .u32 ((0:Nat):Int))∧St W (upd σ b (.dec 0 n e (c:Int))) w':=by
 have HR:=Lh (Q3s (k:=0) (D:=.dec 0 n e (c:Int)) hW ((Q0G h hb).mono fun r w' ⟨a,q⟩=>⟨a,q ▸ h⟩) hb hb hk hc.2 he hp (by omega) h1 h3 (by decide) (SX.of fun w1 ba Ta τ hE ha h4=>by
  have:=Q4c (nd:=ndg c) (res:=0) hW h4 (hE _ _ hb) (hk.ext hE) ha he (by decide) (QG hc.2) (by decide) hc.2 (by rw [Int.add_zero];exact h1) (by rw [Int.add_zero];exact h2)
  rw [Int.add_zero] at this
  exact this))
 have k4:=(h.ctx hk).2.2.2.2
 clear h hb hk hc h1 h2
 go_enter Tryz.func68, Tryz.ntmps68
 go_wp2_with fail
 refine HR.out.mono ?_
 rintro r w1 ⟨rfl,q⟩
 have H1:=Lh q;clear q HR
 go_wp2_with fail
 go_ret
 exact ⟨rfl,H1.out⟩
theorem Q4Z {W:World}{σ:Sg}{w:World}(h:St W σ w){bk b b':Nat}{n n':Bool}{e c e' c':Int}(hb:σ b=some (.dec 0 n e c))(hx:σ b'=some (.dec 0 n' e' c')) :
  Calls Tryz.prog 65 #[.pointer (some ⟨bk,0,none⟩),.pointer (some ⟨b,0,none⟩),.pointer (some ⟨b',0,none⟩)] w fun r w'=>r=.returned (.bool false)∧w'=w:=Q3a h hb hx (by decide) (by decide)
theorem Q9q {W:World}{σ:Sg}{w:World}(h:St W σ w){b bx bu bk p md:Nat}{mx mn tr:Int}(hk:Ctx σ bk p mx mn tr md)(hp:p≠0){e e':Int}{n n':Bool}{c c':Nat}(hx:σ bx=some (.dec 0 n e (c:Int)))(hu:σ bu=some (.dec 0 n' e' (c':Int)))(c0:0<c') :
  Calls Tryz.prog 87 #[.pointer (some ⟨bk,0,none⟩),.pointer (some ⟨b,0,none⟩),.pointer (some ⟨bx,0,none⟩),.pointer (some ⟨bu,0,none⟩),.bool true] w fun r w'=>r=.returned (.tuple #[.bool false,.int .u32 0,.nilIface])∧St W σ w':=by
 have HN:=Lh (Q4Z (bk:=bk) h hx hu)
 obtain ⟨x0,x1,x2,_,_,_⟩:=h.dec hx
 obtain ⟨u0,u1,u2,_,_,_⟩:=h.dec hu
 have H:=Lh h
 have HZ:Hid (∀ w1,St W σ w1→w1.cell? ⟨bk,0,none⟩=some (.int .u32 (p:Int))∧Calls Tryz.prog 81 #[.pointer (some ⟨bu,0,none⟩)] w1 fun r w'=>r=.returned (.bool false)∧w'=w1):=fun w1 q1=>by
  have:=QC q1 hu
  rw [decide_eq_false (by omega)] at this
  exact ⟨(q1.ctx hk).1,this⟩
 have hp1:((p:Int) == 0)=false:=by simp;omega
 clear h hx hu hk
 go_enter Tryz.func87, Tryz.ntmps87
 go_wp2_with fail
 refine HN.out.mono ?_
 rintro r w_ ⟨rfl,hw_⟩
 subst hw_
 clear HN
 go_wp2_with fail
 go_quiet (fail)
 go_wp2_with fail
 go_quiet (fail)
 go_wp2_with fail
 have p0:=(HZ.out _ H.out).1
 refine (HZ.out _ (by exact H.out.sm ⟨rfl,rfl,rfl,rfl⟩)).2.mono ?_
 rintro r w2 ⟨rfl,hw2⟩
 subst hw2
 clear HZ
 go_wp2_with fail
 go_ret3
 exact ⟨rfl,H.out.sm ⟨rfl,rfl,rfl,rfl⟩⟩
def Q2 (σ:Sg)(a g:Nat)(A G:Nat):Sg:=upd (upd σ a (.big (A:Int))) g (.big (G:Int))
def Q3 (σ:Sg)(a g m:Nat)(A G M:Nat):Sg:=upd (Q2 σ a g A G) m (.big (M:Int))
def Q4 (σ:Sg)(a g m t:Nat)(A G M R:Nat):Sg:=upd (Q3 σ a g m A G M) t (.big (R:Int))
theorem Q2.ga (σ:Sg){a g:Nat}(h:a≠g)(A G:Nat):Q2 σ a g A G a=some (.big (A:Int)):=by unfold Q2;rw [Qa _ _ h,Q1]
theorem Q2.gg (σ:Sg)(a g A G:Nat):Q2 σ a g A G g=some (.big (G:Int)):=Q1 _ _ _
theorem Q2.sa (σ:Sg){a g:Nat}(h:a≠g)(A G A':Nat):setN (Q2 σ a g A G) a (A':Int)=Q2 σ a g A' G:=by unfold Q2;rw [QL _ _ _ h,Q0w]
theorem Q2.sg (σ:Sg)(a g A G G':Nat):setN (Q2 σ a g A G) g (G':Int)=Q2 σ a g A G':=by unfold Q2;rw [Q0w]
theorem Q3.ga (σ:Sg){a g m:Nat}(h:a≠g)(h2:a≠m)(A G M:Nat):Q3 σ a g m A G M a=some (.big (A:Int)):=by unfold Q3;rw [Qa _ _ h2,Q2.ga _ h]
theorem Q3.gg (σ:Sg){a g m:Nat}(h2:g≠m)(A G M:Nat):Q3 σ a g m A G M g=some (.big (G:Int)):=by unfold Q3;rw [Qa _ _ h2,Q2.gg]
theorem Q3.gm (σ:Sg)(a g m A G M:Nat):Q3 σ a g m A G M m=some (.big (M:Int)):=Q1 _ _ _
theorem Q3.sa (σ:Sg){a g m:Nat}(h:a≠g)(h2:a≠m)(A G M A':Nat):setN (Q3 σ a g m A G M) a (A':Int)=Q3 σ a g m A' G M:=by unfold Q3;rw [QL _ _ _ h2,Q2.sa _ h]
theorem Q3.sm (σ:Sg)(a g m A G M M':Nat):setN (Q3 σ a g m A G M) m (M':Int)=Q3 σ a g m A G M':=by unfold Q3;rw [Q0w]
theorem Q3.ext {σ:Sg}{a g m:Nat}(na:σ a=none)(ng:σ g=none)(nm:σ m=none)(A G M:Nat):Ext σ (Q3 σ a g m A G M):=((Ext.new na _).upd_skip ng _).upd_skip nm _
theorem Q8o {W:World}{τ:Sg}{w:World}(hW:GW W){a b A v:Nat}(hb:τ b=none)(h:St W (upd τ b (.big (v:Int))) w)(ha:τ a=some (.big (A:Int)))(lA:A<BB^39)(lv:v<BB^100) :
  Calls Tryz.prog 85 #[.pointer (some ⟨a,0,none⟩),.pointer (some ⟨a,0,none⟩),.pointer (some ⟨b,0,none⟩)] w fun r w'=>r=.returned (.pointer (some ⟨a,0,none⟩))∧St W (setN τ a ((A*v:Nat):Int)) w':=by
 have ne:a≠b:=by rintro rfl;rw [ha] at hb;cases hb
 refine Q5u ((Q2Z hW h.drew (Num.big (by rw [Qa _ _ ne];exact ha)) (Num.big (Q1 _ _ _)) ne lA lv).mono ?_)
 rintro r w' ⟨rfl,k⟩
 rw [QL _ _ _ ne] at k
 exact ⟨rfl,k.less (Ext.new (by rw [Qh _ _ ne.symm];exact hb) _)⟩
theorem QaU {W:World}{σ:Sg}{w:World}(h:St W σ w){bk b b':Nat}{f f':Int}{n n':Bool}{e c e' c':Int}(hb:σ b=some (.dec f n e c))(hx:σ b'=some (.dec f' n' e' c')) :
  Calls Tryz.prog 65 #[.pointer (some ⟨bk,0,none⟩),.pointer (some ⟨b,0,none⟩),.pointer (some ⟨b',0,none⟩)] w fun r w'=>r=.returned (.bool (decide (f=2∨f=3∨f'=2∨f'=3)))∧w'=w:=by
 obtain ⟨c0,_,_,_,_,_⟩:=h.dec hb
 obtain ⟨x0,_,_,_,_,_⟩:=h.dec hx
 clear h hb hx
 by_cases h2:f=2
 ·subst h2
  go_enter Tryz.func65, Tryz.ntmps65
  go_wp2_with fail
  go_ret
  exact ⟨rfl,rfl⟩
 ·by_cases h3:f=3
  ·subst h3
   go_enter Tryz.func65, Tryz.ntmps65
   go_wp2_with fail
   go_ret
   exact ⟨rfl,rfl⟩
  ·have e2:(f == 2)=false:=by simpa using h2
   have e3:(f == 3)=false:=by simpa using h3
   by_cases g2:f'=2
   ·subst g2
    rw [decide_eq_true (.inr (.inr (.inl rfl)))]
    clear h2 h3
    go_enter Tryz.func65, Tryz.ntmps65
    go_wp2_with fail
    go_ret
    exact ⟨rfl,rfl⟩
   ·by_cases g3:f'=3
    ·subst g3
     rw [decide_eq_true (.inr (.inr (.inr rfl)))]
     clear h2 h3
     go_enter Tryz.func65, Tryz.ntmps65
     go_wp2_with fail
     go_ret
     exact ⟨rfl,rfl⟩
    ·have e4:(f' == 2)=false:=by simpa using g2
     have e5:(f' == 3)=false:=by simpa using g3
     rw [decide_eq_false (by omega)]
     go_enter Tryz.func65, Tryz.ntmps65
     go_wp2_with fail
     go_ret
     exact ⟨rfl,rfl⟩
theorem Q8u {W:World}{σ:Sg}{w:World}(h:St W σ w){b bx:Nat}{f f':Int}{n n':Bool}{e e' c c':Int}(hb:σ b=some (.dec f n e c))(hx:σ bx=some (.dec f' n' e' c'))(hc:c'.natAbs<BB^100) :
  Calls Tryz.prog 82 #[.pointer (some ⟨b,0,none⟩),.pointer (some ⟨bx,0,none⟩)] w fun r w'=>r=.returned (.pointer (some ⟨b,0,none⟩))∧(w'.cell? ⟨bx,0,none⟩=some (.int .i8 f')∧w'.cell? ⟨b,0,none⟩=some (.int .i8 f')∧w'.frozen? ⟨b,0,none⟩=false)∧St W (upd σ b (.dec f' n' e' c')) w':=by
 by_cases hne:b=bx
 ·subst hne
  rw [hb] at hx
  obtain ⟨rfl,rfl,rfl,rfl⟩:f=f'∧n=n'∧e=e'∧c=c':=by
   have:=Option.some.inj hx
   injection this with a1 a2 a3 a4
   exact ⟨a1,a2,a3,a4⟩
  refine (Q0G h hb).mono ?_
  rintro r w' ⟨rfl,rfl⟩
  obtain ⟨d0,_,_,g0,_,_⟩:=h.dec hb
  exact ⟨rfl,⟨d0,d0,g0⟩,h.ext fun k=>by
   by_cases e:k=b
   ·subst e;rw [Q1,hb]
   ·rw [Qa _ _ e]⟩
 ·refine (Q2X h hb hx hne hc).mono ?_
  rintro r w' ⟨rfl,q⟩
  obtain ⟨d0,_,_,g0,_,_⟩:=q.dec (Q1 _ _ _)
  obtain ⟨y0,_⟩:=q.dec (b:=bx) (by rw [Qa _ _ (Ne.symm hne)];exact hx)
  exact ⟨rfl,⟨y0,d0,g0⟩,q⟩
def nanP (f f':Int):Bool:=decide (f=2∨(f'≠2∧f=3))
theorem Qbo {W:World}{σ:Sg}{w:World}(h:St W σ w){bk b bx bu p md:Nat}{mx mn:Int}{tr:Nat}(hk:Ctx σ bk p mx mn (tr:Int) md)(htr:tr<4096){f f1 f2:Int}{n n1 n2:Bool}{e e1 e2 c c1 c2:Int}(hb:σ b=some (.dec f n e c))(hx:σ bx=some (.dec f1 n1 e1 c1))(hu:σ bu=some (.dec f2 n2 e2 c2))(hc1:c1.natAbs<BB^100)(hc2:c2.natAbs<BB^100)(hf:f1=2∨f1=3∨f2=2∨f2=3) :
  Calls Tryz.prog 66 #[.pointer (some ⟨bk,0,none⟩),.pointer (some ⟨b,0,none⟩),.pointer (some ⟨bx,0,none⟩),.pointer (some ⟨bu,0,none⟩)] w fun r w'=>(∃ v,r=.returned (.tuple #[.int .u32 ((if f1=2∨f2=2 then 1024 else 0:Nat):Int),v])∧ErrV (badK (if f1=2∨f2=2 then 1024 else 0) tr) v)∧St W (upd σ b (.dec 3 (bif nanP f1 f2 then n1 else n2) (bif nanP f1 f2 then e1 else e2) (bif nanP f1 f2 then c1 else c2))) w':=by
 obtain ⟨x0,_,_,_,_,_⟩:=h.dec hx
 obtain ⟨u0,_,_,_,_,_⟩:=h.dec hu
 have HX:=Lh (Q8u h hb hx hc1)
 have HU:=Lh (Q8u h hb hu hc2)
 have HK:=Lh (fun n' e' c'=>hk.upd hb (.dec 3 n' e' c'))
 have HF:Hid (∀ w1 n' e' c',St W (upd σ b (.dec 2 n' e' c')) w1→St W (upd σ b (.dec 3 n' e' c')) (w1.setCell ⟨b,0,none⟩ (.int .i8 3))):=Lh (fun w1 n' e' c' q=>(q.setForm (Q1 _ _ _) 3).upd2)
 clear h hb hx hu hc1 hc2 hk
 by_cases a2:f1=2
 ·subst a2
  rw [if_pos (.inl rfl),show nanP 2 f2=true from decide_eq_true (.inl rfl)]
  clear hf HU
  go_enter Tryz.func66, Tryz.ntmps66
  go_wp2_with fail
  refine HX.out.mono ?_
  rintro r w1 ⟨rfl,⟨y0,y1,y2⟩,q1⟩
  have H1:=Lh (HF.out _ _ _ _ q1);clear q1 HX HF
  go_wp2_with fail
  refine (Q4i H1.out (HK.out _ _ _) (k:=1024) (by decide) htr).mono ?_
  rintro r w2 ⟨⟨v,rfl,hv⟩,q2⟩
  have H2:=Lh q2;have HV:=Lh hv;clear q2 hv
  go_wp2_with fail
  go_ret2
  exact ⟨⟨_,rfl,HV.out⟩,H2.out⟩
 ·have b2:(f1 == 2)=false:=by simpa using a2
  by_cases d2:f2=2
  ·subst d2
   rw [if_pos (.inr rfl),show nanP f1 2=false from decide_eq_false (by omega)]
   clear hf HX a2
   go_enter Tryz.func66, Tryz.ntmps66
   go_wp2_with fail
   refine HU.out.mono ?_
   rintro r w1 ⟨rfl,⟨y0,y1,y2⟩,q1⟩
   have H1:=Lh (HF.out _ _ _ _ q1);clear q1 HU HF
   go_wp2_with fail
   refine (Q4i H1.out (HK.out _ _ _) (k:=1024) (by decide) htr).mono ?_
   rintro r w2 ⟨⟨v,rfl,hv⟩,q2⟩
   have H2:=Lh q2;have HV:=Lh hv;clear q2 hv
   go_wp2_with fail
   go_ret2
   exact ⟨⟨_,rfl,HV.out⟩,H2.out⟩
  ·have e2':(f2 == 2)=false:=by simpa using d2
   rw [if_neg (by omega)]
   by_cases a3:f1=3
   ·subst a3
    rw [show nanP 3 f2=true from decide_eq_true (.inr ⟨d2,rfl⟩)]
    clear hf HU a2 d2 HF
    go_enter Tryz.func66, Tryz.ntmps66
    go_wp2_with fail
    refine HX.out.mono ?_
    rintro r w1 ⟨rfl,⟨y0,y1,y2⟩,q1⟩
    have H1:=Lh q1;clear q1 HX
    go_wp2_with fail
    refine (Q4i H1.out (HK.out _ _ _) (k:=0) (by decide) htr).mono ?_
    rintro r w2 ⟨⟨v,rfl,hv⟩,q2⟩
    have H2:=Lh q2;have HV:=Lh hv;clear q2 hv
    go_wp2_with fail
    go_ret2
    exact ⟨⟨_,rfl,HV.out⟩,H2.out⟩
   ·have b3:(f1 == 3)=false:=by simpa using a3
    obtain rfl:f2=3:=by omega
    rw [show nanP f1 3=false from decide_eq_false (by omega)]
    clear hf HX a2 d2 a3 HF
    go_enter Tryz.func66, Tryz.ntmps66
    go_wp2_with fail
    refine HU.out.mono ?_
    rintro r w1 ⟨rfl,⟨y0,y1,y2⟩,q1⟩
    have H1:=Lh q1;clear q1 HU
    go_wp2_with fail
    refine (Q4i H1.out (HK.out _ _ _) (k:=0) (by decide) htr).mono ?_
    rintro r w2 ⟨⟨v,rfl,hv⟩,q2⟩
    have H2:=Lh q2;have HV:=Lh hv;clear q2 hv
    go_wp2_with fail
    go_ret2
    exact ⟨⟨_,rfl,HV.out⟩,H2.out⟩
end Go.Proofs.YtpebcmfpehdafaaGreatDoor
