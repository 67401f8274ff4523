/- a part of the proof -/
import Derived.Test.YtpebcmfpehdafaaGreatDoorZ30
set_option linter.all false
set_option maxRecDepth 100000
set_option maxHeartbeats 16000000
namespace Go.Proofs.YtpebcmfpehdafaaGreatDoor
open Go Go.RowKit
theorem St.E0 (w:World):St w E0 w:=⟨fun _=>none,⟨Below.refl _ _,fun _ _=>rfl,fun b ob h=>(by cases h),fun b k h=>(by cases h),fun b b' k h=>(by cases h)⟩⟩
theorem Q7g {w w':World}(h:Below w.heap.size w w'):Fr (fun _=>False) w w':=⟨h.os,h.tape,h.output,h.size,fun k hk _=>h.block k hk,fun k hk=>by unfold hd;rw [h.block k hk]⟩
def EOFv (W1:World)(Tv:TypeId)(av:Value):Prop:=W1.cell? ⟨0,0,none⟩=some (.iface Tv av)∧∀ w2,Below W1.heap.size W1 w2→(binOp .eql 74 (.iface Tv av) (.iface Tv av)).run Tryz.prog w2=.ok (.bool true) w2∧(binOp .neq 74 (.iface Tv av) (.iface Tv av)).run Tryz.prog w2=.ok (.bool false) w2
def Digs (s:ByteArray):Prop:=0<s.size∧s.size≤100∧∀ k (h:k<s.size),48≤s[k].toNat∧s[k].toNat≤57
theorem Q51 {W:World}{σ:Sg}{w0:World}(h:St W σ w0){bz oz:Nat}(hz:Num σ bz oz 0)(hnil:w0.cell? ⟨bz,oz+1,none⟩=some (.slice none 0 0)){s:ByteArray}{n l c X:Nat}{p:Option Addr}{wE:World}(hR:ZR w0 w0.heap.size s n p l c X wE) :
  (wE.cell? ⟨bz,oz,none⟩=some (.bool false)∧wE.frozen? ⟨bz,oz,none⟩=false)∧(wE.cell? ⟨bz,oz+1,none⟩=some (.slice none 0 0)∧wE.frozen? ⟨bz,oz+1,none⟩=false) ∧
  St W (upd (setN σ bz (X:Int)) w0.heap.size (Rdr s n)) ((wE.setCell ⟨bz,oz+1,none⟩ (.slice p l c)).setCell ⟨bz,oz,none⟩ (.bool false)):=by
 obtain ⟨xp,xl,xc,hZ⟩:=h.za hz
 have hlt:bz<w0.heap.size:=by obtain ⟨ob,hob⟩:=hz.some;exact h.lt hob
 have hF:=Q7g hR.st.below
 have hc0:=hZ.cell0
 rw [show decide ((0:Int)<0)=false by decide] at hc0
 refine ⟨⟨(hF.cell hlt (fun e=>e)).trans hc0,(hF.frozen hlt (fun e=>e)).trans hZ.fz0⟩,⟨(hF.cell hlt (fun e=>e)).trans hnil,(hF.frozen hlt (fun e=>e)).trans hZ.fz1⟩,?_⟩
 have hn:=h.none_new
 have h1:St W (upd σ w0.heap.size (Rdr s n)) (w0.alloc (.cells #[.string s,.int .i64 (n:Int),.int .i64 (-1)] 192)):=h.alloc _
 have hne:bz≠w0.heap.size:=by omega
 obtain ⟨zp,zl,zc,k1,k2,_,_,_,_,k7⟩:=h1.put (hz.upd_ne hne)
 have hcz:(w0.alloc (.cells #[.string s,.int .i64 (n:Int),.int .i64 (-1)] 192)).cell? ⟨bz,oz+1,none⟩=some (.slice none 0 0):=by
  rw [World.cell?_of_block (w:=w0) (Below.heap_alloc _ _ _ hlt)];exact hnil
 rw [hcz] at k1
 obtain ⟨rfl,rfl,rfl⟩:none=zp∧0=zl∧0=zc:=by
  have:=Option.some.inj k1
  injection this with a b c
  exact ⟨a,b,c⟩
 have hrE:=hR.st.raw (Q1 _ _ _)
 have hsz:(w0.alloc (.cells #[.string s,.int .i64 (n:Int),.int .i64 (-1)] 192)).heap.size=w0.heap.size+1:=by simp
 have hrl:=hR.st.lt (Q1 _ _ _)
 have hFr:Fr (fun _=>False) (w0.alloc (.cells #[.string s,.int .i64 (n:Int),.int .i64 (-1)] 192)) wE:=by
  have hb:∀ k,k<(w0.alloc (.cells #[.string s,.int .i64 (n:Int),.int .i64 (-1)] 192)).heap.size→wE.heap[k]?=(w0.alloc (.cells #[.string s,.int .i64 (n:Int),.int .i64 (-1)] 192)).heap[k]?:=by
   intro k hk
   rw [hsz] at hk
   by_cases e:k=w0.heap.size
   ·rw [e,Q0c,hrE]
   ·rw [Below.heap_alloc _ _ _ (by omega)]
    exact hR.st.below.block k (by omega)
  exact ⟨hR.st.below.os,hR.st.below.tape,hR.st.below.output,by rw [hsz];omega,fun k hk _=>hb k hk,fun k hk=>by unfold hd;rw [hb k hk]⟩
 have hNA:NatAt (w0.alloc (.cells #[.string s,.int .i64 (n:Int),.int .i64 (-1)] 192)) none X p l c wE:=by
  refine ⟨hR.nt,?_,hFr.mono (fun _ _ e=>e.elim)⟩
  cases hp:p with
  | none=>exact .inl rfl
  | some a =>
   obtain ⟨o1,o2⟩:=hR.own a hp
   refine .inr (.inl ⟨a.block,?_,by rw [hsz];omega⟩)
   rcases hR.nt.cases with ⟨e,_⟩ | ⟨b,e,_⟩
   ·rw [e] at hp;cases hp
   ·rw [e] at hp;cases hp;rfl
 have:=(k7 X p l c wE (X:Int) hNA (Int.natAbs_natCast _).symm).2
 rw [Ql,QL _ _ _ hne] at this
 exact this
theorem Q9u {W:World}{σ:Sg}{w0:World}(h:St W σ w0){bz oz:Nat}(hz:Num σ bz oz 0)(hnil:w0.cell? ⟨bz,oz+1,none⟩=some (.slice none 0 0)){s:ByteArray}(hs:Digs s){Tv:TypeId}{av:Value}(hE:EOFv w0 Tv av) :
  Calls Tryz.prog 180 #[.pointer (some ⟨bz,oz,none⟩),.iface 169 (.pointer (some ⟨w0.heap.size,0,none⟩)),.int .i64 10] (w0.alloc (.cells #[.string s,.int .i64 0,.int .i64 (-1)] 192)) fun e w'=>e=.returned (.tuple #[.pointer (some ⟨bz,oz,none⟩),.int .i64 10,.nilIface])∧St W (upd (setN σ bz (valS s s.size:Nat)) w0.heap.size (Rdr s s.size)) w':=by
 obtain ⟨s0,s1,s2⟩:=hs
 have hI:St w0 (upd E0 w0.heap.size (Rdr s 0)) (w0.alloc (.cells #[.string s,.int .i64 0,.int .i64 (-1)] 192)):=(St.E0 w0).alloc _
 have HSS:=Lh (Q3c hI (Q1 _ _ _) s0 (by omega) (s2 0 s0).1)
 have HNS:Hid (∀ w2,St w0 (upd E0 w0.heap.size (Rdr s 0)) w2→w2.cell? ⟨bz,oz+1,none⟩=some (.slice none 0 0)∧Calls Tryz.prog 204 #[.slice none 0 0,.iface 169 (.pointer (some ⟨w0.heap.size,0,none⟩)),.int .i64 10,.bool false] w2 fun e w'=>∃ p l c,e=.returned (.tuple #[.slice p l c,.int .i64 10,.int .i64 (s.size:Int),.nilIface])∧((w'.cell? ⟨bz,oz,none⟩=some (.bool false)∧w'.frozen? ⟨bz,oz,none⟩=false)∧(w'.cell? ⟨bz,oz+1,none⟩=some (.slice none 0 0)∧w'.frozen? ⟨bz,oz+1,none⟩=false) ∧
  St W (upd (setN σ bz (valS s s.size:Nat)) w0.heap.size (Rdr s s.size)) ((w'.setCell ⟨bz,oz+1,none⟩ (.slice p l c)).setCell ⟨bz,oz,none⟩ (.bool false)))):=fun w2 q2=>by
  have hR:ZR w0 w0.heap.size s 0 none 0 0 0 w2:=⟨q2,⟨⟨rfl,rfl⟩,rfl⟩,fun _ e=>(by cases e)⟩
  refine ⟨(Q51 h hz hnil hR).2.1.1,(Q9t hR s0 s1 s2 Tv av hE.1 (fun w3 hb=>(hE.2 w3 hb).1)).mono ?_⟩
  rintro e w' ⟨p,l,c,rfl,hR2⟩
  exact ⟨p,l,c,rfl,Q51 h hz hnil hR2⟩
 obtain ⟨br,hbr⟩:∃ br,br=w0.heap.size:=⟨_,rfl⟩
 rw [← hbr] at HSS HNS ⊢
 generalize w0.alloc (.cells #[.string s,.int .i64 0,.int .i64 (-1)] 192)=w1 at HSS ⊢
 clear h hz hnil hE hI hbr s2
 go_enter Tryz.func180, Tryz.ntmps180
 go_wp2_with fail
 refine HSS.out.mono ?_
 rintro e w2 ⟨rfl,q2⟩
 obtain ⟨c1,hN⟩:=HNS.out _ q2
 have HN:=Lh hN;clear hN q2 HSS HNS
 go_wp2_with fail
 refine HN.out.mono ?_
 rintro e w3 ⟨p,l,c,rfl,⟨d0,d1⟩,⟨d2,d3⟩,q3⟩
 have H3:=Lh q3;clear q3 HN
 rcases Nat.eq_zero_or_pos l with hl | hl
 ·subst hl
  go_wp2_with fail
  go_ret3
  exact ⟨rfl,H3.out⟩
 ·have hl1:(0:Int)<(l:Int):=by omega
  go_wp2_with fail
  go_ret3
  exact ⟨rfl,H3.out⟩
theorem EOFv.later {W:World}{σ:Sg}{w0:World}(h:St W σ w0){Tv:TypeId}{av:Value}(hE:EOFv W Tv av):EOFv w0 Tv av:=by
 refine ⟨?_,fun w2 hb=>hE.2 w2 (h.below.trans (hb.mono h.below.size))⟩
 rw [World.cell?_of_block (w:=W) (h.below.block _ (World.block_lt_of_cell? _ _ hE.1))];exact hE.1
theorem Q4n (s:ByteArray)(w:World):Calls Tryz.prog 157 #[.string s] w fun e w'=>e=.returned (.pointer (some ⟨w.heap.size,0,none⟩))∧w'=w.alloc (.cells #[.string s,.int .i64 0,.int .i64 (-1)] 192):=by
 go_enter Tryz.func157, Tryz.ntmps157
 go_wp2_with fail
 go_ret
 exact ⟨rfl,rfl⟩
theorem Q52 {W:World}{σ:Sg}{w0:World}(h:St W σ w0){bz oz:Nat}(hz:Num σ bz oz 0)(hnil:w0.cell? ⟨bz,oz+1,none⟩=some (.slice none 0 0)){s:ByteArray}(hs:Digs s){Tv:TypeId}{av:Value}(hE:EOFv W Tv av) :
  Calls Tryz.prog 156 #[.pointer (some ⟨bz,oz,none⟩),.iface 169 (.pointer (some ⟨w0.heap.size,0,none⟩)),.int .i64 10] (w0.alloc (.cells #[.string s,.int .i64 0,.int .i64 (-1)] 192)) fun e w'=>e=.returned (.tuple #[.pointer (some ⟨bz,oz,none⟩),.bool true])∧St W (setN σ bz (valS s s.size:Nat)) w':=by
 have HS:=Lh (Q9u h hz hnil hs (hE.later h))
 have hn:=h.none_new
 have hlt:=World.block_lt_of_cell? _ _ hE.1
 have hbr:w0.heap.size≠0:=by
  have:=h.below.size
  have hlt':0<W.heap.size:=hlt
  omega
 have hbz:bz≠w0.heap.size:=by rintro rfl;exact hz.ne_none hn
 have HR:Hid (∀ w1,St W (upd (setN σ bz (valS s s.size:Nat)) w0.heap.size (Rdr s s.size)) w1→Calls Tryz.prog 339 #[.pointer (some ⟨w0.heap.size,0,none⟩)] w1 fun e w'=>e=.returned (.tuple #[.int .u8 0,.iface Tv av])∧(w'.cell? ⟨0,0,none⟩=some (.iface Tv av)∧(binOp .neq 74 (.iface Tv av) (.iface Tv av)).run Tryz.prog w'=.ok (.bool false) w')∧St W (setN σ bz (valS s s.size:Nat)) w'):=fun w1 q1=>by
  refine (Q9s q1 (Q1 _ _ _) (by have:=hs.2.1;omega) _ (hE.later q1).1 hbr).mono ?_
  rintro e w' ⟨rfl,q⟩
  exact ⟨rfl,⟨(hE.later q).1,(hE.2 w' q.below).2⟩,q.less (Ext.new (by rw [Qh _ _ hbz.symm];exact hn) _)⟩
 obtain ⟨br,hb⟩:∃ br,br=w0.heap.size:=⟨_,rfl⟩
 rw [← hb] at HS HR ⊢
 generalize w0.alloc (.cells #[.string s,.int .i64 0,.int .i64 (-1)] 192)=w1 at HS ⊢
 clear h hz hnil hs hE hn hlt hbr hbz hb
 go_enter Tryz.func156, Tryz.ntmps156
 go_wp2_with fail
 refine HS.out.mono ?_
 rintro e w2 ⟨rfl,q2⟩
 have H2:=Lh (HR.out _ q2);clear q2 HS HR
 go_wp2_with fail
 refine H2.out.mono ?_
 rintro e w3 ⟨rfl,⟨c1,c2⟩,q3⟩
 have H3:=Lh q3;clear q3 H2
 go_wp2_with fail
 go_ret2
 exact ⟨rfl,H3.out⟩
theorem Q4o {W:World}{σ:Sg}{w0:World}(h:St W σ w0){bz oz:Nat}(hz:Num σ bz oz 0)(hnil:w0.cell? ⟨bz,oz+1,none⟩=some (.slice none 0 0)){s:ByteArray}(hs:Digs s){Tv:TypeId}{av:Value}(hE:EOFv W Tv av) :
  Calls Tryz.prog 114 #[.pointer (some ⟨bz,oz,none⟩),.string s,.int .i64 10] w0 fun e w'=>e=.returned (.tuple #[.pointer (some ⟨bz,oz,none⟩),.bool true])∧St W (setN σ bz (valS s s.size:Nat)) w':=by
 have HF:=Lh (Q52 h hz hnil hs hE)
 clear h hz hnil hs hE
 go_enter Tryz.func114, Tryz.ntmps114
 go_wp2_with fail
 refine (Q4n s w0).mono ?_
 rintro e w1 ⟨rfl,rfl⟩
 go_wp2_with fail
 refine HF.out.mono ?_
 rintro e w2 ⟨rfl,q2⟩
 have H2:=Lh q2;clear q2 HF
 go_wp2_with fail
 go_ret2
 exact ⟨rfl,H2.out⟩
theorem Q4p {W:World}{σ:Sg}{w0:World}(h:St W σ w0){bz oz:Nat}(hz:Num σ bz oz 0)(hnil:w0.cell? ⟨bz,oz+1,none⟩=some (.slice none 0 0)){s:ByteArray}(hs:Digs s){Tv:TypeId}{av:Value}(hE:EOFv W Tv av) :
  Calls Tryz.prog 62 #[.pointer (some ⟨bz,oz,none⟩),.string s,.int .i64 10] w0 fun e w'=>e=.returned (.tuple #[.pointer (some ⟨bz,oz,none⟩),.bool true])∧St W (setN σ bz (valS s s.size:Nat)) w':=by
 have HF:=Lh (Q4o h hz hnil hs hE)
 clear h hz hnil hs hE
 go_enter Tryz.func62, Tryz.ntmps62
 go_wp2_with fail
 refine HF.out.mono ?_
 rintro e w2 ⟨rfl,q2⟩
 have H2:=Lh q2;clear q2 HF
 go_wp2_with fail
 go_ret2
 exact ⟨rfl,H2.out⟩
end Go.Proofs.YtpebcmfpehdafaaGreatDoor
