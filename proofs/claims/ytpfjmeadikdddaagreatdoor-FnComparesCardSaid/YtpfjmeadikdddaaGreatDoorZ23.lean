/- a part of the proof -/
import Derived.Test.YtpfjmeadikdddaaGreatDoorZ22
set_option linter.all false
set_option maxRecDepth 100000
set_option maxHeartbeats 16000000
namespace Go.Proofs.YtpfjmeadikdddaaGreatDoor
open Go Go.RowKit
def Canon (s:ByteArray):Prop:=Good s∧0<s.size∧(∀ h:1<s.size,s[0].toNat≠48)
def RdR (s:ByteArray)(w:World)(v:Value)(b:Bool):Prop :=
 (∃ n p l c,v=.agg #[.bool n,.slice p l c]∧(b=true→n=true∨Canon s))∧(Canon s→b=true∧NumV w v false (vl (sdL s 0)))
def RdP (s:ByteArray)(w:World)(e:Ending)(w':World):Prop:=∃ v' b,e=.returned (.tuple #[v',.bool b])∧RdR s w' v' b∧Below w.heap.size w w'
theorem DgR.form {s:ByteArray}{w:World}{v:Value}{b:Bool}(h:DgR s w v b):∃ p l c,v=.agg #[.bool false,.slice p l c]:=by
 rcases h with ⟨_,_,sl,rfl,p,c,rfl,_⟩ | ⟨_,_,rfl⟩
 ·exact ⟨_,_,_,rfl⟩
 ·exact ⟨_,_,_,rfl⟩
theorem Q0Q {w:World}{B:Nat}{x y:Value}(d0:w.cell? ⟨B,0,none⟩=some x)(d1:w.cell? ⟨B,1,none⟩=some y)(u v:Value)(o:Obj):(((w.setCell ⟨B,0,none⟩ u).setCell ⟨B,1,none⟩ v).alloc o).cell? ⟨B,0,none⟩=some u∧(((w.setCell ⟨B,0,none⟩ u).setCell ⟨B,1,none⟩ v).alloc o).cell? ⟨B,1,none⟩=some v:=by
 have hlt:=World.block_lt_of_cell? _ _ d0
 have e01:(⟨B,0,none⟩:Addr)≠⟨B,1,none⟩:=fun e=>by injection e with _ e2;omega
 have hb:(((w.setCell ⟨B,0,none⟩ u).setCell ⟨B,1,none⟩ v).alloc o).heap[B]?=((w.setCell ⟨B,0,none⟩ u).setCell ⟨B,1,none⟩ v).heap[B]?:=Below.heap_alloc _ _ _ (by simpa [World.setCell] using hlt)
 constructor
 ·rw [World.cell?_of_block (a:=⟨B,0,none⟩) hb,World.cell?_setCell_other _ _ _ _ e01.symm]
  exact World.cell?_setCell_same _ _ _ d0
 ·rw [World.cell?_of_block (a:=⟨B,1,none⟩) hb]
  refine World.cell?_setCell_same _ _ _ (?_:_=some y)
  rw [World.cell?_setCell_other _ _ _ _ e01];exact d1
theorem DgR.bad {s:ByteArray}{w:World}{v:Value}(h:DgR s w v false):¬ Canon s:=by
 rcases h with ⟨_,h,_⟩ | ⟨h,_,_⟩
 ·intro c
  have:=c.2.1
  have h2:s.size=0:=by simpa using h
  omega
 ·exact fun c=>h c.1
theorem DgR.good {s:ByteArray}{w:World}{v:Value}(h:DgR s w v true):Good s∧0<s.size:=by
 rcases h with ⟨h1,h,_⟩ | ⟨_,h,_⟩
 ·have h2:s.size≠0:=by simpa using h
  exact ⟨h1,by omega⟩
 ·cases h
theorem Q67 (s:ByteArray)(hs:s.size≤2147483647)(w:World)(hm:∀ h:1<s.size,s[0].toNat≠45):Calls Tryz.prog 46 #[.string s] w (RdP s w):=by
 have HD:Hid (∀ w1,Calls Tryz.prog 98 #[.string s] w1 (DigP s w1)):=fun w1=>Q43 s hs w1
 have HM:=Lh hm
 clear hm
 by_cases h1:1<s.size
 ·have hx:=HM.out h1
  have hl1:(1:Int)<(s.size:Int):=by omega
  have h0:0<s.size:=by omega
  have hx2:((s[0].toNat:Int) == 45)=false:=by simp;omega
  have hl1d:decide ((1:Int)<(s.size:Int))=true:=by simp;omega
  go_enter Tryz.func46, Tryz.ntmps46
  go_wp2_with fail
  refine (HD.out _).mono ?_
  rintro e w1 ⟨v1,b,rfl,hR,hB1⟩
  have hB2:Below w.heap.size w w1:=Qe (Qf w _) hB1
  obtain ⟨hh,hc,hf⟩:=Q0i rfl hB1
  have d0:w1.cell? ⟨w.heap.size,0,none⟩=some (.bool false):=hc 0
  have d1:w1.cell? ⟨w.heap.size,1,none⟩=some (.slice none 0 0):=hc 1
  have g0:=hf 0;have g1:=hf 1
  have hlt:w.heap.size<w1.heap.size:=by have:=hB1.size;simp at this;omega
  obtain ⟨p1,l1,c1,rfl⟩:=hR.form
  have HE:Hid (∀ (u v:Value) (o:Obj),Below w.heap.size w (((w1.setCell ⟨w.heap.size,0,none⟩ u).setCell ⟨w.heap.size,1,none⟩ v).alloc o)):=Lh (fun u v o=>bal ((hB2.setCell (by exact Nat.le_refl _) u).setCell (by exact Nat.le_refl _) v) o)
  have HR:=Lh hR;have HH:=Lh hh
  clear hR hB1 hB2 hc hf hh
  cases b
  ·have HB:=Lh HR.out.bad
   clear HR
   go_wp2_with fail
   exact bodyPost_ret (v:=.tuple #[.agg #[.bool false,.slice none 0 0],.bool false]) (by simp [results,Tryz.results46,go_sem,Q0Q d0 d1]) rfl ⟨_,_,rfl,⟨⟨_,_,_,_,rfl,fun h=>(by cases h)⟩,fun h=>absurd h HB.out⟩,HE.out _ _ _⟩
  ·by_cases hz:s[0].toNat=48
   ·have HB:Hid (¬ Canon s):=Lh (fun c=>c.2.2 h1 hz)
    have hz2:((s[0].toNat:Int) == 48)=true:=by simp;omega
    clear hz HR
    go_wp2_with fail
    exact bodyPost_ret (v:=.tuple #[.agg #[.bool false,.slice none 0 0],.bool false]) (by simp [results,Tryz.results46,go_sem,Q0Q d0 d1]) rfl ⟨_,_,rfl,⟨⟨_,_,_,_,rfl,fun h=>(by cases h)⟩,fun h=>absurd h HB.out⟩,HE.out _ _ _⟩
   ·have hz2:((s[0].toNat:Int) == 48)=false:=by simp;omega
    have HCn:Hid (Canon s):=Lh ⟨HR.out.good.1,HR.out.good.2,fun _=>hz⟩
    clear hz
    have HN:Hid (∀ o,NumV (((w1.setCell ⟨w.heap.size,0,none⟩ (.bool false)).setCell ⟨w.heap.size,1,none⟩ (.slice p1 l1 c1)).alloc o) (.agg #[.bool false,.slice p1 l1 c1]) false (vl (sdL s 0))):=Lh (fun o=>by
     rcases HR.out with ⟨_,_,hN⟩ | ⟨_,h,_⟩
     ·exact (hN.keep HH.out (by decide) (((Only.refl _ _).set 0 _).set 1 _)).later (Qf _ _)
     ·cases h)
    go_wp2_with fail
    exact bodyPost_ret (v:=.tuple #[.agg #[.bool false,.slice p1 l1 c1],.bool true]) (by simp [results,Tryz.results46,go_sem,Q0Q d0 d1]) rfl ⟨_,_,rfl,⟨⟨_,_,_,_,rfl,fun _=>.inr HCn.out⟩,fun _=>⟨rfl,HN.out _⟩⟩,HE.out _ _ _⟩
 ·have hl1:¬ (1:Int)<(s.size:Int):=by omega
  have hl1d:decide ((1:Int)<(s.size:Int))=false:=by simp;omega
  go_enter Tryz.func46, Tryz.ntmps46
  go_wp2_with fail
  refine (HD.out _).mono ?_
  rintro e w1 ⟨v1,b,rfl,hR,hB1⟩
  have hB2:Below w.heap.size w w1:=Qe (Qf w _) hB1
  obtain ⟨hh,hc,hf⟩:=Q0i rfl hB1
  have d0:w1.cell? ⟨w.heap.size,0,none⟩=some (.bool false):=hc 0
  have d1:w1.cell? ⟨w.heap.size,1,none⟩=some (.slice none 0 0):=hc 1
  have g0:=hf 0;have g1:=hf 1
  have hlt:w.heap.size<w1.heap.size:=by have:=hB1.size;simp at this;omega
  obtain ⟨p1,l1,c1,rfl⟩:=hR.form
  have HE:Hid (∀ (u v:Value) (o:Obj),Below w.heap.size w (((w1.setCell ⟨w.heap.size,0,none⟩ u).setCell ⟨w.heap.size,1,none⟩ v).alloc o)):=Lh (fun u v o=>bal ((hB2.setCell (by exact Nat.le_refl _) u).setCell (by exact Nat.le_refl _) v) o)
  have HR:=Lh hR;have HH:=Lh hh
  clear hR hB1 hB2 hc hf hh
  cases b
  ·have HB:=Lh HR.out.bad
   clear HR
   go_wp2_with fail
   exact bodyPost_ret (v:=.tuple #[.agg #[.bool false,.slice none 0 0],.bool false]) (by simp [results,Tryz.results46,go_sem,Q0Q d0 d1]) rfl ⟨_,_,rfl,⟨⟨_,_,_,_,rfl,fun h=>(by cases h)⟩,fun h=>absurd h HB.out⟩,HE.out _ _ _⟩
  ·have HCn:Hid (Canon s):=Lh ⟨HR.out.good.1,HR.out.good.2,fun h=>absurd h h1⟩
   have HN:Hid (∀ o,NumV (((w1.setCell ⟨w.heap.size,0,none⟩ (.bool false)).setCell ⟨w.heap.size,1,none⟩ (.slice p1 l1 c1)).alloc o) (.agg #[.bool false,.slice p1 l1 c1]) false (vl (sdL s 0))):=Lh (fun o=>by
    rcases HR.out with ⟨_,_,hN⟩ | ⟨_,h,_⟩
    ·exact (hN.keep HH.out (by decide) (((Only.refl _ _).set 0 _).set 1 _)).later (Qf _ _)
    ·cases h)
   go_wp2_with fail
   exact bodyPost_ret (v:=.tuple #[.agg #[.bool false,.slice p1 l1 c1],.bool true]) (by simp [results,Tryz.results46,go_sem,Q0Q d0 d1]) rfl ⟨_,_,rfl,⟨⟨_,_,_,_,rfl,fun _=>.inr HCn.out⟩,fun _=>⟨rfl,HN.out _⟩⟩,HE.out _ _ _⟩
theorem Q68 (s:ByteArray)(hs:s.size≤2147483647)(w:World)(h1:1<s.size)(hm:s[0].toNat=45):Calls Tryz.prog 46 #[.string s] w (RdP s w):=by
 have HD:Hid (∀ s2:ByteArray,s2.size≤2147483647→∀ w1,Calls Tryz.prog 98 #[.string s2] w1 (DigP s2 w1)):=fun s2 h w1=>Q43 s2 h w1
 have HNC:Hid (¬ Canon s):=Lh (fun c=>by have:=(c.1 0 (by omega)).1;omega)
 have hl1:(1:Int)<(s.size:Int):=by omega
 have h0:0<s.size:=by omega
 have hx2:((s[0].toNat:Int) == 45)=true:=by simp;omega
 have hl1d:decide ((1:Int)<(s.size:Int))=true:=by simp;omega
 have hsz:(s.extract 1 s.size).size=s.size - 1:=by simp
 obtain ⟨s2,hs2⟩:∃ s2,s2=s.extract 1 s.size:=⟨_,rfl⟩
 rw [← hs2] at hsz
 clear hm
 go_enter Tryz.func46, Tryz.ntmps46
 go_wp2_with fail
 rw [← hs2]
 have hs3:s2.size≤2147483647:=by omega
 have hls:s2.toList.length=s2.size:=by rw [ByteArray.toList_eq];simp
 clear hs2 hsz
 refine (HD.out _ (by omega) _).mono ?_
 rintro e w1 ⟨v1,b,rfl,hR,hB1⟩
 have hB2:Below w.heap.size w w1:=Qe (Qf w _) hB1
 obtain ⟨hh,hc,hf⟩:=Q0i rfl hB1
 have d0:w1.cell? ⟨w.heap.size,0,none⟩=some (.bool false):=hc 0
 have d1:w1.cell? ⟨w.heap.size,1,none⟩=some (.slice none 0 0):=hc 1
 have g0:=hf 0;have g1:=hf 1
 have hlt:w.heap.size<w1.heap.size:=by have:=hB1.size;simp at this;omega
 obtain ⟨p1,l1,c1,rfl⟩:=hR.form
 have HE:Hid (∀ (u v:Value) (o:Obj),Below w.heap.size w (((w1.setCell ⟨w.heap.size,0,none⟩ u).setCell ⟨w.heap.size,1,none⟩ v).alloc o)):=Lh (fun u v o=>bal ((hB2.setCell (by exact Nat.le_refl _) u).setCell (by exact Nat.le_refl _) v) o)
 clear hB1 hB2 hc hf hh
 cases b
 ·clear hR
  go_wp2_with fail
  exact bodyPost_ret (v:=.tuple #[.agg #[.bool false,.slice none 0 0],.bool false]) (by simp [results,Tryz.results46,go_sem,Q0Q d0 d1]) rfl ⟨_,_,rfl,⟨⟨_,_,_,_,rfl,fun h=>(by cases h)⟩,fun h=>absurd h HNC.out⟩,HE.out _ _ _⟩
 ·have hg:=hR.good.2
  clear hR
  by_cases h2:1<s2.size
  ·have hl2:(1:Int)<(s2.size:Int):=by omega
   have hl2d:decide ((1:Int)<(s2.size:Int))=true:=by simp;omega
   have hnd:(s2.toList == [48])=false:=by
    cases hc:(s2.toList == [48]) with
    | false=>rfl
    | true=>rw [beq_iff_eq.1 hc] at hls;simp at hls;omega
   clear hls
   by_cases hz:s2[0].toNat=48
   ·have hz2:((s2[0].toNat:Int) == 48)=true:=by simp;omega
    clear hz
    go_wp2_with fail
    exact bodyPost_ret (v:=.tuple #[.agg #[.bool false,.slice none 0 0],.bool false]) (by simp [results,Tryz.results46,go_sem,Q0Q d0 d1]) rfl ⟨_,_,rfl,⟨⟨_,_,_,_,rfl,fun h=>(by cases h)⟩,fun h=>absurd h HNC.out⟩,HE.out _ _ _⟩
   ·have hz2:((s2[0].toNat:Int) == 48)=false:=by simp;omega
    clear hz
    go_wp2_with fail
    exact bodyPost_ret (v:=.tuple #[.agg #[.bool true,.slice p1 l1 c1],.bool true]) (by simp [results,Tryz.results46,go_sem,Q0Q d0 d1]) rfl ⟨_,_,rfl,⟨⟨_,_,_,_,rfl,fun _=>.inl rfl⟩,fun h=>absurd h HNC.out⟩,HE.out _ _ _⟩
  ·have hl2:¬ (1:Int)<(s2.size:Int):=by omega
   have hl2d:decide ((1:Int)<(s2.size:Int))=false:=by simp;omega
   clear hls
   by_cases hnd:(s2.toList == [48])=true
   ·go_wp2_with fail
    exact bodyPost_ret (v:=.tuple #[.agg #[.bool false,.slice none 0 0],.bool false]) (by simp [results,Tryz.results46,go_sem,Q0Q d0 d1]) rfl ⟨_,_,rfl,⟨⟨_,_,_,_,rfl,fun h=>(by cases h)⟩,fun h=>absurd h HNC.out⟩,HE.out _ _ _⟩
   ·have hnd2:(s2.toList == [48])=false:=by simpa using hnd
    clear hnd
    go_wp2_with fail
    exact bodyPost_ret (v:=.tuple #[.agg #[.bool true,.slice p1 l1 c1],.bool true]) (by simp [results,Tryz.results46,go_sem,Q0Q d0 d1]) rfl ⟨_,_,rfl,⟨⟨_,_,_,_,rfl,fun _=>.inl rfl⟩,fun h=>absurd h HNC.out⟩,HE.out _ _ _⟩
theorem Q6F (s:ByteArray)(hs:s.size≤2147483647)(w:World):Calls Tryz.prog 46 #[.string s] w (RdP s w):=by
 by_cases h:∃ h1:1<s.size,s[0].toNat=45
 ·obtain ⟨h1,h2⟩:=h;exact Q68 s hs w h1 h2
 ·exact Q67 s hs w (fun h1 h2=>h ⟨h1,h2⟩)
def DV (f:Int)(n:Bool)(e:Int)(s:ByteArray):Value:=.agg #[.int .i64 f,.bool n,.int .i32 e,.string s]
def FinV (w:World)(v:Value)(n:Bool)(c:Nat)(e:Int):Prop:=∃ s,v=.agg #[.bool n,.bool false,s,.int .i64 e]∧Dg w s (dgs c)
theorem FinV.later {w w':World}{v:Value}{n:Bool}{c:Nat}{e:Int}(h:FinV w v n c e)(hB:Below w.heap.size w w'):FinV w' v n c e:=by
 obtain ⟨cv,e,h⟩:=h;exact ⟨cv,e,h.later hB⟩
theorem FinV.keep {w w':World}{v:Value}{n:Bool}{c:Nat}{e:Int}(h:FinV w v n c e){B:Nat}{C:Array Value}{T:TypeId}{m:Nat × Nat}(hb:w.heap[B]?=some (.cells C T m))(hC:noU8 C=true)(ho:Only B w w'):FinV w' v n c e:=by
 obtain ⟨cv,e,h⟩:=h;exact ⟨cv,e,h.keep hb hC ho⟩
theorem Q4C {w wr:World}{X R:Obj}{A C:Array Value}{S U:TypeId}(hX:X=.cells A S (0,0))(hR:R=.cells C U (0,0))(h:Below ((w.alloc X).alloc R).heap.size ((w.alloc X).alloc R) wr) :
  (∀ i,wr.cell? ⟨w.heap.size,i,none⟩=A[i]?)∧(∀ i,wr.cell? ⟨w.heap.size+1,i,none⟩=C[i]?)∧(∀ i,wr.frozen? ⟨w.heap.size+1,i,none⟩=false)∧wr.heap[w.heap.size+1]?=some (.cells C U (0,0)):=by
 have s1:(w.alloc X).heap.size=w.heap.size+1:=by simp
 have s2:((w.alloc X).alloc R).heap.size=w.heap.size+1+1:=by simp
 have b0:wr.heap[w.heap.size]?=some X:=by
  rw [h.block _ (by omega),Below.heap_alloc _ _ _ (by omega),gal]
 have b1:wr.heap[w.heap.size+1]?=some R:=by
  rw [h.block _ (by omega),← s1,gal]
 subst hX hR
 exact ⟨fun i=>by unfold World.cell?;rw [b0];simp,fun i=>by unfold World.cell?;rw [b1];simp,fun i=>by unfold World.frozen?;rw [b1];simp,b1⟩
theorem Q0R {w:World}{B:Nat}{x0 x1 x2 x3:Value}(d0:w.cell? ⟨B,0,none⟩=some x0)(d1:w.cell? ⟨B,1,none⟩=some x1)(d2:w.cell? ⟨B,2,none⟩=some x2)(d3:w.cell? ⟨B,3,none⟩=some x3)(u0 u1 u2 u3:Value) :
  ((((w.setCell ⟨B,0,none⟩ u0).setCell ⟨B,1,none⟩ u1).setCell ⟨B,2,none⟩ u2).setCell ⟨B,3,none⟩ u3).cell? ⟨B,0,none⟩=some u0∧((((w.setCell ⟨B,0,none⟩ u0).setCell ⟨B,1,none⟩ u1).setCell ⟨B,2,none⟩ u2).setCell ⟨B,3,none⟩ u3).cell? ⟨B,1,none⟩=some u1∧((((w.setCell ⟨B,0,none⟩ u0).setCell ⟨B,1,none⟩ u1).setCell ⟨B,2,none⟩ u2).setCell ⟨B,3,none⟩ u3).cell? ⟨B,2,none⟩=some u2∧((((w.setCell ⟨B,0,none⟩ u0).setCell ⟨B,1,none⟩ u1).setCell ⟨B,2,none⟩ u2).setCell ⟨B,3,none⟩ u3).cell? ⟨B,3,none⟩=some u3:=by
 have e:∀ i j,i≠j→(⟨B,i,none⟩:Addr)≠⟨B,j,none⟩:=fun i j h e=>h (by injection e)
 refine ⟨?_,?_,?_,?_⟩
 ·rw [World.cell?_setCell_other _ _ _ _ (e 3 0 (by decide)),World.cell?_setCell_other _ _ _ _ (e 2 0 (by decide)),World.cell?_setCell_other _ _ _ _ (e 1 0 (by decide))]
  exact World.cell?_setCell_same _ _ _ d0
 ·rw [World.cell?_setCell_other _ _ _ _ (e 3 1 (by decide)),World.cell?_setCell_other _ _ _ _ (e 2 1 (by decide))]
  refine World.cell?_setCell_same _ _ _ (?_:_=some x1)
  rw [World.cell?_setCell_other _ _ _ _ (e 0 1 (by decide))];exact d1
 ·rw [World.cell?_setCell_other _ _ _ _ (e 3 2 (by decide))]
  refine World.cell?_setCell_same _ _ _ (?_:_=some x2)
  rw [World.cell?_setCell_other _ _ _ _ (e 1 2 (by decide)),World.cell?_setCell_other _ _ _ _ (e 0 2 (by decide))];exact d2
 ·refine World.cell?_setCell_same _ _ _ (?_:_=some x3)
  rw [World.cell?_setCell_other _ _ _ _ (e 2 3 (by decide)),World.cell?_setCell_other _ _ _ _ (e 1 3 (by decide)),World.cell?_setCell_other _ _ _ _ (e 0 3 (by decide))];exact d3
theorem Q9L {w:World}{B:Nat}{x0 x1 x2 x3:Value}(d0:w.cell? ⟨B,0,none⟩=some x0)(d1:w.cell? ⟨B,1,none⟩=some x1)(d2:w.cell? ⟨B,2,none⟩=some x2)(d3:w.cell? ⟨B,3,none⟩=some x3)(u0 u1 u2 u3:Value)(o:Obj) :
  (((((w.setCell ⟨B,0,none⟩ u0).setCell ⟨B,1,none⟩ u1).setCell ⟨B,2,none⟩ u2).setCell ⟨B,3,none⟩ u3).alloc o).cell? ⟨B,0,none⟩=some u0∧(((((w.setCell ⟨B,0,none⟩ u0).setCell ⟨B,1,none⟩ u1).setCell ⟨B,2,none⟩ u2).setCell ⟨B,3,none⟩ u3).alloc o).cell? ⟨B,1,none⟩=some u1∧(((((w.setCell ⟨B,0,none⟩ u0).setCell ⟨B,1,none⟩ u1).setCell ⟨B,2,none⟩ u2).setCell ⟨B,3,none⟩ u3).alloc o).cell? ⟨B,2,none⟩=some u2∧(((((w.setCell ⟨B,0,none⟩ u0).setCell ⟨B,1,none⟩ u1).setCell ⟨B,2,none⟩ u2).setCell ⟨B,3,none⟩ u3).alloc o).cell? ⟨B,3,none⟩=some u3:=by
 have hlt:=World.block_lt_of_cell? _ _ d0
 obtain ⟨a,b,c,d⟩:=Q0R d0 d1 d2 d3 u0 u1 u2 u3
 have hb:(((((w.setCell ⟨B,0,none⟩ u0).setCell ⟨B,1,none⟩ u1).setCell ⟨B,2,none⟩ u2).setCell ⟨B,3,none⟩ u3).alloc o).heap[B]?=((((w.setCell ⟨B,0,none⟩ u0).setCell ⟨B,1,none⟩ u1).setCell ⟨B,2,none⟩ u2).setCell ⟨B,3,none⟩ u3).heap[B]?:=Below.heap_alloc _ _ _ (by simpa [World.setCell] using hlt)
 exact ⟨(World.cell?_of_block (a:=⟨B,0,none⟩) hb).trans a,(World.cell?_of_block (a:=⟨B,1,none⟩) hb).trans b,(World.cell?_of_block (a:=⟨B,2,none⟩) hb).trans c,(World.cell?_of_block (a:=⟨B,3,none⟩) hb).trans d⟩
theorem Q2e (f:Int)(n:Bool)(e:Int)(s:ByteArray)(hs:s.size≤2147483647)(hc:Canon s)(he : -100000≤e∧e≤100000)(w:World):Calls Tryz.prog 19 #[DV f n e s] w fun r w'=>∃ v',r=.returned v'∧FinV w' v' n (vl (sdL s 0)) e∧Below w.heap.size w w':=by
 obtain ⟨w2,hw2⟩:∃ w2,w2=(w.alloc (.cells #[.int .i64 f,.bool n,.int .i32 e,.string s] 26)).alloc (.cells #[.bool false,.bool false,.slice none 0 0,.int .i64 0] 46):=⟨_,rfl⟩
 have hBA:Below w.heap.size w w2:=by rw [hw2];exact bal (Qf w _) _
 have HR:=Lh (Q6F s hs w2)
 have HC:=Lh hc
 obtain ⟨he1,he2⟩:=he
 generalize hz:vl (sdL s 0)=z
 have HZ:=Lh hz
 have hci:IntKind.i64.wrap e=e:=IntWalk.i64_in _ (by omega)
 have HBA:=Lh hBA
 unfold DV
 clear hc hz hBA
 go_enter Tryz.func19, Tryz.ntmps19
 go_wp2_with fail
 rw [← hw2]
 refine HR.out.mono ?_
 rintro r w3 ⟨v1,b,rfl,⟨⟨n1,p1,l1,c1,rfl,_⟩,hR⟩,hB3⟩
 obtain ⟨rfl,hN⟩:=hR HC.out
 obtain ⟨s1,he,hN⟩:=hN
 obtain ⟨rfl,rfl⟩:n1=false∧.slice p1 l1 c1=s1:=by
  have h0:=congrArg (fun v=>match v with | Value.agg cs=>cs.toList | _=>[]) he
  simp at h0
  exact ⟨h0.1,h0.2⟩
 have hB3':=hB3
 rw [hw2] at hB3'
 obtain ⟨x,y,z',hh⟩:=Q4C (w:=w) rfl rfl hB3'
 have x0:w3.cell? ⟨w.heap.size,1,none⟩=some (.bool n):=x 1
 have x2:w3.cell? ⟨w.heap.size,2,none⟩=some (.int .i32 e):=x 2
 have y0:w3.cell? ⟨w.heap.size+1,0,none⟩=some (.bool false):=y 0
 have y1:w3.cell? ⟨w.heap.size+1,1,none⟩=some (.bool false):=y 1
 have y2:w3.cell? ⟨w.heap.size+1,2,none⟩=some (.slice none 0 0):=y 2
 have y3:w3.cell? ⟨w.heap.size+1,3,none⟩=some (.int .i64 0):=y 3
 have z0:=z' 0;have z1:=z' 1;have z2:=z' 2;have z3:=z' 3
 have hsz:w.heap.size+1<w3.heap.size:=(Array.getElem?_eq_some_iff.1 hh).1
 have hlt:w.heap.size<w3.heap.size:=by omega
 have HH:=Lh hh
 have HB:=Lh (Qe HBA.out hB3)
 have HN:=Lh hN
 clear hB3 hB3' x y z' hh hR hN HR hw2
 have HF:Hid (∀ o,FinV (((((w3.setCell ⟨w.heap.size+1,0,none⟩ (.bool n)).setCell ⟨w.heap.size+1,1,none⟩ (.bool false)).setCell ⟨w.heap.size+1,2,none⟩ (.slice p1 l1 c1)).setCell ⟨w.heap.size+1,3,none⟩ (.int .i64 e)).alloc o) (.agg #[.bool n,.bool false,.slice p1 l1 c1,.int .i64 e]) n z e∧Below w.heap.size w (((((w3.setCell ⟨w.heap.size+1,0,none⟩ (.bool n)).setCell ⟨w.heap.size+1,1,none⟩ (.bool false)).setCell ⟨w.heap.size+1,2,none⟩ (.slice p1 l1 c1)).setCell ⟨w.heap.size+1,3,none⟩ (.int .i64 e)).alloc o)):=Lh (fun o=>by
  rw [← HZ.out]
  exact ⟨⟨_,rfl,(HN.out.keep HH.out (by decide) ((((Only.refl _ _).set 0 _).set 1 _).set 2 _ |>.set 3 _)).later (Qf _ _)⟩,bal ((((HB.out.setCell (by simp only;omega) _).setCell (by simp only;omega) _).setCell (by simp only;omega) _).setCell (by simp only;omega) _) o⟩)
 go_wp2_with fail
 exact bodyPost_ret (v:=.agg #[.bool n,.bool false,.slice p1 l1 c1,.int .i64 e]) (by simp [results,Tryz.results19,go_sem,Q9L y0 y1 y2 y3]) rfl ⟨_,rfl,(HF.out _).1,(HF.out _).2⟩
theorem Q4D {w:World}{A B:Nat}(h:B≠A)(u0 u1 u2 u3:Value)(j:Nat):((((w.setCell ⟨A,0,none⟩ u0).setCell ⟨A,1,none⟩ u1).setCell ⟨A,2,none⟩ u2).setCell ⟨A,3,none⟩ u3).cell? ⟨B,j,none⟩=w.cell? ⟨B,j,none⟩:=by
 have e:∀ i,(⟨A,i,none⟩:Addr)≠⟨B,j,none⟩:=fun i e=>h (by injection e with e1;exact e1.symm)
 rw [World.cell?_setCell_other _ _ _ _ (e _),World.cell?_setCell_other _ _ _ _ (e _),World.cell?_setCell_other _ _ _ _ (e _),World.cell?_setCell_other _ _ _ _ (e _)]
theorem Q0n {w:World}{v:Value}{n:Bool}{c:Nat}{e:Int}(h:FinV w v n c e)(he : -100000≤e∧e≤100000)(hlen:(dgs c).length≤4000000000):Calls Tryz.prog 37 #[v] w fun r w'=>r=.returned (DV 0 n e (txS c))∧Below w.heap.size w w':=by
 obtain ⟨s,rfl,hs⟩:=h
 have hs0:=hs
 obtain ⟨p,cap,rfl,_⟩:=hs
 obtain ⟨he1,he2⟩:=he
 obtain ⟨wA,hwA⟩:∃ wA,wA=(w.alloc (.cells #[.bool n,.bool false,.slice p (dgs c).length cap,.int .i64 e] 46)).alloc (.cells #[.int .i64 0,.bool false,.int .i32 0,.string ⟨#[]⟩] 26):=⟨_,rfl⟩
 have hBA:Below w.heap.size w wA:=by rw [hwA];exact bal (Qf w _) _
 have HT:Hid (∀ w2,Below wA.heap.size wA w2→Calls Tryz.prog 79 #[.agg #[.bool false,.slice p (dgs c).length cap]] w2 fun r w'=>r=.returned (.string (txS c))∧Below w2.heap.size w2 w'):=fun w2 h2 =>
  Q9H ⟨_,rfl,hs0.later (Qe hBA h2)⟩ hlen
 have HC:Hid (∀ w2,Below wA.heap.size wA w2→(w2.cell? ⟨w.heap.size,0,none⟩=some (.bool n)∧w2.cell? ⟨w.heap.size,1,none⟩=some (.bool false)∧w2.cell? ⟨w.heap.size,2,none⟩=some (.slice p (dgs c).length cap)∧w2.cell? ⟨w.heap.size,3,none⟩=some (.int .i64 e))∧(w2.cell? ⟨w.heap.size+1,0,none⟩=some (.int .i64 0)∧w2.cell? ⟨w.heap.size+1,1,none⟩=some (.bool false)∧w2.cell? ⟨w.heap.size+1,2,none⟩=some (.int .i32 0)∧w2.cell? ⟨w.heap.size+1,3,none⟩=some (.string ⟨#[]⟩))∧(∀ i,w2.frozen? ⟨w.heap.size+1,i,none⟩=false)∧w2.heap[w.heap.size+1]?=some (.cells #[.int .i64 0,.bool false,.int .i32 0,.string ⟨#[]⟩] 26 (0,0))):=fun w2 h2=>by
  rw [hwA] at h2
  obtain ⟨x,y,z,hh⟩:=Q4C (w:=w) rfl rfl h2
  exact ⟨⟨x 0,x 1,x 2,x 3⟩,⟨y 0,y 1,y 2,y 3⟩,z,hh⟩
 have HSt:Hid (∀ (w2:World) (u0 u1 u2 u3:Value),(w2.cell? ⟨w.heap.size,0,none⟩=some (.bool n)∧w2.cell? ⟨w.heap.size,1,none⟩=some (.bool false)∧w2.cell? ⟨w.heap.size,2,none⟩=some (.slice p (dgs c).length cap)∧w2.cell? ⟨w.heap.size,3,none⟩=some (.int .i64 e))→(((((w2.setCell ⟨w.heap.size+1,0,none⟩ u0).setCell ⟨w.heap.size+1,1,none⟩ u1).setCell ⟨w.heap.size+1,2,none⟩ u2).setCell ⟨w.heap.size+1,3,none⟩ u3).cell? ⟨w.heap.size,0,none⟩=some (.bool n)∧((((w2.setCell ⟨w.heap.size+1,0,none⟩ u0).setCell ⟨w.heap.size+1,1,none⟩ u1).setCell ⟨w.heap.size+1,2,none⟩ u2).setCell ⟨w.heap.size+1,3,none⟩ u3).cell? ⟨w.heap.size,1,none⟩=some (.bool false)∧((((w2.setCell ⟨w.heap.size+1,0,none⟩ u0).setCell ⟨w.heap.size+1,1,none⟩ u1).setCell ⟨w.heap.size+1,2,none⟩ u2).setCell ⟨w.heap.size+1,3,none⟩ u3).cell? ⟨w.heap.size,2,none⟩=some (.slice p (dgs c).length cap)∧((((w2.setCell ⟨w.heap.size+1,0,none⟩ u0).setCell ⟨w.heap.size+1,1,none⟩ u1).setCell ⟨w.heap.size+1,2,none⟩ u2).setCell ⟨w.heap.size+1,3,none⟩ u3).cell? ⟨w.heap.size,3,none⟩=some (.int .i64 e))):=Lh (fun w2 u0 u1 u2 u3 ⟨a,b,c,d⟩ =>
  ⟨(Q4D (by omega) _ _ _ _ _).trans a,(Q4D (by omega) _ _ _ _ _).trans b,(Q4D (by omega) _ _ _ _ _).trans c,(Q4D (by omega) _ _ _ _ _).trans d⟩)
 have HFin:Hid (∀ w2,Below wA.heap.size wA w2→∀ u0 u1 u2 u3:Value,Below w.heap.size w ((((w2.setCell ⟨w.heap.size+1,0,none⟩ u0).setCell ⟨w.heap.size+1,1,none⟩ u1).setCell ⟨w.heap.size+1,2,none⟩ u2).setCell ⟨w.heap.size+1,3,none⟩ u3)):=Lh (fun w2 h2 u0 u1 u2 u3 =>
  ((((Qe hBA h2).setCell (by simp only;omega) _).setCell (by simp only;omega) _).setCell (by simp only;omega) _).setCell (by simp only;omega) _)
 have hci:IntKind.i32.wrap e=e:=IntWalk.i32_in _ (by omega)
 obtain ⟨c0,_,_⟩:=HC.out wA (Below.refl _ _)
 have c0':(wA.drew.cell? ⟨w.heap.size,0,none⟩=some (.bool n)∧wA.drew.cell? ⟨w.heap.size,1,none⟩=some (.bool false)∧wA.drew.cell? ⟨w.heap.size,2,none⟩=some (.slice p (dgs c).length cap)∧wA.drew.cell? ⟨w.heap.size,3,none⟩=some (.int .i64 e)):=c0
 generalize txS c=S at HT ⊢
 unfold DV
 clear hs0 hlen hBA
 go_enter Tryz.func37, Tryz.ntmps37
 go_wp2_with fail
 rw [← hwA]
 have HwA:=Lh hwA
 clear hwA
 go_region_held3 (fun x=>x.cell? ⟨w.heap.size,0,none⟩=some (.bool n)∧x.cell? ⟨w.heap.size,1,none⟩=some (.bool false)∧x.cell? ⟨w.heap.size,2,none⟩=some (.slice p (dgs c).length cap)∧x.cell? ⟨w.heap.size,3,none⟩=some (.int .i64 e)) (first | with_reducible exact c0 | with_reducible exact c0' | with_reducible exact c1 | with_reducible exact HSt.out _ _ _ _ _ c1) (first | (go_at_call 79;refine (HT.out _ (by exact (Below.refl _ _).drew)).mono ?_;rintro r w1 ⟨rfl,hB1⟩;have HB1:Hid (Below wA.heap.size wA w1):=Lh ((Below.refl _ _).drew.trans hB1);obtain ⟨c1,⟨y0,y1,y2,y3⟩,hz,hh⟩:=HC.out _ HB1.out;have z0:=hz 0;have z1:=hz 1;have z2:=hz 2;have z3:=hz 3;clear hB1 hz hh))
 have HF:=Lh (HFin.out _ HB1.out)
 clear c0 c0' c1
 go_wp2_with fail
 exact bodyPost_ret (v:=.agg #[.int .i64 0,.bool n,.int .i32 e,.string S]) (by simp [results,Tryz.results37,go_sem,Q0R y0 y1 y2 y3]) rfl ⟨rfl,HF.out _ _ _ _⟩
def RsV (f:Int)(n:Bool)(e:Int)(s:ByteArray)(k:Nat)(known val over:Bool):Value:=.agg #[.int .i64 f,.bool n,.int .i32 e,.string s,.int .u32 (k:Int),.bool known,.bool val,.bool over]
theorem Q4E (k:Nat)(w:World):Calls Tryz.prog 30 #[.int .u32 (k:Int)] w fun r w'=>r=.returned (RsV 3 false 0 ⟨#[]⟩ k true false false)∧Below w.heap.size w w':=by
 have HB:=Lh (fun o=>Qf w o)
 unfold RsV
 go_enter Tryz.func30, Tryz.ntmps30
 go_wp2_with fail
 exact bodyPost_ret (v:=.agg #[.int .i64 3,.bool false,.int .i32 0,.string ⟨#[]⟩,.int .u32 (k:Int),.bool true,.bool false,.bool false]) (by simp [results,Tryz.results30,go_sem]) rfl ⟨rfl,HB.out _⟩
theorem Q5l (n:Bool)(k:Nat)(w:World):Calls Tryz.prog 50 #[.bool n,.int .u32 (k:Int)] w fun r w'=>r=.returned (RsV 1 n 0 ⟨#[]⟩ k true false false)∧Below w.heap.size w w':=by
 have HB:=Lh (fun o=>Qf w o)
 unfold RsV
 go_enter Tryz.func50, Tryz.ntmps50
 go_wp2_with fail
 exact bodyPost_ret (v:=.agg #[.int .i64 1,.bool n,.int .i32 0,.string ⟨#[]⟩,.int .u32 (k:Int),.bool true,.bool false,.bool false]) (by simp [results,Tryz.results50,go_sem]) rfl ⟨rfl,HB.out _⟩
def CV (p mx mn tr md:Int):Value:=.agg #[.int .u32 p,.int .i32 mx,.int .i32 mn,.int .u32 tr,.int .i64 md]
def CtxOk (p mx mn md:Int):Prop:=p≤60∧0≤mx∧mx≤500∧mn≤0 ∧ -500≤mn∧0≤md∧md<8
def Says (P:Prop)(w:World)(e:Ending)(w':World):Prop:=∃ b:Bool,e=.returned (.bool b)∧(b=true ↔ P)∧Below w.heap.size w w'
theorem Q5m (p mx mn tr md:Int)(w:World):Calls Tryz.prog 27 #[CV p mx mn tr md] w (Says (CtxOk p mx mn md) w):=by
 have HB:=Lh (fun o=>Qf w o)
 unfold CV
 by_cases a1:p≤60
 ·have b1:decide (p≤60)=true:=decide_eq_true a1
  by_cases a2:0≤mx
  ·have b2:decide (0≤mx)=true:=decide_eq_true a2
   by_cases a3:mx≤500
   ·have b3:decide (mx≤500)=true:=decide_eq_true a3
    by_cases a4:mn≤0
    ·have b4:decide (mn≤0)=true:=decide_eq_true a4
     by_cases a5 : -500≤mn
     ·have b5:decide (-500≤mn)=true:=decide_eq_true a5
      by_cases a6:0≤md
      ·have b6:decide (0≤md)=true:=decide_eq_true a6
       by_cases a7:md<8
       ·have b7:decide (md<8)=true:=decide_eq_true a7
        have HR:Hid (CtxOk p mx mn md):=Lh ⟨a1,a2,a3,a4,a5,a6,a7⟩
        go_enter Tryz.func27, Tryz.ntmps27
        go_wp2_with fail
        go_ret
        exact ⟨true,rfl,⟨fun _=>HR.out,fun _=>rfl⟩,HB.out _⟩
       ·have b7:decide (md<8)=false:=decide_eq_false a7
        have HR:Hid (¬ CtxOk p mx mn md):=Lh (fun h=>a7 h.2.2.2.2.2.2)
        clear a7
        go_enter Tryz.func27, Tryz.ntmps27
        go_wp2_with fail
        go_ret
        exact ⟨false,rfl,⟨fun h=>(by cases h),fun h=>absurd h HR.out⟩,HB.out _⟩
      ·have b6:decide (0≤md)=false:=decide_eq_false a6
       have HR:Hid (¬ CtxOk p mx mn md):=Lh (fun h=>a6 h.2.2.2.2.2.1)
       clear a6
       go_enter Tryz.func27, Tryz.ntmps27
       go_wp2_with fail
       go_ret
       exact ⟨false,rfl,⟨fun h=>(by cases h),fun h=>absurd h HR.out⟩,HB.out _⟩
     ·have b5:decide (-500≤mn)=false:=decide_eq_false a5
      have HR:Hid (¬ CtxOk p mx mn md):=Lh (fun h=>a5 h.2.2.2.2.1)
      clear a5
      go_enter Tryz.func27, Tryz.ntmps27
      go_wp2_with fail
      go_ret
      exact ⟨false,rfl,⟨fun h=>(by cases h),fun h=>absurd h HR.out⟩,HB.out _⟩
    ·have b4:decide (mn≤0)=false:=decide_eq_false a4
     have HR:Hid (¬ CtxOk p mx mn md):=Lh (fun h=>a4 h.2.2.2.1)
     clear a4
     go_enter Tryz.func27, Tryz.ntmps27
     go_wp2_with fail
     go_ret
     exact ⟨false,rfl,⟨fun h=>(by cases h),fun h=>absurd h HR.out⟩,HB.out _⟩
   ·have b3:decide (mx≤500)=false:=decide_eq_false a3
    have HR:Hid (¬ CtxOk p mx mn md):=Lh (fun h=>a3 h.2.2.1)
    clear a3
    go_enter Tryz.func27, Tryz.ntmps27
    go_wp2_with fail
    go_ret
    exact ⟨false,rfl,⟨fun h=>(by cases h),fun h=>absurd h HR.out⟩,HB.out _⟩
  ·have b2:decide (0≤mx)=false:=decide_eq_false a2
   have HR:Hid (¬ CtxOk p mx mn md):=Lh (fun h=>a2 h.2.1)
   clear a2
   go_enter Tryz.func27, Tryz.ntmps27
   go_wp2_with fail
   go_ret
   exact ⟨false,rfl,⟨fun h=>(by cases h),fun h=>absurd h HR.out⟩,HB.out _⟩
 ·have b1:decide (p≤60)=false:=decide_eq_false a1
  have HR:Hid (¬ CtxOk p mx mn md):=Lh (fun h=>a1 h.1)
  clear a1
  go_enter Tryz.func27, Tryz.ntmps27
  go_wp2_with fail
  go_ret
  exact ⟨false,rfl,⟨fun h=>(by cases h),fun h=>absurd h HR.out⟩,HB.out _⟩
theorem Canon.zero {s:ByteArray}(h:s.toList=[48]):Canon s:=by
 rw [ByteArray.toList_eq] at h
 have hs:s.size=1:=by
  have:s.data.toList.length=s.size:=by simp
  rw [h] at this;simpa using this.symm
 have hd:s.data=#[48]:=Array.ext' (by rw [h])
 have e:s=⟨#[48]⟩:=by cases s;simp at hd;rw [hd]
 subst e
 refine ⟨fun k hk=>?_,by decide,fun h=>absurd h (by decide)⟩
 have:k=0:=by have:k<1:=hk;omega
 subst this
 show 48≤(48:UInt8).toNat∧(48:UInt8).toNat≤57
 decide
def ArOk (E f e:Int)(s:ByteArray):Prop:=if f=0 then (Canon s∧s.size≤40∧e≤E ∧ -E≤e) else (0<f∧f≤3∧e=0∧s.toList=[48])
theorem Q1J (E:Int)(hE:0≤E∧E≤1000)(f:Int)(n:Bool)(e:Int)(s:ByteArray)(he : -2147483648≤e∧e≤2147483647)(hs:s.size≤2147483647)(w:World):Calls Tryz.prog 28 #[DV f n e s,.int .i64 40,.int .i64 E] w (Says (ArOk E f e s) w):=by
 have HB:=Lh (fun o=>Qf w o)
 unfold DV
 obtain ⟨hE1,hE2⟩:=hE
 obtain ⟨he1,he2⟩:=he
 by_cases hf:f=0
 ·have HF0:=Lh hf
  subst hf
  have HR0:=Lh (fun w1=>Q6F s hs w1)
  have hci:IntKind.i64.wrap e=e:=IntWalk.i64_in _ (by omega)
  have hcE:IntKind.i64.wrap (-E) = -E:=IntWalk.i64_in _ (by omega)
  go_enter Tryz.func28, Tryz.ntmps28
  go_wp2_with fail
  refine (HR0.out _).mono ?_
  rintro r w3 ⟨v1,b,rfl,⟨⟨n1,p1,l1,c1,rfl,hR1⟩,hR2⟩,hB3⟩
  have hhx:=hB3.block w.heap.size (by simp)
  rw [gal] at hhx
  have x2:w3.cell? ⟨w.heap.size,2,none⟩=some (.int .i32 e):=by unfold World.cell?;rw [hhx];rfl
  have x3:w3.cell? ⟨w.heap.size,3,none⟩=some (.string s):=by unfold World.cell?;rw [hhx];rfl
  have hlt:w.heap.size<w3.heap.size:=(Array.getElem?_eq_some_iff.1 hhx).1
  replace HB:=Lh (fun o=>bal (Qe (Qf w _) hB3) o)
  have H1:=Lh hR1;have H2:=Lh hR2
  clear HR0 hhx hB3 hR1 hR2
  have HU:Hid (ArOk E 0 e s ↔ (Canon s∧s.size≤40∧e≤E ∧ -E≤e)):=Lh (by unfold ArOk;rw [if_pos rfl])
  cases b
  ·have HR:Hid (¬ ArOk E 0 e s):=Lh (fun h=>by have:=(H2.out (HU.out.1 h).1).1;cases this)
   go_wp2_with fail
   go_ret
   exact ⟨false,rfl,⟨fun h=>(by cases h),fun h=>absurd h HR.out⟩,HB.out _⟩
  ·cases n1
   ·have HCn:Hid (Canon s):=Lh (by rcases H1.out rfl with h | h;cases h;exact h)
    by_cases a1:s.size≤40
    ·have a1':(s.size:Int)≤40:=by omega
     have b1:decide ((s.size:Int)≤40)=true:=decide_eq_true a1'
     by_cases a2:e≤E
     ·have b2:decide (e≤E)=true:=decide_eq_true a2
      by_cases a3 : -E≤e
      ·have b3:decide (-E≤e)=true:=decide_eq_true a3
       have HR:Hid (ArOk E 0 e s):=Lh (HU.out.2 ⟨HCn.out,a1,a2,a3⟩)
       go_wp2_with fail
       go_ret
       exact ⟨true,rfl,⟨fun _=>HR.out,fun _=>rfl⟩,HB.out _⟩
      ·have b3:decide (-E≤e)=false:=decide_eq_false a3
       have HR:Hid (¬ ArOk E 0 e s):=Lh (fun h=>a3 (HU.out.1 h).2.2.2)
       clear a3
       go_wp2_with fail
       go_ret
       exact ⟨false,rfl,⟨fun h=>(by cases h),fun h=>absurd h HR.out⟩,HB.out _⟩
     ·have b2:decide (e≤E)=false:=decide_eq_false a2
      have HR:Hid (¬ ArOk E 0 e s):=Lh (fun h=>a2 (HU.out.1 h).2.2.1)
      clear a2
      go_wp2_with fail
      go_ret
      exact ⟨false,rfl,⟨fun h=>(by cases h),fun h=>absurd h HR.out⟩,HB.out _⟩
    ·have b1:decide ((s.size:Int)≤40)=false:=decide_eq_false (by omega)
     have HR:Hid (¬ ArOk E 0 e s):=Lh (fun h=>a1 (HU.out.1 h).2.1)
     clear a1
     go_wp2_with fail
     go_ret
     exact ⟨false,rfl,⟨fun h=>(by cases h),fun h=>absurd h HR.out⟩,HB.out _⟩
   ·have HR:Hid (¬ ArOk E 0 e s):=Lh (fun h=>by
     obtain ⟨s1,h1,_⟩:=(H2.out (HU.out.1 h).1).2
     have h0:=congrArg (fun v=>match v with | Value.agg cs=>cs.toList | _=>[]) h1
     simp at h0)
    go_wp2_with fail
    go_ret
    exact ⟨false,rfl,⟨fun h=>(by cases h),fun h=>absurd h HR.out⟩,HB.out _⟩
 ·have HF0:=Lh hf
  have b0:(f != 0)=true:=by simpa using hf
  clear hf
  by_cases a1:0<f
  ·have b1:decide (0<f)=true:=decide_eq_true a1
   by_cases a2:f≤3
   ·have b2:decide (f≤3)=true:=decide_eq_true a2
    by_cases a3:e=0
    ·have b3:(e == 0)=true:=by simp [a3]
     have HE0:=Lh a3
     clear a3
     by_cases a4:s.toList=[48]
     ·have b4:(s.toList == [48])=true:=by simp [a4]
      have HE4:=Lh a4
      clear a4
      have HR:Hid (ArOk E f e s):=Lh (by unfold ArOk;rw [if_neg HF0.out];exact ⟨a1,a2,HE0.out,HE4.out⟩)
      go_enter Tryz.func28, Tryz.ntmps28
      go_wp2_with fail
      go_ret
      exact ⟨true,rfl,⟨fun _=>HR.out,fun _=>rfl⟩,HB.out _⟩
     ·have b4:(s.toList == [48])=false:=by simpa using a4
      have HR:Hid (¬ ArOk E f e s):=Lh (fun h=>by unfold ArOk at h;rw [if_neg HF0.out] at h;exact a4 h.2.2.2)
      clear a4
      go_enter Tryz.func28, Tryz.ntmps28
      go_wp2_with fail
      go_ret
      exact ⟨false,rfl,⟨fun h=>(by cases h),fun h=>absurd h HR.out⟩,HB.out _⟩
    ·have b3:(e == 0)=false:=by simpa using a3
     have HR:Hid (¬ ArOk E f e s):=Lh (fun h=>by unfold ArOk at h;rw [if_neg HF0.out] at h;exact a3 h.2.2.1)
     clear a3
     go_enter Tryz.func28, Tryz.ntmps28
     go_wp2_with fail
     go_ret
     exact ⟨false,rfl,⟨fun h=>(by cases h),fun h=>absurd h HR.out⟩,HB.out _⟩
   ·have b2:decide (f≤3)=false:=decide_eq_false a2
    have HR:Hid (¬ ArOk E f e s):=Lh (fun h=>by unfold ArOk at h;rw [if_neg HF0.out] at h;exact a2 h.2.1)
    clear a2
    go_enter Tryz.func28, Tryz.ntmps28
    go_wp2_with fail
    go_ret
    exact ⟨false,rfl,⟨fun h=>(by cases h),fun h=>absurd h HR.out⟩,HB.out _⟩
  ·have b1:decide (0<f)=false:=decide_eq_false a1
   have HR:Hid (¬ ArOk E f e s):=Lh (fun h=>by unfold ArOk at h;rw [if_neg HF0.out] at h;exact a1 h.1)
   clear a1
   go_enter Tryz.func28, Tryz.ntmps28
   go_wp2_with fail
   go_ret
   exact ⟨false,rfl,⟨fun h=>(by cases h),fun h=>absurd h HR.out⟩,HB.out _⟩
theorem Q9M (m:Nat)(hm:m<8)(neg:Bool)(h:Int)(q:Nat)(hq:q=0){w:World}{v:Value}(hv:NumV w v false q):Calls Tryz.prog 77 #[.int .i64 (m:Int),.bool neg,v,.int .i64 h] w fun r w'=>r=.returned (.bool (upR m neg q h))∧Below w.heap.size w w':=by
 have HB:=Lh (fun o=>Qf w o)
 obtain ⟨s,rfl,p,cap,rfl,_,_,hd⟩:=hv
 subst hq
 rw [Qv]
 clear hd
 rcases (show m=0∨m=1∨m=2∨m=3∨m=4∨m=5∨m=6∨m=7 by omega) with rfl | rfl | rfl | rfl | rfl | rfl | rfl | rfl
 ·have HR:Hid (upR 0 neg 0 h=false):=Lh rfl
  go_enter Tryz.func77, Tryz.ntmps77
  go_wp2_with fail
  go_ret
  exact ⟨by rw [HR.out];rfl,HB.out _⟩
 ·by_cases a1:0≤h
  ·have b1:decide (0≤h)=true:=decide_eq_true a1
   have HR:Hid (upR 1 neg 0 h=true):=Lh b1
   go_enter Tryz.func77, Tryz.ntmps77
   go_wp2_with fail
   go_ret
   exact ⟨by rw [HR.out];rfl,HB.out _⟩
  ·have b1:decide (0≤h)=false:=decide_eq_false a1
   have HR:Hid (upR 1 neg 0 h=false):=Lh b1
   go_enter Tryz.func77, Tryz.ntmps77
   go_wp2_with fail
   go_ret
   exact ⟨by rw [HR.out];rfl,HB.out _⟩
 ·by_cases a1:0<h
  ·have b1:decide (0<h)=true:=decide_eq_true a1
   have HR:Hid (upR 2 neg 0 h=true):=Lh (by unfold upR;simp [a1])
   go_enter Tryz.func77, Tryz.ntmps77
   go_wp2_with fail
   go_ret
   exact ⟨by rw [HR.out];rfl,HB.out _⟩
  ·have b1:decide (0<h)=false:=decide_eq_false a1
   have HR:Hid (upR 2 neg 0 h=false):=Lh (by unfold upR;simp [a1])
   by_cases a2:h=0
   ·subst a2
    go_enter Tryz.func77, Tryz.ntmps77
    go_wp2_with fail
    go_ret
    exact ⟨by rw [HR.out];rfl,HB.out _⟩
   ·have b2:(h == 0)=false:=by simpa using a2
    go_enter Tryz.func77, Tryz.ntmps77
    go_wp2_with fail
    go_ret
    exact ⟨by rw [HR.out];rfl,HB.out _⟩
 ·have HR:Hid (upR 3 neg 0 h=!neg):=Lh rfl
  go_enter Tryz.func77, Tryz.ntmps77
  go_wp2_with fail
  go_ret
  exact ⟨by rw [HR.out];rfl,HB.out _⟩
 ·have HR:Hid (upR 4 neg 0 h=neg):=Lh rfl
  go_enter Tryz.func77, Tryz.ntmps77
  go_wp2_with fail
  go_ret
  exact ⟨by rw [HR.out];rfl,HB.out _⟩
 ·by_cases a1:0<h
  ·have b1:decide (0<h)=true:=decide_eq_true a1
   have HR:Hid (upR 5 neg 0 h=true):=Lh b1
   go_enter Tryz.func77, Tryz.ntmps77
   go_wp2_with fail
   go_ret
   exact ⟨by rw [HR.out];rfl,HB.out _⟩
  ·have b1:decide (0<h)=false:=decide_eq_false a1
   have HR:Hid (upR 5 neg 0 h=false):=Lh b1
   go_enter Tryz.func77, Tryz.ntmps77
   go_wp2_with fail
   go_ret
   exact ⟨by rw [HR.out];rfl,HB.out _⟩
 ·have HR:Hid (upR 6 neg 0 h=true):=Lh rfl
  go_enter Tryz.func77, Tryz.ntmps77
  go_wp2_with fail
  go_ret
  exact ⟨by rw [HR.out];rfl,HB.out _⟩
 ·have HR:Hid (upR 7 neg 0 h=true):=Lh rfl
  go_enter Tryz.func77, Tryz.ntmps77
  go_wp2_with fail
  go_ret
  exact ⟨by rw [HR.out];rfl,HB.out _⟩
theorem Qay (m:Nat)(hm:m<8)(neg:Bool)(h:Int)(q:Nat)(hq:q≠0){w:World}{v:Value}(hv:NumV w v false q):Calls Tryz.prog 77 #[.int .i64 (m:Int),.bool neg,v,.int .i64 h] w fun r w'=>r=.returned (.bool (upR m neg q h))∧Below w.heap.size w w':=by
 have HB:=Lh (fun o=>Qf w o)
 obtain ⟨s,rfl,p,cap,rfl,_,_,hd⟩:=hv
 have hl:0<(dgs q).length:=by have:=Q3n (n:=q);omega
 have hl2:(0:Int)<((dgs q).length:Int):=by omega
 obtain ⟨b,o,rfl,hb,hc⟩:=hd.dig 0 hl
 rw [Nat.pow_zero,Nat.div_one,Nat.add_zero] at hc
 generalize (dgs q).length=L at hl hl2 ⊢
 have HM2:Hid (q % 10 % 2=q % 2):=Lh (by omega)
 have HM5:Hid (q % 10=0∨q % 10=5 ↔ q % 5=0):=Lh (by omega)
 have hd9:q % 10<10:=Nat.mod_lt _ (by decide)
 clear hd hq
 generalize hg:q % 10=d at hc HM2 HM5 hd9
 clear hg
 rcases (show m=0∨m=1∨m=2∨m=3∨m=4∨m=5∨m=6∨m=7 by omega) with rfl | rfl | rfl | rfl | rfl | rfl | rfl | rfl
 ·have HR:Hid (upR 0 neg q h=false):=Lh rfl
  go_enter Tryz.func77, Tryz.ntmps77
  go_wp2_with fail
  go_ret
  exact ⟨by rw [HR.out];rfl,HB.out _⟩
 ·by_cases a1:0≤h
  ·have b1:decide (0≤h)=true:=decide_eq_true a1
   have HR:Hid (upR 1 neg q h=true):=Lh b1
   go_enter Tryz.func77, Tryz.ntmps77
   go_wp2_with fail
   go_ret
   exact ⟨by rw [HR.out];rfl,HB.out _⟩
  ·have b1:decide (0≤h)=false:=decide_eq_false a1
   have HR:Hid (upR 1 neg q h=false):=Lh b1
   go_enter Tryz.func77, Tryz.ntmps77
   go_wp2_with fail
   go_ret
   exact ⟨by rw [HR.out];rfl,HB.out _⟩
 ·by_cases a1:0<h
  ·have b1:decide (0<h)=true:=decide_eq_true a1
   have HR:Hid (upR 2 neg q h=true):=Lh (by unfold upR;simp [a1])
   go_enter Tryz.func77, Tryz.ntmps77
   go_wp2_with fail
   go_ret
   exact ⟨by rw [HR.out];rfl,HB.out _⟩
  ·have b1:decide (0<h)=false:=decide_eq_false a1
   by_cases a2:h=0
   ·subst a2
    by_cases a3:d % 2=1
    ·have b3:((d:Int) % 2 == 1)=true:=by simp;omega
     have HR:Hid (upR 2 neg q 0=true):=Lh (by have:=HM2.out;unfold upR;simp;omega)
     clear a3
     go_enter Tryz.func77, Tryz.ntmps77
     go_wp2_with fail
     go_ret
     exact ⟨by rw [HR.out];rfl,HB.out _⟩
    ·have b3:((d:Int) % 2 == 1)=false:=by simp;omega
     have HR:Hid (upR 2 neg q 0=false):=Lh (by have:=HM2.out;unfold upR;simp;omega)
     clear a3
     go_enter Tryz.func77, Tryz.ntmps77
     go_wp2_with fail
     go_ret
     exact ⟨by rw [HR.out];rfl,HB.out _⟩
   ·have b2:(h == 0)=false:=by simpa using a2
    have HR:Hid (upR 2 neg q h=false):=Lh (by unfold upR;simp [a1,a2])
    go_enter Tryz.func77, Tryz.ntmps77
    go_wp2_with fail
    go_ret
    exact ⟨by rw [HR.out];rfl,HB.out _⟩
 ·have HR:Hid (upR 3 neg q h=!neg):=Lh rfl
  go_enter Tryz.func77, Tryz.ntmps77
  go_wp2_with fail
  go_ret
  exact ⟨by rw [HR.out];rfl,HB.out _⟩
 ·have HR:Hid (upR 4 neg q h=neg):=Lh rfl
  go_enter Tryz.func77, Tryz.ntmps77
  go_wp2_with fail
  go_ret
  exact ⟨by rw [HR.out];rfl,HB.out _⟩
 ·by_cases a1:0<h
  ·have b1:decide (0<h)=true:=decide_eq_true a1
   have HR:Hid (upR 5 neg q h=true):=Lh b1
   go_enter Tryz.func77, Tryz.ntmps77
   go_wp2_with fail
   go_ret
   exact ⟨by rw [HR.out];rfl,HB.out _⟩
  ·have b1:decide (0<h)=false:=decide_eq_false a1
   have HR:Hid (upR 5 neg q h=false):=Lh b1
   go_enter Tryz.func77, Tryz.ntmps77
   go_wp2_with fail
   go_ret
   exact ⟨by rw [HR.out];rfl,HB.out _⟩
 ·have HR:Hid (upR 6 neg q h=true):=Lh rfl
  go_enter Tryz.func77, Tryz.ntmps77
  go_wp2_with fail
  go_ret
  exact ⟨by rw [HR.out];rfl,HB.out _⟩
 ·by_cases a1:d=0
  ·have HR:Hid (upR 7 neg q h=true):=Lh (decide_eq_true (HM5.out.1 (.inl a1)))
   subst a1
   go_enter Tryz.func77, Tryz.ntmps77
   go_wp2_with fail
   go_ret
   exact ⟨by rw [HR.out];rfl,HB.out _⟩
  ·have b1:((d:Int) == 0)=false:=by simp;omega
   by_cases a2:d=5
   ·have HR:Hid (upR 7 neg q h=true):=Lh (decide_eq_true (HM5.out.1 (.inr a2)))
    subst a2
    go_enter Tryz.func77, Tryz.ntmps77
    go_wp2_with fail
    go_ret
    exact ⟨by rw [HR.out];rfl,HB.out _⟩
   ·have b2:((d:Int) == 5)=false:=by simp;omega
    have HR:Hid (upR 7 neg q h=false):=Lh (decide_eq_false (fun h=>by rcases HM5.out.2 h with e | e;exact a1 e;exact a2 e))
    clear a1 a2
    go_enter Tryz.func77, Tryz.ntmps77
    go_wp2_with fail
    go_ret
    exact ⟨by rw [HR.out];rfl,HB.out _⟩
theorem QaK (m:Nat)(hm:m<8)(neg:Bool)(h:Int)(q:Nat){w:World}{v:Value}(hv:NumV w v false q):Calls Tryz.prog 77 #[.int .i64 (m:Int),.bool neg,v,.int .i64 h] w fun r w'=>r=.returned (.bool (upR m neg q h))∧Below w.heap.size w w':=by
 by_cases e:q=0
 ·exact Q9M m hm neg h q e hv
 ·exact Qay m hm neg h q e hv
end Go.Proofs.YtpfjmeadikdddaaGreatDoor
