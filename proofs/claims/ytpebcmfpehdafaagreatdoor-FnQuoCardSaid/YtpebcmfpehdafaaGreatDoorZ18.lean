/- a part of the proof -/
import Derived.Test.YtpebcmfpehdafaaGreatDoorZ10
import Derived.Test.YtpebcmfpehdafaaGreatDoorZ17
set_option linter.all false
set_option maxRecDepth 100000
set_option maxHeartbeats 16000000
namespace Go.Proofs.YtpebcmfpehdafaaGreatDoor
open Go Go.RowKit
theorem Qq {w:World}{g:Nat}{C:Array Value}{T:TypeId}{m:Nat × Nat}(h:w.heap[g]?=some (.cells C T m))(i:Nat)(u:Value):(w.setCell ⟨g,i,none⟩ u).heap[g]?=some (.cells (C.setIfInBounds i u) T m):=by
 unfold World.setCell
 simp only [Array.getElem?_modify,if_true,h,Option.map_some]
 rfl
theorem QH {w:World}{g B:Nat}{o:Obj}(h:w.heap[g]?=some o)(hne:g≠B)(i:Nat)(u:Value):(w.setCell ⟨B,i,none⟩ u).heap[g]?=some o:=by
 rw [Below.heap_setCell _ _ _ _ hne];exact h
def set8 (w:World)(B:Nat)(u0 u1 u2 u3 u4 u5 u6 u7:Value):World:=(((((((w.setCell ⟨B,0,none⟩ u0).setCell ⟨B,1,none⟩ u1).setCell ⟨B,2,none⟩ u2).setCell ⟨B,3,none⟩ u3).setCell ⟨B,4,none⟩ u4).setCell ⟨B,5,none⟩ u5).setCell ⟨B,6,none⟩ u6).setCell ⟨B,7,none⟩ u7
theorem QD {w:World}{B:Nat}{T:TypeId}{x0 x1 x2 x3 x4 x5 x6 x7:Value}(h:w.heap[B]?=some (.cells #[x0,x1,x2,x3,x4,x5,x6,x7] T (0,0)))(u0 u1 u2 u3 u4 u5 u6 u7:Value) :
  (set8 w B u0 u1 u2 u3 u4 u5 u6 u7).cell? ⟨B,0,none⟩=some u0∧(set8 w B u0 u1 u2 u3 u4 u5 u6 u7).cell? ⟨B,1,none⟩=some u1∧(set8 w B u0 u1 u2 u3 u4 u5 u6 u7).cell? ⟨B,2,none⟩=some u2∧(set8 w B u0 u1 u2 u3 u4 u5 u6 u7).cell? ⟨B,3,none⟩=some u3∧(set8 w B u0 u1 u2 u3 u4 u5 u6 u7).cell? ⟨B,4,none⟩=some u4∧(set8 w B u0 u1 u2 u3 u4 u5 u6 u7).cell? ⟨B,5,none⟩=some u5∧(set8 w B u0 u1 u2 u3 u4 u5 u6 u7).cell? ⟨B,6,none⟩=some u6∧(set8 w B u0 u1 u2 u3 u4 u5 u6 u7).cell? ⟨B,7,none⟩=some u7:=by
 have hC:(((((((#[x0,x1,x2,x3,x4,x5,x6,x7].setIfInBounds 0 u0).setIfInBounds 1 u1).setIfInBounds 2 u2).setIfInBounds 3 u3).setIfInBounds 4 u4).setIfInBounds 5 u5).setIfInBounds 6 u6).setIfInBounds 7 u7=#[u0,u1,u2,u3,u4,u5,u6,u7]:=by simp
 have h':(set8 w B u0 u1 u2 u3 u4 u5 u6 u7).heap[B]?=some (.cells #[u0,u1,u2,u3,u4,u5,u6,u7] T (0,0)):=by
  rw [← hC];exact Qq (Qq (Qq (Qq (Qq (Qq (Qq (Qq h 0 u0) 1 u1) 2 u2) 3 u3) 4 u4) 5 u5) 6 u6) 7 u7
 obtain ⟨c,_⟩:=Qe h'
 exact ⟨c 0,c 1,c 2,c 3,c 4,c 5,c 6,c 7⟩
structure FS (w:World) (p mx mn tr md:Int) (n:Bool) (s:Value) (e:Int) (w2:World):Prop where
 cb:w2.heap[w.heap.size]?=some (.cells #[.int .u32 p,.int .i32 mx,.int .i32 mn,.int .u32 tr,.int .i64 md] 24 (0,0))
 xb:w2.heap[w.heap.size+1]?=some (.cells #[.bool n,.bool false,s,.int .i64 e] 39 (0,0))
 rb:w2.heap[w.heap.size+1+1]?=some (.cells #[.int .i64 0,.bool false,.int .i32 0,.string ⟨#[]⟩,.int .u32 0,.bool false,.bool false,.bool false] 33 (0,0))
 bw:Below w.heap.size w w2
section
variable {w : World} {p mx mn tr md : Int} {n : Bool} {s : Value} {e : Int} {w2 : World}
theorem FS.start {w:World}{p mx mn tr md:Int}{n:Bool}{s:Value}{e:Int}:FS w p mx mn tr md n s e (((w.alloc (.cells #[.int .u32 p,.int .i32 mx,.int .i32 mn,.int .u32 tr,.int .i64 md] 24)).alloc (.cells #[.bool n,.bool false,s,.int .i64 e] 39)).alloc (.cells #[.int .i64 0,.bool false,.int .i32 0,.string ⟨#[]⟩,.int .u32 0,.bool false,.bool false,.bool false] 33)):=by
 obtain ⟨w1,hw1⟩:∃ w1,w1=w.alloc (.cells #[.int .u32 p,.int .i32 mx,.int .i32 mn,.int .u32 tr,.int .i64 md] 24):=⟨_,rfl⟩
 have s1:w1.heap.size=w.heap.size+1:=by rw [hw1];simp
 have b0:w1.heap[w.heap.size]?=some (.cells #[.int .u32 p,.int .i32 mx,.int .i32 mn,.int .u32 tr,.int .i64 md] 24 (0,0)):=by rw [hw1,gal]
 have hB:Below w.heap.size w w1:=by rw [hw1];exact Qm w _
 rw [← hw1]
 obtain ⟨w2,hw2⟩:∃ w2,w2=w1.alloc (.cells #[.bool n,.bool false,s,.int .i64 e] 39):=⟨_,rfl⟩
 have s2:w2.heap.size=w.heap.size+1+1:=by rw [hw2];simp [s1]
 have b1:w2.heap[w1.heap.size]?=some (.cells #[.bool n,.bool false,s,.int .i64 e] 39 (0,0)):=by rw [hw2,gal]
 have b0':w2.heap[w.heap.size]?=some (.cells #[.int .u32 p,.int .i32 mx,.int .i32 mn,.int .u32 tr,.int .i64 md] 24 (0,0)):=by rw [hw2];exact Qb b0 (Qm _ _)
 have hB2:Below w.heap.size w w2:=by rw [hw2];exact bal hB _
 rw [← hw2]
 rw [s1] at b1
 refine ⟨Qb b0' (Qm _ _),Qb b1 (Qm _ _),?_,bal hB2 _⟩
 rw [← s2,gal]
theorem FS.later (h:FS w p mx mn tr md n s e w2){w3:World}(hB:Below w2.heap.size w2 w3):FS w p mx mn tr md n s e w3 :=
 ⟨Qb h.cb hB,Qb h.xb hB,Qb h.rb hB,Qd h.bw hB⟩
theorem FS.al (h:FS w p mx mn tr md n s e w2)(o:Obj):FS w p mx mn tr md n s e (w2.alloc o):=h.later (Qm _ _)
theorem FS.drewN (h:FS w p mx mn tr md n s e w2)(k:Nat):FS w p mx mn tr md n s e (w2.drewN k):=⟨h.cb,h.xb,h.rb,⟨h.bw.os,h.bw.tape,h.bw.output,h.bw.size,h.bw.block⟩⟩
theorem FS.drew (h:FS w p mx mn tr md n s e w2):FS w p mx mn tr md n s e w2.drew:=h.drewN 1
theorem FS.size (h:FS w p mx mn tr md n s e w2):w.heap.size<w2.heap.size∧w.heap.size+1<w2.heap.size∧w.heap.size+1+1<w2.heap.size :=
 ⟨(Array.getElem?_eq_some_iff.1 h.cb).1,(Array.getElem?_eq_some_iff.1 h.xb).1,(Array.getElem?_eq_some_iff.1 h.rb).1⟩
theorem FS.cc (h:FS w p mx mn tr md n s e w2):w2.cell? ⟨w.heap.size,0,none⟩=some (.int .u32 p)∧w2.cell? ⟨w.heap.size,1,none⟩=some (.int .i32 mx)∧w2.cell? ⟨w.heap.size,2,none⟩=some (.int .i32 mn)∧w2.cell? ⟨w.heap.size,4,none⟩=some (.int .i64 md):=by
 obtain ⟨c,_⟩:=Qe h.cb
 exact ⟨c 0,c 1,c 2,c 4⟩
theorem FS.xc (h:FS w p mx mn tr md n s e w2):w2.cell? ⟨w.heap.size+1,0,none⟩=some (.bool n)∧w2.cell? ⟨w.heap.size+1,1,none⟩=some (.bool false)∧w2.cell? ⟨w.heap.size+1,2,none⟩=some s∧w2.cell? ⟨w.heap.size+1,3,none⟩=some (.int .i64 e):=by
 obtain ⟨c,_⟩:=Qe h.xb
 exact ⟨c 0,c 1,c 2,c 3⟩
theorem FS.xf (h:FS w p mx mn tr md n s e w2):w2.frozen? ⟨w.heap.size+1,0,none⟩=false∧w2.frozen? ⟨w.heap.size+1,1,none⟩=false∧w2.frozen? ⟨w.heap.size+1,2,none⟩=false∧w2.frozen? ⟨w.heap.size+1,3,none⟩=false:=by
 obtain ⟨_,f⟩:=Qe h.xb
 exact ⟨f 0,f 1,f 2,f 3⟩
theorem FS.rc (h:FS w p mx mn tr md n s e w2):w2.cell? ⟨w.heap.size+1+1,0,none⟩=some (.int .i64 0)∧w2.cell? ⟨w.heap.size+1+1,1,none⟩=some (.bool false)∧w2.cell? ⟨w.heap.size+1+1,2,none⟩=some (.int .i32 0)∧w2.cell? ⟨w.heap.size+1+1,3,none⟩=some (.string ⟨#[]⟩)∧w2.cell? ⟨w.heap.size+1+1,4,none⟩=some (.int .u32 0)∧w2.cell? ⟨w.heap.size+1+1,5,none⟩=some (.bool false)∧w2.cell? ⟨w.heap.size+1+1,6,none⟩=some (.bool false)∧w2.cell? ⟨w.heap.size+1+1,7,none⟩=some (.bool false):=by
 obtain ⟨c,_⟩:=Qe h.rb
 exact ⟨c 0,c 1,c 2,c 3,c 4,c 5,c 6,c 7⟩
theorem FS.rf (h:FS w p mx mn tr md n s e w2):w2.frozen? ⟨w.heap.size+1+1,0,none⟩=false∧w2.frozen? ⟨w.heap.size+1+1,1,none⟩=false∧w2.frozen? ⟨w.heap.size+1+1,2,none⟩=false∧w2.frozen? ⟨w.heap.size+1+1,3,none⟩=false∧w2.frozen? ⟨w.heap.size+1+1,4,none⟩=false∧w2.frozen? ⟨w.heap.size+1+1,5,none⟩=false∧w2.frozen? ⟨w.heap.size+1+1,6,none⟩=false∧w2.frozen? ⟨w.heap.size+1+1,7,none⟩=false:=by
 obtain ⟨_,f⟩:=Qe h.rb
 exact ⟨f 0,f 1,f 2,f 3,f 4,f 5,f 6,f 7⟩
theorem FS.setE (h:FS w p mx mn tr md n s e w2)(e':Int):FS w p mx mn tr md n s e' (w2.setCell ⟨w.heap.size+1,3,none⟩ (.int .i64 e')) :=
 ⟨QH h.cb (by omega) _ _,Qq h.xb 3 _,QH h.rb (by omega) _ _,h.bw.setCell (by simp only;omega) _⟩
theorem FS.setC (h:FS w p mx mn tr md n s e w2)(s':Value):FS w p mx mn tr md n s' e ((w2.setCell ⟨w.heap.size+1,1,none⟩ (.bool false)).setCell ⟨w.heap.size+1,2,none⟩ s') :=
 ⟨QH (QH h.cb (by omega) _ _) (by omega) _ _,Qq (Qq h.xb 1 _) 2 _,QH (QH h.rb (by omega) _ _) (by omega) _ _,(h.bw.setCell (by simp only;omega) _).setCell (by simp only;omega) _⟩
theorem FS.setX (h:FS w p mx mn tr md n s e w2)(n':Bool)(s':Value)(e':Int):FS w p mx mn tr md n' s' e' ((((w2.setCell ⟨w.heap.size+1,0,none⟩ (.bool n')).setCell ⟨w.heap.size+1,1,none⟩ (.bool false)).setCell ⟨w.heap.size+1,2,none⟩ s').setCell ⟨w.heap.size+1,3,none⟩ (.int .i64 e')) :=
 ⟨QH (QH (QH (QH h.cb (by omega) _ _) (by omega) _ _) (by omega) _ _) (by omega) _ _,Qq (Qq (Qq (Qq h.xb 0 _) 1 _) 2 _) 3 _,QH (QH (QH (QH h.rb (by omega) _ _) (by omega) _ _) (by omega) _ _) (by omega) _ _,(((h.bw.setCell (by simp only;omega) _).setCell (by simp only;omega) _).setCell (by simp only;omega) _).setCell (by simp only;omega) _⟩
theorem FS.done (h:FS w p mx mn tr md n s e w2)(u0 u1 u2 u3 u4 u5 u6 u7:Value):Below w.heap.size w (set8 w2 (w.heap.size+1+1) u0 u1 u2 u3 u4 u5 u6 u7) :=
 (((((((h.bw.setCell (by simp only;omega) _).setCell (by simp only;omega) _).setCell (by simp only;omega) _).setCell (by simp only;omega) _).setCell (by simp only;omega) _).setCell (by simp only;omega) _).setCell (by simp only;omega) _).setCell (by simp only;omega) _
end
def SRV (r:SR):Value:=if r.known then (if r.over then RsV 1 r.d.n 0 ⟨#[]⟩ 4 true false true else RsV 0 r.d.n r.d.e (txS r.d.c) r.d.k true false false) else RsV 0 false 0 ⟨#[]⟩ 0 false false false
theorem Q5H {w:World}(p md tr:Nat)(mx mn:Int)(hp:p≤60)(hmx:0≤mx∧mx≤500)(hmn:mn≤0 ∧ -500≤mn)(hmd:md<8){v:Value}{n:Bool}{c:Nat}{e:Int}(hx:FinV w v n c e)(he : -10000≤e∧e≤10000)(hlen:(dgs c).length≤10000)(hc:c=0) :
  Calls Tryz.prog 11 #[CV p mx mn tr md,v,.int .u32 0] w fun r w'=>r=.returned (SRV (finS p mx mn md n e c))∧Below w.heap.size w w':=by
 obtain ⟨s,rfl,hs⟩:=hx
 have hs0:=Lh hs
 obtain ⟨q,cap,rfl,_⟩:=hs
 have HC0:=Lh hc
 clear hc
 obtain ⟨hmx1,hmx2⟩:=hmx
 obtain ⟨hmn1,hmn2⟩:=hmn
 obtain ⟨he1,he2⟩:=he
 have H0:=Lh (FS.start (w:=w) (p:=(p:Int)) (mx:=mx) (mn:=mn) (tr:=(tr:Int)) (md:=(md:Int)) (n:=n) (s:=.slice q (dgs c).length cap) (e:=e))
 have HD0:Hid (∀ w2,Below w.heap.size w w2→NumV w2 (.agg #[.bool false,.slice q (dgs c).length cap]) false c):=Lh (fun w2 h=>⟨_,rfl,hs0.out.later h⟩)
 have i1:IntKind.i64.wrap (p:Int)=(p:Int):=IntWalk.i64_in _ (by omega)
 have i2:IntKind.i64.wrap mn=mn:=IntWalk.i64_in _ (by omega)
 have i3:IntKind.i64.wrap (mn - (p:Int))=mn - (p:Int):=IntWalk.i64_in _ (by omega)
 have i4:IntKind.i64.wrap (mn - (p:Int)+1)=mn - (p:Int)+1:=IntWalk.i64_in _ (by omega)
 have i5:IntKind.i64.wrap mx=mx:=IntWalk.i64_in _ (by omega)
 have o1:bits .or .u32 0 32=32:=by kernel_rfl
 have o2:bits .or .u32 32 64=96:=by kernel_rfl
 have o3:bits .or .u32 96 24=120:=by kernel_rfl
 have o4:bits .or .u32 96 2048=2144:=by kernel_rfl
 have o5:bits .or .u32 120 2048=2168:=by kernel_rfl
 have o6:bits .or .u32 0 64=64:=by kernel_rfl
 have o7:bits .or .u32 64 16=80:=by kernel_rfl
 obtain ⟨S,hS⟩:∃ S,S=SRV (finS p mx mn md n e c):=⟨_,rfl⟩
 rw [← hS]
 have HS:=Lh hS
 generalize hL:(dgs c).length=L at H0 HD0 hlen ⊢
 have HL:=Lh hL
 obtain ⟨wA,hwA⟩:∃ wA,wA=((w.alloc (.cells #[.int .u32 (p:Int),.int .i32 mx,.int .i32 mn,.int .u32 (tr:Int),.int .i64 (md:Int)] 24)).alloc (.cells #[.bool n,.bool false,.slice q L cap,.int .i64 e] 39)).alloc (.cells #[.int .i64 0,.bool false,.int .i32 0,.string ⟨#[]⟩,.int .u32 0,.bool false,.bool false,.bool false] 33):=⟨_,rfl⟩
 rw [← hwA] at H0
 unfold CV
 clear hs0 hS hL
 obtain ⟨c0,c1,c2,c4⟩:=H0.out.cc
 obtain ⟨x0,x1,x2,x3⟩:=H0.out.xc
 go_enter Tryz.func11, Tryz.ntmps11
 go_wp2_with fail
 rw [← hwA]
 have HwA:=Lh hwA
 clear hwA
 go_quiet (fail)
 go_wp2_with fail
 refine (Q0b (HD0.out _ (H0.out.drewN _).bw)).mono ?_
 rintro r w1 ⟨rfl,hB⟩
 have H1:=Lh ((H0.out.drewN _).later hB)
 clear hB H0 c0 c1 c2 c4 x0 x1 x2 x3
 rw [decide_eq_true HC0.out]
 by_cases h1:e<mn - p+1
 ·have b1:decide (e<mn - (p:Int)+1)=true:=decide_eq_true h1
  have HV:Hid (S=SRV srNo):=Lh (by rw [HS.out];unfold finS;rw [if_pos HC0.out,if_pos (.inl h1)])
  obtain ⟨c0,c1,c2,c4⟩:=H1.out.cc
  obtain ⟨x0,x1,x2,x3⟩:=H1.out.xc
  obtain ⟨r0,r1,r2,r3,r4,r5,r6,r7⟩:=H1.out.rc
  obtain ⟨f0,f1,f2,f3,f4,f5,f6,f7⟩:=H1.out.rf
  go_wp2_with fail
  have h8:=QD H1.out.rb (.int .i64 0) (.bool false) (.int .i32 0) (.string ⟨#[]⟩) (.int .u32 0) (.bool false) (.bool false) (.bool false)
  have hb:=H1.out.done (.int .i64 0) (.bool false) (.int .i32 0) (.string ⟨#[]⟩) (.int .u32 0) (.bool false) (.bool false) (.bool false)
  unfold set8 at h8 hb
  exact bodyPost_ret (v:=.agg #[.int .i64 0,.bool false,.int .i32 0,.string ⟨#[]⟩,.int .u32 0,.bool false,.bool false,.bool false]) (by simp [results,Tryz.results11,go_sem,h8]) rfl ⟨Qz (by rw [HV.out];rfl),hb⟩
 ·have b1:decide (e<mn - (p:Int)+1)=false:=decide_eq_false h1
  by_cases h2:mx<e
  ·have b2:decide (mx<e)=true:=decide_eq_true h2
   have HV:Hid (S=SRV srNo):=Lh (by rw [HS.out];unfold finS;rw [if_pos HC0.out,if_pos (.inr h2)])
   clear h1
   obtain ⟨c0,c1,c2,c4⟩:=H1.out.cc
   obtain ⟨x0,x1,x2,x3⟩:=H1.out.xc
   obtain ⟨r0,r1,r2,r3,r4,r5,r6,r7⟩:=H1.out.rc
   obtain ⟨f0,f1,f2,f3,f4,f5,f6,f7⟩:=H1.out.rf
   go_wp2_with fail
   have h8:=QD H1.out.rb (.int .i64 0) (.bool false) (.int .i32 0) (.string ⟨#[]⟩) (.int .u32 0) (.bool false) (.bool false) (.bool false)
   have hb:=H1.out.done (.int .i64 0) (.bool false) (.int .i32 0) (.string ⟨#[]⟩) (.int .u32 0) (.bool false) (.bool false) (.bool false)
   unfold set8 at h8 hb
   exact bodyPost_ret (v:=.agg #[.int .i64 0,.bool false,.int .i32 0,.string ⟨#[]⟩,.int .u32 0,.bool false,.bool false,.bool false]) (by simp [results,Tryz.results11,go_sem,h8]) rfl ⟨Qz (by rw [HV.out];rfl),hb⟩
  ·have b2:decide (mx<e)=false:=decide_eq_false h2
   have HV:Hid (S=SRV ⟨true,false,⟨0,n,e,0,0⟩⟩):=Lh (by rw [HS.out];unfold finS;rw [if_pos HC0.out,if_neg (by omega)])
   have HT:Hid (∀ w2,Below w.heap.size w w2→Calls Tryz.prog 20 #[.agg #[.bool n,.bool false,.slice q L cap,.int .i64 e]] w2 fun r w'=>r=.returned (DV 0 n e (txS 0))∧Below w2.heap.size w2 w'):=Lh (fun w2 h=>by
    obtain ⟨s',hs',hd⟩:=HD0.out w2 h
    have hq:Value.slice q L cap=s':=by
     have:=congrArg (fun v=>match v with | Value.agg cs=>cs.toList | _=>[]) hs'
     simpa using this
    rw [HC0.out] at hd
    exact Q0z ⟨_,rfl,by rw [hq];exact hd⟩ (by omega) (by rw [Qp];decide))
   clear h1 h2
   obtain ⟨c0,c1,c2,c4⟩:=H1.out.cc
   obtain ⟨x0,x1,x2,x3⟩:=H1.out.xc
   go_wp2_with fail
   refine (HT.out _ H1.out.bw).mono ?_
   rintro r w2 ⟨rfl,hB⟩
   have H2:=Lh (H1.out.later hB)
   unfold DV
   generalize hT0:txS 0=T0
   have HT0:=Lh hT0
   clear hB c0 c1 c2 c4 x0 x1 x2 x3 H1 hT0
   obtain ⟨r0,r1,r2,r3,r4,r5,r6,r7⟩:=H2.out.rc
   obtain ⟨f0,f1,f2,f3,f4,f5,f6,f7⟩:=H2.out.rf
   go_wp2_with fail
   have h8:=QD H2.out.rb (.int .i64 0) (.bool n) (.int .i32 e) (.string T0) (.int .u32 0) (.bool true) (.bool false) (.bool false)
   have hb:=H2.out.done (.int .i64 0) (.bool n) (.int .i32 e) (.string T0) (.int .u32 0) (.bool true) (.bool false) (.bool false)
   unfold set8 at h8 hb
   exact bodyPost_ret (v:=.agg #[.int .i64 0,.bool n,.int .i32 e,.string T0,.int .u32 0,.bool true,.bool false,.bool false]) (by simp [results,Tryz.results11,go_sem,h8]) rfl ⟨Qz (by rw [HV.out,← HT0.out];rfl),hb⟩
theorem Good.sdL {s:ByteArray}(h:Good s):∀ d ∈ Go.Proofs.YtpebcmfpehdafaaGreatDoor.sdL s 0,d<10:=by
 intro d hd
 unfold Go.Proofs.YtpebcmfpehdafaaGreatDoor.sdL at hd
 simp only [List.drop_zero,List.mem_map,List.mem_reverse] at hd
 obtain ⟨c,hc,rfl⟩:=hd
 obtain ⟨i,hi,rfl⟩:=List.mem_iff_getElem.1 hc
 have h1:=h i (by simpa using hi)
 have h2:s.data.toList[i]=s[i]'(by simpa using hi):=rfl
 rw [h2];omega
theorem Canon.len {s:ByteArray}(h:Canon s):(dgs (vl (sdL s 0))).length≤s.size:=by
 have h1:=Q65 (sdL s 0) h.1.sdL
 rw [Q48] at h1
 by_cases e0:vl (sdL s 0)=0
 ·rw [e0,Qp];simp
 ·rw [Qw _ e0];exact Q09 h.2.1 (by simpa using h1)
theorem Q5J {s:ByteArray}(h:s.toList=[48]):Canon s∧s.size=1∧vl (sdL s 0)=0:=by
 refine ⟨Canon.zero h,?_⟩
 rw [ByteArray.toList_eq] at h
 have hd:s.data=#[48]:=Array.ext' (by rw [h])
 have e:s=⟨#[48]⟩:=by cases s;simp at hd;rw [hd]
 subst e
 exact ⟨by decide,by decide⟩
theorem ArOk.canon {E f e:Int}{s:ByteArray}(hE:0≤E)(h:ArOk E f e s):Canon s∧s.size≤40∧e≤E ∧ -E≤e∧0≤f∧f≤3:=by
 unfold ArOk at h
 split at h
 ·rename_i hf;exact ⟨h.1,h.2.1,h.2.2.1,h.2.2.2,by omega,by omega⟩
 ·obtain ⟨a,b,c,d⟩:=h
  obtain ⟨h1,h2,_⟩:=Q5J d
  exact ⟨h1,by omega,by omega,by omega,by omega,b⟩
structure AS (w:World) (C X Y:Array Value) (w2:World):Prop where
 cb:w2.heap[w.heap.size]?=some (.cells C 24 (0,0))
 xb:w2.heap[w.heap.size+1]?=some (.cells X 26 (0,0))
 yb:w2.heap[w.heap.size+1+1]?=some (.cells Y 26 (0,0))
 rb:w2.heap[w.heap.size+1+1+1]?=some (.cells #[.int .i64 0,.bool false,.int .i32 0,.string ⟨#[]⟩,.int .u32 0,.bool false,.bool false,.bool false] 33 (0,0))
 bw:Below w.heap.size w w2
section
variable {w : World} {C X Y : Array Value} {w2 : World}
theorem AS.start:AS w C X Y ((((w.alloc (.cells C 24)).alloc (.cells X 26)).alloc (.cells Y 26)).alloc (.cells #[.int .i64 0,.bool false,.int .i32 0,.string ⟨#[]⟩,.int .u32 0,.bool false,.bool false,.bool false] 33)):=by
 obtain ⟨w1,hw1⟩:∃ w1,w1=w.alloc (.cells C 24):=⟨_,rfl⟩
 have s1:w1.heap.size=w.heap.size+1:=by rw [hw1];simp
 have b0:w1.heap[w.heap.size]?=some (.cells C 24 (0,0)):=by rw [hw1,gal]
 have hB:Below w.heap.size w w1:=by rw [hw1];exact Qm w _
 rw [← hw1]
 obtain ⟨w3,hw3⟩:∃ w3,w3=w1.alloc (.cells X 26):=⟨_,rfl⟩
 have s3:w3.heap.size=w.heap.size+1+1:=by rw [hw3];simp [s1]
 have b1:w3.heap[w1.heap.size]?=some (.cells X 26 (0,0)):=by rw [hw3,gal]
 have b0':w3.heap[w.heap.size]?=some (.cells C 24 (0,0)):=by rw [hw3];exact Qb b0 (Qm _ _)
 have hB3:Below w.heap.size w w3:=by rw [hw3];exact bal hB _
 rw [← hw3]
 rw [s1] at b1
 obtain ⟨w4,hw4⟩:∃ w4,w4=w3.alloc (.cells Y 26):=⟨_,rfl⟩
 have s4:w4.heap.size=w.heap.size+1+1+1:=by rw [hw4];simp [s3]
 have b2:w4.heap[w3.heap.size]?=some (.cells Y 26 (0,0)):=by rw [hw4,gal]
 have b1':w4.heap[w.heap.size+1]?=some (.cells X 26 (0,0)):=by rw [hw4];exact Qb b1 (Qm _ _)
 have b0'':w4.heap[w.heap.size]?=some (.cells C 24 (0,0)):=by rw [hw4];exact Qb b0' (Qm _ _)
 have hB4:Below w.heap.size w w4:=by rw [hw4];exact bal hB3 _
 rw [← hw4]
 rw [s3] at b2
 refine ⟨Qb b0'' (Qm _ _),Qb b1' (Qm _ _),Qb b2 (Qm _ _),?_,bal hB4 _⟩
 rw [← s4,gal]
theorem AS.later (h:AS w C X Y w2){w3:World}(hB:Below w2.heap.size w2 w3):AS w C X Y w3 :=
 ⟨Qb h.cb hB,Qb h.xb hB,Qb h.yb hB,Qb h.rb hB,Qd h.bw hB⟩
theorem AS.drewN (h:AS w C X Y w2)(k:Nat):AS w C X Y (w2.drewN k):=⟨h.cb,h.xb,h.yb,h.rb,⟨h.bw.os,h.bw.tape,h.bw.output,h.bw.size,h.bw.block⟩⟩
theorem AS.size (h:AS w C X Y w2):w.heap.size+1+1+1<w2.heap.size:=(Array.getElem?_eq_some_iff.1 h.rb).1
theorem AS.far (h:AS w C X Y w2){g:Nat}(hg:w.heap.size+1+1+1<g){w3:World}(o:Only g w2 w3)(hB:Below g w2 w3):AS w C X Y w3 :=
 ⟨(o.1 _ (by omega)).trans h.cb,(o.1 _ (by omega)).trans h.xb,(o.1 _ (by omega)).trans h.yb,(o.1 _ (by omega)).trans h.rb,h.bw.trans (hB.mono (by omega))⟩
theorem AS.rc (h:AS w C X Y w2):w2.cell? ⟨w.heap.size+1+1+1,0,none⟩=some (.int .i64 0)∧w2.cell? ⟨w.heap.size+1+1+1,1,none⟩=some (.bool false)∧w2.cell? ⟨w.heap.size+1+1+1,2,none⟩=some (.int .i32 0)∧w2.cell? ⟨w.heap.size+1+1+1,3,none⟩=some (.string ⟨#[]⟩)∧w2.cell? ⟨w.heap.size+1+1+1,4,none⟩=some (.int .u32 0)∧w2.cell? ⟨w.heap.size+1+1+1,5,none⟩=some (.bool false)∧w2.cell? ⟨w.heap.size+1+1+1,6,none⟩=some (.bool false)∧w2.cell? ⟨w.heap.size+1+1+1,7,none⟩=some (.bool false):=by
 obtain ⟨c,_⟩:=Qe h.rb
 exact ⟨c 0,c 1,c 2,c 3,c 4,c 5,c 6,c 7⟩
theorem AS.rf (h:AS w C X Y w2):∀ i,w2.frozen? ⟨w.heap.size+1+1+1,i,none⟩=false:=(Qe h.rb).2
theorem AS.done (h:AS w C X Y w2)(u0 u1 u2 u3 u4 u5 u6 u7:Value):Below w.heap.size w (set8 w2 (w.heap.size+1+1+1) u0 u1 u2 u3 u4 u5 u6 u7) :=
 ((((((((h.bw.setCell (by simp only;omega) _).setCell (by simp only;omega) _).setCell (by simp only;omega) _).setCell (by simp only;omega) _).setCell (by simp only;omega) _).setCell (by simp only;omega) _).setCell (by simp only;omega) _).setCell (by simp only;omega) _)
end
theorem Qc {w:World}{g:Nat}{C:Array Value}{T:TypeId}(h:w.heap[g]?=some (.cells C T (0,0)))(i:Nat){u:Value}(hu:C[i]?=some u):w.cell? ⟨g,i,none⟩=some u:=((Qe h).1 i).trans hu
theorem Q8e (r:SR):∃ f n e s k a b c,SRV r=RsV f n e s k a b c:=by
 unfold SRV
 split
 ·split
  ·exact ⟨_,_,_,_,_,_,_,_,rfl⟩
  ·exact ⟨_,_,_,_,_,_,_,_,rfl⟩
 ·exact ⟨_,_,_,_,_,_,_,_,rfl⟩
def TwoF (wA:World)(n1:Bool)(q1:Nat)(e1:Int)(n2:Bool)(q2:Nat)(e2:Int)(tq tr:Value)(wx:World):Prop :=
 ∃ gA gB p1 l1 c1 p2 l2 c2,tq=.pointer (some ⟨gA,0,none⟩)∧tr=.pointer (some ⟨gB,0,none⟩)∧(wx.heap[gA]?=some (.cells #[.bool n1,.bool false,.slice p1 l1 c1,.int .i64 e1] 39 (0,0))∧wx.heap[gB]?=some (.cells #[.bool n2,.bool false,.slice p2 l2 c2,.int .i64 e2] 39 (0,0)))∧FinV wx (.agg #[.bool n1,.bool false,.slice p1 l1 c1,.int .i64 e1]) n1 q1 e1∧FinV wx (.agg #[.bool n2,.bool false,.slice p2 l2 c2,.int .i64 e2]) n2 q2 e2∧wA.heap.size≤gA∧wA.heap.size≤gB∧gA≠gB∧Below wA.heap.size wA wx
def set4 (w:World)(B:Nat)(u0 u1 u2 u3:Value):World:=(((w.setCell ⟨B,0,none⟩ u0).setCell ⟨B,1,none⟩ u1).setCell ⟨B,2,none⟩ u2).setCell ⟨B,3,none⟩ u3
theorem Qav (w:World)(B:Nat)(u0 u1 u2 u3:Value):Only B w (set4 w B u0 u1 u2 u3):=((((Only.refl B w).set 0 u0).set 1 u1).set 2 u2).set 3 u3
theorem Qan {w w2:World}{N B:Nat}(h:Below N w w2)(hB:N≤B)(u0 u1 u2 u3:Value):Below N w (set4 w2 B u0 u1 u2 u3) :=
 (((h.setCell (by exact hB) _).setCell (by exact hB) _).setCell (by exact hB) _).setCell (by exact hB) _
theorem QaI {w:World}{g:Nat}{x y z t:Value}{T:TypeId}(h:w.heap[g]?=some (.cells #[x,y,z,t] T (0,0)))(u0 u1 u2 u3:Value):(set4 w g u0 u1 u2 u3).heap[g]?=some (.cells #[u0,u1,u2,u3] T (0,0)):=by
 have hC:(((#[x,y,z,t].setIfInBounds 0 u0).setIfInBounds 1 u1).setIfInBounds 2 u2).setIfInBounds 3 u3=#[u0,u1,u2,u3]:=by simp
 rw [← hC];exact Qq (Qq (Qq (Qq h 0 u0) 1 u1) 2 u2) 3 u3
theorem FinV.slice {w:World}{n:Bool}{s:Value}{e e':Int}{q:Nat}(h:FinV w (.agg #[.bool n,.bool false,s,.int .i64 e]) n q e'):Dg w s (dgs q)∧e=e':=by
 obtain ⟨t,e1,d1⟩:=h
 have:=congrArg (fun v=>match v with | Value.agg cs=>cs.toList | _=>[]) e1
 simp at this
 obtain ⟨rfl,rfl⟩:=this
 exact ⟨d1,rfl⟩
theorem QaZ {wA w4:World}{n1 n2:Bool}{q1 q2 gA gB:Nat}{e1 e2:Int}{p1 p2:Option Addr}{l1 l2 c1 c2:Nat}(hB:Below wA.heap.size wA w4)(hA:w4.heap[gA]?=some (.cells #[.bool false,.bool false,.slice none 0 0,.int .i64 0] 39 (0,0)))(hB2:w4.heap[gB]?=some (.cells #[.bool false,.bool false,.slice none 0 0,.int .i64 0] 39 (0,0)))(lA:wA.heap.size≤gA)(lB:wA.heap.size≤gB)(ne:gA≠gB)(f1:FinV w4 (.agg #[.bool n1,.bool false,.slice p1 l1 c1,.int .i64 e1]) n1 q1 e1)(f2:FinV w4 (.agg #[.bool n2,.bool false,.slice p2 l2 c2,.int .i64 e2]) n2 q2 e2) :
  Below wA.heap.size wA (set4 w4 gA (.bool n1) (.bool false) (.slice p1 l1 c1) (.int .i64 e1)) ∧
  (set4 w4 gA (.bool n1) (.bool false) (.slice p1 l1 c1) (.int .i64 e1)).heap[gB]?=some (.cells #[.bool false,.bool false,.slice none 0 0,.int .i64 0] 39 (0,0)) ∧
  Below wA.heap.size wA (set4 (set4 w4 gA (.bool n1) (.bool false) (.slice p1 l1 c1) (.int .i64 e1)) gB (.bool n2) (.bool false) (.slice p2 l2 c2) (.int .i64 e2)) ∧
  TwoF wA n1 q1 e1 n2 q2 e2 (.pointer (some ⟨gA,0,none⟩)) (.pointer (some ⟨gB,0,none⟩)) (set4 (set4 w4 gA (.bool n1) (.bool false) (.slice p1 l1 c1) (.int .i64 e1)) gB (.bool n2) (.bool false) (.slice p2 l2 c2) (.int .i64 e2)):=by
 have o1:=Qav w4 gA (.bool n1) (.bool false) (.slice p1 l1 c1) (.int .i64 e1)
 have b1:=QaI hA (.bool n1) (.bool false) (.slice p1 l1 c1) (.int .i64 e1)
 have B1:=Qan hB lA (.bool n1) (.bool false) (.slice p1 l1 c1) (.int .i64 e1)
 have h5:=(o1.1 gB ne.symm).trans hB2
 have k1:=f1.keep hA (by decide) o1
 have k2:=f2.keep hA (by decide) o1
 generalize set4 w4 gA (.bool n1) (.bool false) (.slice p1 l1 c1) (.int .i64 e1)=w5 at o1 b1 B1 h5 k1 k2 ⊢
 have o2:=Qav w5 gB (.bool n2) (.bool false) (.slice p2 l2 c2) (.int .i64 e2)
 have b2:=QaI h5 (.bool n2) (.bool false) (.slice p2 l2 c2) (.int .i64 e2)
 have B2:=Qan B1 lB (.bool n2) (.bool false) (.slice p2 l2 c2) (.int .i64 e2)
 refine ⟨B1,h5,B2,gA,gB,p1,l1,c1,p2,l2,c2,rfl,rfl,⟨(o2.1 gA ne).trans b1,b2⟩,k1.keep h5 (by decide) o2,k2.keep h5 (by decide) o2,lA,lB,ne,B2⟩
end Go.Proofs.YtpebcmfpehdafaaGreatDoor
