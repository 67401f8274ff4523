/- a part of the proof -/
import Derived.Deep.CutBlock
import Derived.Test.YtpebcmfpehdafaaGreatDoorZ30
set_option linter.all false
set_option maxRecDepth 100000
set_option maxHeartbeats 16000000
namespace Go.Proofs.YtpebcmfpehdafaaGreatDoor
open Go Go.RowKit
theorem Q3N (l:List Obj):∀ (w:World),Below w.heap.size w (l.foldl World.alloc w):=by
 induction l with
 | nil=>intro w;exact Below.refl _ _
 | cons a l ih=>intro w;exact Qd (Qm w a) (ih _)
theorem Q6k (l:List Obj):∀ (w:World) (i:Nat) (o:Obj),l[i]?=some o→(l.foldl World.alloc w).heap[w.heap.size+i]?=some o:=by
 induction l with
 | nil=>intro w i o h;simp at h
 | cons a l ih =>
  intro w i o h
  have hs:(w.alloc a).heap.size=w.heap.size+1:=by simp
  cases i with
  | zero =>
   have e:a=o:=by simpa using h
   subst e
   exact ((Q3N l (w.alloc a)).block _ (by omega)).trans (gal w a)
  | succ i =>
   have:=ih (w.alloc a) i o (by simpa using h)
   rw [show (w.alloc a).heap.size+i=w.heap.size+(i+1) by omega] at this
   exact this
theorem Q87 (l:List Obj):∀ (w:World),(l.foldl World.alloc w).heap.size=w.heap.size+l.length:=by
 induction l with
 | nil=>intro w;rfl
 | cons a l ih=>intro w;show (l.foldl World.alloc (w.alloc a)).heap.size=_;rw [ih];simp;omega
theorem Q88 {w:World}{B:Nat}{T:TypeId}{x0 x1 x2 x3 x4 x5 x6 x7:Value}(h:w.heap[B]?=some (.cells #[x0,x1,x2,x3,x4,x5,x6,x7] T (0,0)))(u0 u1 u2 u3 u4 u5 u6 u7:Value):(set8 w B u0 u1 u2 u3 u4 u5 u6 u7).heap[B]?=some (.cells #[u0,u1,u2,u3,u4,u5,u6,u7] T (0,0)):=by
 have hC:(((((((#[x0,x1,x2,x3,x4,x5,x6,x7].setIfInBounds 0 u0).setIfInBounds 1 u1).setIfInBounds 2 u2).setIfInBounds 3 u3).setIfInBounds 4 u4).setIfInBounds 5 u5).setIfInBounds 6 u6).setIfInBounds 7 u7=#[u0,u1,u2,u3,u4,u5,u6,u7]:=by simp
 rw [← hC];exact Qq (Qq (Qq (Qq (Qq (Qq (Qq (Qq h 0 u0) 1 u1) 2 u2) 3 u3) 4 u4) 5 u5) 6 u6) 7 u7
theorem Q78 (w:World)(B:Nat)(u0 u1 u2 u3 u4 u5 u6 u7:Value):Only B w (set8 w B u0 u1 u2 u3 u4 u5 u6 u7):=(((((((((Only.refl B w).set 0 u0).set 1 u1).set 2 u2).set 3 u3).set 4 u4).set 5 u5).set 6 u6).set 7 u7)
theorem Q5F {w w2:World}{N B:Nat}(h:Below N w w2)(hB:N≤B)(u0 u1 u2 u3 u4 u5 u6 u7:Value):Below N w (set8 w2 B u0 u1 u2 u3 u4 u5 u6 u7) :=
 (((((((h.setCell (p:=⟨B,0,none⟩) hB u0).setCell (p:=⟨B,1,none⟩) hB u1).setCell (p:=⟨B,2,none⟩) hB u2).setCell (p:=⟨B,3,none⟩) hB u3).setCell (p:=⟨B,4,none⟩) hB u4).setCell (p:=⟨B,5,none⟩) hB u5).setCell (p:=⟨B,6,none⟩) hB u6).setCell (p:=⟨B,7,none⟩) hB u7
theorem Q3u (n:Bool)(e:Int)(s:ByteArray)(hx:ArOk 200 0 e s)(h0:vl (sdL s 0)=0)(w:World) :
  Calls Tryz.prog 10 #[DV 0 n e s] w fun r w'=>r=.returned (.tuple #[DV 0 n 0 (txS 0),.int .i64 0])∧Below w.heap.size w w':=by
 obtain ⟨hx1,hx2,hx3,hx4,hx5,hx6⟩:=hx.canon (by decide)
 have HX:Hid (∀ w2,Calls Tryz.prog 12 #[.agg #[.int .i64 0,.bool n,.int .i32 e,.string s]] w2 fun r w'=>∃ v',r=.returned v'∧FinV w' v' n (vl (sdL s 0)) e∧Below w2.heap.size w2 w'):=Lh (fun w2=>Q1S 0 n e s (by omega) hx1 (by omega) w2)
 rw [h0] at HX
 clear hx hx1 hx2 hx3 hx4 hx5 hx6 h0
 obtain ⟨tx,htx⟩:∃ tx,tx=txS 0:=⟨_,rfl⟩
 rw [← htx]
 have HTX:=Lh htx
 clear htx
 unfold DV
 obtain ⟨wA,hwA⟩:∃ wA,wA=(w.alloc (.cells #[.int .i64 0,.bool n,.int .i32 e,.string s] 26)).alloc (.cells #[.int .i64 0,.bool false,.int .i32 0,.string ⟨#[]⟩] 26):=⟨_,rfl⟩
 have HBA:Hid (Below w.heap.size w wA):=Lh (by rw [hwA];exact bal (Qm w _) _)
 have HGA:Hid (wA.heap[w.heap.size+1]?=some (.cells #[.int .i64 0,.bool false,.int .i32 0,.string ⟨#[]⟩] 26 (0,0))):=Lh (by
  have e1:(w.alloc (.cells #[.int .i64 0,.bool n,.int .i32 e,.string s] 26)).heap.size=w.heap.size+1:=by simp
  rw [hwA,← e1];exact gal _ _)
 go_enter Tryz.func10, Tryz.ntmps10
 go_wp2_with fail
 rw [← hwA]
 clear hwA
 refine (HX.out _).mono ?_
 rintro r w1 ⟨v1,rfl,⟨sl,rfl,hd⟩,hB⟩
 have HB1:=Lh (Qd HBA.out hB)
 have HG1:=Lh (Qb HGA.out hB)
 have HD1:=Lh hd
 obtain ⟨q,cap,rfl,hdx⟩:=hd
 clear hB hdx HX HGA
 have hL0:(dgs 0).length=0:=by rw [Qp];rfl
 rw [hL0] at HD1
 rw [hL0]
 go_upto_region 2 with (fail)
 obtain ⟨w2,hw2⟩:∃ w2,w2=w1.alloc (.cells #[.bool n,.bool false,.slice q 0 cap,.int .i64 e] 39):=⟨_,rfl⟩
 have HF2:Hid (w2.heap[w1.heap.size]?=some (.cells #[.bool n,.bool false,.slice q 0 cap,.int .i64 e] 39 (0,0))):=Lh (by rw [hw2];exact gal _ _)
 have HB2:Hid (Below w.heap.size w w2):=Lh (by rw [hw2];exact bal HB1.out _)
 have HG2:Hid (w2.heap[w.heap.size+1]?=some (.cells #[.int .i64 0,.bool false,.int .i32 0,.string ⟨#[]⟩] 26 (0,0))):=Lh (by rw [hw2];exact Qb HG1.out (Qm _ _))
 have HD2:Hid (Dg w2 (.slice q 0 cap) (dgs 0)):=Lh (by rw [hw2];exact HD1.out.later (Qm _ _))
 rw [← hw2]
 clear hw2 HB1 HG1 HD1
 generalize w1.heap.size=g at HF2 ⊢
 have a0:=Qc HF2.out 0 rfl;have a1:=Qc HF2.out 1 rfl;have a2:=Qc HF2.out 2 rfl;have a3:=Qc HF2.out 3 rfl
 go_wp2_with fail
 refine (Q0b (w:=w2) (v:=.agg #[.bool false,.slice q 0 cap]) (neg:=false) (n:=0) ⟨_,rfl,HD2.out⟩).mono ?_
 rintro r w3 ⟨rfl,hB⟩
 have HF3:=Lh (Qb HF2.out hB);have HB3:=Lh (Qd HB2.out hB);have HG3:=Lh (Qb HG2.out hB);have HD3:=Lh (HD2.out.later hB)
 clear hB a0 a1 a2 a3 HF2 HB2 HG2 HD2
 have a0:=Qc HF3.out 0 rfl;have a1:=Qc HF3.out 1 rfl;have a2:=Qc HF3.out 2 rfl;have a3:=Qc HF3.out 3 rfl
 have HT:=Lh (Q0z (w:=w3) (v:=.agg #[.bool n,.bool false,.slice q 0 cap,.int .i64 0]) (n:=n) (c:=0) (e:=0) ⟨_,rfl,HD3.out⟩ (by decide) (by rw [hL0];decide))
 rw [← HTX.out] at HT
 unfold DV at HT
 go_wp2_with fail
 refine HT.out.mono ?_
 rintro r w4 ⟨rfl,hB⟩
 have HB4:=Lh (Qd HB3.out hB);have HG4:=Lh (Qb HG3.out hB)
 clear hB a0 a1 a2 a3 HF3 HB3 HG3 HD3 HT
 have gc:=Qe HG4.out
 have d0:=gc.1 0;have d1:=gc.1 1;have d2:=gc.1 2;have d3:=gc.1 3
 have f0:=gc.2 0;have f1:=gc.2 1;have f2:=gc.2 2;have f3:=gc.2 3
 clear gc
 go_wp2_with fail
 obtain ⟨h0',h1',h2',h3'⟩:=Q0n (d0:w4.cell? ⟨w.heap.size+1,0,none⟩=some _) d1 d2 d3 (.int .i64 0) (.bool n) (.int .i32 0) (.string tx)
 have hb:Below w.heap.size w ((((w4.setCell ⟨w.heap.size+1,0,none⟩ (.int .i64 0)).setCell ⟨w.heap.size+1,1,none⟩ (.bool n)).setCell ⟨w.heap.size+1,2,none⟩ (.int .i32 0)).setCell ⟨w.heap.size+1,3,none⟩ (.string tx)) :=
  (((HB4.out.setCell (by simp only;omega) _).setCell (by simp only;omega) _).setCell (by simp only;omega) _).setCell (by simp only;omega) _
 exact bodyPost_ret (v:=.tuple #[.agg #[.int .i64 0,.bool n,.int .i32 0,.string tx],.int .i64 0]) (by simp [results,Tryz.results10,go_sem,h0',h1',h2',h3']) rfl ⟨rfl,hb⟩
theorem Q4s (n:Bool)(e:Int)(s:ByteArray)(hx:ArOk 200 0 e s)(h0:vl (sdL s 0)≠0)(w:World) :
  Calls Tryz.prog 10 #[DV 0 n e s] w fun r w'=>r=.returned (.tuple #[DV 0 n (e+((strp (vl (sdL s 0))).2:Nat)) (txS (strp (vl (sdL s 0))).1),.int .i64 ((strp (vl (sdL s 0))).2:Nat)])∧Below w.heap.size w w':=by
 obtain ⟨hx1,hx2,hx3,hx4,hx5,hx6⟩:=hx.canon (by decide)
 have hxl:=hx1.len
 have HX:Hid (∀ w2,Calls Tryz.prog 12 #[.agg #[.int .i64 0,.bool n,.int .i32 e,.string s]] w2 fun r w'=>∃ v',r=.returned v'∧FinV w' v' n (vl (sdL s 0)) e∧Below w2.heap.size w2 w'):=Lh (fun w2=>Q1S 0 n e s (by omega) hx1 (by omega) w2)
 generalize vl (sdL s 0)=c at HX h0 hxl ⊢
 have hc40:c<10^40:=Nat.lt_of_lt_of_le (QM c) (Nat.pow_le_pow_right (by decide) (by omega))
 obtain ⟨R,hR⟩:∃ R,R=(strp c).1:=⟨_,rfl⟩
 obtain ⟨Z,hZ⟩:∃ Z,Z=(strp c).2:=⟨_,rfl⟩
 rw [← hR,← hZ]
 have HRZ:=Lh (And.intro hR hZ)
 have HC0:=Lh (And.intro h0 hc40)
 have HE:=Lh (And.intro hx3 hx4)
 clear hx hx1 hx2 hx3 hx4 hx5 hx6 hR hZ hxl hc40
 obtain ⟨tx,htx⟩:∃ tx,tx=txS R:=⟨_,rfl⟩
 rw [← htx]
 have HTX:=Lh htx
 clear htx
 unfold DV
 obtain ⟨wA,hwA⟩:∃ wA,wA=(w.alloc (.cells #[.int .i64 0,.bool n,.int .i32 e,.string s] 26)).alloc (.cells #[.int .i64 0,.bool false,.int .i32 0,.string ⟨#[]⟩] 26):=⟨_,rfl⟩
 have HBA:Hid (Below w.heap.size w wA):=Lh (by rw [hwA];exact bal (Qm w _) _)
 have HGA:Hid (wA.heap[w.heap.size+1]?=some (.cells #[.int .i64 0,.bool false,.int .i32 0,.string ⟨#[]⟩] 26 (0,0))):=Lh (by
  have e1:(w.alloc (.cells #[.int .i64 0,.bool n,.int .i32 e,.string s] 26)).heap.size=w.heap.size+1:=by simp
  rw [hwA,← e1];exact gal _ _)
 go_enter Tryz.func10, Tryz.ntmps10
 go_wp2_with fail
 rw [← hwA]
 clear hwA
 refine (HX.out _).mono ?_
 rintro r w1 ⟨v1,rfl,⟨sl,rfl,hd⟩,hB⟩
 have HB1:=Lh (Qd HBA.out hB)
 have HG1:=Lh (Qb HGA.out hB)
 have HL1:Hid (w.heap.size+1<w1.heap.size):=Lh (by have:=(Array.getElem?_eq_some_iff.1 HGA.out).1;have:=hB.size;omega)
 have HD1:=Lh hd
 obtain ⟨q,cap,rfl,hdx⟩:=hd
 clear hB hdx HX HGA
 go_upto_region 2 with (fail)
 obtain ⟨w2,hw2⟩:∃ w2,w2=w1.alloc (.cells #[.bool n,.bool false,.slice q (dgs c).length cap,.int .i64 e] 39):=⟨_,rfl⟩
 have HF2:Hid (w2.heap[w1.heap.size]?=some (.cells #[.bool n,.bool false,.slice q (dgs c).length cap,.int .i64 e] 39 (0,0))):=Lh (by rw [hw2];exact gal _ _)
 have HB2:Hid (Below w.heap.size w w2):=Lh (by rw [hw2];exact bal HB1.out _)
 have HG2:Hid (w2.heap[w.heap.size+1]?=some (.cells #[.int .i64 0,.bool false,.int .i32 0,.string ⟨#[]⟩] 26 (0,0))):=Lh (by rw [hw2];exact Qb HG1.out (Qm _ _))
 have HD2:Hid (Dg w2 (.slice q (dgs c).length cap) (dgs c)):=Lh (by rw [hw2];exact HD1.out.later (Qm _ _))
 rw [← hw2]
 clear hw2 HB1 HG1 HD1
 have HLg:=HL1
 generalize w1.heap.size=g at HF2 HLg ⊢
 clear HL1
 have a0:=Qc HF2.out 0 rfl;have a1:=Qc HF2.out 1 rfl;have a2:=Qc HF2.out 2 rfl;have a3:=Qc HF2.out 3 rfl
 go_wp2_with fail
 refine (Q0b (w:=w2) (v:=.agg #[.bool false,.slice q (dgs c).length cap]) (neg:=false) (n:=c) ⟨_,rfl,HD2.out⟩).mono ?_
 rintro r w3 ⟨rfl,hB⟩
 have HF3:=Lh (Qb HF2.out hB);have HB3:=Lh (Qd HB2.out hB);have HG3:=Lh (Qb HG2.out hB);have HD3:=Lh (HD2.out.later hB)
 clear hB a0 a1 a2 a3 HF2 HB2 HG2 HD2
 rw [decide_eq_false h0]
 clear h0
 go_wp2_with fail
 go_loopw [5] (fun i wr=>∃ (k x:Nat) (qp:Option Addr) (cp:Nat),i=.int .i64 (k:Int)∧c=x*10^k∧x≠0∧wr.heap[g]?=some (.cells #[.bool n,.bool false,.slice qp (dgs x).length cp,.int .i64 (e+(k:Int))] 39 (0,0))∧Dg wr (.slice qp (dgs x).length cp) (dgs x)∧wr.heap[w.heap.size+1]?=some (.cells #[.int .i64 0,.bool false,.int .i32 0,.string ⟨#[]⟩] 26 (0,0))∧Below w.heap.size w wr) (fun i _=>(100 - intOf i).toNat)
 case atStart =>
  exact ⟨0,c,q,cap,rfl,by rw [Nat.pow_zero,Nat.mul_one],HC0.out.1,by rw [show e+((0:Nat):Int)=e by omega];exact HF3.out,HD3.out,HG3.out,HB3.out⟩
 case round =>
  have HOf:Hid (∀ w2,Calls Tryz.prog 22 #[.int .i64 10] w2 fun r w'=>∃ v',r=.returned v'∧NumV w' v' false 10∧Below w2.heap.size w2 w'):=Lh (fun w2=>Q2V 10 (by decide) w2)
  obtain ⟨k,x,qp,cp,rfl,hcx,hx0,hF,hD,hG,hBw⟩:=hrel
  have hk40:k<40:=by
   have h1:10^k≤c:=by rw [hcx];exact Nat.le_mul_of_pos_left _ (Nat.pos_of_ne_zero hx0)
   exact Q1R (Nat.lt_of_le_of_lt h1 HC0.out.2)
  have hl0:0<(dgs x).length:=by
   rcases Nat.eq_zero_or_pos (dgs x).length with e1 | e1
   ·exact absurd (Q2U.1 e1) hx0
   ·exact e1
  have hlx:(dgs x).length≤40:=by
   have h1:x≤c:=by rw [hcx];exact Nat.le_mul_of_pos_right _ (QE k)
   rw [Qw _ hx0]
   exact Q09 (by decide) (Nat.lt_of_le_of_lt h1 HC0.out.2)
  obtain ⟨b,o,rfl,hbl,hcell⟩:=hD.DC.dig 0 hl0
  rw [Nat.add_zero,Nat.pow_zero,Nat.div_one] at hcell
  have HF:=Lh hF;have HD:=Lh hD;have HG:=Lh hG;have HB:=Lh hBw;have HCX:=Lh (And.intro hcx hx0);have HK:=Lh hk40
  have a0:=Qc hF 0 rfl;have a1:=Qc hF 1 rfl;have a2:=Qc hF 2 rfl;have a3:=Qc hF 3 rfl
  have HLx:=Lh hlx
  generalize hlen:(dgs x).length=L at *
  have hL0:(0:Int)<(L:Int):=by omega
  clear hF hD hG hBw hcx hk40 hbl hlx
  by_cases hz:x % 10=0
  ·have hz1:(((x % 10:Nat):Int) == 0)=true:=by rw [hz];rfl
   have HX10:Hid (c=x / 10*10^(k+1)∧x / 10≠0):=Lh ⟨by rw [Nat.pow_succ,Nat.mul_comm (10^k) 10,← Nat.mul_assoc,show x / 10*10=x by omega];exact HCX.out.1,by have:=HCX.out.2;omega⟩
   generalize x % 10=xd at hz1 hcell
   clear hz
   go_wp2_with fail
   refine AH.start (fun _=>True) (by kernel_rfl) ?_
   have hd:Below wr.heap.size wr wr.drew:=(Below.refl _ _).drew
   replace HF:=Lh (Qb HF.out hd);replace HD:=Lh (HD.out.later hd);replace HG:=Lh (Qb HG.out hd);replace HB:=Lh (HB.out.drew)
   clear hd a0 a1 a2 a3 hcell
   generalize wr.drew=wq at *
   refine AH.z 0 trivial ?_
   refine AH.t 1 2 (fun K hK=>?m1) (fun K hK=>?m2)
   case' m1 =>
    have a1:=Qc HF.out 1 rfl;have a2:=Qc HF.out 2 rfl
    go_simp
    refine hK _ _ trivial ?_
    clear hK K a1 a2
    try simp only [Act.put,Zp_]
    refine AH.o 2 (fun K hK=>?_)
    go_simp
    refine (HOf.out wq).mono ?_
    rintro r wn ⟨v1,rfl,hN,hB⟩
    have HFn:=Lh (Qb HF.out hB);have HDn:=Lh (HD.out.later hB);have HGn:=Lh (Qb HG.out hB);have HBn:=Lh (Qd HB.out hB);have HNn:=Lh hN
    refine hK _ _ trivial ?_
    clear hK K hN hB HF HD HG HB
    try simp only [Act.put,Zp_]
   case' m2 =>
    go_simp
    refine (HOf.out wq).mono ?_
    rintro r wn ⟨v1,rfl,hN,hB⟩
    have HFn:=Lh (Qb HF.out hB);have HDn:=Lh (HD.out.later hB);have HGn:=Lh (Qb HG.out hB);have HBn:=Lh (Qd HB.out hB);have HNn:=Lh hN
    refine hK _ _ trivial ?_
    clear hK K hN hB HF HD HG HB
    try simp only [Act.put,Zp_]
    refine AH.o 1 (fun K hK=>?_)
    have a1:=Qc HFn.out 1 rfl;have a2:=Qc HFn.out 2 rfl
    go_simp
    refine hK _ _ trivial ?_
    clear hK K a1 a2
    try simp only [Act.put,Zp_]
   all_goals
    refine AH.o 3 (fun K hK=>?_)
    go_simp
    refine (Q1q (u:=.agg #[.bool false,.slice (some ⟨b,o,none⟩) L cp]) (v:=v1) (X:=x) (Y:=10) ⟨_,rfl,HDn.out⟩ HNn.out (by decide) (by rw [hlen];exact Nat.le_trans HLx.out (by decide)) (by rw [show (10:Nat)=10^1 from rfl,Q2E];simp)).mono ?_
    rintro r wm ⟨v2,v3,rfl,⟨⟨s2,rfl,hN2⟩,⟨s3,rfl,_⟩⟩,hB⟩
    obtain ⟨p2,c2,rfl,_⟩:=id hN2
    have HFm:=Lh (Qb HFn.out hB);have HDm:=Lh hN2;have HGm:=Lh (Qb HGn.out hB);have HBm:=Lh (Qd HBn.out hB)
    refine hK _ _ trivial ?_
    clear hK K hN2 hB HFn HDn HGn HBn HNn
    try simp only [Act.put,Zp_]
    refine AH.z 4 trivial ?_
    refine AH.z 5 trivial ?_
    refine AH.z 6 trivial ?_
    refine AH.z 7 trivial ?_
    have a1:=Qc HFm.out 1 rfl;have a2:=Qc HFm.out 2 rfl
    have fg:=(Qe HFm.out).2
    have f1:=fg 1;have f2:=fg 2
    clear fg
    generalize hl2:(dgs (x / 10)).length=L2 at *
    refine AH.o 8 (fun K hK=>?_)
    go_simp
    refine hK _ _ trivial ?_
    clear hK K a1 a2 f1 f2
    try simp only [Act.put,Zp_]
    refine AH.done (by kernel_rfl) ?_
    have ho:Only g wm ((wm.setCell ⟨g,1,none⟩ (.bool false)).setCell ⟨g,2,none⟩ (.slice p2 L2 c2)):=((Only.refl g wm).set 1 _).set 2 _
    have HF5:Hid (((wm.setCell ⟨g,1,none⟩ (.bool false)).setCell ⟨g,2,none⟩ (.slice p2 L2 c2)).heap[g]?=some (.cells #[.bool n,.bool false,.slice p2 L2 c2,.int .i64 (e+(k:Int))] 39 (0,0))):=Lh (by
     have:=Qq (Qq HFm.out 1 (.bool false)) 2 (.slice p2 L2 c2)
     simpa using this)
    have HD5:Hid (Dg ((wm.setCell ⟨g,1,none⟩ (.bool false)).setCell ⟨g,2,none⟩ (.slice p2 L2 c2)) (.slice p2 L2 c2) (dgs (x / 10))):=Lh (HDm.out.keep HFm.out (by rfl) ho)
    have HG5:Hid (((wm.setCell ⟨g,1,none⟩ (.bool false)).setCell ⟨g,2,none⟩ (.slice p2 L2 c2)).heap[w.heap.size+1]?=some (.cells #[.int .i64 0,.bool false,.int .i32 0,.string ⟨#[]⟩] 26 (0,0))):=Lh ((ho.1 _ (by have:=HLg.out;omega)).trans HGm.out)
    have HB5:Hid (Below w.heap.size w ((wm.setCell ⟨g,1,none⟩ (.bool false)).setCell ⟨g,2,none⟩ (.slice p2 L2 c2))):=Lh ((HBm.out.setCell (by have:=HLg.out;simp only;omega) _).setCell (by have:=HLg.out;simp only;omega) _)
    clear ho HFm HDm HGm HBm
    generalize (wm.setCell ⟨g,1,none⟩ (.bool false)).setCell ⟨g,2,none⟩ (.slice p2 L2 c2)=w5 at HF5 HD5 HG5 HB5 ⊢
    have a3:=Qc HF5.out 3 rfl
    have f3:=(Qe HF5.out).2 3
    have ho:Only g w5 (w5.setCell ⟨g,3,none⟩ (.int .i64 (e+(k:Int)+1))):=(Only.refl g w5).set 3 _
    have HF6:Hid ((w5.setCell ⟨g,3,none⟩ (.int .i64 (e+(k:Int)+1))).heap[g]?=some (.cells #[.bool n,.bool false,.slice p2 L2 c2,.int .i64 (e+(k:Int)+1)] 39 (0,0))):=Lh (by
     have:=Qq HF5.out 3 (.int .i64 (e+(k:Int)+1))
     simpa using this)
    have HD6:=Lh (HD5.out.keep HF5.out (by rfl) ho)
    have HG6:=Lh ((ho.1 _ (by have:=HLg.out;omega)).trans HG5.out)
    have HB6:=Lh (HB5.out.setCell (p:=⟨g,3,none⟩) (by have:=HLg.out;simp only;omega) (.int .i64 (e+(k:Int)+1)))
    have hk:=HK.out
    have he:=HE.out
    have j1:wrap64 (e+(k:Int)+1)=e+(k:Int)+1:=by unfold wrap64;omega
    have j2:wrap64 ((k:Int)+1)=(k:Int)+1:=by unfold wrap64;omega
    have j3:IntKind.i64.wrap (e+(k:Int)+1)=e+(k:Int)+1:=IntWalk.i64_in _ (by omega)
    have j4:IntKind.i64.wrap ((k:Int)+1)=(k:Int)+1:=IntWalk.i64_in _ (by omega)
    have HM:Hid (((100:Int) - ((k:Int)+1)).toNat<((100:Int) - (k:Int)).toNat):=Lh (by omega)
    clear hk he
    have HN:Hid (c=x / 10*10^(k+1)∧x / 10≠0):=HX10
    clear HX10
    go_wp2_with fail
    generalize w5.setCell ⟨g,3,none⟩ (.int .i64 (e+(k:Int)+1))=w6 at HF6 HD6 HG6 HB6 ⊢
    go_roundw
    case rel=>exact ⟨k+1,x / 10,p2,c2,rfl,HN.out.1,HN.out.2,by rw [hl2,show e+((k+1:Nat):Int)=e+(k:Int)+1 by omega];exact HF6.out,by rw [hl2];exact HD6.out,HG6.out,HB6.out⟩
    case measure=>exact HM.out
  ·have hz1:(((x % 10:Nat):Int) == 0)=false:=by simp;omega
   have HS:Hid (R=x∧Z=k):=Lh (by
    have h1:=Q9y hz HCX.out.1
    obtain ⟨r1,r2⟩:=HRZ.out
    rw [r1,r2,h1];exact ⟨rfl,rfl⟩)
   generalize x % 10=xd at hz1 hcell
   clear hz HOf
   go_wp2_with fail
   have he:=HE.out
   have hk:=HK.out
   have HT:=Lh (Q0z (w:=wr) (v:=.agg #[.bool n,.bool false,.slice (some ⟨b,o,none⟩) L cp,.int .i64 (e+(k:Int))]) (n:=n) (c:=x) (e:=e+(k:Int)) ⟨_,rfl,HD.out⟩ (by omega) (by rw [hlen];exact Nat.le_trans HLx.out (by decide)))
   rw [← HS.out.1,← HTX.out] at HT
   unfold DV at HT
   clear he hk
   refine HT.out.mono ?_
   rintro r w4 ⟨rfl,hB⟩
   have HB4:=Lh (Qd HB.out hB);have HG4:=Lh (Qb HG.out hB)
   clear hB a0 a1 a2 a3 HF HB HG HD HT hcell
   have gc:=Qe HG4.out
   have d0:=gc.1 0;have d1:=gc.1 1;have d2:=gc.1 2;have d3:=gc.1 3
   have f0:=gc.2 0;have f1:=gc.2 1;have f2:=gc.2 2;have f3:=gc.2 3
   clear gc
   go_wp2_with fail
   obtain ⟨h0',h1',h2',h3'⟩:=Q0n (d0:w4.cell? ⟨w.heap.size+1,0,none⟩=some _) d1 d2 d3 (.int .i64 0) (.bool n) (.int .i32 (e+(k:Int))) (.string tx)
   have hb:Below w.heap.size w ((((w4.setCell ⟨w.heap.size+1,0,none⟩ (.int .i64 0)).setCell ⟨w.heap.size+1,1,none⟩ (.bool n)).setCell ⟨w.heap.size+1,2,none⟩ (.int .i32 (e+(k:Int)))).setCell ⟨w.heap.size+1,3,none⟩ (.string tx)) :=
    (((HB4.out.setCell (by simp only;omega) _).setCell (by simp only;omega) _).setCell (by simp only;omega) _).setCell (by simp only;omega) _
   exact bodyPost_ret (v:=.tuple #[.agg #[.int .i64 0,.bool n,.int .i32 (e+(k:Int)),.string tx],.int .i64 (k:Int)]) (by simp [results,Tryz.results10,go_sem,h0',h1',h2',h3']) rfl ⟨by rw [HS.out.2],hb⟩
end Go.Proofs.YtpebcmfpehdafaaGreatDoor
