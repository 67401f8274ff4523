/- a part of the proof -/
import Derived.Test.YtpebcmfpehdafaaGreatDoorZ25
import Derived.Test.YtpebcmfpehdafaaGreatDoorZ26
import Derived.Test.YtpebcmfpehdafaaGreatDoorZ12
set_option linter.all false
set_option maxRecDepth 100000
set_option maxHeartbeats 16000000
namespace Go.Proofs.YtpebcmfpehdafaaGreatDoor
open Go Go.RowKit
def SRVv (r:SR):Value:=if r.known then (if r.over then RsV 1 r.d.n 0 ⟨#[]⟩ 4 true true true else if r.d.k &&& 32≠0 then RsV 0 false 0 ⟨#[]⟩ 0 false false false else RsV 0 r.d.n r.d.e (txS r.d.c) r.d.k true true false) else RsV 0 false 0 ⟨#[]⟩ 0 false true false
theorem Qb3 (r:SR)(hk:r.d.k<4096):∃ f n e s k a c,SRV r=RsV f n e s k a false c∧k<4096∧SRVv r=(if k &&& 32≠0 then RsV 0 false 0 ⟨#[]⟩ 0 false false false else RsV f n e s k a true c):=by
 unfold SRV SRVv
 split
 ·split
  ·exact ⟨_,_,_,_,_,_,_,rfl,by decide,by rw [if_neg (by decide)]⟩
  ·exact ⟨_,_,_,_,_,_,_,rfl,hk,rfl⟩
 ·exact ⟨_,_,_,_,_,_,_,rfl,by decide,by rw [if_neg (by decide)]⟩
theorem QbD (p:Nat)(mx mn:Int)(md:Nat)(n:Bool)(e:Int)(c:Nat):(finS p mx mn md n e c).d.k<4096:=by
 unfold finS endS srNo subK cutK
 (repeat' split) <;> first | decide | (show _<4096;decide) | (simp only [];decide)
theorem QaX {c M:Nat}(hM:0<M)(h:c<10^M):(dgs c).length≤M:=by
 by_cases q:c=0
 ·rw [q,Qp];exact Nat.zero_le _
 ·rw [Qw _ q];exact Q09 hM h
theorem Qbi {p cx cy:Nat}{ex ey:Int}(hp:p≤60)(he : -1000≤ex∧ex≤1000)(he' : -1000≤ey∧ey≤1000)(hx:ndg cx≤40)(hy:ndg cy≤40):(-10000≤(quoS p ex ey cx cy).1∧(quoS p ex ey cx cy).1≤10000)∧(dgs (quoS p ex ey cx cy).2).length≤10000:=by
 have hs:qsS p cx cy≤110:=by unfold qsS;omega
 have hA:cx*10^qsS p cx cy<10^(ndg cx+qsS p cx cy):=by
  rw [Nat.pow_add];exact Nat.mul_lt_mul_of_pos_right (Q0m cx) (QE _)
 unfold quoS
 generalize qsS p cx cy=s at hs hA ⊢
 generalize ndg cx=d at hx hA
 generalize cx*10^s=A at hA ⊢
 have hQ:A / cy<10^(d+s):=Nat.lt_of_le_of_lt (Nat.div_le_self _ _) hA
 generalize A / cy=Q at hQ ⊢
 split
 ·refine ⟨⟨by (try simp only []);omega,by (try simp only []);omega⟩,Nat.le_trans (QaX (M:=d+s+1) (by omega) ?_) (by omega)⟩
  rw [Nat.pow_succ];(try simp only []);omega
 ·obtain ⟨h1,h2⟩:=Qaw s Q
  refine ⟨⟨by (try simp only []);omega,by (try simp only []);omega⟩,Nat.le_trans (QaX (M:=d+s+1) (by omega) ?_) (by omega)⟩
  have h3:(stripN s Q).1≤Q:=by
   rw [h1];(try simp only [])
   have:=QE (stripN s Q).2
   rw [← h1]
   generalize (stripN s Q).1=a at *
   generalize 10^(stripN s Q).2=b at *
   rw [h1];exact Nat.le_mul_of_pos_right _ this
  rw [Nat.pow_succ];(try simp only []);omega
def dvQ (p:Nat)(mx mn:Int)(md:Nat)(f:Int)(n:Bool)(e:Int)(s:ByteArray)(c:Nat)(f':Int)(n':Bool)(e':Int)(c':Nat):Value :=
 if p=0 then RsV 0 false 0 ⟨#[]⟩ 0 false false false
 else if f=1 then (if f'=1 then RsV 3 false 0 ⟨#[]⟩ 1024 true false false else RsV 1 (n != n') 0 ⟨#[]⟩ 0 true false false)
 else if f'=1 then RsV 0 (n != n') (mn - p+1) (txS 0) 2048 true false false
 else if c'=0 then (if c=0 then RsV 3 false 0 ⟨#[]⟩ 128 true false false else RsV 1 (n != n') 0 ⟨#[]⟩ 256 true false false)
 else if c=0 then SRV (finS p mx mn md (n != n') (e - e') 0)
 else SRVv (finS p mx mn md (n != n') (quoS p e e' c c').1 (quoS p e e' c c').2)
theorem Qb4 {w:World}(p md tr:Nat)(mx mn:Int)(hp:p≤60)(hmx:0≤mx∧mx≤500)(hmn:mn≤0 ∧ -500≤mn)(hmd:md<8)(fx:Int)(nx:Bool)(ex:Int)(sx:ByteArray)(fy:Int)(ny:Bool)(ey:Int)(sy:ByteArray)(hfx:fx=0∨fx=1)(hfy:fy=0∨fy=1){u v:Value}{cx cy:Nat}(hu:FinV w u nx cx ex)(hv:FinV w v ny cy ey)(he : -1000≤ex∧ex≤1000)(he' : -1000≤ey∧ey≤1000)(hl:(dgs cx).length≤40)(hl':(dgs cy).length≤40) :
  Calls Tryz.prog 76 #[.int .i64 3,CV p mx mn tr md,.int .i64 (p:Int),DV fx nx ex sx,DV fy ny ey sy,u,v] w fun r w'=>r=.returned (dvQ p mx mn md fx nx ex sx cx fy ny ey cy)∧Below w.heap.size w w':=by
 obtain ⟨s,rfl,hs⟩:=hu
 obtain ⟨t,rfl,ht⟩:=hv
 have hs0:=Lh hs;have ht0:=Lh ht
 obtain ⟨pa,ca,rfl,_⟩:=hs
 obtain ⟨pb,cb,rfl,_⟩:=ht
 obtain ⟨la,hla⟩:∃ la,la=(dgs cx).length:=⟨_,rfl⟩
 obtain ⟨lb,hlb⟩:∃ lb,lb=(dgs cy).length:=⟨_,rfl⟩
 rw [← hla] at hs0 ⊢
 rw [← hlb] at ht0 ⊢
 unfold CV DV
 obtain ⟨V,hV⟩:∃ V,V=dvQ p mx mn md fx nx ex sx cx fy ny ey cy:=⟨_,rfl⟩
 rw [← hV]
 have HV:=Lh hV
 clear hV
 obtain ⟨wA,hwA⟩:∃ wA,wA=(((((w.alloc (.cells #[.int .u32 (p:Int),.int .i32 mx,.int .i32 mn,.int .u32 (tr:Int),.int .i64 (md:Int)] 24)).alloc (.cells #[.int .i64 fx,.bool nx,.int .i32 ex,.string sx] 26)).alloc (.cells #[.int .i64 fy,.bool ny,.int .i32 ey,.string sy] 26)).alloc (.cells #[.bool nx,.bool false,.slice pa la ca,.int .i64 ex] 39)).alloc (.cells #[.bool ny,.bool false,.slice pb lb cb,.int .i64 ey] 39)).alloc (.cells #[.int .i64 0,.bool false,.int .i32 0,.string ⟨#[]⟩,.int .u32 0,.bool false,.bool false,.bool false] 33):=⟨_,rfl⟩
 have HBA:Hid (Below w.heap.size w wA):=Lh (by rw [hwA];exact Q3N [.cells #[.int .u32 (p:Int),.int .i32 mx,.int .i32 mn,.int .u32 (tr:Int),.int .i64 (md:Int)] 24,.cells #[.int .i64 fx,.bool nx,.int .i32 ex,.string sx] 26,.cells #[.int .i64 fy,.bool ny,.int .i32 ey,.string sy] 26,.cells #[.bool nx,.bool false,.slice pa la ca,.int .i64 ex] 39,.cells #[.bool ny,.bool false,.slice pb lb cb,.int .i64 ey] 39,.cells #[.int .i64 0,.bool false,.int .i32 0,.string ⟨#[]⟩,.int .u32 0,.bool false,.bool false,.bool false] 33] w)
 have HSz:Hid (wA.heap.size=w.heap.size+6):=Lh (by rw [hwA];exact Q87 [.cells #[.int .u32 (p:Int),.int .i32 mx,.int .i32 mn,.int .u32 (tr:Int),.int .i64 (md:Int)] 24,.cells #[.int .i64 fx,.bool nx,.int .i32 ex,.string sx] 26,.cells #[.int .i64 fy,.bool ny,.int .i32 ey,.string sy] 26,.cells #[.bool nx,.bool false,.slice pa la ca,.int .i64 ex] 39,.cells #[.bool ny,.bool false,.slice pb lb cb,.int .i64 ey] 39,.cells #[.int .i64 0,.bool false,.int .i32 0,.string ⟨#[]⟩,.int .u32 0,.bool false,.bool false,.bool false] 33] w)
 have g0:wA.heap[w.heap.size]?=some (.cells #[.int .u32 (p:Int),.int .i32 mx,.int .i32 mn,.int .u32 (tr:Int),.int .i64 (md:Int)] 24 (0,0)):=by rw [hwA];exact Q6k [.cells #[.int .u32 (p:Int),.int .i32 mx,.int .i32 mn,.int .u32 (tr:Int),.int .i64 (md:Int)] 24,.cells #[.int .i64 fx,.bool nx,.int .i32 ex,.string sx] 26,.cells #[.int .i64 fy,.bool ny,.int .i32 ey,.string sy] 26,.cells #[.bool nx,.bool false,.slice pa la ca,.int .i64 ex] 39,.cells #[.bool ny,.bool false,.slice pb lb cb,.int .i64 ey] 39,.cells #[.int .i64 0,.bool false,.int .i32 0,.string ⟨#[]⟩,.int .u32 0,.bool false,.bool false,.bool false] 33] w 0 _ rfl
 have g1:wA.heap[w.heap.size+1]?=some (.cells #[.int .i64 fx,.bool nx,.int .i32 ex,.string sx] 26 (0,0)):=by rw [hwA];exact Q6k [.cells #[.int .u32 (p:Int),.int .i32 mx,.int .i32 mn,.int .u32 (tr:Int),.int .i64 (md:Int)] 24,.cells #[.int .i64 fx,.bool nx,.int .i32 ex,.string sx] 26,.cells #[.int .i64 fy,.bool ny,.int .i32 ey,.string sy] 26,.cells #[.bool nx,.bool false,.slice pa la ca,.int .i64 ex] 39,.cells #[.bool ny,.bool false,.slice pb lb cb,.int .i64 ey] 39,.cells #[.int .i64 0,.bool false,.int .i32 0,.string ⟨#[]⟩,.int .u32 0,.bool false,.bool false,.bool false] 33] w 1 _ rfl
 have g2:wA.heap[w.heap.size+1+1]?=some (.cells #[.int .i64 fy,.bool ny,.int .i32 ey,.string sy] 26 (0,0)):=by rw [hwA];exact Q6k [.cells #[.int .u32 (p:Int),.int .i32 mx,.int .i32 mn,.int .u32 (tr:Int),.int .i64 (md:Int)] 24,.cells #[.int .i64 fx,.bool nx,.int .i32 ex,.string sx] 26,.cells #[.int .i64 fy,.bool ny,.int .i32 ey,.string sy] 26,.cells #[.bool nx,.bool false,.slice pa la ca,.int .i64 ex] 39,.cells #[.bool ny,.bool false,.slice pb lb cb,.int .i64 ey] 39,.cells #[.int .i64 0,.bool false,.int .i32 0,.string ⟨#[]⟩,.int .u32 0,.bool false,.bool false,.bool false] 33] w 2 _ rfl
 have g3:wA.heap[w.heap.size+1+1+1]?=some (.cells #[.bool nx,.bool false,.slice pa la ca,.int .i64 ex] 39 (0,0)):=by rw [hwA];exact Q6k [.cells #[.int .u32 (p:Int),.int .i32 mx,.int .i32 mn,.int .u32 (tr:Int),.int .i64 (md:Int)] 24,.cells #[.int .i64 fx,.bool nx,.int .i32 ex,.string sx] 26,.cells #[.int .i64 fy,.bool ny,.int .i32 ey,.string sy] 26,.cells #[.bool nx,.bool false,.slice pa la ca,.int .i64 ex] 39,.cells #[.bool ny,.bool false,.slice pb lb cb,.int .i64 ey] 39,.cells #[.int .i64 0,.bool false,.int .i32 0,.string ⟨#[]⟩,.int .u32 0,.bool false,.bool false,.bool false] 33] w 3 _ rfl
 have g4:wA.heap[w.heap.size+1+1+1+1]?=some (.cells #[.bool ny,.bool false,.slice pb lb cb,.int .i64 ey] 39 (0,0)):=by rw [hwA];exact Q6k [.cells #[.int .u32 (p:Int),.int .i32 mx,.int .i32 mn,.int .u32 (tr:Int),.int .i64 (md:Int)] 24,.cells #[.int .i64 fx,.bool nx,.int .i32 ex,.string sx] 26,.cells #[.int .i64 fy,.bool ny,.int .i32 ey,.string sy] 26,.cells #[.bool nx,.bool false,.slice pa la ca,.int .i64 ex] 39,.cells #[.bool ny,.bool false,.slice pb lb cb,.int .i64 ey] 39,.cells #[.int .i64 0,.bool false,.int .i32 0,.string ⟨#[]⟩,.int .u32 0,.bool false,.bool false,.bool false] 33] w 4 _ rfl
 have g5:wA.heap[w.heap.size+1+1+1+1+1]?=some (.cells #[.int .i64 0,.bool false,.int .i32 0,.string ⟨#[]⟩,.int .u32 0,.bool false,.bool false,.bool false] 33 (0,0)):=by rw [hwA];exact Q6k [.cells #[.int .u32 (p:Int),.int .i32 mx,.int .i32 mn,.int .u32 (tr:Int),.int .i64 (md:Int)] 24,.cells #[.int .i64 fx,.bool nx,.int .i32 ex,.string sx] 26,.cells #[.int .i64 fy,.bool ny,.int .i32 ey,.string sy] 26,.cells #[.bool nx,.bool false,.slice pa la ca,.int .i64 ex] 39,.cells #[.bool ny,.bool false,.slice pb lb cb,.int .i64 ey] 39,.cells #[.int .i64 0,.bool false,.int .i32 0,.string ⟨#[]⟩,.int .u32 0,.bool false,.bool false,.bool false] 33] w 5 _ rfl
 have HCc:Hid (∀ w2,Below wA.heap.size wA w2→w2.cell? ⟨w.heap.size,0,none⟩=some (.int .u32 (p:Int))∧w2.cell? ⟨w.heap.size,1,none⟩=some (.int .i32 mx)∧w2.cell? ⟨w.heap.size,2,none⟩=some (.int .i32 mn)∧w2.cell? ⟨w.heap.size,3,none⟩=some (.int .u32 (tr:Int))∧w2.cell? ⟨w.heap.size,4,none⟩=some (.int .i64 (md:Int))):=Lh (fun w2 h=>by
  have k:=Qb g0 h
  exact ⟨Qc k 0 rfl,Qc k 1 rfl,Qc k 2 rfl,Qc k 3 rfl,Qc k 4 rfl⟩)
 have HCx:Hid (∀ w2,Below wA.heap.size wA w2→w2.cell? ⟨w.heap.size+1,0,none⟩=some (.int .i64 fx)∧w2.cell? ⟨w.heap.size+1,1,none⟩=some (.bool nx)∧w2.cell? ⟨w.heap.size+1,2,none⟩=some (.int .i32 ex)∧w2.cell? ⟨w.heap.size+1,3,none⟩=some (.string sx)):=Lh (fun w2 h=>by
  have k:=Qb g1 h
  exact ⟨Qc k 0 rfl,Qc k 1 rfl,Qc k 2 rfl,Qc k 3 rfl⟩)
 have HCy:Hid (∀ w2,Below wA.heap.size wA w2→w2.cell? ⟨w.heap.size+1+1,0,none⟩=some (.int .i64 fy)∧w2.cell? ⟨w.heap.size+1+1,1,none⟩=some (.bool ny)∧w2.cell? ⟨w.heap.size+1+1,2,none⟩=some (.int .i32 ey)∧w2.cell? ⟨w.heap.size+1+1,3,none⟩=some (.string sy)):=Lh (fun w2 h=>by
  have k:=Qb g2 h
  exact ⟨Qc k 0 rfl,Qc k 1 rfl,Qc k 2 rfl,Qc k 3 rfl⟩)
 have HCa:Hid (∀ w2,Below wA.heap.size wA w2→w2.cell? ⟨w.heap.size+1+1+1,0,none⟩=some (.bool nx)∧w2.cell? ⟨w.heap.size+1+1+1,1,none⟩=some (.bool false)∧w2.cell? ⟨w.heap.size+1+1+1,2,none⟩=some (.slice pa la ca)∧w2.cell? ⟨w.heap.size+1+1+1,3,none⟩=some (.int .i64 ex)):=Lh (fun w2 h=>by
  have k:=Qb g3 h
  exact ⟨Qc k 0 rfl,Qc k 1 rfl,Qc k 2 rfl,Qc k 3 rfl⟩)
 have HCb:Hid (∀ w2,Below wA.heap.size wA w2→w2.cell? ⟨w.heap.size+1+1+1+1,0,none⟩=some (.bool ny)∧w2.cell? ⟨w.heap.size+1+1+1+1,1,none⟩=some (.bool false)∧w2.cell? ⟨w.heap.size+1+1+1+1,2,none⟩=some (.slice pb lb cb)∧w2.cell? ⟨w.heap.size+1+1+1+1,3,none⟩=some (.int .i64 ey)):=Lh (fun w2 h=>by
  have k:=Qb g4 h
  exact ⟨Qc k 0 rfl,Qc k 1 rfl,Qc k 2 rfl,Qc k 3 rfl⟩)
 have HR:Hid (∀ w2,Below wA.heap.size wA w2→w2.heap[w.heap.size+1+1+1+1+1]?=some (.cells #[.int .i64 0,.bool false,.int .i32 0,.string ⟨#[]⟩,.int .u32 0,.bool false,.bool false,.bool false] 33 (0,0))):=Lh (fun w2 h=>Qb g5 h)
 have HNm:Hid ((∀ w2,Below wA.heap.size wA w2→NumV w2 (.agg #[.bool false,.slice pa la ca]) false cx)∧(∀ w2,Below wA.heap.size wA w2→NumV w2 (.agg #[.bool false,.slice pb lb cb]) false cy)):=Lh ⟨fun w2 h=>⟨_,rfl,hs0.out.later (Qd HBA.out h)⟩,fun w2 h=>⟨_,rfl,ht0.out.later (Qd HBA.out h)⟩⟩
 have HZx:Hid (∀ w2,Below wA.heap.size wA w2→Calls Tryz.prog 19 #[.agg #[.bool false,.slice pa la ca]] w2 fun r w'=>r=.returned (.bool (decide (cx=0)))∧Below w2.heap.size w2 w'):=Lh (fun w2 h=>Q0b (HNm.out.1 w2 h))
 have HZy:Hid (∀ w2,Below wA.heap.size wA w2→Calls Tryz.prog 19 #[.agg #[.bool false,.slice pb lb cb]] w2 fun r w'=>r=.returned (.bool (decide (cy=0)))∧Below w2.heap.size w2 w'):=Lh (fun w2 h=>Q0b (HNm.out.2 w2 h))
 have HI:Hid (∀ b k w2,Calls Tryz.prog 73 #[.bool b,.int .u32 ((k:Nat):Int)] w2 fun r w'=>r=.returned (.agg #[.int .i64 1,.bool b,.int .i32 0,.string ⟨#[]⟩,.int .u32 ((k:Nat):Int),.bool true,.bool false,.bool false])∧Below w2.heap.size w2 w'):=Lh (fun b k w2=>QaE b k w2)
 have HN:Hid (∀ k w2,Calls Tryz.prog 72 #[.int .u32 ((k:Nat):Int)] w2 fun r w'=>r=.returned (.agg #[.int .i64 3,.bool false,.int .i32 0,.string ⟨#[]⟩,.int .u32 ((k:Nat):Int),.bool true,.bool false,.bool false])∧Below w2.heap.size w2 w'):=Lh (fun k w2=>QaP k w2)
 have HEb:=Lh (And.intro he (And.intro he' (And.intro hl hl')))
 have HLs:=Lh (And.intro hla hlb)
 have HPb:=Lh (And.intro hp (And.intro hmx (And.intro hmn hmd)))
 clear g0 g1 g2 g3 g4 g5 hs0 ht0 hla hlb he he' hl hl' hp hmx hmn hmd
 by_cases hp0:p=0
 ·have HV':Hid (V=RsV 0 false 0 ⟨#[]⟩ 0 false false false):=Lh (by rw [HV.out];unfold dvQ;rw [if_pos hp0])
  clear HV
  have hp1:((p:Int) == 0)=true:=by rw [hp0];rfl
  clear hp0
  obtain ⟨x0,x1,x2,x3⟩:=HCx.out _ (Below.refl _ _)
  obtain ⟨y0,y1,y2,y3⟩:=HCy.out _ (Below.refl _ _)
  obtain ⟨a0,a1,a2,a3⟩:=HCa.out _ (Below.refl _ _)
  obtain ⟨b0,b1,b2,b3⟩:=HCb.out _ (Below.refl _ _)
  go_enter Tryz.func76, Tryz.ntmps76
  go_upto_region 1 with (fail)
  rw [← hwA]
  clear hwA
  go_wp2_with fail
  go_quiet (fail)
  have HB1:Hid (Below wA.heap.size wA (wA.drewN nq)):=Lh ⟨rfl,rfl,rfl,Nat.le_refl _,fun _ _=>rfl⟩
  clear x0 x1 x2 x3 y0 y1 y2 y3 a0 a1 a2 a3 b0 b1 b2 b3
  generalize wA.drewN nq=w1 at HB1 ⊢
  have hrr:=HR.out _ HB1.out
  have r0:=Qc hrr 0 rfl;have r1:=Qc hrr 1 rfl;have r2:=Qc hrr 2 rfl;have r3:=Qc hrr 3 rfl;have r4:=Qc hrr 4 rfl;have r5:=Qc hrr 5 rfl;have r6:=Qc hrr 6 rfl;have r7:=Qc hrr 7 rfl
  have rf:=(Qe hrr).2
  have f0:=rf 0;have f1:=rf 1;have f2:=rf 2;have f3:=rf 3;have f4:=rf 4;have f5:=rf 5;have f6:=rf 6;have f7:=rf 7
  clear rf hrr
  go_wp2_with fail
  have h8:=QD (HR.out _ HB1.out) (.int .i64 0) (.bool false) (.int .i32 0) (.string ⟨#[]⟩) (.int .u32 0) (.bool false) (.bool false) (.bool false)
  have hb:=Q5F (Qd HBA.out HB1.out) (B:=w.heap.size+1+1+1+1+1) (by omega) (.int .i64 0) (.bool false) (.int .i32 0) (.string ⟨#[]⟩) (.int .u32 0) (.bool false) (.bool false) (.bool false)
  unfold set8 at h8 hb
  exact bodyPost_ret (v:=.agg #[.int .i64 0,.bool false,.int .i32 0,.string ⟨#[]⟩,.int .u32 0,.bool false,.bool false,.bool false]) (by simp [results,Tryz.results76,go_sem,h8]) rfl ⟨Qz (by rw [HV'.out];rfl),hb⟩
 have hp1:((p:Int) == 0)=false:=by simp;omega
 rcases hfx with rfl | rfl
 rotate_left
 ·rcases hfy with rfl | rfl
  ·have HV':Hid (V=RsV 1 (nx != ny) 0 ⟨#[]⟩ 0 true false false):=Lh (by rw [HV.out];unfold dvQ;rw [if_neg hp0];rw [if_pos rfl,if_neg (by decide)])
   clear HV
   obtain ⟨x0,x1,x2,x3⟩:=HCx.out _ (Below.refl _ _)
   obtain ⟨y0,y1,y2,y3⟩:=HCy.out _ (Below.refl _ _)
   obtain ⟨a0,a1,a2,a3⟩:=HCa.out _ (Below.refl _ _)
   obtain ⟨b0,b1,b2,b3⟩:=HCb.out _ (Below.refl _ _)
   go_enter Tryz.func76, Tryz.ntmps76
   go_upto_region 1 with (fail)
   rw [← hwA]
   clear hwA
   go_wp2_with fail
   go_quiet (fail)
   have HB1:Hid (Below wA.heap.size wA (wA.drewN nq)):=Lh ⟨rfl,rfl,rfl,Nat.le_refl _,fun _ _=>rfl⟩
   clear x0 x1 x2 x3 y0 y1 y2 y3 a0 a1 a2 a3 b0 b1 b2 b3
   generalize wA.drewN nq=w1 at HB1 ⊢
   go_wp2_with fail
   refine (HI.out _ 0 _).mono ?_
   rintro r w9 ⟨rfl,hB⟩
   have HB9:=Lh (Qd HB1.out hB)
   clear hB
   have hrr:=HR.out _ HB9.out
   have r0:=Qc hrr 0 rfl;have r1:=Qc hrr 1 rfl;have r2:=Qc hrr 2 rfl;have r3:=Qc hrr 3 rfl;have r4:=Qc hrr 4 rfl;have r5:=Qc hrr 5 rfl;have r6:=Qc hrr 6 rfl;have r7:=Qc hrr 7 rfl
   have rf:=(Qe hrr).2
   have f0:=rf 0;have f1:=rf 1;have f2:=rf 2;have f3:=rf 3;have f4:=rf 4;have f5:=rf 5;have f6:=rf 6;have f7:=rf 7
   clear rf hrr
   go_wp2_with fail
   have h8:=QD (HR.out _ HB9.out) (.int .i64 1) (.bool (!(nx == ny))) (.int .i32 0) (.string ⟨#[]⟩) (.int .u32 0) (.bool true) (.bool false) (.bool false)
   have hb:=Q5F (Qd HBA.out HB9.out) (B:=w.heap.size+1+1+1+1+1) (by omega) (.int .i64 1) (.bool (!(nx == ny))) (.int .i32 0) (.string ⟨#[]⟩) (.int .u32 0) (.bool true) (.bool false) (.bool false)
   unfold set8 at h8 hb
   exact bodyPost_ret (v:=.agg #[.int .i64 1,.bool (!(nx == ny)),.int .i32 0,.string ⟨#[]⟩,.int .u32 0,.bool true,.bool false,.bool false]) (by simp [results,Tryz.results76,go_sem,h8]) rfl ⟨Qz (by rw [HV'.out];rfl),hb⟩
  ·have HV':Hid (V=RsV 3 false 0 ⟨#[]⟩ 1024 true false false):=Lh (by rw [HV.out];unfold dvQ;rw [if_neg hp0];rw [if_pos rfl,if_pos rfl])
   clear HV
   obtain ⟨x0,x1,x2,x3⟩:=HCx.out _ (Below.refl _ _)
   obtain ⟨y0,y1,y2,y3⟩:=HCy.out _ (Below.refl _ _)
   obtain ⟨a0,a1,a2,a3⟩:=HCa.out _ (Below.refl _ _)
   obtain ⟨b0,b1,b2,b3⟩:=HCb.out _ (Below.refl _ _)
   go_enter Tryz.func76, Tryz.ntmps76
   go_upto_region 1 with (fail)
   rw [← hwA]
   clear hwA
   go_wp2_with fail
   go_quiet (fail)
   have HB1:Hid (Below wA.heap.size wA (wA.drewN nq)):=Lh ⟨rfl,rfl,rfl,Nat.le_refl _,fun _ _=>rfl⟩
   clear x0 x1 x2 x3 y0 y1 y2 y3 a0 a1 a2 a3 b0 b1 b2 b3
   generalize wA.drewN nq=w1 at HB1 ⊢
   go_wp2_with fail
   refine (HN.out 1024 _).mono ?_
   rintro r w9 ⟨rfl,hB⟩
   have HB9:=Lh (Qd HB1.out hB)
   clear hB
   have hrr:=HR.out _ HB9.out
   have r0:=Qc hrr 0 rfl;have r1:=Qc hrr 1 rfl;have r2:=Qc hrr 2 rfl;have r3:=Qc hrr 3 rfl;have r4:=Qc hrr 4 rfl;have r5:=Qc hrr 5 rfl;have r6:=Qc hrr 6 rfl;have r7:=Qc hrr 7 rfl
   have rf:=(Qe hrr).2
   have f0:=rf 0;have f1:=rf 1;have f2:=rf 2;have f3:=rf 3;have f4:=rf 4;have f5:=rf 5;have f6:=rf 6;have f7:=rf 7
   clear rf hrr
   go_wp2_with fail
   have h8:=QD (HR.out _ HB9.out) (.int .i64 3) (.bool false) (.int .i32 0) (.string ⟨#[]⟩) (.int .u32 1024) (.bool true) (.bool false) (.bool false)
   have hb:=Q5F (Qd HBA.out HB9.out) (B:=w.heap.size+1+1+1+1+1) (by omega) (.int .i64 3) (.bool false) (.int .i32 0) (.string ⟨#[]⟩) (.int .u32 1024) (.bool true) (.bool false) (.bool false)
   unfold set8 at h8 hb
   exact bodyPost_ret (v:=.agg #[.int .i64 3,.bool false,.int .i32 0,.string ⟨#[]⟩,.int .u32 1024,.bool true,.bool false,.bool false]) (by simp [results,Tryz.results76,go_sem,h8]) rfl ⟨Qz (by rw [HV'.out];rfl),hb⟩
 rcases hfy with rfl | rfl
 rotate_left
 ·have HT:Hid (∀ w2,Calls Tryz.prog 20 #[.agg #[.bool (!(nx == ny)),.bool false,.slice none 0 0,.int .i64 (mn - (p:Int)+1)]] w2 fun r w'=>r=.returned (.agg #[.int .i64 0,.bool (!(nx == ny)),.int .i32 (mn - (p:Int)+1),.string (txS 0)])∧Below w2.heap.size w2 w'):=Lh (fun w2=>Q0z (n:=(!(nx == ny))) (c:=0) ⟨_,rfl,by rw [Qp];exact Dg.nil w2⟩ (by have:=HPb.out;omega) (by rw [Qp];exact Nat.zero_le _))
  have HV':Hid (V=RsV 0 (nx != ny) (mn - (p:Int)+1) (txS 0) 2048 true false false):=Lh (by rw [HV.out];unfold dvQ;rw [if_neg hp0];rw [if_neg (by decide),if_pos rfl])
  clear HV
  generalize txS 0=tx at HT HV'
  have j1:IntKind.i64.wrap (mn - (p:Int))=mn - (p:Int):=IntWalk.i64_in _ (by have:=HPb.out;omega)
  have j2:IntKind.i64.wrap (mn - (p:Int)+1)=mn - (p:Int)+1:=IntWalk.i64_in _ (by have:=HPb.out;omega)
  have j3:IntKind.i64.wrap mn=mn:=IntWalk.i64_in _ (by have:=HPb.out;omega)
  obtain ⟨x0,x1,x2,x3⟩:=HCx.out _ (Below.refl _ _)
  obtain ⟨y0,y1,y2,y3⟩:=HCy.out _ (Below.refl _ _)
  obtain ⟨a0,a1,a2,a3⟩:=HCa.out _ (Below.refl _ _)
  obtain ⟨b0,b1,b2,b3⟩:=HCb.out _ (Below.refl _ _)
  go_enter Tryz.func76, Tryz.ntmps76
  go_upto_region 1 with (fail)
  rw [← hwA]
  clear hwA
  go_wp2_with fail
  go_quiet (fail)
  have HB1:Hid (Below wA.heap.size wA (wA.drewN nq)):=Lh ⟨rfl,rfl,rfl,Nat.le_refl _,fun _ _=>rfl⟩
  clear x0 x1 x2 x3 y0 y1 y2 y3 a0 a1 a2 a3 b0 b1 b2 b3
  generalize wA.drewN nq=w1 at HB1 ⊢
  obtain ⟨c0,c1,c2,c3,c4⟩:=HCc.out _ HB1.out
  go_wp2_with fail
  refine (HT.out _).mono ?_
  rintro r w9 ⟨rfl,hB⟩
  have HB9:=Lh (Qd HB1.out hB)
  clear hB c0 c1 c2 c3 c4
  have hrr:=HR.out _ HB9.out
  have r0:=Qc hrr 0 rfl;have r1:=Qc hrr 1 rfl;have r2:=Qc hrr 2 rfl;have r3:=Qc hrr 3 rfl;have r4:=Qc hrr 4 rfl;have r5:=Qc hrr 5 rfl;have r6:=Qc hrr 6 rfl;have r7:=Qc hrr 7 rfl
  have rf:=(Qe hrr).2
  have f0:=rf 0;have f1:=rf 1;have f2:=rf 2;have f3:=rf 3;have f4:=rf 4;have f5:=rf 5;have f6:=rf 6;have f7:=rf 7
  clear rf hrr
  go_wp2_with fail
  have h8:=QD (HR.out _ HB9.out) (.int .i64 0) (.bool (!(nx == ny))) (.int .i32 (mn - (p:Int)+1)) (.string tx) (.int .u32 2048) (.bool true) (.bool false) (.bool false)
  have hb:=Q5F (Qd HBA.out HB9.out) (B:=w.heap.size+1+1+1+1+1) (by omega) (.int .i64 0) (.bool (!(nx == ny))) (.int .i32 (mn - (p:Int)+1)) (.string tx) (.int .u32 2048) (.bool true) (.bool false) (.bool false)
  unfold set8 at h8 hb
  exact bodyPost_ret (v:=.agg #[.int .i64 0,.bool (!(nx == ny)),.int .i32 (mn - (p:Int)+1),.string tx,.int .u32 2048,.bool true,.bool false,.bool false]) (by simp [results,Tryz.results76,go_sem,h8]) rfl ⟨Qz (by rw [HV'.out];rfl),hb⟩
 by_cases hcy:cy=0
 ·by_cases hcx:cx=0
  ·have HV':Hid (V=RsV 3 false 0 ⟨#[]⟩ 128 true false false):=Lh (by rw [HV.out];unfold dvQ;rw [if_neg hp0];rw [if_neg (by decide),if_neg (by decide),if_pos hcy,if_pos hcx])
   clear HV
   obtain ⟨x0,x1,x2,x3⟩:=HCx.out _ (Below.refl _ _)
   obtain ⟨y0,y1,y2,y3⟩:=HCy.out _ (Below.refl _ _)
   obtain ⟨a0,a1,a2,a3⟩:=HCa.out _ (Below.refl _ _)
   obtain ⟨b0,b1,b2,b3⟩:=HCb.out _ (Below.refl _ _)
   go_enter Tryz.func76, Tryz.ntmps76
   go_upto_region 1 with (fail)
   rw [← hwA]
   clear hwA
   go_wp2_with fail
   go_quiet (fail)
   have HB1:Hid (Below wA.heap.size wA (wA.drewN nq)):=Lh ⟨rfl,rfl,rfl,Nat.le_refl _,fun _ _=>rfl⟩
   clear x0 x1 x2 x3 y0 y1 y2 y3 a0 a1 a2 a3 b0 b1 b2 b3
   generalize wA.drewN nq=w1 at HB1 ⊢
   obtain ⟨b0,b1,b2,b3⟩:=HCb.out _ HB1.out
   go_wp2_with fail
   refine (HZy.out _ HB1.out).mono ?_
   rintro r w2 ⟨rfl,hB⟩
   have HB2:=Lh (Qd HB1.out hB)
   clear hB HB1
   rw [decide_eq_true hcy]
   clear b0 b1 b2 b3
   obtain ⟨a0,a1,a2,a3⟩:=HCa.out _ HB2.out
   go_wp2_with fail
   refine (HZx.out _ HB2.out).mono ?_
   rintro r w3 ⟨rfl,hB⟩
   have HB3:=Lh (Qd HB2.out hB)
   clear hB HB2
   rw [decide_eq_true hcx]
   clear a0 a1 a2 a3
   go_wp2_with fail
   refine (HN.out 128 _).mono ?_
   rintro r w9 ⟨rfl,hB⟩
   have HB9:=Lh (Qd HB3.out hB)
   clear hB
   have hrr:=HR.out _ HB9.out
   have r0:=Qc hrr 0 rfl;have r1:=Qc hrr 1 rfl;have r2:=Qc hrr 2 rfl;have r3:=Qc hrr 3 rfl;have r4:=Qc hrr 4 rfl;have r5:=Qc hrr 5 rfl;have r6:=Qc hrr 6 rfl;have r7:=Qc hrr 7 rfl
   have rf:=(Qe hrr).2
   have f0:=rf 0;have f1:=rf 1;have f2:=rf 2;have f3:=rf 3;have f4:=rf 4;have f5:=rf 5;have f6:=rf 6;have f7:=rf 7
   clear rf hrr
   go_wp2_with fail
   have h8:=QD (HR.out _ HB9.out) (.int .i64 3) (.bool false) (.int .i32 0) (.string ⟨#[]⟩) (.int .u32 128) (.bool true) (.bool false) (.bool false)
   have hb:=Q5F (Qd HBA.out HB9.out) (B:=w.heap.size+1+1+1+1+1) (by omega) (.int .i64 3) (.bool false) (.int .i32 0) (.string ⟨#[]⟩) (.int .u32 128) (.bool true) (.bool false) (.bool false)
   unfold set8 at h8 hb
   exact bodyPost_ret (v:=.agg #[.int .i64 3,.bool false,.int .i32 0,.string ⟨#[]⟩,.int .u32 128,.bool true,.bool false,.bool false]) (by simp [results,Tryz.results76,go_sem,h8]) rfl ⟨Qz (by rw [HV'.out];rfl),hb⟩
  ·have HV':Hid (V=RsV 1 (nx != ny) 0 ⟨#[]⟩ 256 true false false):=Lh (by rw [HV.out];unfold dvQ;rw [if_neg hp0];rw [if_neg (by decide),if_neg (by decide),if_pos hcy,if_neg hcx])
   clear HV
   obtain ⟨x0,x1,x2,x3⟩:=HCx.out _ (Below.refl _ _)
   obtain ⟨y0,y1,y2,y3⟩:=HCy.out _ (Below.refl _ _)
   obtain ⟨a0,a1,a2,a3⟩:=HCa.out _ (Below.refl _ _)
   obtain ⟨b0,b1,b2,b3⟩:=HCb.out _ (Below.refl _ _)
   go_enter Tryz.func76, Tryz.ntmps76
   go_upto_region 1 with (fail)
   rw [← hwA]
   clear hwA
   go_wp2_with fail
   go_quiet (fail)
   have HB1:Hid (Below wA.heap.size wA (wA.drewN nq)):=Lh ⟨rfl,rfl,rfl,Nat.le_refl _,fun _ _=>rfl⟩
   clear x0 x1 x2 x3 y0 y1 y2 y3 a0 a1 a2 a3 b0 b1 b2 b3
   generalize wA.drewN nq=w1 at HB1 ⊢
   obtain ⟨b0,b1,b2,b3⟩:=HCb.out _ HB1.out
   go_wp2_with fail
   refine (HZy.out _ HB1.out).mono ?_
   rintro r w2 ⟨rfl,hB⟩
   have HB2:=Lh (Qd HB1.out hB)
   clear hB HB1
   rw [decide_eq_true hcy]
   clear b0 b1 b2 b3
   obtain ⟨a0,a1,a2,a3⟩:=HCa.out _ HB2.out
   go_wp2_with fail
   refine (HZx.out _ HB2.out).mono ?_
   rintro r w3 ⟨rfl,hB⟩
   have HB3:=Lh (Qd HB2.out hB)
   clear hB HB2
   rw [decide_eq_false hcx]
   clear a0 a1 a2 a3
   obtain ⟨b0,b1,b2,b3⟩:=HCb.out _ HB3.out
   go_wp2_with fail
   refine (HZy.out _ HB3.out).mono ?_
   rintro r w4 ⟨rfl,hB⟩
   have HB4:=Lh (Qd HB3.out hB)
   clear hB HB3
   rw [decide_eq_true hcy]
   clear b0 b1 b2 b3
   obtain ⟨b0,b1,b2,b3⟩:=HCb.out _ HB4.out
   go_wp2_with fail
   refine (HZy.out _ HB4.out).mono ?_
   rintro r w5 ⟨rfl,hB⟩
   have HB5:=Lh (Qd HB4.out hB)
   clear hB HB4
   rw [decide_eq_true hcy]
   clear b0 b1 b2 b3
   go_wp2_with fail
   refine (HI.out _ 256 _).mono ?_
   rintro r w9 ⟨rfl,hB⟩
   have HB9:=Lh (Qd HB5.out hB)
   clear hB
   have hrr:=HR.out _ HB9.out
   have r0:=Qc hrr 0 rfl;have r1:=Qc hrr 1 rfl;have r2:=Qc hrr 2 rfl;have r3:=Qc hrr 3 rfl;have r4:=Qc hrr 4 rfl;have r5:=Qc hrr 5 rfl;have r6:=Qc hrr 6 rfl;have r7:=Qc hrr 7 rfl
   have rf:=(Qe hrr).2
   have f0:=rf 0;have f1:=rf 1;have f2:=rf 2;have f3:=rf 3;have f4:=rf 4;have f5:=rf 5;have f6:=rf 6;have f7:=rf 7
   clear rf hrr
   go_wp2_with fail
   have h8:=QD (HR.out _ HB9.out) (.int .i64 1) (.bool (!(nx == ny))) (.int .i32 0) (.string ⟨#[]⟩) (.int .u32 256) (.bool true) (.bool false) (.bool false)
   have hb:=Q5F (Qd HBA.out HB9.out) (B:=w.heap.size+1+1+1+1+1) (by omega) (.int .i64 1) (.bool (!(nx == ny))) (.int .i32 0) (.string ⟨#[]⟩) (.int .u32 256) (.bool true) (.bool false) (.bool false)
   unfold set8 at h8 hb
   exact bodyPost_ret (v:=.agg #[.int .i64 1,.bool (!(nx == ny)),.int .i32 0,.string ⟨#[]⟩,.int .u32 256,.bool true,.bool false,.bool false]) (by simp [results,Tryz.results76,go_sem,h8]) rfl ⟨Qz (by rw [HV'.out];rfl),hb⟩
 ·unfold dvQ at HV
  rw [if_neg hp0,if_neg (by decide),if_neg (by decide),if_neg hcy] at HV
  have HS:Hid (∀ w2,Below wA.heap.size wA w2→w2.cell? ⟨w.heap.size,0,none⟩=some (.int .u32 (p:Int))∧w2.cell? ⟨w.heap.size,1,none⟩=some (.int .i32 mx)∧w2.cell? ⟨w.heap.size,2,none⟩=some (.int .i32 mn)∧w2.cell? ⟨w.heap.size,3,none⟩=some (.int .u32 (tr:Int))∧w2.cell? ⟨w.heap.size,4,none⟩=some (.int .i64 (md:Int))∧w2.cell? ⟨w.heap.size+1+1+1,0,none⟩=some (.bool nx)∧w2.cell? ⟨w.heap.size+1+1+1,1,none⟩=some (.bool false)∧w2.cell? ⟨w.heap.size+1+1+1,2,none⟩=some (.slice pa la ca)∧w2.cell? ⟨w.heap.size+1+1+1,3,none⟩=some (.int .i64 ex)∧w2.cell? ⟨w.heap.size+1+1+1+1,0,none⟩=some (.bool ny)∧w2.cell? ⟨w.heap.size+1+1+1+1,1,none⟩=some (.bool false)∧w2.cell? ⟨w.heap.size+1+1+1+1,2,none⟩=some (.slice pb lb cb)∧w2.cell? ⟨w.heap.size+1+1+1+1,3,none⟩=some (.int .i64 ey)):=Lh (fun w2 h=>by
   obtain ⟨c0,c1,c2,c3,c4⟩:=HCc.out _ h
   obtain ⟨a0,a1,a2,a3⟩:=HCa.out _ h
   obtain ⟨b0,b1,b2,b3⟩:=HCb.out _ h
   exact ⟨c0,c1,c2,c3,c4,a0,a1,a2,a3,b0,b1,b2,b3⟩)
  have hnb:∀ c:Nat,(dgs c).length≤40→ndg c≤40:=fun c h=>by
   by_cases q:c=0
   ·rw [q,Qj (by decide)];decide
   ·rwa [Qw _ q] at h
  by_cases hcx:cx=0
  ·rw [if_pos hcx] at HV
   have j1:IntKind.i64.wrap (ex - ey)=ex - ey:=IntWalk.i64_in _ (by have:=HEb.out;omega)
   have j2:wrap64 (ex - ey)=ex - ey:=by have:=HEb.out;unfold wrap64;omega
   obtain ⟨f',n',e',s',k',a',b',c',hR⟩:=Q8e (finS p mx mn md (nx != ny) (ex - ey) 0)
   have HF:Hid (∀ w2 p4 l4 c4,FinV w2 (.agg #[.bool (!(nx == ny)),.bool false,.slice p4 l4 c4,.int .i64 (ex - ey)]) (!(nx == ny)) 0 (ex - ey)→Calls Tryz.prog 11 #[.agg #[.int .u32 (p:Int),.int .i32 mx,.int .i32 mn,.int .u32 (tr:Int),.int .i64 (md:Int)],.agg #[.bool (!(nx == ny)),.bool false,.slice p4 l4 c4,.int .i64 (ex - ey)],.int .u32 0] w2 fun r w'=>r=.returned (SRV (finS p mx mn md (nx != ny) (ex - ey) 0))∧Below w2.heap.size w2 w'):=Lh (fun w2 _ _ _ h=>Q4W p md tr mx mn HPb.out.1 HPb.out.2.1 HPb.out.2.2.1 HPb.out.2.2.2 h (by have:=HEb.out;omega) (by rw [Qp];exact Nat.zero_le _))
   have HOf:Hid (∀ w2,Calls Tryz.prog 22 #[.int .i64 0] w2 fun r w'=>∃ v',r=.returned v'∧NumV w' v' false 0∧Below w2.heap.size w2 w'):=Lh (fun w2=>Q2V 0 (by decide) w2)
   rw [hR] at HF HV
   unfold RsV at HF
   clear hR hnb
   obtain ⟨x0,x1,x2,x3⟩:=HCx.out _ (Below.refl _ _)
   obtain ⟨y0,y1,y2,y3⟩:=HCy.out _ (Below.refl _ _)
   obtain ⟨a0,a1,a2,a3⟩:=HCa.out _ (Below.refl _ _)
   obtain ⟨b0,b1,b2,b3⟩:=HCb.out _ (Below.refl _ _)
   go_enter Tryz.func76, Tryz.ntmps76
   go_upto_region 1 with (fail)
   rw [← hwA]
   clear hwA
   go_wp2_with fail
   go_quiet (fail)
   have HB1:Hid (Below wA.heap.size wA (wA.drewN nq)):=Lh ⟨rfl,rfl,rfl,Nat.le_refl _,fun _ _=>rfl⟩
   clear x0 x1 x2 x3 y0 y1 y2 y3 a0 a1 a2 a3 b0 b1 b2 b3
   generalize wA.drewN nq=w1 at HB1 ⊢
   obtain ⟨b0,b1,b2,b3⟩:=HCb.out _ HB1.out
   go_wp2_with fail
   refine (HZy.out _ HB1.out).mono ?_
   rintro r w2 ⟨rfl,hB⟩
   have HB2:=Lh (Qd HB1.out hB)
   clear hB HB1
   rw [decide_eq_false hcy]
   clear b0 b1 b2 b3
   obtain ⟨b0,b1,b2,b3⟩:=HCb.out _ HB2.out
   go_wp2_with fail
   refine (HZy.out _ HB2.out).mono ?_
   rintro r w3 ⟨rfl,hB⟩
   have HB3:=Lh (Qd HB2.out hB)
   clear hB HB2
   rw [decide_eq_false hcy]
   clear b0 b1 b2 b3
   obtain ⟨b0,b1,b2,b3⟩:=HCb.out _ HB3.out
   go_wp2_with fail
   refine (HZy.out _ HB3.out).mono ?_
   rintro r w4 ⟨rfl,hB⟩
   have HB4:=Lh (Qd HB3.out hB)
   clear hB HB3
   rw [decide_eq_false hcy]
   clear b0 b1 b2 b3
   obtain ⟨a0,a1,a2,a3⟩:=HCa.out _ HB4.out
   go_wp2_with fail
   refine (HZx.out _ HB4.out).mono ?_
   rintro r w5 ⟨rfl,hB⟩
   have HB5:=Lh (Qd HB4.out hB)
   clear hB HB4
   rw [decide_eq_true hcx]
   clear a0 a1 a2 a3
   have s0:=HS.out _ HB5.out
   go_wp2_with fail
   refine AH.start (fun x=>x.cell? ⟨w.heap.size,0,none⟩=some (.int .u32 (p:Int))∧x.cell? ⟨w.heap.size,1,none⟩=some (.int .i32 mx)∧x.cell? ⟨w.heap.size,2,none⟩=some (.int .i32 mn)∧x.cell? ⟨w.heap.size,3,none⟩=some (.int .u32 (tr:Int))∧x.cell? ⟨w.heap.size,4,none⟩=some (.int .i64 (md:Int))∧x.cell? ⟨w.heap.size+1+1+1,0,none⟩=some (.bool nx)∧x.cell? ⟨w.heap.size+1+1+1,1,none⟩=some (.bool false)∧x.cell? ⟨w.heap.size+1+1+1,2,none⟩=some (.slice pa la ca)∧x.cell? ⟨w.heap.size+1+1+1,3,none⟩=some (.int .i64 ex)∧x.cell? ⟨w.heap.size+1+1+1+1,0,none⟩=some (.bool ny)∧x.cell? ⟨w.heap.size+1+1+1+1,1,none⟩=some (.bool false)∧x.cell? ⟨w.heap.size+1+1+1+1,2,none⟩=some (.slice pb lb cb)∧x.cell? ⟨w.heap.size+1+1+1+1,3,none⟩=some (.int .i64 ey)) (by kernel_rfl) ?_
   have hd:Below w5.heap.size w5 w5.drew:=(Below.refl _ _).drew
   replace HB5:=Lh (Qd HB5.out hd)
   clear hd s0
   generalize w5.drew=w6 at HB5 ⊢
   have s0:=HS.out _ HB5.out
   refine AH.z 0 s0 ?_
   refine AH.z 1 s0 ?_
   refine AH.z 3 s0 ?_
   refine AH.z 4 s0 ?_
   refine AH.z 5 s0 ?_
   refine AH.z 6 s0 ?_
   refine AH.z 7 s0 ?_
   clear s0
   refine AH.o 2 (fun K hK=>?_)
   go_simp
   refine (HOf.out w6).mono ?_
   rintro r wa ⟨v1,rfl,⟨s1,rfl,hN⟩,hB⟩
   have HBa:=Lh (Qd HB5.out hB);have Dd:=Lh hN
   obtain ⟨p4,c4,rfl,_⟩:=hN
   refine hK _ _ (HS.out _ HBa.out) ?_
   clear hK K hB HB5
   try simp only [Act.put,Zp_]
   generalize hL4:(dgs 0).length=L4 at *
   refine AH.z 8 (HS.out _ HBa.out) ?_
   refine AH.o 9 (fun K hK=>?_)
   go_simp
   refine (HF.out wa p4 L4 c4 ⟨_,rfl,Dd.out⟩).mono ?_
   rintro r wb ⟨rfl,hB⟩
   have HB9:=Lh (Qd HBa.out hB)
   refine hK _ _ (HS.out _ HB9.out) ?_
   clear hK K hB HBa Dd hL4
   try simp only [Act.put,Zp_]
   have s0:=HS.out _ HB9.out
   have hrr:=HR.out _ HB9.out
   have r0:=Qc hrr 0 rfl;have r1:=Qc hrr 1 rfl;have r2:=Qc hrr 2 rfl;have r3:=Qc hrr 3 rfl;have r4:=Qc hrr 4 rfl;have r5:=Qc hrr 5 rfl;have r6:=Qc hrr 6 rfl;have r7:=Qc hrr 7 rfl
   have rf:=(Qe hrr).2
   have f0:=rf 0;have f1:=rf 1;have f2:=rf 2;have f3:=rf 3;have f4:=rf 4;have f5:=rf 5;have f6:=rf 6;have f7:=rf 7
   clear rf hrr
   refine AH.o 10 (fun K hK=>?_)
   go_simp
   have o8:=Q78 wb (w.heap.size+1+1+1+1+1) (.int .i64 f') (.bool n') (.int .i32 e') (.string s') (.int .u32 (k':Int)) (.bool a') (.bool b') (.bool c')
   have hz:=HSz.out
   unfold set8 at o8
   refine hK _ _ (by
    obtain ⟨t0,t1,t2,t3,t4,t5,t6,t7,t8,t9,t10,t11,t12⟩:=s0
    have f0:=fun i=>World.cell?_of_block (w:=wb) (a:=⟨w.heap.size,i,none⟩) (o8.1 w.heap.size (by omega))
    have f3:=fun i=>World.cell?_of_block (w:=wb) (a:=⟨w.heap.size+1+1+1,i,none⟩) (o8.1 (w.heap.size+1+1+1) (by omega))
    have f4:=fun i=>World.cell?_of_block (w:=wb) (a:=⟨w.heap.size+1+1+1+1,i,none⟩) (o8.1 (w.heap.size+1+1+1+1) (by omega))
    exact ⟨(f0 0).trans t0,(f0 1).trans t1,(f0 2).trans t2,(f0 3).trans t3,(f0 4).trans t4,(f3 0).trans t5,(f3 1).trans t6,(f3 2).trans t7,(f3 3).trans t8,(f4 0).trans t9,(f4 1).trans t10,(f4 2).trans t11,(f4 3).trans t12⟩) ?_
   clear hK K o8 hz s0
   try simp only [Act.put,Zp_]
   refine AH.done (by kernel_rfl) ?_
   go_wp2_with fail
   have h8:=QD (HR.out _ HB9.out) (.int .i64 f') (.bool n') (.int .i32 e') (.string s') (.int .u32 (k':Int)) (.bool a') (.bool b') (.bool c')
   have hb:=Q5F (Qd HBA.out HB9.out) (B:=w.heap.size+1+1+1+1+1) (by omega) (.int .i64 f') (.bool n') (.int .i32 e') (.string s') (.int .u32 (k':Int)) (.bool a') (.bool b') (.bool c')
   unfold set8 at h8 hb
   exact bodyPost_ret (v:=.agg #[.int .i64 f',.bool n',.int .i32 e',.string s',.int .u32 (k':Int),.bool a',.bool b',.bool c']) (by simp [results,Tryz.results76,go_sem,h8]) rfl ⟨Qz (by rw [HV.out];rfl),hb⟩
  ·rw [if_neg hcx] at HV
   have hbd:(-10000≤(quoS p ex ey cx cy).1∧(quoS p ex ey cx cy).1≤10000)∧(dgs (quoS p ex ey cx cy).2).length≤10000:=by
    obtain ⟨h1,h2,h3,h4⟩:=HEb.out
    obtain ⟨e1,e2⟩:=HLs.out
    exact Qbi HPb.out.1 h1 h2 (hnb _ (by omega)) (hnb _ (by omega))
   have HQ:Hid (∀ w2,Below wA.heap.size wA w2→Calls Tryz.prog 124 #[.int .i64 (p:Int),.agg #[.bool nx,.bool false,.slice pa la ca,.int .i64 ex],.agg #[.bool ny,.bool false,.slice pb lb cb,.int .i64 ey]] w2 fun r w'=>∃ p4 l4 c4,r=.returned (.agg #[.bool (!(nx == ny)),.bool false,.slice p4 l4 c4,.int .i64 (quoS p ex ey cx cy).1])∧FinV w' (.agg #[.bool (!(nx == ny)),.bool false,.slice p4 l4 c4,.int .i64 (quoS p ex ey cx cy).1]) (!(nx == ny)) (quoS p ex ey cx cy).2 (quoS p ex ey cx cy).1∧Below w2.heap.size w2 w'):=Lh (fun w2 h=>by
    obtain ⟨h1,h2,h3,h4⟩:=HEb.out
    obtain ⟨e1,e2⟩:=HLs.out
    refine (QaN p (by have:=HPb.out.1;omega) ⟨_,rfl,(HNm.out.1 w2 h).dg'⟩ ⟨_,rfl,(HNm.out.2 w2 h).dg'⟩ (by omega) (by omega) (by omega) (by omega) hcy).mono ?_
    rintro r w' ⟨v1,rfl,⟨s1,rfl,d⟩,hB⟩
    obtain ⟨p4,c4,rfl,_⟩:=id d
    exact ⟨p4,_,c4,rfl,⟨_,rfl,d⟩,hB⟩)
   have HF:Hid (∀ w2 p4 l4 c4,FinV w2 (.agg #[.bool (!(nx == ny)),.bool false,.slice p4 l4 c4,.int .i64 (quoS p ex ey cx cy).1]) (!(nx == ny)) (quoS p ex ey cx cy).2 (quoS p ex ey cx cy).1→Calls Tryz.prog 11 #[.agg #[.int .u32 (p:Int),.int .i32 mx,.int .i32 mn,.int .u32 (tr:Int),.int .i64 (md:Int)],.agg #[.bool (!(nx == ny)),.bool false,.slice p4 l4 c4,.int .i64 (quoS p ex ey cx cy).1],.int .u32 0] w2 fun r w'=>r=.returned (SRV (finS p mx mn md (nx != ny) (quoS p ex ey cx cy).1 (quoS p ex ey cx cy).2))∧Below w2.heap.size w2 w'):=Lh (fun w2 _ _ _ h=>Q4W p md tr mx mn HPb.out.1 HPb.out.2.1 HPb.out.2.2.1 HPb.out.2.2.2 h hbd.1 hbd.2)
   obtain ⟨f',n',e',s',k',a',c',hR,hk4,hR2⟩:=Qb3 (finS p mx mn md (nx != ny) (quoS p ex ey cx cy).1 (quoS p ex ey cx cy).2) (QbD _ _ _ _ _ _ _)
   have HA:Hid (bits .and .u32 (k':Int) 32=((k' &&& 32:Nat):Int)):=Lh (Q1V k' 32 hk4 (by decide))
   rw [hR] at HF
   rw [hR2] at HV
   unfold RsV at HF
   clear hR hR2 hk4 hbd hnb
   generalize (quoS p ex ey cx cy).1=QE at HQ HF
   generalize (quoS p ex ey cx cy).2=QC at HQ HF
   obtain ⟨x0,x1,x2,x3⟩:=HCx.out _ (Below.refl _ _)
   obtain ⟨y0,y1,y2,y3⟩:=HCy.out _ (Below.refl _ _)
   obtain ⟨a0,a1,a2,a3⟩:=HCa.out _ (Below.refl _ _)
   obtain ⟨b0,b1,b2,b3⟩:=HCb.out _ (Below.refl _ _)
   go_enter Tryz.func76, Tryz.ntmps76
   go_upto_region 1 with (fail)
   rw [← hwA]
   clear hwA
   go_wp2_with fail
   go_quiet (fail)
   have HB1:Hid (Below wA.heap.size wA (wA.drewN nq)):=Lh ⟨rfl,rfl,rfl,Nat.le_refl _,fun _ _=>rfl⟩
   clear x0 x1 x2 x3 y0 y1 y2 y3 a0 a1 a2 a3 b0 b1 b2 b3
   generalize wA.drewN nq=w1 at HB1 ⊢
   obtain ⟨b0,b1,b2,b3⟩:=HCb.out _ HB1.out
   go_wp2_with fail
   refine (HZy.out _ HB1.out).mono ?_
   rintro r w2 ⟨rfl,hB⟩
   have HB2:=Lh (Qd HB1.out hB)
   clear hB HB1
   rw [decide_eq_false hcy]
   clear b0 b1 b2 b3
   obtain ⟨b0,b1,b2,b3⟩:=HCb.out _ HB2.out
   go_wp2_with fail
   refine (HZy.out _ HB2.out).mono ?_
   rintro r w3 ⟨rfl,hB⟩
   have HB3:=Lh (Qd HB2.out hB)
   clear hB HB2
   rw [decide_eq_false hcy]
   clear b0 b1 b2 b3
   obtain ⟨b0,b1,b2,b3⟩:=HCb.out _ HB3.out
   go_wp2_with fail
   refine (HZy.out _ HB3.out).mono ?_
   rintro r w4 ⟨rfl,hB⟩
   have HB4:=Lh (Qd HB3.out hB)
   clear hB HB3
   rw [decide_eq_false hcy]
   clear b0 b1 b2 b3
   obtain ⟨a0,a1,a2,a3⟩:=HCa.out _ HB4.out
   go_wp2_with fail
   refine (HZx.out _ HB4.out).mono ?_
   rintro r w5 ⟨rfl,hB⟩
   have HB5:=Lh (Qd HB4.out hB)
   clear hB HB4
   rw [decide_eq_false hcx]
   clear a0 a1 a2 a3
   have s0:=HS.out _ HB5.out
   go_wp2_with fail
   refine AH.start (fun x=>x.cell? ⟨w.heap.size,0,none⟩=some (.int .u32 (p:Int))∧x.cell? ⟨w.heap.size,1,none⟩=some (.int .i32 mx)∧x.cell? ⟨w.heap.size,2,none⟩=some (.int .i32 mn)∧x.cell? ⟨w.heap.size,3,none⟩=some (.int .u32 (tr:Int))∧x.cell? ⟨w.heap.size,4,none⟩=some (.int .i64 (md:Int))∧x.cell? ⟨w.heap.size+1+1+1,0,none⟩=some (.bool nx)∧x.cell? ⟨w.heap.size+1+1+1,1,none⟩=some (.bool false)∧x.cell? ⟨w.heap.size+1+1+1,2,none⟩=some (.slice pa la ca)∧x.cell? ⟨w.heap.size+1+1+1,3,none⟩=some (.int .i64 ex)∧x.cell? ⟨w.heap.size+1+1+1+1,0,none⟩=some (.bool ny)∧x.cell? ⟨w.heap.size+1+1+1+1,1,none⟩=some (.bool false)∧x.cell? ⟨w.heap.size+1+1+1+1,2,none⟩=some (.slice pb lb cb)∧x.cell? ⟨w.heap.size+1+1+1+1,3,none⟩=some (.int .i64 ey)) (by kernel_rfl) ?_
   have HB:Hid (Below wA.heap.size wA w5.drew):=Lh (Qd HB5.out ((Below.refl _ _).drew))
   clear s0 HB5
   generalize w5.drew=wq at HB ⊢
   have s0:=HS.out _ HB.out
   refine AH.z 0 s0 ?_
   refine AH.z 1 s0 ?_
   refine AH.z 2 s0 ?_
   refine AH.z 3 s0 ?_
   clear s0
   revert HB
   revert wq
   refine' Qaa ?sq21 (fun hsq21=>Qaa ?sq20 (fun hsq20=>Qaa ?sq11 (fun hsq11=>Qaa ?sq10 (fun hsq10=>Qaa ?sq01 (fun hsq01=>?sq00)))))
   case sq00 =>
    intro wq HB
    refine AH.t 4 6 (fun K hK=>?d1Q) (fun K hK=>?d1A)
    case d1Q =>
     go_simp
     refine (HQ.out wq HB.out).mono ?_
     rintro r wn ⟨p4,l4,c4,rfl,kv,hB⟩
     have HBn:=Lh (Qd HB.out hB)
     have FQn:=Lh kv
     refine hK _ _ (HS.out _ HBn.out) ?_
     clear hK K hB kv
     try simp only [Act.put,Zp_]
     clear HB
     revert FQn
     revert HBn
     revert c4
     revert l4
     revert p4
     revert wn
     exact hsq10
    case d1A =>
     go_simp
     have HBn:=Lh (bal HB.out (.cells #[.int .i64 0,.bool false,.int .i32 0,.string ⟨#[]⟩,.int .u32 0,.bool false,.bool false,.bool false] 33))
     have FAn:=Lh (gal wq (.cells #[.int .i64 0,.bool false,.int .i32 0,.string ⟨#[]⟩,.int .u32 0,.bool false,.bool false,.bool false] 33))
     have LAn:=HB.out.size
     refine hK _ _ (HS.out _ HBn.out) ?_
     clear hK K
     try simp only [Act.put,Zp_]
     generalize hg:wq.heap.size=gA at FAn LAn ⊢
     generalize hw:wq.alloc (.cells #[.int .i64 0,.bool false,.int .i32 0,.string ⟨#[]⟩,.int .u32 0,.bool false,.bool false,.bool false] 33)=wn at HBn FAn ⊢
     clear hg hw
     clear HB
     revert LAn
     revert FAn
     revert HBn
     revert gA
     revert wn
     exact hsq01
   case sq01 =>
    intro wq gA HB FA LA
    refine AH.o 4 (fun K hK=>?_)
    go_simp
    refine (HQ.out wq HB.out).mono ?_
    rintro r wn ⟨p4,l4,c4,rfl,kv,hB⟩
    have HBn:=Lh (Qd HB.out hB)
    have FQn:=Lh kv
    have FAn:=Lh (Qb FA.out hB)
    have LAn:=LA
    refine hK _ _ (HS.out _ HBn.out) ?_
    clear hK K hB kv
    try simp only [Act.put,Zp_]
    clear HB FA LA
    revert FQn
    revert LAn
    revert FAn
    revert HBn
    revert c4
    revert l4
    revert p4
    revert gA
    revert wn
    exact hsq11
   case sq10 =>
    intro wq p4 l4 c4 HB FQ
    refine AH.t 5 6 (fun K hK=>?d2F) (fun K hK=>?d2A)
    case d2F =>
     go_simp
     refine (HF.out wq p4 l4 c4 FQ.out).mono ?_
     rintro r wn ⟨rfl,hB⟩
     have HBn:=Lh (Qd HB.out hB)
     refine hK _ _ (HS.out _ HBn.out) ?_
     clear hK K hB
     try simp only [Act.put,Zp_]
     clear HB FQ
     revert HBn
     revert c4
     revert l4
     revert p4
     revert wn
     exact hsq20
    case d2A =>
     go_simp
     have HBn:=Lh (bal HB.out (.cells #[.int .i64 0,.bool false,.int .i32 0,.string ⟨#[]⟩,.int .u32 0,.bool false,.bool false,.bool false] 33))
     have FAn:=Lh (gal wq (.cells #[.int .i64 0,.bool false,.int .i32 0,.string ⟨#[]⟩,.int .u32 0,.bool false,.bool false,.bool false] 33))
     have LAn:=HB.out.size
     have FQn:=Lh (FQ.out.later (Qm wq (.cells #[.int .i64 0,.bool false,.int .i32 0,.string ⟨#[]⟩,.int .u32 0,.bool false,.bool false,.bool false] 33)))
     refine hK _ _ (HS.out _ HBn.out) ?_
     clear hK K
     try simp only [Act.put,Zp_]
     generalize hg:wq.heap.size=gA at FAn LAn ⊢
     generalize hw:wq.alloc (.cells #[.int .i64 0,.bool false,.int .i32 0,.string ⟨#[]⟩,.int .u32 0,.bool false,.bool false,.bool false] 33)=wn at HBn FAn FQn ⊢
     clear hg hw
     clear HB FQ
     revert FQn
     revert LAn
     revert FAn
     revert HBn
     revert c4
     revert l4
     revert p4
     revert gA
     revert wn
     exact hsq11
   case sq11 =>
    intro wq gA p4 l4 c4 HB FA LA FQ
    refine AH.o 5 (fun K hK=>?_)
    go_simp
    refine (HF.out wq p4 l4 c4 FQ.out).mono ?_
    rintro r wn ⟨rfl,hB⟩
    have HBn:=Lh (Qd HB.out hB)
    have FAn:=Lh (Qb FA.out hB)
    have LAn:=LA
    refine hK _ _ (HS.out _ HBn.out) ?_
    clear hK K hB
    try simp only [Act.put,Zp_]
    clear HB FA LA FQ
    revert LAn
    revert FAn
    revert HBn
    revert c4
    revert l4
    revert p4
    revert gA
    revert wn
    exact hsq21
   case sq20 =>
    intro wq p4 l4 c4 HB
    refine AH.o 6 (fun K hK=>?_)
    go_simp
    have HBn:=Lh (bal HB.out (.cells #[.int .i64 0,.bool false,.int .i32 0,.string ⟨#[]⟩,.int .u32 0,.bool false,.bool false,.bool false] 33))
    have FAn:=Lh (gal wq (.cells #[.int .i64 0,.bool false,.int .i32 0,.string ⟨#[]⟩,.int .u32 0,.bool false,.bool false,.bool false] 33))
    have LAn:=HB.out.size
    refine hK _ _ (HS.out _ HBn.out) ?_
    clear hK K
    try simp only [Act.put,Zp_]
    generalize hg:wq.heap.size=gA at FAn LAn ⊢
    generalize hw:wq.alloc (.cells #[.int .i64 0,.bool false,.int .i32 0,.string ⟨#[]⟩,.int .u32 0,.bool false,.bool false,.bool false] 33)=wn at HBn FAn ⊢
    clear hg hw
    clear HB
    revert LAn
    revert FAn
    revert HBn
    revert c4
    revert l4
    revert p4
    revert gA
    revert wn
    exact hsq21
   case sq21 =>
    intro wq gA p4 l4 c4 HB FA LA
    have q0:=Qc FA.out 0 rfl;have q1:=Qc FA.out 1 rfl;have q2:=Qc FA.out 2 rfl;have q3:=Qc FA.out 3 rfl;have q4:=Qc FA.out 4 rfl;have q5:=Qc FA.out 5 rfl;have q6:=Qc FA.out 6 rfl;have q7:=Qc FA.out 7 rfl
    have rf:=(Qe FA.out).2
    have f0:=rf 0;have f1:=rf 1;have f2:=rf 2;have f3:=rf 3;have f4:=rf 4;have f5:=rf 5;have f6:=rf 6;have f7:=rf 7
    clear rf
    have hbs:=Q5F HB.out LA (.int .i64 f') (.bool n') (.int .i32 e') (.string s') (.int .u32 (k':Int)) (.bool a') (.bool false) (.bool c')
    have hgs:=Q88 FA.out (.int .i64 f') (.bool n') (.int .i32 e') (.string s') (.int .u32 (k':Int)) (.bool a') (.bool false) (.bool c')
    unfold set8 at hbs hgs
    have HBs:=Lh hbs;have HGs:=Lh hgs
    clear hbs hgs
    refine AH.o 7 (fun K hK=>?_)
    go_simp
    refine hK _ _ (HS.out _ HBs.out) ?_
    clear hK K q0 q1 q2 q3 q4 q5 q6 q7 f0 f1 f2 f3 f4 f5 f6 f7 HB FA
    try simp only [Act.put,Zp_]
    generalize (((((((wq.setCell ⟨gA,0,none⟩ (.int .i64 f')).setCell ⟨gA,1,none⟩ (.bool n')).setCell ⟨gA,2,none⟩ (.int .i32 e')).setCell ⟨gA,3,none⟩ (.string s')).setCell ⟨gA,4,none⟩ (.int .u32 (k':Int))).setCell ⟨gA,5,none⟩ (.bool a')).setCell ⟨gA,6,none⟩ (.bool false)).setCell ⟨gA,7,none⟩ (.bool c')=ws at HBs HGs ⊢
    refine AH.done (by kernel_rfl) ?_
    have q6:=Qc HGs.out 6 rfl
    have f6:=(Qe HGs.out).2 6
    go_upto_region 26 with (fail)
    have HG2:Hid ((ws.setCell ⟨gA,6,none⟩ (.bool true)).heap[gA]?=some (.cells #[.int .i64 f',.bool n',.int .i32 e',.string s',.int .u32 (k':Int),.bool a',.bool true,.bool c'] 33 (0,0))):=Lh (by
     have:=Qq HGs.out 6 (.bool true)
     simpa using this)
    have HB9:Hid (Below wA.heap.size wA (ws.setCell ⟨gA,6,none⟩ (.bool true))):=Lh (HBs.out.setCell (by exact LA) _)
    clear q6 f6 HBs HGs
    generalize ws.setCell ⟨gA,6,none⟩ (.bool true)=wt at HG2 HB9 ⊢
    have q0:=Qc HG2.out 0 rfl;have q1:=Qc HG2.out 1 rfl;have q2:=Qc HG2.out 2 rfl;have q3:=Qc HG2.out 3 rfl;have q4:=Qc HG2.out 4 rfl;have q5:=Qc HG2.out 5 rfl;have q6:=Qc HG2.out 6 rfl;have q7:=Qc HG2.out 7 rfl
    have hA:=HA.out
    by_cases hk:k' &&& 32=0
    ·rw [if_neg (not_not_intro hk)] at HV
     rw [hk] at hA
     have hz1:((((0:Nat):Int)) == 0)=true:=rfl
     have hz2:((((0:Nat):Int)) != 0)=false:=rfl
     have hrr:=HR.out _ HB9.out
     have r0:=Qc hrr 0 rfl;have r1:=Qc hrr 1 rfl;have r2:=Qc hrr 2 rfl;have r3:=Qc hrr 3 rfl;have r4:=Qc hrr 4 rfl;have r5:=Qc hrr 5 rfl;have r6:=Qc hrr 6 rfl;have r7:=Qc hrr 7 rfl
     have rf:=(Qe hrr).2
     have f0:=rf 0;have f1:=rf 1;have f2:=rf 2;have f3:=rf 3;have f4:=rf 4;have f5:=rf 5;have f6:=rf 6;have f7:=rf 7
     clear rf hrr
     go_wp2_with fail
     have h8:=QD (HR.out _ HB9.out) (.int .i64 f') (.bool n') (.int .i32 e') (.string s') (.int .u32 (k':Int)) (.bool a') (.bool true) (.bool c')
     have hb:=Q5F (Qd HBA.out HB9.out) (B:=w.heap.size+1+1+1+1+1) (by omega) (.int .i64 f') (.bool n') (.int .i32 e') (.string s') (.int .u32 (k':Int)) (.bool a') (.bool true) (.bool c')
     unfold set8 at h8 hb
     exact bodyPost_ret (v:=.agg #[.int .i64 f',.bool n',.int .i32 e',.string s',.int .u32 (k':Int),.bool a',.bool true,.bool c']) (by simp [results,Tryz.results76,go_sem,h8]) rfl ⟨Qz (by rw [HV.out];rfl),hb⟩
    ·rw [if_pos hk] at HV
     generalize k' &&& 32=z at hA hk
     have hz:((z:Int)=0)=False:=by simp;omega
     have hz1:((z:Int) == 0)=false:=by simp;omega
     have hz2:((z:Int) != 0)=true:=by simp;omega
     have hrr:=HR.out _ HB9.out
     have r0:=Qc hrr 0 rfl;have r1:=Qc hrr 1 rfl;have r2:=Qc hrr 2 rfl;have r3:=Qc hrr 3 rfl;have r4:=Qc hrr 4 rfl;have r5:=Qc hrr 5 rfl;have r6:=Qc hrr 6 rfl;have r7:=Qc hrr 7 rfl
     have rf:=(Qe hrr).2
     have f0:=rf 0;have f1:=rf 1;have f2:=rf 2;have f3:=rf 3;have f4:=rf 4;have f5:=rf 5;have f6:=rf 6;have f7:=rf 7
     clear rf hrr
     go_wp2_with fail
     have h8:=QD (HR.out _ HB9.out) (.int .i64 0) (.bool false) (.int .i32 0) (.string ⟨#[]⟩) (.int .u32 0) (.bool false) (.bool false) (.bool false)
     have hb:=Q5F (Qd HBA.out HB9.out) (B:=w.heap.size+1+1+1+1+1) (by omega) (.int .i64 0) (.bool false) (.int .i32 0) (.string ⟨#[]⟩) (.int .u32 0) (.bool false) (.bool false) (.bool false)
     unfold set8 at h8 hb
     exact bodyPost_ret (v:=.agg #[.int .i64 0,.bool false,.int .i32 0,.string ⟨#[]⟩,.int .u32 0,.bool false,.bool false,.bool false]) (by simp [results,Tryz.results76,go_sem,h8]) rfl ⟨Qz (by rw [HV.out];rfl),hb⟩
end Go.Proofs.YtpebcmfpehdafaaGreatDoor
