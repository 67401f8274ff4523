/- a part of the proof -/
import Derived.Test.YtpebcmfpehdafaaGreatDoorZ16
import Derived.Test.YtpebcmfpehdafaaGreatDoorZ25
import Derived.Test.YtpebcmfpehdafaaGreatDoorZ28
set_option linter.all false
set_option maxRecDepth 100000
set_option maxHeartbeats 16000000
namespace Go.Proofs.YtpebcmfpehdafaaGreatDoor
open Go Go.RowKit
theorem Qbb (b:Bool)(a:Nat):cmZ b a b a=0:=by
 unfold cmZ
 cases b
 ·simp;exact Q7O rfl
 ·simp;exact Q7O rfl
theorem QaW {c:Nat}(h:ndg c≤5000):(dgs c).length≤5000:=by
 by_cases q:c=0
 ·rw [q,Qp];exact Nat.zero_le _
 ·rw [Qw _ q];exact h
theorem QaT (p md tr:Nat)(mx mn:Int)(hmd:md<8)(n:Bool)(k:Nat)(hk:k<4096)(h4:k &&& 4≠0)(e:Int)(s:ByteArray)(w:World) :
  Calls Tryz.prog 34 #[CV p mx mn tr md,RsV 1 n 0 ⟨#[]⟩ 4 true true true,DV 1 n e s,.int .u32 (k:Int)] w fun r w'=>r=.returned (.bool true)∧Below w.heap.size w w':=by
 have HB:=Lh (fun o=>Qm w o)
 have HB':=Lh (fun o o' o''=>bal (bal (Qm w o) o') o'')
 have hA:bits .and .u32 (k:Int) 4=((k &&& 4:Nat):Int):=Q1V k 4 hk (by decide)
 generalize k &&& 4=z at hA h4
 have hz:((z:Int)=0)=False:=by simp;omega
 have hz1:((z:Int) == 0)=false:=by simp;omega
 have hz2:((z:Int) != 0)=true:=by simp;omega
 clear hk h4
 unfold CV RsV DV
 rcases (show md=0∨md=1∨md=2∨md=3∨md=4∨md=5∨md=6∨md=7 by omega) with rfl | rfl | rfl | rfl | rfl | rfl | rfl | rfl
 all_goals
  cases n
  all_goals
   go_enter Tryz.func34, Tryz.ntmps34
   go_wp2_with fail
   go_ret
   exact ⟨rfl,HB'.out _ _ _⟩
theorem Qbc (p md tr:Nat)(mx mn:Int)(n:Bool)(k k2:Nat)(e e2:Int)(c c2:Nat)(hv:sameV e c e2 c2)(hk:orN k 64=orN k2 64)(hk1:k<4096)(hk2:k2<4096)(he : -2000≤e∧e≤2000)(he2 : -2000≤e2∧e2≤2000)(hc:ndg c≤200)(hc2:ndg c2≤200)(w:World) :
  Calls Tryz.prog 34 #[CV p mx mn tr md,RsV 0 n e (txS c) k true true false,DV 0 n e2 (txS c2),.int .u32 (k2:Int)] w fun r w'=>r=.returned (.bool true)∧Below w.heap.size w w':=by
 obtain ⟨wA,hwA⟩:∃ wA,wA=((w.alloc (.cells #[.int .u32 (p:Int),.int .i32 mx,.int .i32 mn,.int .u32 (tr:Int),.int .i64 (md:Int)] 24)).alloc (.cells #[.int .i64 0,.bool n,.int .i32 e,.string (txS c),.int .u32 (k:Int),.bool true,.bool true,.bool false] 33)).alloc (.cells #[.int .i64 0,.bool n,.int .i32 e2,.string (txS c2)] 26):=⟨_,rfl⟩
 have HBA:Hid (Below w.heap.size w wA):=Lh (by rw [hwA];exact Q3N [.cells #[.int .u32 (p:Int),.int .i32 mx,.int .i32 mn,.int .u32 (tr:Int),.int .i64 (md:Int)] 24,.cells #[.int .i64 0,.bool n,.int .i32 e,.string (txS c),.int .u32 (k:Int),.bool true,.bool true,.bool false] 33,.cells #[.int .i64 0,.bool n,.int .i32 e2,.string (txS c2)] 26] w)
 have g1:wA.heap[w.heap.size+1]?=some (.cells #[.int .i64 0,.bool n,.int .i32 e,.string (txS c),.int .u32 (k:Int),.bool true,.bool true,.bool false] 33 (0,0)):=by rw [hwA];exact Q6k [.cells #[.int .u32 (p:Int),.int .i32 mx,.int .i32 mn,.int .u32 (tr:Int),.int .i64 (md:Int)] 24,.cells #[.int .i64 0,.bool n,.int .i32 e,.string (txS c),.int .u32 (k:Int),.bool true,.bool true,.bool false] 33,.cells #[.int .i64 0,.bool n,.int .i32 e2,.string (txS c2)] 26] w 1 _ rfl
 have g2:wA.heap[w.heap.size+1+1]?=some (.cells #[.int .i64 0,.bool n,.int .i32 e2,.string (txS c2)] 26 (0,0)):=by rw [hwA];exact Q6k [.cells #[.int .u32 (p:Int),.int .i32 mx,.int .i32 mn,.int .u32 (tr:Int),.int .i64 (md:Int)] 24,.cells #[.int .i64 0,.bool n,.int .i32 e,.string (txS c),.int .u32 (k:Int),.bool true,.bool true,.bool false] 33,.cells #[.int .i64 0,.bool n,.int .i32 e2,.string (txS c2)] 26] w 2 _ rfl
 have HS:Hid (∀ w2,Below wA.heap.size wA w2→w2.cell? ⟨w.heap.size+1,0,none⟩=some (.int .i64 0)∧w2.cell? ⟨w.heap.size+1,1,none⟩=some (.bool n)∧w2.cell? ⟨w.heap.size+1,2,none⟩=some (.int .i32 e)∧w2.cell? ⟨w.heap.size+1,3,none⟩=some (.string (txS c))∧w2.cell? ⟨w.heap.size+1,4,none⟩=some (.int .u32 (k:Int))∧w2.cell? ⟨w.heap.size+1,5,none⟩=some (.bool true)∧w2.cell? ⟨w.heap.size+1,6,none⟩=some (.bool true)∧w2.cell? ⟨w.heap.size+1,7,none⟩=some (.bool false)∧w2.cell? ⟨w.heap.size+1+1,0,none⟩=some (.int .i64 0)∧w2.cell? ⟨w.heap.size+1+1,1,none⟩=some (.bool n)∧w2.cell? ⟨w.heap.size+1+1,2,none⟩=some (.int .i32 e2)∧w2.cell? ⟨w.heap.size+1+1,3,none⟩=some (.string (txS c2))):=Lh (fun w2 h=>by
  have k1:=Qb g1 h;have k2:=Qb g2 h
  exact ⟨Qc k1 0 rfl,Qc k1 1 rfl,Qc k1 2 rfl,Qc k1 3 rfl,Qc k1 4 rfl,Qc k1 5 rfl,Qc k1 6 rfl,Qc k1 7 rfl,Qc k2 0 rfl,Qc k2 1 rfl,Qc k2 2 rfl,Qc k2 3 rfl⟩)
 have HF1:Hid (∀ w2,Calls Tryz.prog 12 #[.agg #[.int .i64 0,.bool n,.int .i32 e,.string (txS c)]] w2 fun r w'=>∃ p1 l1 c1,r=.returned (.agg #[.bool n,.bool false,.slice p1 l1 c1,.int .i64 e])∧FinV w' (.agg #[.bool n,.bool false,.slice p1 l1 c1,.int .i64 e]) n c e∧Below w2.heap.size w2 w'):=Lh (fun w2=>by
  have h:=Q1S 0 n e (txS c) (by rw [Q57];omega) (Q7l c) (by omega) w2
  rw [Q9B] at h
  refine h.mono ?_
  rintro r w' ⟨v',rfl,⟨s,rfl,d⟩,hB⟩
  obtain ⟨p1,c1,rfl,_⟩:=id d
  exact ⟨p1,_,c1,rfl,⟨_,rfl,d⟩,hB⟩)
 have HF2:Hid (∀ w2,Calls Tryz.prog 12 #[.agg #[.int .i64 0,.bool n,.int .i32 e2,.string (txS c2)]] w2 fun r w'=>∃ p1 l1 c1,r=.returned (.agg #[.bool n,.bool false,.slice p1 l1 c1,.int .i64 e2])∧FinV w' (.agg #[.bool n,.bool false,.slice p1 l1 c1,.int .i64 e2]) n c2 e2∧Below w2.heap.size w2 w'):=Lh (fun w2=>by
  have h:=Q1S 0 n e2 (txS c2) (by rw [Q57];omega) (Q7l c2) (by omega) w2
  rw [Q9B] at h
  refine h.mono ?_
  rintro r w' ⟨v',rfl,⟨s,rfl,d⟩,hB⟩
  obtain ⟨p1,c1,rfl,_⟩:=id d
  exact ⟨p1,_,c1,rfl,⟨_,rfl,d⟩,hB⟩)
 have HO:Hid (∀ w2 u v,FinV w2 u n c e→FinV w2 v n c2 e2→Calls Tryz.prog 78 #[u,v] w2 fun r w'=>r=.returned (.int .i64 0)∧Below w2.heap.size w2 w'):=Lh (fun w2 u v h1 h2=>by
  have h:=Qb7 h1 h2 (by omega) (by omega) (QaW (by omega)) (QaW (by omega))
  rw [show c*10^(e - min e e2).toNat=c2*10^(e2 - min e e2).toNat from hv,Qbb] at h
  exact h)
 obtain ⟨K64,hK⟩:∃ K,K=orN k 64:=⟨_,rfl⟩
 have a1:bits .or .u32 (k:Int) 64=(K64:Int):=by rw [hK];exact Qr k 64 hk1 (by decide)
 have a2:bits .or .u32 (k2:Int) 64=(K64:Int):=by rw [hK,hk];exact Qr k2 64 hk2 (by decide)
 have a3:((K64:Int) == (K64:Int))=true:=by simp
 have a4:(n == n)=true:=by cases n <;> rfl
 clear g1 g2 hv hk hK hk1 hk2 he he2 hc hc2
 generalize txS c=sx at *
 generalize txS c2=sy at *
 unfold CV RsV DV
 obtain ⟨r0,r1,r2,r3,r4,r5,r6,r7,d0,d1,d2,d3⟩:=HS.out _ (Below.refl _ _)
 go_enter Tryz.func34, Tryz.ntmps34
 go_upto_region 1 with (fail)
 rw [← hwA]
 clear hwA
 go_upto_region 5 with (fail)
 refine AH.start (fun x=>x.cell? ⟨w.heap.size+1,0,none⟩=some (.int .i64 0)∧x.cell? ⟨w.heap.size+1,1,none⟩=some (.bool n)∧x.cell? ⟨w.heap.size+1,2,none⟩=some (.int .i32 e)∧x.cell? ⟨w.heap.size+1,3,none⟩=some (.string sx)∧x.cell? ⟨w.heap.size+1,4,none⟩=some (.int .u32 (k:Int))∧x.cell? ⟨w.heap.size+1,5,none⟩=some (.bool true)∧x.cell? ⟨w.heap.size+1,6,none⟩=some (.bool true)∧x.cell? ⟨w.heap.size+1,7,none⟩=some (.bool false)∧x.cell? ⟨w.heap.size+1+1,0,none⟩=some (.int .i64 0)∧x.cell? ⟨w.heap.size+1+1,1,none⟩=some (.bool n)∧x.cell? ⟨w.heap.size+1+1,2,none⟩=some (.int .i32 e2)∧x.cell? ⟨w.heap.size+1+1,3,none⟩=some (.string sy)) (by kernel_rfl) ?_
 have HB0:Hid (Below wA.heap.size wA wA.drew):=Lh ((Below.refl _ _).drew)
 clear r0 r1 r2 r3 r4 r5 r6 r7 d0 d1 d2 d3
 generalize wA.drew=w0 at HB0 ⊢
 refine AH.z 0 (HS.out _ HB0.out) ?_
 refine AH.z 1 (HS.out _ HB0.out) ?_
 refine AH.z 2 (HS.out _ HB0.out) ?_
 refine AH.z 3 (HS.out _ HB0.out) ?_
 refine AH.z 4 (HS.out _ HB0.out) ?_
 refine AH.z 5 (HS.out _ HB0.out) ?_
 refine AH.z 7 (HS.out _ HB0.out) ?_
 refine AH.o 6 (fun K hK=>?_)
 go_simp
 refine (HF1.out w0).mono ?_
 rintro r w1 ⟨p1,l1,c1,rfl,f1,hB⟩
 have HB1:=Lh (Qd HB0.out hB);have F1:=Lh f1
 refine hK _ _ (HS.out _ HB1.out) ?_
 clear hK K hB f1 HB0
 try simp only [Act.put,Zp_]
 refine AH.o 8 (fun K hK=>?_)
 go_simp
 refine (HF2.out w1).mono ?_
 rintro r w2 ⟨p2,l2,c3,rfl,f2,hB⟩
 have HB2:=Lh (Qd HB1.out hB);have F12:=Lh (F1.out.later hB);have F2:=Lh f2
 refine hK _ _ (HS.out _ HB2.out) ?_
 clear hK K hB f2 HB1 F1
 try simp only [Act.put,Zp_]
 refine AH.o 9 (fun K hK=>?_)
 go_simp
 refine (HO.out w2 _ _ F12.out F2.out).mono ?_
 rintro r w3 ⟨rfl,hB⟩
 have HB3:=Lh (Qd HB2.out hB)
 refine hK _ _ (HS.out _ HB3.out) ?_
 clear hK K hB HB2 F12 F2
 try simp only [Act.put,Zp_]
 refine AH.z 10 (HS.out _ HB3.out) ?_
 refine AH.z 11 (HS.out _ HB3.out) ?_
 refine AH.z 12 (HS.out _ HB3.out) ?_
 refine AH.z 13 (HS.out _ HB3.out) ?_
 refine AH.z 14 (HS.out _ HB3.out) ?_
 refine AH.z 15 (HS.out _ HB3.out) ?_
 refine AH.z 16 (HS.out _ HB3.out) ?_
 refine AH.z 17 (HS.out _ HB3.out) ?_
 refine AH.z 18 (HS.out _ HB3.out) ?_
 refine AH.z 19 (HS.out _ HB3.out) ?_
 refine AH.z 20 (HS.out _ HB3.out) ?_
 refine AH.z 21 (HS.out _ HB3.out) ?_
 refine AH.z 22 (HS.out _ HB3.out) ?_
 refine AH.z 23 (HS.out _ HB3.out) ?_
 refine AH.z 24 (HS.out _ HB3.out) ?_
 refine AH.z 25 (HS.out _ HB3.out) ?_
 refine AH.z 26 (HS.out _ HB3.out) ?_
 refine AH.z 27 (HS.out _ HB3.out) ?_
 refine AH.z 28 (HS.out _ HB3.out) ?_
 refine AH.done (by kernel_rfl) ?_
 go_wp2_with fail
 go_ret
 exact ⟨rfl,Qd HBA.out HB3.out⟩
end Go.Proofs.YtpebcmfpehdafaaGreatDoor
