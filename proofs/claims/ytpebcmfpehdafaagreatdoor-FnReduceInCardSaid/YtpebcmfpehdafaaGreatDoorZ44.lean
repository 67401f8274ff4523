/- a part of the proof -/
import Derived.Test.YtpebcmfpehdafaaGreatDoorZ31
import Derived.Test.YtpebcmfpehdafaaGreatDoorZ33
import Derived.Test.YtpebcmfpehdafaaGreatDoorZ43
set_option linter.all false
set_option maxRecDepth 100000
set_option maxHeartbeats 16000000
namespace Go.Proofs.YtpebcmfpehdafaaGreatDoor
open Go Go.RowKit
theorem Q7n (r:SR):∃ f n e s k a c,SRV r=RsV f n e s k a false c∧(a=true→c=false→k=0→r.known=true∧r.over=false∧r.d.k=0):=by
 unfold SRV
 by_cases hk:r.known=true
 ·rw [if_pos hk]
  by_cases ho:r.over=true
  ·rw [if_pos ho];exact ⟨_,_,_,_,_,_,_,rfl,fun _ h=>by cases h⟩
  ·rw [if_neg ho];exact ⟨_,_,_,_,_,_,_,rfl,fun _ _ h=>⟨hk,by simpa using ho,h⟩⟩
 ·rw [if_neg hk];exact ⟨_,_,_,_,_,_,_,rfl,fun h=>by cases h⟩
theorem fn_reduce {w:World}(hW:GW w){Tv:TypeId}{av:Value}(hE:EOFv w Tv av)(p mx mn tr md fx:Int)(nx:Bool)(ex:Int)(sx:ByteArray)(al:Bool)
  (hp:0≤p) (htr:0≤tr∧tr<4294967296) (hex : -2147483648≤ex∧ex≤2147483647) :
  Calls Tryz.prog 3 #[CV p mx mn tr md,DV fx nx ex sx,.bool al] w fun r w'=>r=.returned (.bool true)∧Below w.heap.size w w':=by
 have HAl:Hid (∀ w2,Below w.heap.size w w2→Calls Tryz.prog 9 #[] w2 fun r w'=>r=.returned (.bool true)∧Below w2.heap.size w2 w'):=Lh (fun w2 h=>Q8F (hW.later h) (hE.next h))
 have HFX:Hid (∀ w2,Calls Tryz.prog 7 #[.agg #[.int .i64 fx,.bool nx,.int .i32 ex,.string sx]] w2 (Says (sx.size≤2147483647) w2)):=Lh (fun w2=>Q8C fx nx ex sx w2)
 have HO:Hid (sx.size≤2147483647→∀ w2,Calls Tryz.prog 8 #[.agg #[.int .u32 p,.int .i32 mx,.int .i32 mn,.int .u32 tr,.int .i64 md],.agg #[.int .i64 fx,.bool nx,.int .i32 ex,.string sx],.agg #[.int .i64 fx,.bool nx,.int .i32 ex,.string sx]] w2 (Says (CtxOk p mx mn md∧ArOk 200 fx ex sx∧ArOk 200 fx ex sx) w2)):=Lh (fun h1 w2=>Q58 p mx mn tr md fx nx ex sx fx nx ex sx hex h1 hex h1 w2)
 obtain ⟨wA,hwA⟩:∃ wA,wA=(w.alloc (.cells #[.int .u32 p,.int .i32 mx,.int .i32 mn,.int .u32 tr,.int .i64 md] 24)).alloc (.cells #[.int .i64 fx,.bool nx,.int .i32 ex,.string sx] 26):=⟨_,rfl⟩
 have HBA:Hid (Below w.heap.size w wA):=Lh (by rw [hwA];exact Q3N [.cells #[.int .u32 p,.int .i32 mx,.int .i32 mn,.int .u32 tr,.int .i64 md] 24,.cells #[.int .i64 fx,.bool nx,.int .i32 ex,.string sx] 26] w)
 have hg1:wA.heap[w.heap.size]?=some (.cells #[.int .u32 p,.int .i32 mx,.int .i32 mn,.int .u32 tr,.int .i64 md] 24 (0,0)):=by rw [hwA];exact Q6k [.cells #[.int .u32 p,.int .i32 mx,.int .i32 mn,.int .u32 tr,.int .i64 md] 24,.cells #[.int .i64 fx,.bool nx,.int .i32 ex,.string sx] 26] w 0 _ rfl
 have hg2:wA.heap[w.heap.size+1]?=some (.cells #[.int .i64 fx,.bool nx,.int .i32 ex,.string sx] 26 (0,0)):=by rw [hwA];exact Q6k [.cells #[.int .u32 p,.int .i32 mx,.int .i32 mn,.int .u32 tr,.int .i64 md] 24,.cells #[.int .i64 fx,.bool nx,.int .i32 ex,.string sx] 26] w 1 _ rfl
 have HLA:Hid (wA.heap.size=w.heap.size+2):=Lh (by rw [hwA];exact Q87 [.cells #[.int .u32 p,.int .i32 mx,.int .i32 mn,.int .u32 tr,.int .i64 md] 24,.cells #[.int .i64 fx,.bool nx,.int .i32 ex,.string sx] 26] w)
 have HC:Hid (∀ w2,Below wA.heap.size wA w2→w2.cell? ⟨w.heap.size,0,none⟩=some (.int .u32 p)∧w2.cell? ⟨w.heap.size,1,none⟩=some (.int .i32 mx)∧w2.cell? ⟨w.heap.size,2,none⟩=some (.int .i32 mn)∧w2.cell? ⟨w.heap.size,3,none⟩=some (.int .u32 tr)∧w2.cell? ⟨w.heap.size,4,none⟩=some (.int .i64 md)∧w2.cell? ⟨w.heap.size+1,0,none⟩=some (.int .i64 fx)∧w2.cell? ⟨w.heap.size+1,1,none⟩=some (.bool nx)∧w2.cell? ⟨w.heap.size+1,2,none⟩=some (.int .i32 ex)∧w2.cell? ⟨w.heap.size+1,3,none⟩=some (.string sx)):=Lh (fun w2 h=>by
  have k1:=Qb hg1 h;have k2:=Qb hg2 h
  exact ⟨(Qe k1).1 0,(Qe k1).1 1,(Qe k1).1 2,(Qe k1).1 3,(Qe k1).1 4,(Qe k2).1 0,(Qe k2).1 1,(Qe k2).1 2,(Qe k2).1 3⟩)
 have HW:=Lh hW;have HEo:=Lh hE;have HTr:=Lh htr;have HP:=Lh hp
 unfold CV DV
 clear hW hE hp htr hex hg1 hg2
 obtain ⟨c0,c1,c2,c3,c4,x0,x1,x2,x3⟩:=HC.out _ (Below.refl _ _)
 go_enter Tryz.func3, Tryz.ntmps3
 go_upto_region 1 with (fail)
 rw [← hwA]
 clear hwA
 go_wp2_with fail
 refine (HFX.out _).mono ?_
 rintro r w1 ⟨b1,rfl,hb1,hB⟩
 have HB1:=Lh hB
 have HT1:=Lh hb1
 clear hB hb1 c0 c1 c2 c3 c4 x0 x1 x2 x3
 cases b1
 ·go_wp2_with fail
  go_ret
  exact ⟨rfl,Qd HBA.out HB1.out⟩
 ·obtain ⟨c0,c1,c2,c3,c4,x0,x1,x2,x3⟩:=HC.out _ HB1.out
  go_wp2_with fail
  refine (HO.out (HT1.out.1 trivial) _).mono ?_
  rintro r w2 ⟨b2,rfl,hb2,hB⟩
  have HB2:=Lh (Qd HB1.out hB)
  have HT2:=Lh hb2
  clear hB hb2 c0 c1 c2 c3 c4 x0 x1 x2 x3 HB1
  cases b2
  ·go_wp2_with fail
   refine (HAl.out _ (Qd HBA.out HB2.out)).mono ?_
   rintro r wz ⟨rfl,hB⟩
   have HBz:=Lh (Qd HBA.out (Qd HB2.out hB))
   clear hB
   go_wp2_with fail
   go_ret
   exact ⟨rfl,HBz.out⟩
  ·obtain ⟨c0,c1,c2,c3,c4,x0,x1,x2,x3⟩:=HC.out _ HB2.out
   obtain ⟨⟨kp,km1,km2,kn1,kn2,kd1,kd2⟩,hx,_⟩:=HT2.out.1 rfl
   by_cases hf:fx=0
   rotate_left
   ·have hf1:(fx != 0)=true:=by simpa using hf
    have hf2:(fx == 0)=false:=by simpa using hf
    clear hf hx
    go_wp2_with fail
    refine (HAl.out _ (Qd HBA.out HB2.out)).mono ?_
    rintro r wz ⟨rfl,hB⟩
    have HBz:=Lh (Qd HBA.out (Qd HB2.out hB))
    clear hB
    go_wp2_with fail
    go_ret
    exact ⟨rfl,HBz.out⟩
   ·subst hf
    by_cases hp0:p=0
    ·have hp1:(p == 0)=true:=by simpa using hp0
     clear hx
     go_wp2_with fail
     refine (HAl.out _ (Qd HBA.out HB2.out)).mono ?_
     rintro r wz ⟨rfl,hB⟩
     have HBz:=Lh (Qd HBA.out (Qd HB2.out hB))
     clear hB
     go_wp2_with fail
     go_ret
     exact ⟨rfl,HBz.out⟩
    ·have hp1:(p == 0)=false:=by simpa using hp0
     have hpw:IntKind.i64.wrap p=p:=IntWalk.i64_in p (by have:=HP.out;omega)
     by_cases hsz:p<(sx.size:Int)
     ·have hs1:decide (p<(sx.size:Int))=true:=decide_eq_true hsz
      clear hx
      go_wp2_with fail
      refine (HAl.out _ (Qd HBA.out HB2.out)).mono ?_
      rintro r wz ⟨rfl,hB⟩
      have HBz:=Lh (Qd HBA.out (Qd HB2.out hB))
      clear hB
      go_wp2_with fail
      go_ret
      exact ⟨rfl,HBz.out⟩
     ·have hs1:decide (p<(sx.size:Int))=false:=decide_eq_false hsz
      obtain ⟨hx1,hx2,hx3,hx4,_,_⟩:=hx.canon (by decide)
      obtain ⟨p',rfl⟩:=Int.eq_ofNat_of_zero_le HP.out
      obtain ⟨tr',rfl⟩:=Int.eq_ofNat_of_zero_le HTr.out.1
      obtain ⟨md',rfl⟩:=Int.eq_ofNat_of_zero_le kd1
      have hv:=hx1.val_lt hx2
      have hxl:=hx1.len
      obtain ⟨c',z,hst⟩:∃ c' z,strp (vl (sdL sx 0))=(c',z):=⟨_,_,rfl⟩
      obtain ⟨e2,he2⟩:∃ e2:Int,e2=if vl (sdL sx 0)=0 then 0 else ex+z:=⟨_,rfl⟩
      have hcz:c'≤vl (sdL sx 0)∧z≤40:=by
       by_cases q:vl (sdL sx 0)=0
       ·rw [q,QW (by omega)] at hst
        cases hst
        exact ⟨Nat.zero_le _,by decide⟩
       ·have h1:=Q2I q
        rw [hst] at h1
        have h2:=Q09 (k:=40) (by decide) hv
        exact ⟨h1.1,by have:=h1.2;simp only at this;omega⟩
      have he2b : -300≤e2∧e2≤300:=by rw [he2];split <;> omega
      have hcl:(dgs c').length≤10000:=Nat.le_trans (QR hcz.1) (by omega)
      have HSt:Hid (∀ w2,Calls Tryz.prog 10 #[.agg #[.int .i64 0,.bool nx,.int .i32 ex,.string sx]] w2 fun r w'=>r=.returned (.tuple #[.agg #[.int .i64 0,.bool nx,.int .i32 e2,.string (txS c')],.int .i64 (z:Int)])∧Below w2.heap.size w2 w'):=Lh (fun w2=>by
       by_cases q:vl (sdL sx 0)=0
       ·rw [q,QW (by omega)] at hst
        cases hst
        rw [if_pos q] at he2
        rw [he2]
        exact Q3u nx ex sx hx q w2
       ·have h1:=Q4s nx ex sx hx q w2
        rw [hst] at h1
        rw [if_neg q] at he2
        rw [he2]
        exact h1)
      have HFw:Hid (∀ w2,Calls Tryz.prog 12 #[.agg #[.int .i64 0,.bool nx,.int .i32 e2,.string (txS c')]] w2 fun r w'=>∃ v',r=.returned v'∧FinV w' v' nx c' e2∧Below w2.heap.size w2 w'):=Lh (fun w2=>by
       have h1:=Q1S 0 nx e2 (txS c') (by rw [Q57];exact Nat.le_trans (Q09 (k:=40) (by decide) (Nat.lt_of_le_of_lt hcz.1 hv)) (by decide)) (Q7l c') (by omega) w2
       rw [Q9B] at h1
       exact h1)
      have HFx2:Hid (∀ w2,Calls Tryz.prog 12 #[.agg #[.int .i64 0,.bool nx,.int .i32 ex,.string sx]] w2 fun r w'=>∃ v',r=.returned v'∧FinV w' v' nx (vl (sdL sx 0)) ex∧Below w2.heap.size w2 w'):=Lh (fun w2=>Q1S 0 nx ex sx (by omega) hx1 (by omega) w2)
      have HN1:Hid (∀ w2 v,FinV w2 v nx c' e2→Calls Tryz.prog 11 #[.agg #[.int .u32 (p':Int),.int .i32 mx,.int .i32 mn,.int .u32 (tr':Int),.int .i64 (md':Int)],v,.int .u32 0] w2 fun r w'=>r=.returned (SRV (finS p' mx mn md' nx e2 c'))∧Below w2.heap.size w2 w'):=Lh (fun w2 v h=>Q4W p' md' tr' mx mn (by omega) ⟨km1,km2⟩ ⟨kn1,kn2⟩ (by omega) h (by omega) hcl)
      have HN2:Hid (∀ w2 v,FinV w2 v nx (vl (sdL sx 0)) ex→Calls Tryz.prog 11 #[.agg #[.int .u32 (p':Int),.int .i32 mx,.int .i32 mn,.int .u32 (tr':Int),.int .i64 (md':Int)],v,.int .u32 0] w2 fun r w'=>r=.returned (SRV (finS p' mx mn md' nx ex (vl (sdL sx 0))))∧Below w2.heap.size w2 w'):=Lh (fun w2 v h=>Q4W p' md' tr' mx mn (by omega) ⟨km1,km2⟩ ⟨kn1,kn2⟩ (by omega) h (by omega) (by omega))
      have HRd:Hid ((finS p' mx mn md' nx e2 c').known=true∧(finS p' mx mn md' nx e2 c').over=false∧(finS p' mx mn md' nx e2 c').d.k=0→∀ w2,Below w.heap.size w w2→Calls Tryz.prog 13 #[.agg #[.int .u32 (p':Int),.int .i32 mx,.int .i32 mn,.int .u32 (tr':Int),.int .i64 (md':Int)],.agg #[.int .i64 0,.bool nx,.int .i32 ex,.string sx],.bool al] w2 fun r w'=>r=.returned (.tuple #[.agg #[.int .i64 0,.bool nx,.int .i32 e2,.string (txS c')],.int .i64 (z:Int),.int .u32 0,.bool false])∧Below w2.heap.size w2 w'):=Lh (fun ⟨q1,q2,q3⟩ w2 h2=>Q5Q (HW.out.later h2) (HEo.out.next h2) p' md' tr' mx mn (by omega) ⟨km1,km2⟩ ⟨kn1,kn2⟩ (by omega) (by have:=HTr.out;omega) nx ex sx ⟨hx1,hx2⟩ ⟨hx4,hx3⟩ al c' z e2 hst he2 q1 q2 q3)
      obtain ⟨f',n',e',s',k',a',c'',hR1,hfl⟩:=Q7n (finS p' mx mn md' nx e2 c')
      obtain ⟨f3,n3,e3,s3,k3,a3,b3,c3',hR2⟩:=Q8e (finS p' mx mn md' nx ex (vl (sdL sx 0)))
      rw [hR1] at HN1
      rw [hR2] at HN2
      unfold RsV at HN1 HN2
      replace HRd:Hid (a'=true→c''=false→k'=0→_):=Lh (fun h1 h2 h3=>HRd.out (hfl h1 h2 h3))
      clear hx hx1 hx2 hx3 hx4 hv hxl hst he2 hcz he2b hcl hfl hR1 hR2 kp km1 km2 kn1 kn2 kd1 kd2 HT1 HT2 HO HFX hsz hp0
      generalize vl (sdL sx 0)=cx at HFx2 HN2
      generalize txS c'=tx at HSt HFw HRd
      generalize (p':Int)=p at *
      generalize (tr':Int)=tr at *
      generalize (md':Int)=md at *
      go_wp2_with fail
      refine (HSt.out _).mono ?_
      rintro r w3 ⟨rfl,hB⟩
      have HB3:=Lh (Qd HB2.out hB)
      clear hB c0 c1 c2 c3 c4 x0 x1 x2 x3 HB2 HSt
      go_upto_region 6 with (fail)
      have HLw:Hid (wA.heap.size≤w3.heap.size):=Lh HB3.out.size
      have HB4:=Lh (bal HB3.out (.cells #[.int .i64 0,.bool nx,.int .i32 e2,.string tx] 26))
      have HW4:=Lh (gal w3 (.cells #[.int .i64 0,.bool nx,.int .i32 e2,.string tx] 26))
      generalize hgw:w3.heap.size=gw at HW4 HLw ⊢
      generalize hw4:w3.alloc (.cells #[.int .i64 0,.bool nx,.int .i32 e2,.string tx] 26)=w4 at HB4 HW4 ⊢
      clear hgw hw4 HB3
      have t0:=Qc HW4.out 0 rfl;have t1:=Qc HW4.out 1 rfl;have t2:=Qc HW4.out 2 rfl;have t3:=Qc HW4.out 3 rfl
      obtain ⟨c0,c1,c2,c3,c4,x0,x1,x2,x3⟩:=HC.out _ HB4.out
      refine AH.start (fun x=>(x.cell? ⟨w.heap.size,0,none⟩=some (.int .u32 p)∧x.cell? ⟨w.heap.size,1,none⟩=some (.int .i32 mx)∧x.cell? ⟨w.heap.size,2,none⟩=some (.int .i32 mn)∧x.cell? ⟨w.heap.size,3,none⟩=some (.int .u32 tr)∧x.cell? ⟨w.heap.size,4,none⟩=some (.int .i64 md)∧x.cell? ⟨w.heap.size+1,0,none⟩=some (.int .i64 0)∧x.cell? ⟨w.heap.size+1,1,none⟩=some (.bool nx)∧x.cell? ⟨w.heap.size+1,2,none⟩=some (.int .i32 ex)∧x.cell? ⟨w.heap.size+1,3,none⟩=some (.string sx))∧x.cell? ⟨gw,0,none⟩=some (.int .i64 0)∧x.cell? ⟨gw,1,none⟩=some (.bool nx)∧x.cell? ⟨gw,2,none⟩=some (.int .i32 e2)∧x.cell? ⟨gw,3,none⟩=some (.string tx)) (by kernel_rfl) ?_
      have hd:Below w4.heap.size w4 w4.drew:=(Below.refl _ _).drew
      replace HB4:=Lh (Qd HB4.out hd);replace HW4:=Lh (Qb HW4.out hd)
      clear hd c0 c1 c2 c3 c4 x0 x1 x2 x3 t0 t1 t2 t3
      generalize w4.drew=w5 at HB4 HW4 ⊢
      have HS:Hid (∀ w2,Below wA.heap.size wA w2→w2.heap[gw]?=some (.cells #[.int .i64 0,.bool nx,.int .i32 e2,.string tx] 26 (0,0))→(w2.cell? ⟨w.heap.size,0,none⟩=some (.int .u32 p)∧w2.cell? ⟨w.heap.size,1,none⟩=some (.int .i32 mx)∧w2.cell? ⟨w.heap.size,2,none⟩=some (.int .i32 mn)∧w2.cell? ⟨w.heap.size,3,none⟩=some (.int .u32 tr)∧w2.cell? ⟨w.heap.size,4,none⟩=some (.int .i64 md)∧w2.cell? ⟨w.heap.size+1,0,none⟩=some (.int .i64 0)∧w2.cell? ⟨w.heap.size+1,1,none⟩=some (.bool nx)∧w2.cell? ⟨w.heap.size+1,2,none⟩=some (.int .i32 ex)∧w2.cell? ⟨w.heap.size+1,3,none⟩=some (.string sx))∧w2.cell? ⟨gw,0,none⟩=some (.int .i64 0)∧w2.cell? ⟨gw,1,none⟩=some (.bool nx)∧w2.cell? ⟨gw,2,none⟩=some (.int .i32 e2)∧w2.cell? ⟨gw,3,none⟩=some (.string tx)):=Lh (fun w2 h g=>⟨HC.out _ h,Qc g 0 rfl,Qc g 1 rfl,Qc g 2 rfl,Qc g 3 rfl⟩)
      have s0:=HS.out _ HB4.out HW4.out
      refine AH.z 0 s0 ?_
      refine AH.z 1 s0 ?_
      clear s0
      refine AH.t 2 4 (fun K hK=>?ma) (fun K hK=>?mb)
      case' ma =>
       go_simp
       refine (HFw.out w5).mono ?_
       rintro r wa ⟨v1,rfl,hv1,hB⟩
       have HBa:=Lh (Qd HB4.out hB);have HWa:=Lh (Qb HW4.out hB);have HVa:=Lh hv1
       refine hK _ _ (HS.out _ HBa.out HWa.out) ?_
       clear hK K hB hv1
       try simp only [Act.put,Zp_]
       refine AH.t 3 4 (fun K hK=>?mc) (fun K hK=>?md)
      case' mc =>
       go_simp
       refine (HN1.out wa _ HVa.out).mono ?_
       rintro r wb ⟨rfl,hB⟩
       have HBb:=Lh (Qd HBa.out hB);have HWb:=Lh (Qb HWa.out hB)
       refine hK _ _ (HS.out _ HBb.out HWb.out) ?_
       clear hK K hB
       try simp only [Act.put,Zp_]
       refine AH.o 4 (fun K hK=>?_)
       go_simp
       have HBf:=Lh (bal HBb.out (.cells #[.int .i64 0,.bool false,.int .i32 0,.string ⟨#[]⟩,.int .u32 0,.bool false,.bool false,.bool false] 33));have HWf:=Lh (Qb HWb.out (Qm wb (.cells #[.int .i64 0,.bool false,.int .i32 0,.string ⟨#[]⟩,.int .u32 0,.bool false,.bool false,.bool false] 33)));have HRf:=Lh (gal wb (.cells #[.int .i64 0,.bool false,.int .i32 0,.string ⟨#[]⟩,.int .u32 0,.bool false,.bool false,.bool false] 33))
       have HLf:Hid (wA.heap.size≤wb.heap.size∧wb.heap.size≠gw):=Lh ⟨HBb.out.size,by have:=(Array.getElem?_eq_some_iff.1 HWb.out).1;omega⟩
       refine hK _ _ (HS.out _ HBf.out HWf.out) ?_
       clear hK K
       try simp only [Act.put,Zp_]
       generalize hgr:wb.heap.size=gr at HRf HLf ⊢
       generalize hwr:wb.alloc (.cells #[.int .i64 0,.bool false,.int .i32 0,.string ⟨#[]⟩,.int .u32 0,.bool false,.bool false,.bool false] 33)=wf at HBf HWf HRf ⊢
       clear hgr hwr
      case' md =>
       go_simp
       have HBb:=Lh (bal HBa.out (.cells #[.int .i64 0,.bool false,.int .i32 0,.string ⟨#[]⟩,.int .u32 0,.bool false,.bool false,.bool false] 33));have HWb:=Lh (Qb HWa.out (Qm wa (.cells #[.int .i64 0,.bool false,.int .i32 0,.string ⟨#[]⟩,.int .u32 0,.bool false,.bool false,.bool false] 33)));have HRb:=Lh (gal wa (.cells #[.int .i64 0,.bool false,.int .i32 0,.string ⟨#[]⟩,.int .u32 0,.bool false,.bool false,.bool false] 33))
       have HLb:Hid (wA.heap.size≤wa.heap.size∧wa.heap.size≠gw):=Lh ⟨HBa.out.size,by have:=(Array.getElem?_eq_some_iff.1 HWa.out).1;omega⟩
       have HVb:=Lh (HVa.out.later (Qm wa (.cells #[.int .i64 0,.bool false,.int .i32 0,.string ⟨#[]⟩,.int .u32 0,.bool false,.bool false,.bool false] 33)))
       refine hK _ _ (HS.out _ HBb.out HWb.out) ?_
       clear hK K
       try simp only [Act.put,Zp_]
       generalize hgr:wa.heap.size=gr at HRb HLb ⊢
       generalize hwr:wa.alloc (.cells #[.int .i64 0,.bool false,.int .i32 0,.string ⟨#[]⟩,.int .u32 0,.bool false,.bool false,.bool false] 33)=wb at HBb HWb HRb HVb ⊢
       clear hgr hwr
       refine AH.o 3 (fun K hK=>?_)
       go_simp
       refine (HN1.out wb _ HVb.out).mono ?_
       rintro r wf ⟨rfl,hB⟩
       have HBf:=Lh (Qd HBb.out hB);have HWf:=Lh (Qb HWb.out hB)
       have HRf:=Lh (Qb HRb.out hB);have HLf:=HLb
       refine hK _ _ (HS.out _ HBf.out HWf.out) ?_
       clear hK K hB
       try simp only [Act.put,Zp_]
      case' mb =>
       go_simp
       have HBa:=Lh (bal HB4.out (.cells #[.int .i64 0,.bool false,.int .i32 0,.string ⟨#[]⟩,.int .u32 0,.bool false,.bool false,.bool false] 33));have HWa:=Lh (Qb HW4.out (Qm w5 (.cells #[.int .i64 0,.bool false,.int .i32 0,.string ⟨#[]⟩,.int .u32 0,.bool false,.bool false,.bool false] 33)));have HRa:=Lh (gal w5 (.cells #[.int .i64 0,.bool false,.int .i32 0,.string ⟨#[]⟩,.int .u32 0,.bool false,.bool false,.bool false] 33))
       have HLa:Hid (wA.heap.size≤w5.heap.size∧w5.heap.size≠gw):=Lh ⟨HB4.out.size,by have:=(Array.getElem?_eq_some_iff.1 HW4.out).1;omega⟩
       refine hK _ _ (HS.out _ HBa.out HWa.out) ?_
       clear hK K
       try simp only [Act.put,Zp_]
       generalize hgr:w5.heap.size=gr at HRa HLa ⊢
       generalize hwr:w5.alloc (.cells #[.int .i64 0,.bool false,.int .i32 0,.string ⟨#[]⟩,.int .u32 0,.bool false,.bool false,.bool false] 33)=wa at HBa HWa HRa ⊢
       clear hgr hwr
       refine AH.o 2 (fun K hK=>?_)
       go_simp
       refine (HFw.out wa).mono ?_
       rintro r wb ⟨v1,rfl,hv1,hB⟩
       have HBb:=Lh (Qd HBa.out hB);have HWb:=Lh (Qb HWa.out hB);have HVb:=Lh hv1
       have HRb:=Lh (Qb HRa.out hB);have HLb:=HLa
       refine hK _ _ (HS.out _ HBb.out HWb.out) ?_
       clear hK K hB hv1
       try simp only [Act.put,Zp_]
       refine AH.o 3 (fun K hK=>?_)
       go_simp
       refine (HN1.out wb _ HVb.out).mono ?_
       rintro r wf ⟨rfl,hB⟩
       have HBf:=Lh (Qd HBb.out hB);have HWf:=Lh (Qb HWb.out hB)
       have HRf:=Lh (Qb HRb.out hB);have HLf:=HLb
       refine hK _ _ (HS.out _ HBf.out HWf.out) ?_
       clear hK K hB
       try simp only [Act.put,Zp_]
      all_goals
       have r0:=Qc HRf.out 0 rfl;have r1:=Qc HRf.out 1 rfl;have r2:=Qc HRf.out 2 rfl;have r3:=Qc HRf.out 3 rfl;have r4:=Qc HRf.out 4 rfl;have r5:=Qc HRf.out 5 rfl;have r6:=Qc HRf.out 6 rfl;have r7:=Qc HRf.out 7 rfl
       have rf:=(Qe HRf.out).2
       have f0:=rf 0;have f1:=rf 1;have f2:=rf 2;have f3q:=rf 3;have f4:=rf 4;have f5:=rf 5;have f6:=rf 6;have f7:=rf 7
       have h8:=Q78 wf gr (.int .i64 f') (.bool n') (.int .i32 e') (.string s') (.int .u32 (k':Int)) (.bool a') (.bool false) (.bool c'')
       have hb:=Q5F HBf.out HLf.out.1 (.int .i64 f') (.bool n') (.int .i32 e') (.string s') (.int .u32 (k':Int)) (.bool a') (.bool false) (.bool c'')
       have hr8:=Q88 HRf.out (.int .i64 f') (.bool n') (.int .i32 e') (.string s') (.int .u32 (k':Int)) (.bool a') (.bool false) (.bool c'')
       have hw8:=(h8.1 gw (Ne.symm HLf.out.2)).trans HWf.out
       have HB8:=Lh hb;have HR8:=Lh hr8;have HW8:=Lh hw8
       unfold set8 at HB8 HR8 HW8
       refine AH.o 5 (fun K hK=>?_)
       go_simp
       refine hK _ _ (HS.out _ HB8.out HW8.out) ?_
       clear hK K r0 r1 r2 r3 r4 r5 r6 r7 rf f0 f1 f2 f3q f4 f5 f6 f7 h8 hb hr8 hw8 HS
       try simp only [Act.put,Zp_]
       refine AH.done (by kernel_rfl) ?_
       generalize (((((((wf.setCell ⟨gr,0,none⟩ (.int .i64 f')).setCell ⟨gr,1,none⟩ (.bool n')).setCell ⟨gr,2,none⟩ (.int .i32 e')).setCell ⟨gr,3,none⟩ (.string s')).setCell ⟨gr,4,none⟩ (.int .u32 (k':Int))).setCell ⟨gr,5,none⟩ (.bool a')).setCell ⟨gr,6,none⟩ (.bool false)).setCell ⟨gr,7,none⟩ (.bool c'')=w8 at HB8 HR8 HW8 ⊢
       have r4:=Qc HR8.out 4 rfl;have r5:=Qc HR8.out 5 rfl;have r7:=Qc HR8.out 7 rfl
       obtain ⟨c0,c1,c2,c3,c4,x0,x1,x2,x3⟩:=HC.out _ HB8.out
       cases a'
       ·go_wp2_with fail
        refine AH.start (fun x=>(x.cell? ⟨w.heap.size,0,none⟩=some (.int .u32 p)∧x.cell? ⟨w.heap.size,1,none⟩=some (.int .i32 mx)∧x.cell? ⟨w.heap.size,2,none⟩=some (.int .i32 mn)∧x.cell? ⟨w.heap.size,3,none⟩=some (.int .u32 tr)∧x.cell? ⟨w.heap.size,4,none⟩=some (.int .i64 md)∧x.cell? ⟨w.heap.size+1,0,none⟩=some (.int .i64 0)∧x.cell? ⟨w.heap.size+1,1,none⟩=some (.bool nx)∧x.cell? ⟨w.heap.size+1,2,none⟩=some (.int .i32 ex)∧x.cell? ⟨w.heap.size+1,3,none⟩=some (.string sx))∧x.cell? ⟨gr,4,none⟩=some (.int .u32 (k':Int))∧x.cell? ⟨gr,5,none⟩=some (.bool false)∧x.cell? ⟨gr,7,none⟩=some (.bool c'')) (by kernel_rfl) ?_
        have hd:Below w8.heap.size w8 w8.drew:=(Below.refl _ _).drew
        have HB9:=Lh (Qd HB8.out hd);have HW9:=Lh (Qb HW8.out hd);have HR9:=Lh (Qb HR8.out hd)
        clear hd r4 r5 r7 c0 c1 c2 c3 c4 x0 x1 x2 x3
        generalize w8.drew=w9 at HB9 HW9 HR9 ⊢
        have s0:=And.intro (HC.out _ HB9.out) (And.intro (Qc HR9.out 4 rfl) (And.intro (Qc HR9.out 5 rfl) (Qc HR9.out 7 rfl)))
        refine AH.z 0 s0 ?_
        refine AH.z 1 s0 ?_
        refine AH.z 2 s0 ?_
        refine AH.z 3 s0 ?_
        refine AH.p 4 s0 ?_
        refine AH.p 5 s0 ?_
        refine AH.z 6 s0 ?_
        refine AH.z 7 s0 ?_
        refine AH.p 8 s0 ?_
        refine AH.p 9 s0 ?_
        refine AH.p 10 s0 ?_
        refine AH.z 11 s0 ?_
        refine AH.z 12 s0 ?_
        refine AH.p 13 s0 ?_
        refine AH.p 14 s0 ?_
        refine AH.p 15 s0 ?_
        refine AH.p 16 s0 ?_
        refine AH.p 17 s0 ?_
        refine AH.p 18 s0 ?_
        refine AH.z 19 s0 ?_
        clear s0
        refine AH.done (by kernel_rfl) ?_
        go_wp2_with fail
        refine (HAl.out _ (Qd HBA.out HB9.out)).mono ?_
        rintro r wz ⟨rfl,hB⟩
        have HBz:=Lh (Qd HBA.out (Qd HB9.out hB))
        clear hB
        go_wp2_with fail
        go_ret
        exact ⟨rfl,HBz.out⟩
       ·cases c''
        rotate_left
        ·go_wp2_with fail
         refine AH.start (fun x=>(x.cell? ⟨w.heap.size,0,none⟩=some (.int .u32 p)∧x.cell? ⟨w.heap.size,1,none⟩=some (.int .i32 mx)∧x.cell? ⟨w.heap.size,2,none⟩=some (.int .i32 mn)∧x.cell? ⟨w.heap.size,3,none⟩=some (.int .u32 tr)∧x.cell? ⟨w.heap.size,4,none⟩=some (.int .i64 md)∧x.cell? ⟨w.heap.size+1,0,none⟩=some (.int .i64 0)∧x.cell? ⟨w.heap.size+1,1,none⟩=some (.bool nx)∧x.cell? ⟨w.heap.size+1,2,none⟩=some (.int .i32 ex)∧x.cell? ⟨w.heap.size+1,3,none⟩=some (.string sx))∧x.cell? ⟨gr,4,none⟩=some (.int .u32 (k':Int))∧x.cell? ⟨gr,5,none⟩=some (.bool true)∧x.cell? ⟨gr,7,none⟩=some (.bool true)) (by kernel_rfl) ?_
         have hd:Below w8.heap.size w8 w8.drew:=(Below.refl _ _).drew
         have HB9:=Lh (Qd HB8.out hd);have HW9:=Lh (Qb HW8.out hd);have HR9:=Lh (Qb HR8.out hd)
         clear hd r4 r5 r7 c0 c1 c2 c3 c4 x0 x1 x2 x3
         generalize w8.drew=w9 at HB9 HW9 HR9 ⊢
         have s0:=And.intro (HC.out _ HB9.out) (And.intro (Qc HR9.out 4 rfl) (And.intro (Qc HR9.out 5 rfl) (Qc HR9.out 7 rfl)))
         refine AH.z 0 s0 ?_
         refine AH.z 1 s0 ?_
         refine AH.z 2 s0 ?_
         refine AH.z 3 s0 ?_
         refine AH.z 4 s0 ?_
         refine AH.z 5 s0 ?_
         refine AH.z 6 s0 ?_
         refine AH.z 7 s0 ?_
         refine AH.p 8 s0 ?_
         refine AH.p 9 s0 ?_
         refine AH.p 10 s0 ?_
         refine AH.z 11 s0 ?_
         refine AH.z 12 s0 ?_
         refine AH.p 13 s0 ?_
         refine AH.p 14 s0 ?_
         refine AH.p 15 s0 ?_
         refine AH.p 16 s0 ?_
         refine AH.p 17 s0 ?_
         refine AH.p 18 s0 ?_
         refine AH.z 19 s0 ?_
         clear s0
         refine AH.done (by kernel_rfl) ?_
         go_wp2_with fail
         refine (HAl.out _ (Qd HBA.out HB9.out)).mono ?_
         rintro r wz ⟨rfl,hB⟩
         have HBz:=Lh (Qd HBA.out (Qd HB9.out hB))
         clear hB
         go_wp2_with fail
         go_ret
         exact ⟨rfl,HBz.out⟩
        ·by_cases hk0:k'=0
         rotate_left
         ·have hk1:((k':Int) != 0)=true:=by simp;omega
          have hk2:((k':Int) == 0)=false:=by simp;omega
          clear hk0
          go_wp2_with fail
          refine AH.start (fun x=>(x.cell? ⟨w.heap.size,0,none⟩=some (.int .u32 p)∧x.cell? ⟨w.heap.size,1,none⟩=some (.int .i32 mx)∧x.cell? ⟨w.heap.size,2,none⟩=some (.int .i32 mn)∧x.cell? ⟨w.heap.size,3,none⟩=some (.int .u32 tr)∧x.cell? ⟨w.heap.size,4,none⟩=some (.int .i64 md)∧x.cell? ⟨w.heap.size+1,0,none⟩=some (.int .i64 0)∧x.cell? ⟨w.heap.size+1,1,none⟩=some (.bool nx)∧x.cell? ⟨w.heap.size+1,2,none⟩=some (.int .i32 ex)∧x.cell? ⟨w.heap.size+1,3,none⟩=some (.string sx))∧x.cell? ⟨gr,4,none⟩=some (.int .u32 (k':Int))∧x.cell? ⟨gr,5,none⟩=some (.bool true)∧x.cell? ⟨gr,7,none⟩=some (.bool false)) (by kernel_rfl) ?_
          have hd:Below w8.heap.size w8 w8.drew:=(Below.refl _ _).drew
          have HB9:=Lh (Qd HB8.out hd);have HW9:=Lh (Qb HW8.out hd);have HR9:=Lh (Qb HR8.out hd)
          clear hd r4 r5 r7 c0 c1 c2 c3 c4 x0 x1 x2 x3
          generalize w8.drew=w9 at HB9 HW9 HR9 ⊢
          have s0:=And.intro (HC.out _ HB9.out) (And.intro (Qc HR9.out 4 rfl) (And.intro (Qc HR9.out 5 rfl) (Qc HR9.out 7 rfl)))
          refine AH.z 0 s0 ?_
          refine AH.z 1 s0 ?_
          refine AH.z 2 s0 ?_
          refine AH.z 3 s0 ?_
          refine AH.z 4 s0 ?_
          refine AH.z 5 s0 ?_
          refine AH.z 6 s0 ?_
          refine AH.z 7 s0 ?_
          refine AH.z 8 s0 ?_
          refine AH.z 9 s0 ?_
          refine AH.z 10 s0 ?_
          refine AH.z 11 s0 ?_
          refine AH.z 12 s0 ?_
          refine AH.p 13 s0 ?_
          refine AH.p 14 s0 ?_
          refine AH.p 15 s0 ?_
          refine AH.p 16 s0 ?_
          refine AH.p 17 s0 ?_
          refine AH.p 18 s0 ?_
          refine AH.z 19 s0 ?_
          clear s0
          refine AH.done (by kernel_rfl) ?_
          go_wp2_with fail
          refine (HAl.out _ (Qd HBA.out HB9.out)).mono ?_
          rintro r wz ⟨rfl,hB⟩
          have HBz:=Lh (Qd HBA.out (Qd HB9.out hB))
          clear hB
          go_wp2_with fail
          go_ret
          exact ⟨rfl,HBz.out⟩
         ·subst hk0
          go_wp2_with fail
          refine AH.start (fun x=>(x.cell? ⟨w.heap.size,0,none⟩=some (.int .u32 p)∧x.cell? ⟨w.heap.size,1,none⟩=some (.int .i32 mx)∧x.cell? ⟨w.heap.size,2,none⟩=some (.int .i32 mn)∧x.cell? ⟨w.heap.size,3,none⟩=some (.int .u32 tr)∧x.cell? ⟨w.heap.size,4,none⟩=some (.int .i64 md)∧x.cell? ⟨w.heap.size+1,0,none⟩=some (.int .i64 0)∧x.cell? ⟨w.heap.size+1,1,none⟩=some (.bool nx)∧x.cell? ⟨w.heap.size+1,2,none⟩=some (.int .i32 ex)∧x.cell? ⟨w.heap.size+1,3,none⟩=some (.string sx))∧x.cell? ⟨gr,4,none⟩=some (.int .u32 ((0:Nat):Int))∧x.cell? ⟨gr,5,none⟩=some (.bool true)∧x.cell? ⟨gr,7,none⟩=some (.bool false)) (by kernel_rfl) ?_
          have hd:Below w8.heap.size w8 w8.drew:=(Below.refl _ _).drew
          have HB9:=Lh (Qd HB8.out hd);have HW9:=Lh (Qb HW8.out hd);have HR9:=Lh (Qb HR8.out hd)
          clear hd r4 r5 r7 c0 c1 c2 c3 c4 x0 x1 x2 x3
          generalize w8.drew=w9 at HB9 HW9 HR9 ⊢
          have s0:=And.intro (HC.out _ HB9.out) (And.intro (Qc HR9.out 4 rfl) (And.intro (Qc HR9.out 5 rfl) (Qc HR9.out 7 rfl)))
          refine AH.z 0 s0 ?_
          refine AH.z 1 s0 ?_
          refine AH.z 2 s0 ?_
          refine AH.z 3 s0 ?_
          refine AH.z 4 s0 ?_
          refine AH.z 5 s0 ?_
          refine AH.z 6 s0 ?_
          refine AH.z 7 s0 ?_
          refine AH.z 8 s0 ?_
          refine AH.z 9 s0 ?_
          refine AH.z 10 s0 ?_
          refine AH.z 11 s0 ?_
          refine AH.z 12 s0 ?_
          refine AH.z 13 s0 ?_
          refine AH.z 14 s0 ?_
          clear s0
          refine AH.o 15 (fun K hK=>?_)
          go_simp
          refine (HFx2.out w9).mono ?_
          rintro r wg ⟨v2,rfl,hv2,hB⟩
          have HBg:=Lh (Qd HB9.out hB);have HWg:=Lh (Qb HW9.out hB);have HRg:=Lh (Qb HR9.out hB);have HVg:=Lh hv2
          refine hK _ _ (And.intro (HC.out _ HBg.out) (And.intro (Qc HRg.out 4 rfl) (And.intro (Qc HRg.out 5 rfl) (Qc HRg.out 7 rfl)))) ?_
          clear hK K hB hv2 HB9 HW9 HR9
          try simp only [Act.put,Zp_]
          refine AH.o 16 (fun K hK=>?_)
          go_simp
          refine (HN2.out wg _ HVg.out).mono ?_
          rintro r wh ⟨rfl,hB⟩
          have HB9:=Lh (Qd HBg.out hB);have HW9:=Lh (Qb HWg.out hB);have HR9:=Lh (Qb HRg.out hB)
          refine hK _ _ (And.intro (HC.out _ HB9.out) (And.intro (Qc HR9.out 4 rfl) (And.intro (Qc HR9.out 5 rfl) (Qc HR9.out 7 rfl)))) ?_
          clear hK K hB HBg HWg HRg HVg
          try simp only [Act.put,Zp_]
          have s0:=And.intro (HC.out _ HB9.out) (And.intro (Qc HR9.out 4 rfl) (And.intro (Qc HR9.out 5 rfl) (Qc HR9.out 7 rfl)))
          have hfl:∀ wy,(Instr.field 33 (.agg #[.int .i64 f3,.bool n3,.int .i32 e3,.string s3,.int .u32 (k3:Int),.bool a3,.bool b3,.bool c3']) 1).run Tryz.prog wy=.ok (.int .u32 (k3:Int)) wy:=fun wy=>by kernel_rfl
          by_cases hk3:k3=0
          rotate_left
          ·have hk1:((k3:Int) != 0)=true:=by simp;omega
           have hk2:((k3:Int) == 0)=false:=by simp;omega
           clear hk3
           refine AH.z 17 s0 ?_
           refine AH.z 18 s0 ?_
           refine AH.z 19 s0 ?_
           clear s0
           refine AH.done (by kernel_rfl) ?_
           go_wp2_with fail
           refine (HAl.out _ (Qd HBA.out HB9.out)).mono ?_
           rintro r wz ⟨rfl,hB⟩
           have HBz:=Lh (Qd HBA.out (Qd HB9.out hB))
           clear hB
           go_wp2_with fail
           go_ret
           exact ⟨rfl,HBz.out⟩
          ·subst hk3
           have hfl0:∀ wy,(Instr.field 33 (.agg #[.int .i64 f3,.bool n3,.int .i32 e3,.string s3,.int .u32 0,.bool a3,.bool b3,.bool c3']) 1).run Tryz.prog wy=.ok (.int .u32 0) wy:=fun wy=>by kernel_rfl
           clear hfl
           refine AH.z 17 s0 ?_
           refine AH.z 18 s0 ?_
           refine AH.z 19 s0 ?_
           clear s0
           refine AH.done (by kernel_rfl) ?_
           obtain ⟨c0,c1,c2,c3,c4,x0,x1,x2,x3⟩:=HC.out _ HB9.out
           go_wp2_with fail
           refine (HRd.out (by trivial) (by trivial) (by trivial) _ (Qd HBA.out HB9.out)).mono ?_
           rintro r wi ⟨rfl,hB⟩
           have HBi:=Lh (Qd HB9.out hB);have HWi:=Lh (Qb HW9.out hB)
           clear hB c0 c1 c2 c3 c4 x0 x1 x2 x3 HB9 HW9 HR9
           go_upto_region 10 with (fail)
           have HBj:=Lh (bal HBi.out (.cells #[.int .i64 0,.bool nx,.int .i32 e2,.string tx] 26));have HWj:=Lh (Qb HWi.out (Qm wi (.cells #[.int .i64 0,.bool nx,.int .i32 e2,.string tx] 26)));have HDj:=Lh (gal wi (.cells #[.int .i64 0,.bool nx,.int .i32 e2,.string tx] 26))
           generalize hgd:wi.heap.size=gd at HDj ⊢
           generalize hwj:wi.alloc (.cells #[.int .i64 0,.bool nx,.int .i32 e2,.string tx] 26)=wj at HBj HWj HDj ⊢
           clear hgd hwj HBi HWi
           go_wp2_with fail
           refine (HAl.out _ (Qd HBA.out HBj.out)).mono ?_
           rintro r wk ⟨rfl,hB⟩
           have HBk:=Lh (Qd HBj.out hB);have HWk:=Lh (Qb HWj.out hB);have HDk:=Lh (Qb HDj.out hB)
           clear hB HBj HWj HDj
           have t0:=Qc HWk.out 0 rfl;have t1:=Qc HWk.out 1 rfl;have t2:=Qc HWk.out 2 rfl;have t3:=Qc HWk.out 3 rfl
           have d0:=Qc HDk.out 0 rfl;have d1:=Qc HDk.out 1 rfl;have d2:=Qc HDk.out 2 rfl;have d3:=Qc HDk.out 3 rfl
           go_wp2_with fail
           go_ret
           exact ⟨rfl,Qd HBA.out HBk.out⟩
end Go.Proofs.YtpebcmfpehdafaaGreatDoor
