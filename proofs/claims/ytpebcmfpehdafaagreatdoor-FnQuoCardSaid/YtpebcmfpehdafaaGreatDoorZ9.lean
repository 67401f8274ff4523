/- a part of the proof -/
import Derived.Test.YtpebcmfpehdafaaGreatDoorZ5
import Derived.Test.YtpebcmfpehdafaaGreatDoorZ8
set_option linter.all false
set_option maxRecDepth 100000
set_option maxHeartbeats 16000000
namespace Go.Proofs.YtpebcmfpehdafaaGreatDoor
open Go Go.RowKit
theorem Qbw (l:List Nat)(j a:Nat)(hj:j<l.length):vl (l.set j (l[j]+a))=vl l+a*10^j:=by
 induction l generalizing j with
 | nil=>simp at hj
 | cons d l ih =>
  cases j with
  | zero=>simp [vl];omega
  | succ j =>
   have:=ih j (by simpa using hj)
   simp only [List.set_cons_succ,List.getElem_cons_succ,vl]
   rw [this,Nat.pow_succ]
   have h:a*(10^j*10)=10*(a*10^j):=by rw [← Nat.mul_assoc,Nat.mul_comm]
   omega
theorem Qbx (n:Nat):vl (List.replicate n 0)=0:=by
 induction n with
 | zero=>rfl
 | succ n ih=>simp [List.replicate_succ,vl,ih]
def IBl (w:World)(B:Nat)(l:List Nat):Prop:=w.heap[B]?=some (.cells (l.map fun (d:Nat)=>Value.int .i64 (d:Int)).toArray 3 (0,0))
theorem IBl.cell {w:World}{B:Nat}{l:List Nat}(h:IBl w B l)(i:Nat)(d:Nat)(hd:l[i]?=some d):w.cell? ⟨B,i,none⟩=some (.int .i64 (d:Int))∧w.frozen? ⟨B,i,none⟩=false:=by
 constructor
 ·unfold World.cell?;rw [h];simp [hd]
 ·unfold World.frozen?;rw [h];simp
theorem IBl.later {w w':World}{B:Nat}{l:List Nat}(h:IBl w B l)(hB:Below w.heap.size w w'):IBl w' B l:=by
 unfold IBl at h ⊢;rw [hB.block _ (Array.getElem?_eq_some_iff.1 h).1];exact h
theorem IBl.grown {w w':World}{B:Nat}{l:List Nat}{row:Option Nat}(h:IBl w B l)(hg:w.grownBy w' row)(hr:∀ g,row=some g→B+1≤g):IBl w' B l:=by
 unfold IBl at h ⊢
 rw [hg.block _ (Array.getElem?_eq_some_iff.1 h).1 (fun e=>by have:=hr B e.symm;omega)];exact h
theorem IBl.set {w:World}{B:Nat}{l:List Nat}(h:IBl w B l)(j v:Nat):IBl (w.setCell ⟨B,j,none⟩ (.int .i64 (v:Int))) B (l.set j v):=by
 unfold IBl at h ⊢
 unfold World.setCell
 simp only [Array.getElem?_modify,if_true,h,Option.map_some]
 congr 2
 simp [List.map_set]
theorem Qb6 {a b i k S:Nat}{out:List Nat}{j:Nat}(hj:j=i+k)(hl:j<out.length)(h:vl out=a % 10^i*b+a / 10^i % 10*10^i*(b % 10^k))(hb:∀ d ∈ out,d≤81*S):vl (out.set j (out[j]+a / 10^i % 10*(b / 10^k % 10)))=a % 10^i*b+a / 10^i % 10*10^i*(b % 10^(k+1))∧∀ d ∈ out.set j (out[j]+a / 10^i % 10*(b / 10^k % 10)),d≤81*(S+1):=by
 have hA:a / 10^i % 10<10:=Nat.mod_lt _ (by decide)
 have hB:b / 10^k % 10<10:=Nat.mod_lt _ (by decide)
 have hAB:a / 10^i % 10*(b / 10^k % 10)≤81:=Nat.le_trans (Nat.mul_le_mul (Nat.le_of_lt_succ hA) (Nat.le_of_lt_succ hB)) (by decide)
 refine ⟨?_,fun d hd=>?_⟩
 ·rw [Qbw _ _ _ hl,h,Q1f b k,hj,Nat.pow_add,Nat.mul_add]
  have:a / 10^i % 10*(b / 10^k % 10)*(10^i*10^k)=a / 10^i % 10*10^i*(10^k*(b / 10^k % 10)):=by
   generalize a / 10^i % 10=A;generalize b / 10^k % 10=B;generalize 10^i=P;generalize 10^k=R
   rw [Nat.mul_assoc,Nat.mul_assoc A P,Nat.mul_left_comm B P R,Nat.mul_comm B R]
  omega
 ·rcases List.mem_or_eq_of_mem_set hd with h | h
  ·have:=hb d h;omega
  ·have:=hb _ (List.getElem_mem hl);omega
theorem QaH (N:Nat):(N:Int).tmod 10=(N:Int) % 10∧(N:Int).tdiv 10=(N:Int) / 10∧IntKind.u8.wrap ((N:Int) % 10)=(N:Int) % 10 :=
 ⟨Int.tmod_eq_emod_of_nonneg (Int.natCast_nonneg N),Int.tdiv_eq_ediv_of_nonneg (Int.natCast_nonneg N),IntWalk.u8_in _ (by omega)⟩
theorem Qbm:(Tryz.prog.info? 3).map (fun i=>(i.zero,i.size,i.bytes))=some (some (.int .i64 0),1,8):=by kernel_rfl
theorem Qby {w:World}{u v:Value}{nu nv:Bool}{a b:Nat}(hu:NumV w u nu a)(hv:NumV w v nv b)(hla:(dgs a).length≤10000)(hlb:(dgs b).length≤10000) :
  Calls Tryz.prog 75 #[u,v] w fun e w'=>∃ v',e=.returned v'∧NumV w' v' ((nu != nv) && decide (a*b≠0)) (a*b)∧Below w.heap.size w w':=by
 obtain ⟨s,rfl,hs⟩:=hu
 obtain ⟨t,rfl,ht⟩:=hv
 obtain ⟨p,cap,rfl,_,_,hdp⟩:=hs
 obtain ⟨q,cbp,rfl,_,_,hdq⟩:=ht
 have HP:=Lh hdp.dig;have HQ:=Lh hdq.dig
 have HA:=Lh (QM a);have HBb:=Lh (QM b)
 generalize hL:(dgs a).length=L at HP HA hla ⊢
 generalize hK:(dgs b).length=K at HQ HBb hlb ⊢
 obtain ⟨i0,hi,hz0,hz1,hz2⟩:=info_parts Qbm
 obtain ⟨w4,hw4⟩:∃ w4,w4=((w.alloc (.cells #[.bool nu,.slice p L cap] 37)).alloc (.cells #[.bool nv,.slice q K cbp] 37)).alloc (.cells #[.bool false,.slice none 0 0] 37):=⟨_,rfl⟩
 have hw4s:w4.heap.size=w.heap.size+1+1+1:=by rw [hw4];simp
 have hBA:Below w.heap.size w w4:=by rw [hw4];exact bal (bal (Qm w _) _) _
 have hrun:∀ w:World,(Instr.makeSlice 149 (.int .i64 ((L:Int)+(K:Int))) (.int .i64 ((L:Int)+(K:Int)))).run Tryz.prog w=.ok (.slice (some ⟨w.heap.size,0,none⟩) (L+K) (L+K)) (w.alloc (.cells (madeCells #[.int .i64 0] (L+K)) 3)):=fun w=>by
  have:=run_makeSlice (P:=Tryz.prog) w 149 3 i0 (.int .i64 0) Tryz.underlying149 hi hz0 .i64 .i64 (L+K) ((L:Int)+(K:Int)) (by omega) (by omega) (by rw [hz1];omega) (by rw [hz2];omega) (by omega)
  rw [hz1,show ((L:Int)+(K:Int)).toNat=L+K by omega,Nat.mul_one] at this
  exact this
 obtain ⟨M,hM0⟩:∃ M,M=madeCells #[.int .i64 0] (L+K):=⟨_,rfl⟩
 rw [← hM0] at hrun
 have hMl:M=((List.replicate (L+K) 0).map fun (d:Nat)=>Value.int .i64 (d:Int)).toArray:=by
  apply Array.ext'
  rw [hM0,toList_madeCells_one]
  simp
 have HM0:=Lh (show IBl (w4.alloc (.cells M 3)) w4.heap.size (List.replicate (L+K) 0) from by unfold IBl;rw [gal,hMl])
 clear hMl hM0
 have HC:Hid (∀ w2,Below w4.heap.size w4 w2→(w2.cell? ⟨w.heap.size,0,none⟩=some (.bool nu)∧w2.cell? ⟨w.heap.size,1,none⟩=some (.slice p L cap))∧(w2.cell? ⟨w.heap.size+1,0,none⟩=some (.bool nv)∧w2.cell? ⟨w.heap.size+1,1,none⟩=some (.slice q K cbp))∧(w2.cell? ⟨w.heap.size+1+1,0,none⟩=some (.bool false)∧w2.cell? ⟨w.heap.size+1+1,1,none⟩=some (.slice none 0 0)∧w2.frozen? ⟨w.heap.size+1+1,0,none⟩=false∧w2.frozen? ⟨w.heap.size+1+1,1,none⟩=false)∧w2.heap[w.heap.size+1+1]?=some (.cells #[.bool false,.slice none 0 0] 37 (0,0))):=Lh (fun w2 h=>by
  rw [hw4] at h
  obtain ⟨x,y,c,d,f⟩:=Q7Q (wr:=w2) rfl rfl rfl h
  exact ⟨⟨x 0,x 1⟩,⟨y 0,y 1⟩,⟨c 0,c 1,d 0,d 1⟩,f⟩)
 have HX4:Hid (∀ wr b o i v,Below w4.heap.size w4 wr→b<w.heap.size→w.cell? ⟨b,o+i,none⟩=some v→wr.cell? ⟨b,o+i,none⟩=some v):=Lh (fun wr b o i v h hb hc=>by
  rw [h.cell (by simp only;omega),hBA.cell hb];exact hc)
 have HBA:=Lh hBA
 have HW4:=Lh hw4s
 obtain ⟨i1,ki,kz0,kz1,kz2⟩:=info_parts Q1B
 clear hdp hdq hL hK hBA hw4s
 go_enter Tryz.func75, Tryz.ntmps75
 go_wp2_with fail
 rw [← hw4]
 have h4:w.heap.size+1+1+1=w4.heap.size:=HW4.out.symm
 rw [h4]
 clear hw4 h4
 go_wp2_with fail
 go_loopw [6] (fun i wr=>∃ (k:Nat) (out:List Nat),i=.int .i64 (k:Int)∧k≤L∧out.length=L+K∧vl out=a % 10^k*b∧(∀ d ∈ out,d≤81*(k*K))∧Below w4.heap.size w4 wr∧IBl wr w4.heap.size out) (fun i _=>L+1 - (intOf i).toNat)
 case atStart=>exact ⟨0,List.replicate (L+K) 0,rfl,Nat.zero_le _,by simp,by rw [Qbx,Nat.pow_zero,Nat.mod_one,Nat.zero_mul],fun d hd=>by rw [List.eq_of_mem_replicate hd];exact Nat.zero_le _,Qm _ _,HM0.out⟩
 case round =>
  obtain ⟨k,out,rfl,hk,hol,hov,hob,hB,hI⟩:=hrel
  obtain ⟨⟨x0,x1⟩,⟨y0,y1⟩,_,_⟩:=HC.out _ hB
  have HB:=Lh hB;have HI:=Lh hI;have HOv:=Lh hov;have HOb:=Lh hob;have HOl:=Lh hol
  clear hol hov hob hB hI
  rcases Nat.lt_or_ge k L with hkl | hkl
  ·have h1:(k:Int)<(L:Int):=by omega
   generalize hwo:wr=wo at *
   clear hwo
   go_wp2_with fail
   go_loopw [7] (fun kk wi=>∃ (j:Nat) (out:List Nat),kk=.int .i64 (j:Int)∧j≤K∧out.length=L+K∧vl out=a % 10^k*b+a / 10^k % 10*10^k*(b % 10^j)∧(∀ d ∈ out,d≤81*(k*K+j))∧Below w4.heap.size w4 wi∧IBl wi w4.heap.size out) (fun kk _=>K+1 - (intOf kk).toNat)
   case atStart=>exact ⟨0,out,rfl,Nat.zero_le _,HOl.out,by rw [HOv.out,Nat.pow_zero,Nat.mod_one,Nat.mul_zero,Nat.add_zero],HOb.out,HB.out,HI.out⟩
   case round =>
    obtain ⟨j,out2,rfl,hj,hol,hov,hob,hB2,hI2⟩:=hrel
    obtain ⟨⟨x0,x1⟩,⟨y0,y1⟩,_,_⟩:=HC.out _ hB2
    rcases Nat.lt_or_ge j K with hjk | hjk
    ·obtain ⟨bp,op,rfl,hbp,hcp⟩:=HP.out k hkl
     obtain ⟨bq,oq,rfl,hbq,hcq⟩:=HQ.out j hjk
     obtain ⟨t,ht⟩:∃ t,t=k+j:=⟨_,rfl⟩
     have htl:t<out2.length:=by omega
     obtain ⟨hm1,hm2⟩:=Qb6 ht htl hov hob
     have hdc:=hI2.cell t _ (List.getElem?_eq_getElem htl)
     have hdl:out2[t]≤81*(k*K+j):=hob _ (List.getElem_mem htl)
     have hI3:=hI2.set t (out2[t]+a / 10^k % 10*(b / 10^j % 10))
     have hB3:Below w4.heap.size w4 (wr.setCell ⟨w4.heap.size,t,none⟩ (.int .i64 ((out2[t]+a / 10^k % 10*(b / 10^j % 10):Nat):Int))):=hB2.setCell (p:=⟨w4.heap.size,t,none⟩) (Nat.le_refl _) _
     have hKl:k*K≤10000*10000:=Nat.mul_le_mul (by omega) hlb
     have hA9:a / 10^k % 10<10:=Nat.mod_lt _ (by decide)
     have hB9:b / 10^j % 10<10:=Nat.mod_lt _ (by decide)
     have hP9:a / 10^k % 10*(b / 10^j % 10)≤81:=Nat.le_trans (Nat.mul_le_mul (Nat.le_of_lt_succ hA9) (Nat.le_of_lt_succ hB9)) (by decide)
     have c3:=HX4.out _ _ _ _ _ hB2 hbp hcp
     have c4:=HX4.out _ _ _ _ _ hB2 hbq hcq
     obtain ⟨V,hV⟩:∃ V,V=out2[t]+a / 10^k % 10*(b / 10^j % 10):=⟨_,rfl⟩
     obtain ⟨P,hP⟩:∃ P,P=a / 10^k % 10*(b / 10^j % 10):=⟨_,rfl⟩
     rw [← hV] at hm1 hm2 hI3 hB3
     rw [← hP] at hP9 hV
     have HS3:=Lh (And.intro hm1 (And.intro hm2 (And.intro hB3 hI3)))
     have HOl2:=Lh hol;have HB2:=Lh hB2
     have HT:=Lh ht
     have j1:IntKind.i64.wrap ((k:Int)+(j:Int))=(t:Int):=by rw [show (k:Int)+(j:Int)=(t:Int) by omega];exact IntWalk.i64_in _ (by omega)
     have j2:IntKind.i64.wrap ((a / 10^k % 10:Nat):Int)=((a / 10^k % 10:Nat):Int):=IntWalk.i64_in _ (by omega)
     have j3:IntKind.i64.wrap ((b / 10^j % 10:Nat):Int)=((b / 10^j % 10:Nat):Int):=IntWalk.i64_in _ (by omega)
     have j4:IntKind.i64.wrap (((a / 10^k % 10:Nat):Int)*((b / 10^j % 10:Nat):Int))=(P:Int):=by rw [← Int.natCast_mul,← hP];exact IntWalk.i64_in _ (by omega)
     have j5:IntKind.i64.wrap ((out2[t]:Int)+(P:Int))=(V:Int):=by rw [show (out2[t]:Int)+(P:Int)=(V:Int) by omega];exact IntWalk.i64_in _ (by omega)
     have ht0:(0:Int)≤(t:Int):=by omega
     have ht1:(t:Int)<(L:Int)+(K:Int):=by omega
     have ht2:t<L+K:=by omega
     have hk1:(k:Int)<(L:Int):=by omega
     have hk2:(j:Int)<(K:Int):=by omega
     clear hm1 hm2 hI3 hB3 hol hov hob hcp hcq hdl hP9 hP hV ht hKl hB2
     generalize a / 10^k % 10=A at c3 hA9 j2 j4 HS3
     generalize b / 10^j % 10=Bd at c4 hB9 j3 j4 HS3
     generalize out2[t]=D at hdc j5
     clear htl
     obtain ⟨d0,d1⟩:=hdc
     go_wp2_with fail
     refine AH.start (fun x=>x.cell? ⟨w.heap.size,1,none⟩=some (.slice (some ⟨bp,op,none⟩) L cap)∧x.cell? ⟨w.heap.size+1,1,none⟩=some (.slice (some ⟨bq,oq,none⟩) K cbp)∧x.cell? ⟨bp,op+k,none⟩=some (.int .u8 (A:Int))∧x.cell? ⟨bq,oq+j,none⟩=some (.int .u8 (Bd:Int))) (by kernel_rfl) ?_
     generalize hwj:wr.drew=wj
     have hdj:Below w4.heap.size w4 wj:=by rw [← hwj];exact HB2.out.drew
     obtain ⟨⟨_,x1'⟩,⟨_,y1'⟩,_,_⟩:=HC.out _ hdj
     have s0:wj.cell? ⟨w.heap.size,1,none⟩=some (.slice (some ⟨bp,op,none⟩) L cap)∧wj.cell? ⟨w.heap.size+1,1,none⟩=some (.slice (some ⟨bq,oq,none⟩) K cbp)∧wj.cell? ⟨bp,op+k,none⟩=some (.int .u8 (A:Int))∧wj.cell? ⟨bq,oq+j,none⟩=some (.int .u8 (Bd:Int)):=by rw [← hwj] at x1' y1' ⊢;exact ⟨x1',y1',c3,c4⟩
     have HS4:Hid (vl (out2.set t V)=a % 10^k*b+A*10^k*(b % 10^(j+1))∧(∀ d ∈ out2.set t V,d≤81*(k*K+j+1))∧Below w4.heap.size w4 (wj.setCell ⟨w4.heap.size,t,none⟩ (.int .i64 (V:Int)))∧IBl (wj.setCell ⟨w4.heap.size,t,none⟩ (.int .i64 (V:Int))) w4.heap.size (out2.set t V)):=Lh ⟨HS3.out.1,HS3.out.2.1,hdj.setCell (p:=⟨w4.heap.size,t,none⟩) (Nat.le_refl _) _,by rw [← hwj];exact HS3.out.2.2.2⟩
     have d1':wj.frozen? ⟨w4.heap.size,t,none⟩=false:=by rw [← hwj];exact d1
     have d0':wj.cell? ⟨w4.heap.size,t,none⟩=some (.int .i64 (D:Int)):=by rw [← hwj];exact d0
     clear hwj hdj x1' y1' HS3 c3 c4 d0 d1 x0 x1 y0 y1
     refine AH.z 0 s0 ?_
     refine AH.z 1 s0 ?_
     refine AH.z 2 s0 ?_
     refine AH.z 3 s0 ?_
     refine AH.z 4 s0 ?_
     refine AH.z 6 s0 ?_
     refine AH.z 7 s0 ?_
     refine AH.z 8 s0 ?_
     refine AH.z 9 s0 ?_
     refine AH.z 10 s0 ?_
     refine AH.z 11 s0 ?_
     refine AH.z 12 s0 ?_
     refine AH.z 13 s0 ?_
     refine AH.z 14 s0 ?_
     refine AH.z 15 s0 ?_
     refine AH.z 16 s0 ?_
     refine AH.z 17 s0 ?_
     refine AH.z 18 s0 ?_
     refine AH.o 5 (fun K hK=>?_)
     go_simp
     refine hK _ _ s0 ?_
     clear hK K
     try simp only [Act.put,Zp_]
     refine AH.z 19 s0 ?_
     refine AH.z 20 s0 ?_
     have s1:(wj.setCell ⟨w4.heap.size,t,none⟩ (.int .i64 (V:Int))).cell? ⟨w.heap.size,1,none⟩=some (.slice (some ⟨bp,op,none⟩) L cap)∧(wj.setCell ⟨w4.heap.size,t,none⟩ (.int .i64 (V:Int))).cell? ⟨w.heap.size+1,1,none⟩=some (.slice (some ⟨bq,oq,none⟩) K cbp)∧(wj.setCell ⟨w4.heap.size,t,none⟩ (.int .i64 (V:Int))).cell? ⟨bp,op+k,none⟩=some (.int .u8 (A:Int))∧(wj.setCell ⟨w4.heap.size,t,none⟩ (.int .i64 (V:Int))).cell? ⟨bq,oq+j,none⟩=some (.int .u8 (Bd:Int)):=by
      have hw:=HW4.out
      have e:∀ b i,b<w4.heap.size→(⟨w4.heap.size,t,none⟩:Addr)≠⟨b,i,none⟩:=fun b i h g=>by injection g with g1;omega
      rw [World.cell?_setCell_other _ _ _ _ (e _ _ (by omega)),World.cell?_setCell_other _ _ _ _ (e _ _ (by omega)),World.cell?_setCell_other _ _ _ _ (e _ _ (by omega)),World.cell?_setCell_other _ _ _ _ (e _ _ (by omega))]
      exact s0
     refine AH.o 21 (fun K hK=>?_)
     go_simp
     refine hK _ _ s1 ?_
     clear hK K
     try simp only [Act.put,Zp_]
     refine AH.done (by kernel_rfl) ?_
     generalize wj.setCell ⟨w4.heap.size,t,none⟩ (.int .i64 (V:Int))=wk at HS4 ⊢
     clear s0 s1 d0' d1' j1 j2 j3 j4 j5 ht0 ht1 ht2
     go_wp2_with fail
     go_roundw
     case rel=>exact ⟨j+1,out2.set t V,rfl,by omega,by rw [List.length_set];exact HOl2.out,HS4.out.1,HS4.out.2.1,HS4.out.2.2.1,HS4.out.2.2.2⟩
     case measure=>simp [intOf];omega
    ·have hjK:j=K:=by omega
     subst hjK
     have hov':vl out2=a % 10^(k+1)*b:=by
      rw [hov,Nat.mod_eq_of_lt HBb.out,Q1f,Nat.add_mul,Nat.mul_comm (10^k)]
     have hob':∀ d ∈ out2,d≤81*((k+1)*j):=fun d hd=>by
      have:=hob d hd;rw [Nat.succ_mul k j];exact this
     have HO:=Lh hov';have HO2:=Lh hob'
     clear hov hob hov' hob'
     have hjj:¬ (j:Int)<(j:Int):=by omega
     go_wp2_with fail
     go_roundw
     case rel=>exact ⟨k+1,out2,rfl,by omega,hol,HO.out,HO2.out,hB2,hI2⟩
     case measure=>simp [intOf];omega
  ·have hkL:k=L:=by omega
   subst hkL
   have hkk:¬ (k:Int)<(k:Int):=by omega
   have HAB:Hid (vl out=a*b):=Lh (by rw [HOv.out,Nat.mod_eq_of_lt HA.out])
   have hKl:k*K≤10000*10000:=Nat.mul_le_mul hla hlb
   obtain ⟨MX,hMX⟩:∃ MX,MX=81*(k*K):=⟨_,rfl⟩
   have hMX1:MX≤8100000000:=by omega
   have HOb2:Hid (∀ d ∈ out,d≤MX):=Lh (by rw [hMX];exact HOb.out)
   clear hMX hKl HOb HOv
   generalize hwo:wr=wo at *
   clear hwo
   go_wp2_with fail
   go_loopw [8,9,10] (fun dd cr i wr=>∃ (t:Nat) (xs:List Nat) (c:Nat) (vv:Value),dd=vv∧t≤k+K∧i=.int .i64 (t:Int)∧cr=.int .i64 (c:Int)∧c≤MX∧xs.length=t∧(∀ x ∈ xs,x<10)∧vl xs+c*10^t=vl (out.take t)∧wr.ownsRow (w4.heap.size+1) 5 1 dd xs.length (xs.map fun (d:Nat)=>.int .u8 (d:Int))∧Below w4.heap.size w4 wr∧IBl wr w4.heap.size out) (fun _ _ i _=>k+K+1 - (intOf i).toNat)
   case atStart=>exact ⟨0,[],0,_,rfl,Nat.zero_le _,rfl,rfl,Nat.zero_le _,rfl,by simp,by simp [vl],World.ownsRow_nil _ _ _ _,HB.out,HI.out⟩
   case round =>
    obtain ⟨t,xs,c,dd,hve,ht,rfl,rfl,hc,hxl,hx9,hx,hown,hB2,hI2⟩:=hrel
    replace hve:=hve.symm
    subst hve
    have hsz:w4.heap.size+1≤wr.heap.size:=(Array.getElem?_eq_some_iff.1 hI2).1
    have HX9:=Lh hx9;have HX:=Lh hx;have HB2:=Lh hB2;have HI2:=Lh hI2
    clear hx9 hx hB2 hI2
    rcases Nat.lt_or_ge t (k+K) with htl | htl
    ·have htl2:t<out.length:=by rw [HOl.out];exact htl
     obtain ⟨d0,d1⟩:=HI2.out.cell t _ (List.getElem?_eq_getElem htl2)
     have hdl:out[t]≤MX:=HOb2.out _ (List.getElem_mem htl2)
     have HSt:Hid (vl (xs ++ [(c+out[t]) % 10])+(c+out[t]) / 10*10^(t+1)=vl (out.take (t+1))):=Lh (by
      rw [Q0F,hxl,List.take_succ_eq_append_getElem htl2,Q0F,List.length_take_of_le (Nat.le_of_lt htl2),← HX.out,Nat.pow_succ]
      have h1:=Nat.div_add_mod (c+out[t]) 10
      generalize (c+out[t]) / 10=Y at h1 ⊢
      generalize (c+out[t]) % 10=Z at h1 ⊢
      generalize 10^t=P
      have h2:Y*(P*10)=P*(10*Y):=by rw [Nat.mul_left_comm,Nat.mul_comm Y 10]
      have h3:P*(10*Y+Z)=P*(c+out[t]):=by rw [h1]
      rw [Nat.mul_add,Nat.mul_add] at h3
      have h4:c*P=P*c:=Nat.mul_comm _ _
      omega)
     generalize out[t]=D at d0 hdl HSt
     clear htl2
     obtain ⟨r1,r2,r3⟩:=QaH (c+D)
     rw [Int.natCast_add] at r1 r2 r3
     have ht1:(t:Int)<(k:Int)+(K:Int):=by omega
     go_wp2_with (first | (at_builtin;refine wpList_append_own _ rfl _ _ 35 rfl (w4.heap.size+1) 5 i1 (.int .u8 0) 1 1 Tryz.underlying35 ki kz0 kz1 kz2 rfl (by decide) _ _ _ rfl (hown.alloc _) ⟨wr.heap.size,0,none⟩ 1 1 [.int .u8 (((c:Int)+(D:Int)) % 10)] rfl rfl (Q0u _ _ _) (fun x hx=>by simp at hx;subst hx;rfl) (by unfold maxLen;omega) (by omega) (by simp;omega) ?_;intro v' w3 hown' hgrow3 hnil3))
     go_roundw
     case rel=>exact ⟨t+1,xs ++ [(c+D) % 10],(c+D) / 10,_,rfl,by omega,by go_num,by go_num,by omega,by rw [List.length_append,hxl];rfl,Q1g xs _ HX9.out (Nat.mod_lt _ (by decide)),HSt.out,by rw [List.map_append,List.length_append];exact hown',(bal HB2.out _).grown hgrow3 (by simp;omega) (fun q hq=>by have:=(hown.lt q hq).1;omega),(HI2.out.later (Qm _ _)).grown hgrow3 (fun q hq=>(hown.lt q hq).1)⟩
     case measure=>simp [intOf];omega
    ·have htk:t=k+K:=by omega
     have hfin:vl xs=a*b:=by
      have h1:=HX.out
      rw [htk,← HOl.out,List.take_length,HAB.out,HOl.out] at h1
      have h2:a*b<10^(k+K):=by
       rw [Nat.pow_add]
       exact Nat.mul_lt_mul'' HA.out HBb.out
      rcases Nat.eq_zero_or_pos c with e | e
      ·subst e;omega
      ·have:10^(k+K)≤c*10^(k+K):=Nat.le_mul_of_pos_left _ e
       omega
     have HS:Hid (∀ w2 ng,Below wr.heap.size wr w2→Calls Tryz.prog 54 #[.bool ng,dd] w2 fun e w'=>∃ v',e=.returned v'∧NumV w' v' (ng && decide (a*b≠0)) (a*b)∧Below w2.heap.size w2 w'):=Lh (fun w2 ng h2=>by
      have h4:=Q1n ((Dg.of_own hown).later h2) HX9.out ng
      rw [hfin] at h4
      exact h4)
     obtain ⟨⟨x0,x1⟩,⟨y0,y1⟩,_,_⟩:=HC.out _ HB2.out
     have ht1:¬ (t:Int)<(k:Int)+(K:Int):=by omega
     clear hown htl htk hfin hc
     obtain ⟨ab,hab⟩:∃ ab,ab=a*b:=⟨_,rfl⟩
     rw [← hab] at HS
     have HS2:Hid (∀ w2,Below wr.heap.size wr w2→Calls Tryz.prog 54 #[.bool (nu != nv),dd] w2 fun e w'=>∃ v',e=.returned v'∧NumV w' v' (nu != nv && decide (ab≠0)) ab∧Below w2.heap.size w2 w'):=Lh (fun w2 h=>HS.out w2 _ h)
     obtain ⟨sg,hsg⟩:∃ sg,sg=(nu != nv && decide (ab≠0)):=⟨_,rfl⟩
     rw [← hsg] at HS2
     have HAb:=Lh hab;have HSg:=Lh hsg
     clear HS hab hsg
     cases nu <;> cases nv
     all_goals
      go_wp2_with fail
      refine (HS2.out _ (Below.refl _ _)).mono ?_
      rintro r w5 ⟨v5,rfl,⟨s5,rfl,k5⟩,hB5⟩
      have hB6:=Qd HB2.out hB5
      obtain ⟨_,_,⟨z0,z1,z2,z3⟩,hh⟩:=HC.out _ hB6
      have k5':=k5
      obtain ⟨p5,c5,rfl,_⟩:=k5
      have HFn:Hid (NumV ((w5.setCell ⟨w.heap.size+1+1,0,none⟩ (.bool sg)).setCell ⟨w.heap.size+1+1,1,none⟩ (.slice p5 (dgs ab).length c5)) (.agg #[.bool sg,.slice p5 (dgs ab).length c5]) sg ab∧Below w.heap.size w ((w5.setCell ⟨w.heap.size+1+1,0,none⟩ (.bool sg)).setCell ⟨w.heap.size+1+1,1,none⟩ (.slice p5 (dgs ab).length c5))):=Lh ⟨NumV.keep ⟨_,rfl,k5'⟩ hh (by decide) (((Only.refl (w.heap.size+1+1) w5).set 0 (.bool sg)).set 1 (.slice p5 (dgs ab).length c5)),((Qd HBA.out hB6).setCell (p:=⟨w.heap.size+1+1,0,none⟩) (by simp only;omega) (.bool sg)).setCell (p:=⟨w.heap.size+1+1,1,none⟩) (by simp only;omega) (.slice p5 (dgs ab).length c5)⟩
      clear x0 x1 y0 y1 hB5 hB6 hh k5'
      go_wp2_with fail
      exact bodyPost_ret (v:=.agg #[.bool sg,.slice p5 (dgs ab).length c5]) (by simp [results,Tryz.results75,go_sem,z0,z1]) rfl ⟨_,rfl,by rw [← HAb.out,← HSg.out];exact HFn.out.1,HFn.out.2⟩
theorem Qak {w:World}{u v:Value}{a b:Nat}(hu:NumV w u false a)(hv:NumV w v false b)(hla:(dgs a).length≤10000)(hlb:(dgs b).length≤10000) :
  Calls Tryz.prog 75 #[u,v] w fun e w'=>∃ p l c,e=.returned (.agg #[.bool false,.slice p l c])∧NumV w' (.agg #[.bool false,.slice p l c]) false (a*b)∧Below w.heap.size w w':=by
 refine (Qby hu hv hla hlb).mono ?_
 rintro e w' ⟨v',rfl,⟨s,rfl,hs⟩,hB⟩
 have hs':=hs
 obtain ⟨p,cap,rfl,_⟩:=hs'
 exact ⟨_,_,_,rfl,⟨_,rfl,hs⟩,hB⟩
theorem Q9b (m:Nat)(hm:m<8)(neg:Bool)(h:Int)(q:Nat)(hq:q=0){w:World}{v:Value}(hv:NumV w v false q):Calls Tryz.prog 57 #[.int .i64 (m:Int),.bool neg,v,.int .i64 h] w fun r w'=>r=.returned (.bool (upR m neg q h))∧Below w.heap.size w w':=by
 have HB:=Lh (fun o=>Qm w o)
 obtain ⟨s,rfl,p,cap,rfl,_,_,hd⟩:=hv
 subst hq
 rw [Qp]
 clear hd
 rcases (show m=0∨m=1∨m=2∨m=3∨m=4∨m=5∨m=6∨m=7 by omega) with rfl | rfl | rfl | rfl | rfl | rfl | rfl | rfl
 ·have HR:Hid (upR 0 neg 0 h=false):=Lh rfl
  go_enter Tryz.func57, Tryz.ntmps57
  go_wp2_with fail
  go_ret
  exact ⟨by rw [HR.out];rfl,HB.out _⟩
 ·by_cases a1:0≤h
  ·have b1:decide (0≤h)=true:=decide_eq_true a1
   have HR:Hid (upR 1 neg 0 h=true):=Lh b1
   go_enter Tryz.func57, Tryz.ntmps57
   go_wp2_with fail
   go_ret
   exact ⟨by rw [HR.out];rfl,HB.out _⟩
  ·have b1:decide (0≤h)=false:=decide_eq_false a1
   have HR:Hid (upR 1 neg 0 h=false):=Lh b1
   go_enter Tryz.func57, Tryz.ntmps57
   go_wp2_with fail
   go_ret
   exact ⟨by rw [HR.out];rfl,HB.out _⟩
 ·by_cases a1:0<h
  ·have b1:decide (0<h)=true:=decide_eq_true a1
   have HR:Hid (upR 2 neg 0 h=true):=Lh (by unfold upR;simp [a1])
   go_enter Tryz.func57, Tryz.ntmps57
   go_wp2_with fail
   go_ret
   exact ⟨by rw [HR.out];rfl,HB.out _⟩
  ·have b1:decide (0<h)=false:=decide_eq_false a1
   have HR:Hid (upR 2 neg 0 h=false):=Lh (by unfold upR;simp [a1])
   by_cases a2:h=0
   ·subst a2
    go_enter Tryz.func57, Tryz.ntmps57
    go_wp2_with fail
    go_ret
    exact ⟨by rw [HR.out];rfl,HB.out _⟩
   ·have b2:(h == 0)=false:=by simpa using a2
    go_enter Tryz.func57, Tryz.ntmps57
    go_wp2_with fail
    go_ret
    exact ⟨by rw [HR.out];rfl,HB.out _⟩
 ·have HR:Hid (upR 3 neg 0 h=!neg):=Lh rfl
  go_enter Tryz.func57, Tryz.ntmps57
  go_wp2_with fail
  go_ret
  exact ⟨by rw [HR.out];rfl,HB.out _⟩
 ·have HR:Hid (upR 4 neg 0 h=neg):=Lh rfl
  go_enter Tryz.func57, Tryz.ntmps57
  go_wp2_with fail
  go_ret
  exact ⟨by rw [HR.out];rfl,HB.out _⟩
 ·by_cases a1:0<h
  ·have b1:decide (0<h)=true:=decide_eq_true a1
   have HR:Hid (upR 5 neg 0 h=true):=Lh b1
   go_enter Tryz.func57, Tryz.ntmps57
   go_wp2_with fail
   go_ret
   exact ⟨by rw [HR.out];rfl,HB.out _⟩
  ·have b1:decide (0<h)=false:=decide_eq_false a1
   have HR:Hid (upR 5 neg 0 h=false):=Lh b1
   go_enter Tryz.func57, Tryz.ntmps57
   go_wp2_with fail
   go_ret
   exact ⟨by rw [HR.out];rfl,HB.out _⟩
 ·have HR:Hid (upR 6 neg 0 h=true):=Lh rfl
  go_enter Tryz.func57, Tryz.ntmps57
  go_wp2_with fail
  go_ret
  exact ⟨by rw [HR.out];rfl,HB.out _⟩
 ·have HR:Hid (upR 7 neg 0 h=true):=Lh rfl
  go_enter Tryz.func57, Tryz.ntmps57
  go_wp2_with fail
  go_ret
  exact ⟨by rw [HR.out];rfl,HB.out _⟩
theorem Q9I (m:Nat)(hm:m<8)(neg:Bool)(h:Int)(q:Nat)(hq:q≠0){w:World}{v:Value}(hv:NumV w v false q):Calls Tryz.prog 57 #[.int .i64 (m:Int),.bool neg,v,.int .i64 h] w fun r w'=>r=.returned (.bool (upR m neg q h))∧Below w.heap.size w w':=by
 have HB:=Lh (fun o=>Qm w o)
 obtain ⟨s,rfl,p,cap,rfl,_,_,hd⟩:=hv
 have hl:0<(dgs q).length:=by have:=Q2U (n:=q);omega
 have hl2:(0:Int)<((dgs q).length:Int):=by omega
 obtain ⟨b,o,rfl,hb,hc⟩:=hd.dig 0 hl
 rw [Nat.pow_zero,Nat.div_one,Nat.add_zero] at hc
 generalize (dgs q).length=L at hl hl2 ⊢
 have HM2:Hid (q % 10 % 2=q % 2):=Lh (by omega)
 have HM5:Hid (q % 10=0∨q % 10=5 ↔ q % 5=0):=Lh (by omega)
 have hd9:q % 10<10:=Nat.mod_lt _ (by decide)
 clear hd hq
 generalize hg:q % 10=d at hc HM2 HM5 hd9
 clear hg
 rcases (show m=0∨m=1∨m=2∨m=3∨m=4∨m=5∨m=6∨m=7 by omega) with rfl | rfl | rfl | rfl | rfl | rfl | rfl | rfl
 ·have HR:Hid (upR 0 neg q h=false):=Lh rfl
  go_enter Tryz.func57, Tryz.ntmps57
  go_wp2_with fail
  go_ret
  exact ⟨by rw [HR.out];rfl,HB.out _⟩
 ·by_cases a1:0≤h
  ·have b1:decide (0≤h)=true:=decide_eq_true a1
   have HR:Hid (upR 1 neg q h=true):=Lh b1
   go_enter Tryz.func57, Tryz.ntmps57
   go_wp2_with fail
   go_ret
   exact ⟨by rw [HR.out];rfl,HB.out _⟩
  ·have b1:decide (0≤h)=false:=decide_eq_false a1
   have HR:Hid (upR 1 neg q h=false):=Lh b1
   go_enter Tryz.func57, Tryz.ntmps57
   go_wp2_with fail
   go_ret
   exact ⟨by rw [HR.out];rfl,HB.out _⟩
 ·by_cases a1:0<h
  ·have b1:decide (0<h)=true:=decide_eq_true a1
   have HR:Hid (upR 2 neg q h=true):=Lh (by unfold upR;simp [a1])
   go_enter Tryz.func57, Tryz.ntmps57
   go_wp2_with fail
   go_ret
   exact ⟨by rw [HR.out];rfl,HB.out _⟩
  ·have b1:decide (0<h)=false:=decide_eq_false a1
   by_cases a2:h=0
   ·subst a2
    by_cases a3:d % 2=1
    ·have b3:((d:Int) % 2 == 1)=true:=by simp;omega
     have HR:Hid (upR 2 neg q 0=true):=Lh (by have:=HM2.out;unfold upR;simp;omega)
     clear a3
     go_enter Tryz.func57, Tryz.ntmps57
     go_wp2_with fail
     go_ret
     exact ⟨by rw [HR.out];rfl,HB.out _⟩
    ·have b3:((d:Int) % 2 == 1)=false:=by simp;omega
     have HR:Hid (upR 2 neg q 0=false):=Lh (by have:=HM2.out;unfold upR;simp;omega)
     clear a3
     go_enter Tryz.func57, Tryz.ntmps57
     go_wp2_with fail
     go_ret
     exact ⟨by rw [HR.out];rfl,HB.out _⟩
   ·have b2:(h == 0)=false:=by simpa using a2
    have HR:Hid (upR 2 neg q h=false):=Lh (by unfold upR;simp [a1,a2])
    go_enter Tryz.func57, Tryz.ntmps57
    go_wp2_with fail
    go_ret
    exact ⟨by rw [HR.out];rfl,HB.out _⟩
 ·have HR:Hid (upR 3 neg q h=!neg):=Lh rfl
  go_enter Tryz.func57, Tryz.ntmps57
  go_wp2_with fail
  go_ret
  exact ⟨by rw [HR.out];rfl,HB.out _⟩
 ·have HR:Hid (upR 4 neg q h=neg):=Lh rfl
  go_enter Tryz.func57, Tryz.ntmps57
  go_wp2_with fail
  go_ret
  exact ⟨by rw [HR.out];rfl,HB.out _⟩
 ·by_cases a1:0<h
  ·have b1:decide (0<h)=true:=decide_eq_true a1
   have HR:Hid (upR 5 neg q h=true):=Lh b1
   go_enter Tryz.func57, Tryz.ntmps57
   go_wp2_with fail
   go_ret
   exact ⟨by rw [HR.out];rfl,HB.out _⟩
  ·have b1:decide (0<h)=false:=decide_eq_false a1
   have HR:Hid (upR 5 neg q h=false):=Lh b1
   go_enter Tryz.func57, Tryz.ntmps57
   go_wp2_with fail
   go_ret
   exact ⟨by rw [HR.out];rfl,HB.out _⟩
 ·have HR:Hid (upR 6 neg q h=true):=Lh rfl
  go_enter Tryz.func57, Tryz.ntmps57
  go_wp2_with fail
  go_ret
  exact ⟨by rw [HR.out];rfl,HB.out _⟩
 ·by_cases a1:d=0
  ·have HR:Hid (upR 7 neg q h=true):=Lh (decide_eq_true (HM5.out.1 (.inl a1)))
   subst a1
   go_enter Tryz.func57, Tryz.ntmps57
   go_wp2_with fail
   go_ret
   exact ⟨by rw [HR.out];rfl,HB.out _⟩
  ·have b1:((d:Int) == 0)=false:=by simp;omega
   by_cases a2:d=5
   ·have HR:Hid (upR 7 neg q h=true):=Lh (decide_eq_true (HM5.out.1 (.inr a2)))
    subst a2
    go_enter Tryz.func57, Tryz.ntmps57
    go_wp2_with fail
    go_ret
    exact ⟨by rw [HR.out];rfl,HB.out _⟩
   ·have b2:((d:Int) == 5)=false:=by simp;omega
    have HR:Hid (upR 7 neg q h=false):=Lh (decide_eq_false (fun h=>by rcases HM5.out.2 h with e | e;exact a1 e;exact a2 e))
    clear a1 a2
    go_enter Tryz.func57, Tryz.ntmps57
    go_wp2_with fail
    go_ret
    exact ⟨by rw [HR.out];rfl,HB.out _⟩
theorem Qa1 (m:Nat)(hm:m<8)(neg:Bool)(h:Int)(q:Nat){w:World}{v:Value}(hv:NumV w v false q):Calls Tryz.prog 57 #[.int .i64 (m:Int),.bool neg,v,.int .i64 h] w fun r w'=>r=.returned (.bool (upR m neg q h))∧Below w.heap.size w w':=by
 by_cases e:q=0
 ·exact Q9b m hm neg h q e hv
 ·exact Q9I m hm neg h q e hv
end Go.Proofs.YtpebcmfpehdafaaGreatDoor
