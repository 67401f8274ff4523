/- a part of the proof -/
import Derived.Deep.CutBlock
import Derived.Test.YtpebcmfpehdafaaGreatDoorZ28
import Derived.Test.YtpebcmfpehdafaaGreatDoorZ35
set_option linter.all false
set_option maxRecDepth 100000
set_option maxHeartbeats 16000000
namespace Go.Proofs.YtpebcmfpehdafaaGreatDoor
open Go Go.RowKit
theorem Qay {σ:Sg}{b:Nat}{f:Int}{n:Bool}{e u v:Int}(h:σ b=some (.dec f n e u)):setN σ b v=upd σ b (.dec f n e v):=funext fun k=>by
 by_cases q:k=b
 ·subst q;rw [Q07 h,Q1]
 ·rw [Qh _ _ q,Qa _ _ q]
theorem Qbe {c d:Nat}(h:c<10^40)(hd:d≤40):c*10^d<10^80:=by
 have:=Nat.mul_lt_mul_of_pos_right h (QE d)
 rw [← Nat.pow_add] at this
 exact Nat.lt_of_lt_of_le this (Nat.pow_le_pow_right (by decide) (by omega))
theorem Qbp:(10:Nat)^80<BB^5:=by unfold BB;decide
theorem QbJ:(10:Nat)^81<BB^5:=by unfold BB;decide
theorem QbG:(10:Nat)^141<BB^8:=by unfold BB;decide
theorem Qbq:(10:Nat)^61<BB^4:=by unfold BB;decide
theorem Qae {n k m:Nat}(h:n<BB^k)(hk:k≤m):n<BB^m:=Nat.lt_of_lt_of_le h (Nat.pow_le_pow_right (by unfold BB;decide) hk)
theorem Q3.sg2 (σ:Sg){a g m:Nat}(h2:g≠m)(A G M G':Nat):setN (Q3 σ a g m A G M) g (G':Int)=Q3 σ a g m A G' M:=by unfold Q3;rw [QL _ _ _ h2,Q2.sg σ]
theorem Qbz {W:World}{τ:Sg}{w:World}(hW:GW W){a b A v:Nat}(hb:τ b=none)(h:St W (upd τ b (.big (v:Int))) w){f:Int}{n:Bool}{e:Int}(ha:τ a=some (.dec f n e (A:Int)))(lA:A<BB^100)(lv:v<BB^100) :
  Calls Tryz.prog 98 #[.pointer (some ⟨a,3,none⟩),.pointer (some ⟨a,3,none⟩),.pointer (some ⟨b,0,none⟩)] w fun r w'=>r=.returned (.pointer (some ⟨a,3,none⟩))∧St W (setN τ a ((A+v:Nat):Int)) w':=by
 have ne:a≠b:=by rintro rfl;rw [ha] at hb;cases hb
 refine Q5t ((Q3L hW h.drew (Num.dec (by rw [Qa _ _ ne];exact ha)) (Num.big (Q1 _ _ _)) ne lA lv).mono ?_)
 rintro r w' ⟨rfl,k⟩
 rw [QL _ _ _ ne] at k
 exact ⟨rfl,k.less (Ext.new (by rw [Qh _ _ ne.symm];exact hb) _)⟩
theorem QbA (R:Nat):(signI (R:Int) != 0)=decide (R≠0)∧decide (¬ signI (R:Int)=0)=decide (R≠0):=by
 unfold signI
 by_cases h:R=0
 ·subst h;exact ⟨rfl,rfl⟩
 ·rw [if_neg (by omega),if_neg (by omega),decide_eq_true h];exact ⟨rfl,rfl⟩
theorem QbB (a b:Nat):decide (cmpI a b<0)=decide (a<b):=by
 unfold cmpI
 by_cases h:a<b
 ·rw [if_pos h,decide_eq_true h];rfl
 ·rw [if_neg h,decide_eq_false h];split <;> rfl
theorem Qbf {W:World}{σ:Sg}{w:World}(hW:GW W)(h:St W σ w){b bx bu bk p md tr:Nat}{mx mn:Int}(hk:Ctx σ bk p mx mn ((tr:Nat):Int) md)(htr:tr<4096)(hp:0<p∧p≤60){f ed:Int}{nd:Bool}{cd:Int}{n1 n2:Bool}{e1 e2:Int}{c1 c2:Nat}(hb:σ b=some (.dec f nd ed cd))(hx:σ bx=some (.dec 0 n1 e1 (c1:Int)))(hu:σ bu=some (.dec 0 n2 e2 (c2:Int)))(hc1:0<c1∧c1<10^40)(hc2:0<c2∧c2<10^40)(he1 : -200≤e1∧e1≤200)(he2 : -200≤e2∧e2≤200)(hsub:mn≤quoE p e1 e2 c1 c2+p - 1) :
  Calls Tryz.prog 39 #[.pointer (some ⟨bk,0,none⟩),.pointer (some ⟨b,0,none⟩),.pointer (some ⟨bx,0,none⟩),.pointer (some ⟨bu,0,none⟩)] w fun r w'=>(∃ v,r=.returned (.tuple #[.int .u32 ((quoF p mx md (n1 != n2) e1 e2 c1 c2).k:Int),v])∧ErrV (badK (quoF p mx md (n1 != n2) e1 e2 c1 c2).k tr) v)∧St W (upd σ b (quoF p mx md (n1 != n2) e1 e2 c1 c2).ob) w':=by
 have HQ:=Lh (Q9q (b:=b) h hk (by omega) hx hu hc2.1)
 have HF:Hid (∀ w1,St W σ w1→(w1.cell? ⟨bx,1,none⟩=some (.bool n1)∧w1.cell? ⟨bx,2,none⟩=some (.int .i32 e1)∧w1.cell? ⟨bu,1,none⟩=some (.bool n2)∧w1.cell? ⟨bu,2,none⟩=some (.int .i32 e2))∧Calls Tryz.prog 81 #[.pointer (some ⟨bx,0,none⟩)] w1 fun r w'=>r=.returned (.bool false)∧w'=w1):=fun w1 q1 =>
  ⟨⟨(q1.dec hx).2.1,(q1.dec hx).2.2.1,(q1.dec hu).2.1,(q1.dec hu).2.2.1⟩,by
   have:=QC q1 hx
   rw [decide_eq_false (by omega)] at this
   exact this⟩
 have HK:=Lh hk;have HB:=Lh hb;have HX:=Lh hx;have HU:=Lh hu
 have hmd:md<8:=by obtain ⟨_,_,_,_,_,_,_,q⟩:=hk;exact q
 have d1:=Q09 (k:=40) (by decide) hc1.2
 have d2:=Q09 (k:=40) (by decide) hc2.2
 have l1:qD0 c1 c2<10^80:=Qbe hc1.2 (by omega)
 have l2:qV c1 c2<10^80:=Qbe hc2.2 (by omega)
 have l3:qD0 c1 c2*10^qLs c1 c2<10^81:=by
  have:=Nat.mul_lt_mul_of_pos_right l1 (QE (qLs c1 c2))
  rw [← Nat.pow_add] at this
  exact Nat.lt_of_lt_of_le this (Nat.pow_le_pow_right (by decide) (by have:=QaA c1 c2;omega))
 have l4:qD p c1 c2<10^141:=by
  have:=Nat.mul_lt_mul_of_pos_right l3 (QE (p - 1))
  rw [← Nat.pow_add] at this
  exact Nat.lt_of_lt_of_le this (Nat.pow_le_pow_right (by decide) (by omega))
 have hqd:=Qah (p:=p) hp.1 hc1.1 hc2.1
 have hQ61:qD p c1 c2 / qV c1 c2+1<10^61:=by
  have h1:=Q0m (qD p c1 c2 / qV c1 c2)
  rw [hqd] at h1
  have h2:10^p≤10^60:=Nat.pow_le_pow_right (by decide) hp.2
  have h3:10^60+1<10^61:=by decide
  omega
 have HSz:Hid (c1<BB^5∧c2<BB^5∧qD0 c1 c2<BB^5∧qV c1 c2<BB^5∧qD0 c1 c2*10^qLs c1 c2<BB^5∧qD p c1 c2<BB^8∧qD p c1 c2 / qV c1 c2+1<BB^4):=Lh (by
  have h80:=Qbp;have h40:10^40<10^80:=by decide
  exact ⟨Nat.lt_trans hc1.2 (Nat.lt_trans h40 h80),Nat.lt_trans hc2.2 (Nat.lt_trans h40 h80),Nat.lt_trans l1 h80,Nat.lt_trans l2 h80,Nat.lt_trans l3 QbJ,Nat.lt_trans l4 QbG,Nat.lt_trans hQ61 Qbq⟩)
 have HVp:=Lh (Qap (cx:=c1) hc2.1)
 have HQT:=Lh hQ61
 have HNr:=Lh (QaB hc1.1 hc2.1).1
 have HDg:=Lh hqd
 have HC:=Lh (And.intro hc1 hc2)
 have HP:=Lh hp;have HE:=Lh (And.intro he1 he2);have HMd:=Lh hmd;have HTr:=Lh htr
 have HSub:=Lh hsub
 have HDD:=Lh (And.intro d1 (And.intro d2 (QaA c1 c2)))
 obtain ⟨D,hD⟩:∃ D,D=quoF p mx md (n1 != n2) e1 e2 c1 c2:=⟨_,rfl⟩
 rw [← hD]
 have HDr:=Lh hD
 obtain ⟨SH,hSH⟩:∃ SH,SH=e1 - e2:=⟨_,rfl⟩
 have HSH:=Lh hSH
 have j1:IntKind.i32.wrap (e1 - e2)=SH:=by rw [hSH];exact IntWalk.i32_in _ (by omega)
 have j2:IntKind.i64.wrap SH=SH:=by rw [hSH];exact IntWalk.i64_in _ (by omega)
 have j3:IntKind.i64.wrap ((ndg c1:Int) - (ndg c2:Int))=(ndg c1:Int) - (ndg c2:Int):=IntWalk.i64_in _ (by omega)
 generalize hnn:(n1 != n2)=nn at HDr
 have hnq:(!(n1 == n2))=nn:=hnn
 clear h hk hb hx hu hD hnn hSH d1 d2 l1 l2 l3 l4 hqd hQ61 hp hc1 hc2 he1 he2 hsub hmd htr
 go_enter Tryz.func39, Tryz.ntmps39
 go_wp2_with fail
 refine HQ.out.mono ?_
 rintro r w1 ⟨rfl,q1⟩
 obtain ⟨⟨x1,x2,u1,u2⟩,hz⟩:=HF.out _ q1
 have H1:=Lh q1;clear q1 HQ hz
 go_wp2_with fail
 go_quiet (fail)
 go_wp2_with fail
 go_quiet (fail)
 go_wp2_with fail
 refine (HF.out _ (by exact H1.out.sm ⟨rfl,rfl,rfl,rfl⟩)).2.mono ?_
 rintro r w2 ⟨rfl,hw2⟩
 have H2:=Lh (show St W σ w2 by rw [hw2];exact H1.out.sm ⟨rfl,rfl,rfl,rfl⟩)
 clear hw2 H1 x1 x2 u1 u2 HF
 obtain ⟨a,ha⟩:∃ a,a=w2.heap.size:=⟨_,rfl⟩
 obtain ⟨g,hg⟩:∃ g,g=a+1:=⟨_,rfl⟩
 have hA0:=H2.out.two_big 69
 rw [← ha,← hg] at hA0
 obtain ⟨na,ng,q2⟩:=hA0
 have ag:a≠g:=by omega
 have ab:a≠b:=by rintro rfl;rw [HB.out] at na;cases na
 have gb:g≠b:=by rintro rfl;rw [HB.out] at ng;cases ng
 have ax:a≠bx:=by rintro rfl;rw [HX.out] at na;cases na
 have gx:g≠bx:=by rintro rfl;rw [HX.out] at ng;cases ng
 have au:a≠bu:=by rintro rfl;rw [HU.out] at na;cases na
 have gu:g≠bu:=by rintro rfl;rw [HU.out] at ng;cases ng
 have q3:St W (Q2 σ a g 0 0) ((w2.alloc (.cells #[.bool false,.slice none 0 0] 69)).alloc (.cells #[.bool false,.slice none 0 0] 69)):=q2
 have HA1:=Lh (Q2W (R:=fun w'=>St W (Q2 σ a g c1 0) w') ((Q1E q3.drew (Num.big (Q2.ga σ ag 0 0)) (Num.dec (v:=(c1:Int)) (by unfold Q2;rw [Qa _ _ gx.symm,Qa _ _ ax.symm];exact HX.out)) ax (by rw [Int.natAbs_natCast];exact Qae HSz.out.1 (by decide))).mono (fun r w' ⟨e,k⟩=>⟨e,by rw [Int.natAbs_natCast,Q2.sa σ ag] at k;exact k⟩)))
 have Hag:=Lh ag;have Hna:=Lh na;have Hng:=Lh ng;have Hgu:=Lh gu;have Hau:=Lh au;have Hab:=Lh ab;have Hgb:=Lh gb
 clear q2 q3 H2 ag na ng gu au gx ax ab gb
 go_wp2_with fail
 rw [← ha,← hg]
 clear ha hg
 refine HA1.out.mono ?_
 rintro r w3 ⟨rfl,q3⟩
 have HA2:=Lh (Q2W (R:=fun w'=>St W (Q2 σ a g c1 c2) w') ((Q1E q3.drew (Num.big (Q2.gg σ a g c1 0)) (Num.dec (v:=(c2:Int)) (by unfold Q2;rw [Qa _ _ Hgu.out.symm,Qa _ _ Hau.out.symm];exact HU.out)) Hgu.out (by rw [Int.natAbs_natCast];exact Qae HSz.out.2.1 (by decide))).mono (fun r w' ⟨e,k⟩=>⟨e,by rw [Int.natAbs_natCast,Q2.sg] at k;exact k⟩)))
 clear q3 HA1
 go_wp2_with fail
 refine HA2.out.mono ?_
 rintro r w4 ⟨rfl,q4⟩
 have HD1:=Lh (QV hW q4 (Num.big (Q2.ga σ Hag.out c1 c2)) (Qae HSz.out.1 (by decide)))
 clear q4 HA2
 go_wp2_with fail
 refine HD1.out.mono ?_
 rintro r w5 ⟨rfl,q5⟩
 have HD2:=Lh (QV hW q5 (Num.big (Q2.gg σ a g c1 c2)) (Qae HSz.out.2.1 (by decide)))
 clear q5 HD1
 go_wp2_with fail
 refine HD2.out.mono ?_
 rintro r w6 ⟨rfl,q6⟩
 obtain ⟨m,hm⟩:∃ m,m=w6.heap.size:=⟨_,rfl⟩
 have nm:=q6.none_new
 have q7:St W (Q3 σ a g m c1 c2 0) (w6.alloc (.cells #[.bool false,.slice none 0 0] 69)):=by rw [hm];exact q6.alloc_big 69
 rw [← hm] at nm
 have am:a≠m:=by rintro rfl;rw [Q2.ga σ Hag.out] at nm;cases nm
 have gm:g≠m:=by rintro rfl;rw [Q2.gg] at nm;cases nm
 have bm:m≠b:=by rintro rfl;unfold Q2 at nm;rw [Qa _ _ Hgb.out.symm,Qa _ _ Hab.out.symm,HB.out] at nm;cases nm
 have Hnm:Hid (σ m=none):=by
  unfold Q2 at nm
  rw [Qa _ _ gm.symm,Qa _ _ am.symm] at nm
  exact nm
 have Ham:=Lh am;have Hgm:=Lh gm;have Hbm:=Lh bm
 have H7:=Lh q7
 clear q6 q7 HD2 nm am gm bm Hau Hgu HX HU
 go_upto_if 95 with (fail)
 rw [← hm]
 generalize w6.alloc (.cells #[.bool false,.slice none 0 0] 69)=w7 at H7 ⊢
 clear hm
 clear j1 j2 hnq
 go_cut [20] from 95 to 105 (fun z wx=>z=.int .i64 ((ndg c1:Int) - (ndg c2:Int))∧∃ M,St W (Q3 σ a g m (qD0 c1 c2) (qV c1 c2) M) wx)
 case first =>
  have HdA:=Lh HDD.out.1;have HdB:=Lh HDD.out.2.1
  rcases Nat.lt_trichotomy (ndg c1) (ndg c2) with q | q | q
  ·obtain ⟨k,hkk⟩:∃ k,ndg c2=ndg c1+k:=⟨_,(Nat.add_sub_of_le (Nat.le_of_lt q)).symm⟩
   have HA:Hid (qD0 c1 c2=c1*10^k):=Lh (by unfold qD0;rw [hkk,Nat.add_sub_cancel_left])
   have HV:Hid (qV c1 c2=c2):=Lh (by unfold qV;rw [show ndg c1 - ndg c2=0 by omega,Nat.pow_zero,Nat.mul_one])
   have hk40:k≤40:=by have:=HdB.out;omega
   have t1:(ndg c1:Int) - (ndg c2:Int)<0:=by omega
   have t2:decide ((ndg c1:Int) - (ndg c2:Int)<0)=true:=decide_eq_true t1
   have j4:IntKind.i64.wrap (-((ndg c1:Int) - (ndg c2:Int)))=(k:Int):=by rw [show -((ndg c1:Int) - (ndg c2:Int))=(k:Int) by omega];exact IntWalk.i64_in _ (by omega)
   have HT:=Lh (Q00 hW H7.out (Num.big (Q3.gm σ a g m c1 c2 0)) k (by omega))
   have l100:10^k<BB^100:=Qae (Nat.lt_of_le_of_lt (Nat.pow_le_pow_right (by decide) (show k≤80 by omega)) Qbp) (by decide)
   have HL:=Lh l100
   clear hkk q hk40 l100 HdA HdB H7
   go_wp2_with fail
   refine HT.out.mono ?_
   rintro r w10 ⟨rfl,q10⟩
   rw [Q3.sm] at q10
   have HM2:=Lh (Q5u (R:=fun w'=>St W (Q3 σ a g m (c1*10^k) c2 (10^k)) w') ((Q2Z hW (St.drew q10) (x:=c1) (y:=10^k) (Num.big (Q3.ga σ Hag.out Ham.out c1 c2 (10^k))) (Num.big (Q3.gm σ a g m c1 c2 (10^k))) Ham.out (Qae HSz.out.1 (by decide)) HL.out).mono (fun r w' ⟨e,k⟩=>⟨e,by rw [Q3.sa σ Hag.out Ham.out] at k;exact k⟩)))
   clear q10 HT
   go_wp2_with fail
   refine HM2.out.mono ?_
   rintro r w11 ⟨rfl,q11⟩
   have H11:=Lh q11
   clear q11 HM2
   go_wp2_with fail
   go_meet
   exact ⟨rfl,10^k,by rw [HA.out,HV.out];exact H11.out⟩
  ·have HA:Hid (qD0 c1 c2=c1):=Lh (by unfold qD0;rw [show ndg c2 - ndg c1=0 by omega,Nat.pow_zero,Nat.mul_one])
   have HV:Hid (qV c1 c2=c2):=Lh (by unfold qV;rw [show ndg c1 - ndg c2=0 by omega,Nat.pow_zero,Nat.mul_one])
   have t1:¬ (ndg c1:Int) - (ndg c2:Int)<0:=by omega
   have t2:decide ((ndg c1:Int) - (ndg c2:Int)<0)=false:=decide_eq_false t1
   have t3:¬ 0<(ndg c1:Int) - (ndg c2:Int):=by omega
   have t4:decide (0<(ndg c1:Int) - (ndg c2:Int))=false:=decide_eq_false t3
   clear q
   go_wp2_with fail
   go_meet
   exact ⟨rfl,0,by rw [HA.out,HV.out];exact H7.out⟩
  ·obtain ⟨k,hkk⟩:∃ k,ndg c1=ndg c2+k:=⟨_,(Nat.add_sub_of_le (Nat.le_of_lt q)).symm⟩
   have HA:Hid (qV c1 c2=c2*10^k):=Lh (by unfold qV;rw [hkk,Nat.add_sub_cancel_left])
   have HV:Hid (qD0 c1 c2=c1):=Lh (by unfold qD0;rw [show ndg c2 - ndg c1=0 by omega,Nat.pow_zero,Nat.mul_one])
   have hk40:k≤40:=by have:=HdA.out;omega
   have t1:¬ (ndg c1:Int) - (ndg c2:Int)<0:=by omega
   have t2:decide ((ndg c1:Int) - (ndg c2:Int)<0)=false:=decide_eq_false t1
   have t3:0<(ndg c1:Int) - (ndg c2:Int):=by omega
   have t4:decide (0<(ndg c1:Int) - (ndg c2:Int))=true:=decide_eq_true t3
   have hk1:(ndg c1:Int) - (ndg c2:Int)=(k:Int):=by omega
   have HK1:=Lh hk1
   have HT:=Lh (Q00 hW H7.out (Num.big (Q3.gm σ a g m c1 c2 0)) k (by omega))
   rw [← hk1] at HT
   have l100:10^k<BB^100:=Qae (Nat.lt_of_le_of_lt (Nat.pow_le_pow_right (by decide) (show k≤80 by omega)) Qbp) (by decide)
   have HL:=Lh l100
   clear hkk q hk40 l100 HdA HdB H7 hk1
   go_wp2_with fail
   refine HT.out.mono ?_
   rintro r w10 ⟨rfl,q10⟩
   rw [Q3.sm] at q10
   have HM2:=Lh (Q5u (R:=fun w'=>St W (Q3 σ a g m c1 (c2*10^k) (10^k)) w') ((Q2Z hW (St.drew q10) (x:=c2) (y:=10^k) (Num.big (Q3.gg σ Hgm.out c1 c2 (10^k))) (Num.big (Q3.gm σ a g m c1 c2 (10^k))) Hgm.out (Qae HSz.out.2.1 (by decide)) HL.out).mono (fun r w' ⟨e,k⟩=>⟨e,by rw [Q3.sg2 σ Hgm.out] at k;exact k⟩)))
   clear q10 HT
   go_wp2_with fail
   refine HM2.out.mono ?_
   rintro r w11 ⟨rfl,q11⟩
   have H11:=Lh q11
   clear q11 HM2
   go_wp2_with fail
   go_meet
   exact ⟨rfl,10^k,by rw [HA.out,HV.out];exact H11.out⟩
 case rest =>
  obtain ⟨rfl,M,hq⟩:=hcut
  have H8:=Lh hq
  clear hq H7
  have j5:IntKind.i64.wrap (-((ndg c1:Int) - (ndg c2:Int)))=(ndg c2:Int) - (ndg c1:Int):=by rw [show -((ndg c1:Int) - (ndg c2:Int))=(ndg c2:Int) - (ndg c1:Int) by omega];exact IntWalk.i64_in _ (by have:=HDD.out;omega)
  have j6:IntKind.i64.wrap ((ndg c2:Int) - (ndg c1:Int))=(ndg c2:Int) - (ndg c1:Int):=IntWalk.i64_in _ (by have:=HDD.out;omega)
  have HC1:=Lh (Q26 (R:=fun w'=>St W (Q3 σ a g m (qD0 c1 c2) (qV c1 c2) M) w') ((Q25 H8.out.drew (x:=qD0 c1 c2) (u:=qV c1 c2) (Num.big (Q3.ga σ Hag.out Ham.out _ _ _)) (Num.big (Q3.gg σ Hgm.out _ _ _)) Hag.out).mono (fun r w' ⟨e,q,hw⟩=>⟨e,by rw [hw];exact H8.out.drew.drewN q⟩)))
  have hcm:=QbB (qD0 c1 c2) (qV c1 c2)
  generalize cmpI (qD0 c1 c2) (qV c1 c2)=cv at HC1 hcm
  obtain ⟨lt,hlt⟩:∃ lt,lt=decide (qD0 c1 c2<qV c1 c2):=⟨_,rfl⟩
  rw [← hlt] at hcm
  have HLt:=Lh hlt
  clear hlt H8
  go_wp2_with fail
  refine HC1.out.mono ?_
  rintro r w9 ⟨rfl,q9⟩
  have H9:=Lh q9
  clear q9 HC1
  go_upto_if 108 with (fail)
  go_cut [22] from 108 to 113 (fun z wx=>z=.int .i64 ((ndg c2:Int) - (ndg c1:Int)+(qLs c1 c2:Nat))∧∃ M,St W (Q3 σ a g m (qD0 c1 c2*10^qLs c1 c2) (qV c1 c2) M) wx)
  case first =>
   clear hcm
   cases lt with
   | true =>
    have HL:Hid (qLs c1 c2=1):=Lh (if_pos (of_decide_eq_true HLt.out.symm))
    have j7:IntKind.i64.wrap ((ndg c2:Int) - (ndg c1:Int)+1)=(ndg c2:Int) - (ndg c1:Int)+1:=IntWalk.i64_in _ (by have:=HDD.out;omega)
    go_wp2_with fail
    refine (Q0Q H9.out).mono ?_
    rintro r w8 ⟨b1,rfl,hb1,q8⟩
    have HM1:=Lh (Q8o hW hb1 (v:=10) q8 (Q3.ga σ Hag.out Ham.out (qD0 c1 c2) (qV c1 c2) M) (Qae HSz.out.2.2.1 (by decide)) (by unfold BB;decide))
    rw [Q3.sa σ Hag.out Ham.out] at HM1
    clear q8 hb1 H9
    go_wp2_with fail
    refine HM1.out.mono ?_
    rintro r w10 ⟨rfl,q10⟩
    have H10:=Lh q10
    clear q10 HM1
    go_wp2_with fail
    go_meet
    exact ⟨by rw [HL.out];rfl,M,by rw [HL.out,Nat.pow_one];exact H10.out⟩
   | false =>
    have HL:Hid (qLs c1 c2=0):=Lh (if_neg (of_decide_eq_false HLt.out.symm))
    go_wp2_with fail
    go_meet
    exact ⟨by rw [HL.out];simp,M,by rw [HL.out,Nat.pow_zero,Nat.mul_one];exact H9.out⟩
  case rest =>
   obtain ⟨rfl,M2,hq⟩:=hcut
   have H10:=Lh hq
   clear hq H9 hcm HLt j3 j5 j6
   obtain ⟨pp,hpp⟩:∃ pp,p=pp+1:=⟨p - 1,by have:=HP.out;omega⟩
   have HDd:Hid (qD p c1 c2=qD0 c1 c2*10^qLs c1 c2*10^pp):=Lh (by unfold qD;rw [hpp,Nat.add_sub_cancel])
   have HPp:=Lh hpp
   have k1:IntKind.u32.wrap ((p:Int) - 1)=(pp:Int):=by rw [show (p:Int) - 1=(pp:Int) by omega];exact IntWalk.u32_in _ (by have:=HP.out;omega)
   have k2:IntKind.i64.wrap (pp:Int)=(pp:Int):=IntWalk.i64_in _ (by have:=HP.out;omega)
   have HL:Hid (10^pp<BB^100):=Lh (Qae (Nat.lt_of_le_of_lt (Nat.pow_le_pow_right (by decide) (show pp≤80 by have:=HP.out;omega)) Qbp) (by decide))
   have HAL:Hid (qD0 c1 c2*10^qLs c1 c2<BB^39):=Lh (Qae HSz.out.2.2.2.2.1 (by decide))
   have HT:=Lh (Q00 hW H10.out (Num.big (Q3.gm σ a g m (qD0 c1 c2*10^qLs c1 c2) (qV c1 c2) M2)) pp (by have:=HP.out;omega))
   have p0:=(H10.out.ctx (HK.out.ext (Q3.ext Hna.out Hng.out Hnm.out _ _ _))).1
   obtain ⟨AC,hAC⟩:∃ AC:Int,AC=(ndg c2:Int) - (ndg c1:Int)+(qLs c1 c2:Nat):=⟨_,rfl⟩
   rw [← hAC]
   have HAC:=Lh hAC
   obtain ⟨qqv,hQQ⟩:∃ Q,Q=qD p c1 c2 / qV c1 c2:=⟨_,rfl⟩
   obtain ⟨RR,hRR⟩:∃ R,R=qD p c1 c2 % qV c1 c2:=⟨_,rfl⟩
   have HQQ:=Lh hQQ;have HRR:=Lh hRR
   clear hpp H10 hAC hQQ hRR
   go_wp2_with fail
   refine HT.out.mono ?_
   rintro r w10 ⟨rfl,q10⟩
   rw [Q3.sm] at q10
   have HM2:=Lh (Q5u (R:=fun w'=>St W (Q3 σ a g m (qD p c1 c2) (qV c1 c2) (10^pp)) w') ((Q2Z hW (St.drew q10) (x:=qD0 c1 c2*10^qLs c1 c2) (y:=10^pp) (Num.big (Q3.ga σ Hag.out Ham.out _ _ (10^pp))) (Num.big (Q3.gm σ a g m _ _ (10^pp))) Ham.out HAL.out HL.out).mono (fun r w' ⟨e,k⟩=>⟨e,by rw [Q3.sa σ Hag.out Ham.out,← HDd.out] at k;exact k⟩)))
   clear q10 HT p0
   go_wp2_with fail
   refine HM2.out.mono ?_
   rintro r w11 ⟨rfl,q11⟩
   obtain ⟨t,ht⟩:∃ t,t=w11.heap.size:=⟨_,rfl⟩
   have nt:=q11.none_new
   have q12:St W (Q4 σ a g m t (qD p c1 c2) (qV c1 c2) (10^pp) 0) (w11.alloc (.cells #[.bool false,.slice none 0 0] 69)):=by rw [ht];exact q11.alloc_big 69
   rw [← ht] at nt
   have tt:t≠a∧t≠g∧t≠m∧t≠b∧σ t=none:=by
    have e1:t≠a:=by rintro rfl;rw [Q3.ga σ Hag.out Ham.out] at nt;cases nt
    have e2:t≠g:=by rintro rfl;rw [Q3.gg σ Hgm.out] at nt;cases nt
    have e3:t≠m:=by rintro rfl;rw [Q3.gm] at nt;cases nt
    unfold Q3 Q2 at nt
    rw [Qa _ _ e3,Qa _ _ e2,Qa _ _ e1] at nt
    exact ⟨e1,e2,e3,(by rintro rfl;rw [HB.out] at nt;cases nt),nt⟩
   have HT:=Lh tt
   generalize hPW:10^pp=PW at q12
   clear hPW
   have HQR:Hid (Calls Tryz.prog 94 #[.pointer (some ⟨b,3,none⟩),.pointer (some ⟨a,0,none⟩),.pointer (some ⟨g,0,none⟩),.pointer (some ⟨t,0,none⟩)] (w11.alloc (.cells #[.bool false,.slice none 0 0] 69)) fun r w'=>r=.returned (.tuple #[.pointer (some ⟨b,3,none⟩),.pointer (some ⟨t,0,none⟩)])∧(w'.cell? ⟨b,0,none⟩=some (.int .i8 f)∧w'.frozen? ⟨b,0,none⟩=false)∧(w'.cell? ⟨b,1,none⟩=some (.bool nd)∧w'.frozen? ⟨b,1,none⟩=false)∧St W (Q4 (upd σ b (.dec 0 nn ed (qqv:Int))) a g m t (qD p c1 c2) (qV c1 c2) PW RR) ((w'.setCell ⟨b,0,none⟩ (.int .i8 0)).setCell ⟨b,1,none⟩ (.bool nn))):=by
    obtain ⟨t1,t2,t3,t4,t5⟩:=tt
    refine Q1r ((Q0K hW q12.drew (x:=qD p c1 c2) (y:=qV c1 c2) (bz:=b) (br:=t) (bx:=a) (bu:=g) (Num.dec (f:=f) (n:=nd) (e:=ed) (v:=cd) (by unfold Q4 Q3 Q2;rw [Qa _ _ t4.symm,Qa _ _ Hbm.out.symm,Qa _ _ Hgb.out.symm,Qa _ _ Hab.out.symm];exact HB.out)) (Num.big (v:=((0:Nat):Int)) (Q1 _ _ _)) (Num.big (by unfold Q4;rw [Qa _ _ t1.symm,Q3.ga σ Hag.out Ham.out])) t4.symm Hab.out.symm t1 (Num.big (v:=((qV c1 c2:Nat):Int)) (by unfold Q4;rw [Qa _ _ t2.symm,Q3.gg σ Hgm.out])) Hgb.out.symm t2 (by have:=HVp.out;omega) (Qae HSz.out.2.2.2.2.2.1 (by decide)) (Qae HSz.out.2.2.2.1 (by decide))).mono ?_)
    rintro r w' ⟨rfl,k⟩
    rw [← HQQ.out,← HRR.out] at k
    have k2:St W (Q4 (upd σ b (.dec f nd ed (qqv:Int))) a g m t (qD p c1 c2) (qV c1 c2) PW RR) w':=k.ext fun i=>by
     have hab:=Hab.out;have hgb:=Hgb.out;have hbm:=Hbm.out
     by_cases e1:i=t
     ·subst e1
      unfold Q4;rw [Q1,QQ (u:=((0:Nat):Int)) (by rw [Qh _ _ t4];exact Q1 _ _ _)]
     ·rw [Qh _ _ e1]
      by_cases e2:i=b
      ·subst e2
       rw [Q07 (f:=f) (n:=nd) (e:=ed) (u:=cd) (by unfold Q4 Q3 Q2;rw [Qa _ _ t4.symm,Qa _ _ hbm.symm,Qa _ _ hgb.symm,Qa _ _ hab.symm];exact HB.out)]
       unfold Q4 Q3 Q2;rw [Qa _ _ t4.symm,Qa _ _ hbm.symm,Qa _ _ hgb.symm,Qa _ _ hab.symm,Q1]
      ·rw [Qh _ _ e2]
       unfold Q4 Q3 Q2
       rw [Qa _ _ e1,Qa _ _ e1]
       by_cases e3:i=m
       ·subst e3;rw [Q1,Q1]
       ·rw [Qa _ _ e3,Qa _ _ e3]
        by_cases e4:i=g
        ·subst e4;rw [Q1,Q1]
        ·rw [Qa _ _ e4,Qa _ _ e4]
         by_cases e5:i=a
         ·subst e5;rw [Q1,Q1]
         ·rw [Qa _ _ e5,Qa _ _ e5,Qa _ _ e2]
    have hbb:(Q4 (upd σ b (.dec f nd ed (qqv:Int))) a g m t (qD p c1 c2) (qV c1 c2) PW RR) b=some (.dec f nd ed (qqv:Int)):=by unfold Q4 Q3 Q2;rw [Qa _ _ t4.symm,Qa _ _ Hbm.out.symm,Qa _ _ Hgb.out.symm,Qa _ _ Hab.out.symm,Q1]
    obtain ⟨d0,d1,_,g0,g1,_⟩:=k2.dec hbb
    refine ⟨rfl,⟨d0,g0⟩,⟨d1,g1⟩,((k2.setForm hbb 0).setNeg (Q1 _ _ _) nn).upd2.ext fun i=>?_⟩
    by_cases e2:i=b
    ·subst e2
     rw [Q1]
     unfold Q4 Q3 Q2;rw [Qa _ _ t4.symm,Qa _ _ Hbm.out.symm,Qa _ _ Hgb.out.symm,Qa _ _ Hab.out.symm,Q1]
    ·rw [Qa _ _ e2]
     unfold Q4 Q3 Q2
     simp only [upd,if_neg e2]
   clear q11 q12 HM2 nt tt
   go_wp2_with fail
   try rw [← ht]
   clear ht
   refine HQR.out.mono ?_
   rintro r w12 ⟨rfl,⟨d0,g0⟩,⟨d1,g1⟩,q13⟩
   have H13:=Lh q13;clear q13 HQR
   have HS5:Hid ((Q4 (upd σ b (.dec 0 nn ed (qqv:Int))) a g m t (qD p c1 c2) (qV c1 c2) PW RR) b=some (.dec 0 nn ed (qqv:Int))∧(Q4 (upd σ b (.dec 0 nn ed (qqv:Int))) a g m t (qD p c1 c2) (qV c1 c2) PW RR) t=some (.big (RR:Int))∧(Q4 (upd σ b (.dec 0 nn ed (qqv:Int))) a g m t (qD p c1 c2) (qV c1 c2) PW RR) g=some (.big ((qV c1 c2:Nat):Int))∧Ext (upd σ b (.dec 0 nn ed (qqv:Int))) (Q4 (upd σ b (.dec 0 nn ed (qqv:Int))) a g m t (qD p c1 c2) (qV c1 c2) PW RR)):=by
    obtain ⟨t1,t2,t3,t4,t5⟩:=HT.out
    refine ⟨?_,Q1 _ _ _,?_,?_⟩
    ·unfold Q4 Q3 Q2;rw [Qa _ _ t4.symm,Qa _ _ Hbm.out.symm,Qa _ _ Hgb.out.symm,Qa _ _ Hab.out.symm,Q1]
    ·unfold Q4;rw [Qa _ _ t2.symm,Q3.gg _ Hgm.out]
    ·exact (Q3.ext (by rw [Qa _ _ Hab.out];exact Hna.out) (by rw [Qa _ _ Hgb.out];exact Hng.out) (by rw [Qa _ _ Hbm.out];exact Hnm.out) _ _ _).upd_skip (by rw [Qa _ _ t4];exact t5) _
   generalize Q4 (upd σ b (.dec 0 nn ed (qqv:Int))) a g m t (qD p c1 c2) (qV c1 c2) PW RR=τ at H13 HS5
   have HQ61:Hid (qqv+1<BB^4):=Lh (by rw [HQQ.out];exact HSz.out.2.2.2.2.2.2)
   have HD3:=Lh (QV hW H13.out (Num.dec HS5.out.1) (Nat.lt_trans (Nat.lt_succ_self qqv) (Qae HQ61.out (by decide))))
   have hQp:ndg qqv=p:=by rw [HQQ.out];exact HDg.out
   rw [hQp] at HD3
   have HQp:=Lh hQp
   clear hQp Hna Hng Hnm Hag Ham Hgm Hab Hgb Hbm k1
   go_wp2_with fail
   refine HD3.out.mono ?_
   rintro r w13 ⟨rfl,q14⟩
   have HSg:=Lh (Q13 (Q0Z q14 (Num.big HS5.out.2.1)))
   have hsn:=QbA RR
   generalize signI (RR:Int)=sv at HSg hsn
   obtain ⟨nz,hnz⟩:∃ nz,nz=decide (RR≠0):=⟨_,rfl⟩
   rw [← hnz] at hsn
   have hsn2:=hsn.1;have hsn3:=hsn.2
   have HNz:=Lh hnz
   have H14:=Lh q14
   clear q14 HD3 H13 hsn hnz
   go_wp2_with fail
   refine HSg.out.mono ?_
   rintro r w_ ⟨rfl,hw_⟩
   subst hw_
   clear HSg
   go_upto_if 138 with (fail)
   have HCs:Hid ((RR=0→quoK p c1 c2=0∧quoC p md nn c1 c2=qqv)∧(RR≠0→quoK p c1 c2=80∧quoC p md nn c1 c2=if upR md nn qqv (cmpI (RR*2) (qV c1 c2)) then qqv+1 else qqv)):=Lh (by
    have e1:=HQQ.out;have e2:=HRR.out
    unfold quoK quoC rq
    rw [← e1,← e2]
    refine ⟨fun h=>by rw [if_pos h,if_pos h];exact ⟨rfl,rfl⟩,fun h=>?_⟩
    rw [if_neg h,if_neg h,Nat.mul_comm RR 2]
    exact ⟨rfl,rfl⟩)
   have HRl:Hid (RR<BB^5):=Lh (by rw [HRR.out];exact Nat.lt_trans (Nat.mod_lt _ HVp.out) HSz.out.2.2.2.1)
   have HE1:Hid (quoE p e1 e2 c1 c2=SH - AC - (pp:Int)):=Lh (by
    unfold quoE
    have h1:=HSH.out;have h2:=HAC.out;have h3:=HPp.out
    omega)
   generalize hCC:quoC p md nn c1 c2=CC at HCs
   generalize hKK:quoK p c1 c2=KK at HCs
   have HCK:=Lh (And.intro hCC hKK)
   clear hCC hKK
   go_cut [15,25,26,27] from 138 to 182 (fun z1 z2 _ _ wx=>∃ (N:Int) (τ':Sg),z1=.int .u32 (KK:Int)∧z2=.int .i64 N∧(N = -1∨N=(ndg CC:Nat))∧τ' b=some (.dec 0 nn ed (CC:Int))∧Ext (upd σ b (.dec 0 nn ed (CC:Int))) τ'∧St W τ' wx)
   case first =>
    clear hsn2 hsn3
    cases nz with
    | false =>
     obtain ⟨hK0,hC0⟩:=HCs.out.1 (by have:=of_decide_eq_false HNz.out.symm;omega)
     have HH:Hid (KK=0∧CC=qqv):=Lh ⟨hK0,hC0⟩
     clear hK0 hC0
     go_wp2_with fail
     go_meet
     exact ⟨(p:Int),τ,by rw [HH.out.1];rfl,rfl,.inr (by rw [HH.out.2,HQp.out]),by rw [HH.out.2];exact HS5.out.1,by rw [HH.out.2];exact HS5.out.2.2.2,H14.out⟩
    | true =>
     obtain ⟨hK0,hC0⟩:=HCs.out.2 (of_decide_eq_true HNz.out.symm)
     have HH:=Lh hK0
     have HHC:=Lh hC0
     obtain ⟨NAC,hNAC⟩:∃ N:Int,N = -AC:=⟨_,rfl⟩
     obtain ⟨NPP,hNPP⟩:∃ N:Int,N = -(pp:Int):=⟨_,rfl⟩
     obtain ⟨X1,hX1⟩:∃ N:Int,N=SH - AC:=⟨_,rfl⟩
     obtain ⟨X2,hX2⟩:∃ N:Int,N=SH - AC - (pp:Int):=⟨_,rfl⟩
     obtain ⟨X3,hX3⟩:∃ N:Int,N=SH - AC - (pp:Int)+p:=⟨_,rfl⟩
     obtain ⟨X4,hX4⟩:∃ N:Int,N=SH - AC - (pp:Int)+p - 1:=⟨_,rfl⟩
     have hbd:(-500≤SH∧SH≤500)∧(-500≤AC∧AC≤500)∧pp≤60∧p≤60:=by
      have h1:=HSH.out;have h2:=HAC.out;have h3:=HPp.out;have h4:=HE.out;have h5:=HDD.out;have h6:=HP.out
      omega
     have hmn:(mn≤0 ∧ -90000≤mn):=by obtain ⟨_,_,_,_,_,q1,q2,_⟩:=HK.out;exact ⟨q1,q2⟩
     have v1:IntKind.i64.wrap (-AC)=NAC:=by rw [hNAC];exact IntWalk.i64_in _ (by omega)
     have v2:IntKind.i64.wrap (-(pp:Int))=NPP:=by rw [hNPP];exact IntWalk.i64_in _ (by omega)
     have v3:IntKind.i64.wrap (SH+NAC)=X1:=by rw [hNAC,hX1,show SH + -AC=SH - AC by omega];exact IntWalk.i64_in _ (by omega)
     have v4:IntKind.i64.wrap (X1+NPP)=X2:=by rw [hNPP,hX1,hX2,show SH - AC + -(pp:Int)=SH - AC - (pp:Int) by omega];exact IntWalk.i64_in _ (by omega)
     have v5:IntKind.i64.wrap (X2+(p:Int))=X3:=by rw [hX2,hX3];exact IntWalk.i64_in _ (by omega)
     have v6:IntKind.i64.wrap (X3 - 1)=X4:=by rw [hX3,hX4];exact IntWalk.i64_in _ (by omega)
     have v7:IntKind.i64.wrap mn=mn:=IntWalk.i64_in _ (by omega)
     have t1:mn≤X4:=by have h1:=HSub.out;have h2:=HE1.out;omega
     have t2:decide (mn≤X4)=true:=decide_eq_true t1
     have hbit:bits .or .u32 0 80=80:=(Qr 0 80 (by decide) (by decide)).trans (by decide)
     have p2:w_.cell? ⟨bk,2,none⟩=some (.int .i32 mn):=(H14.out.ctx ((HK.out.upd HB.out _).ext HS5.out.2.2.2)).2.2.1
     clear hNAC hNPP hX1 hX2 hX3 hX4 hbd hmn hK0 hC0
     go_wp2_with fail
     refine (Q7U H14.out).mono ?_
     rintro r w14 ⟨b1,rfl,hb1,q15⟩
     have HM3:=Lh (Q8o hW hb1 (v:=2) q15 HS5.out.2.1 (Qae HRl.out (by decide)) (by unfold BB;decide))
     clear q15 hb1 H14 p2 v1 v2 v3 v4 v5 v6 v7 t1 t2 hbit
     go_wp2_with fail
     refine HM3.out.mono ?_
     rintro r w15 ⟨rfl,q16⟩
     have HS6:Hid ((setN τ t ((RR*2:Nat):Int)) b=some (.dec 0 nn ed (qqv:Int))∧(setN τ t ((RR*2:Nat):Int)) t=some (.big ((RR*2:Nat):Int))∧(setN τ t ((RR*2:Nat):Int)) g=some (.big ((qV c1 c2:Nat):Int))∧Ext (upd σ b (.dec 0 nn ed (qqv:Int))) (setN τ t ((RR*2:Nat):Int))):=by
      obtain ⟨t1,t2,t3,t4,t5⟩:=HT.out
      refine ⟨by rw [Qh _ _ t4.symm];exact HS5.out.1,QQ HS5.out.2.1 _,by rw [Qh _ _ t2.symm];exact HS5.out.2.2.1,HS5.out.2.2.2.setN_skip (by rw [Qa _ _ t4];exact t5) _⟩
     generalize setN τ t ((RR*2:Nat):Int)=τ2 at q16 HS6
     have HC2:=Lh (Q26 (R:=fun w'=>St W τ2 w') ((Q25 q16.drew (x:=RR*2) (u:=qV c1 c2) (Num.big HS6.out.2.1) (Num.big HS6.out.2.2.1) HT.out.2.1).mono (fun r w' ⟨e,q,hw⟩=>⟨e,by rw [hw];exact q16.drew.drewN q⟩)))
     generalize cmpI (RR*2) (qV c1 c2)=cv2 at HC2 HHC
     obtain ⟨up,hup⟩:∃ up,up=upR md nn qqv cv2:=⟨_,rfl⟩
     rw [← hup] at HHC
     have HUp:=Lh hup
     clear q16 HM3 HS5 hup
     go_wp2_with fail
     refine HC2.out.mono ?_
     rintro r w16 ⟨rfl,q17⟩
     have H17:=Lh q17
     have HK6:=Lh ((HK.out.upd HB.out (.dec 0 nn ed (qqv:Int))).ext HS6.out.2.2.2)
     have g1:=(q17.ctx HK6.out).2.2.2.2
     have g2:=(q17.dec HS6.out.1).2.1
     clear q17 HC2
     go_wp2_with fail
     go_region_held3 (fun x=>x.cell? ⟨bk,4,none⟩=some (.string (rndS md))∧x.cell? ⟨b,1,none⟩=some (.bool nn)) (first | exact ⟨g1,g2⟩ | exact ⟨g3,g4⟩) (first | (go_at_call 97;refine (Q0d hW (by exact H17.out.sm ⟨rfl,rfl,rfl,rfl⟩) (q:=qqv) (Num.dec HS6.out.1) (Nat.lt_trans (Nat.lt_succ_self qqv) (Qae HQ61.out (by decide))) md HMd.out nn cv2).mono ?_;rintro r w17 ⟨rfl,q18⟩;have H18:=Lh q18;have g3:=(q18.ctx HK6.out).2.2.2.2;have g4:=(q18.dec HS6.out.1).2.1;clear q18;rw [← HUp.out]))
     cases up with
     | false =>
      have HHC2:Hid (CC=qqv):=Lh HHC.out
      clear HHC g3 g4
      go_wp2_with fail
      go_meet
      exact ⟨(p:Int),τ2,by rw [HH.out];rfl,rfl,.inr (by rw [HHC2.out,HQp.out]),by rw [HHC2.out];exact HS6.out.1,by rw [HHC2.out];exact HS6.out.2.2.2,H18.out⟩
     | true =>
      have HHC2:Hid (CC=qqv+1):=Lh HHC.out
      clear HHC g3 g4
      go_wp2_with fail
      refine AH.start (fun _=>True) (by kernel_rfl) ?_
      have H19:Hid (St W τ2 w17.drew):=Lh H18.out.drew
      clear H18
      generalize w17.drew=w18 at H19 ⊢
      refine AH.z 0 trivial ?_
      refine AH.z 1 trivial ?_
      refine AH.z 2 trivial ?_
      refine AH.z 3 trivial ?_
      refine AH.z 4 trivial ?_
      refine AH.z 5 trivial ?_
      refine AH.o 6 (fun K hK=>?_)
      go_simp
      refine (Q4O H19.out).mono ?_
      rintro r w19 ⟨b1,rfl,hb1,q20⟩
      have HA:=Lh (Qbz hW hb1 (v:=1) q20 HS6.out.1 (Nat.lt_trans (Nat.lt_succ_self qqv) (Qae HQ61.out (by decide))) (by unfold BB;decide))
      refine hK _ _ trivial ?_
      clear hK K hb1 q20 H19
      try simp only [Act.put,Zp_]
      refine AH.o 7 (fun K hK=>?_)
      go_simp
      refine HA.out.mono ?_
      rintro r w20 ⟨rfl,q21⟩
      have H21:=Lh q21
      refine hK _ _ trivial ?_
      clear hK K q21 HA
      try simp only [Act.put,Zp_]
      refine AH.done (by kernel_rfl) ?_
      go_wp2_with fail
      go_meet
      exact ⟨-1,setN τ2 b ((qqv+1:Nat):Int),by rw [HH.out];rfl,rfl,.inl rfl,by rw [HHC2.out,Qay HS6.out.1,Q1],by rw [HHC2.out,Qay HS6.out.1];have:=HS6.out.2.2.2.upd b (.dec 0 nn ed ((qqv+1:Nat):Int));rw [Q04] at this;exact this,H21.out⟩
   case rest =>
    obtain ⟨N,τ',rfl,rfl,hN,hb',hE',q⟩:=hcut
    have HKv:Hid (KK=0∨KK=80):=Lh (by rw [← HCK.out.2];unfold quoK;split <;> simp)
    have hCle:CC≤qqv+1∧qqv≤CC:=by
     by_cases h0:RR=0
     ·have:=(HCs.out.1 h0).2;omega
     ·have:=(HCs.out.2 h0).2
      cases hb:upR md nn qqv (cmpI (RR*2) (qV c1 c2)) <;> rw [hb] at this <;> simp at this <;> omega
    have hQ1:1≤qqv:=by
     rw [HQQ.out]
     refine (Nat.le_div_iff_mul_le HVp.out).2 ?_
     rw [Nat.one_mul,HDd.out]
     exact Nat.le_trans HNr.out (Nat.le_mul_of_pos_right _ (QE pp))
    have hC10:CC<10^61:=by have h1:=HQT.out;rw [← HQQ.out] at h1;omega
    have HCC:Hid (0<CC∧CC<BB^21∧ndg CC≤405):=Lh ⟨by omega,Qae (Nat.lt_trans hC10 Qbq) (by decide),Nat.le_trans (Q09 (by decide) hC10) (by decide)⟩
    have HD2:Hid (D=if mx<SH - AC - (pp:Int)+(ndg CC:Int) - 1 then ⟨1,nn,SH - AC - (pp:Int),CC,orN KK 20⟩ else ⟨0,nn,SH - AC - (pp:Int),CC,KK⟩):=Lh (by
     rw [HDr.out];unfold quoF
     rw [HCK.out.1,HCK.out.2,HE1.out])
    have hsub:mn≤SH - AC - (pp:Int)+(ndg CC:Int) - 1:=by
     have h1:=HSub.out
     rw [HE1.out] at h1
     have h2:=Qax hCle.2
     rw [HQp.out] at h2
     omega
    have hbd:(-500≤SH∧SH≤500)∧(-500≤AC∧AC≤500)∧pp≤60:=by
     have h1:=HSH.out;have h2:=HAC.out;have h3:=HPp.out;have h4:=HE.out;have h5:=HDD.out;have h6:=HP.out
     omega
    obtain ⟨NAC,hNAC⟩:∃ N:Int,N = -AC:=⟨_,rfl⟩
    obtain ⟨NPP,hNPP⟩:∃ N:Int,N = -(pp:Int):=⟨_,rfl⟩
    have v1:IntKind.i64.wrap (-AC)=NAC:=by rw [hNAC];exact IntWalk.i64_in _ (by omega)
    have v2:IntKind.i64.wrap (-(pp:Int))=NPP:=by rw [hNPP];exact IntWalk.i64_in _ (by omega)
    have HSb:=Lh hsub
    have HNn:Hid (SH.natAbs≤20000∧NAC.natAbs≤20000∧NPP.natAbs≤20000∧SH+NAC+NPP=SH - AC - (pp:Int)):=Lh (by omega)
    have HN:=Lh hN;have HBb:=Lh hb';have HEx:=Lh hE';have HQx:=Lh q
    have HKx:=Lh ((HK.out.upd HB.out (.dec 0 nn ed (CC:Int))).ext hE')
    clear hN hb' hE' q hCle hQ1 hC10 hsub hbd hNAC hNPP HS5 H14 hsn2 hsn3
    have hnn:=HQx.out.none_new
    have hnb:b≠wc.heap.size:=by intro e;rw [← e,HBb.out] at hnn;cases hnn
    have Hnn:=Lh hnn;have Hnb:=Lh hnb
    clear hnn hnb
    have HFin:Hid (∀ w1 o,St W (upd (upd τ' wc.heap.size (.raw (.cells #[.int .i64 SH,.int .i64 NAC,.int .i64 NPP] 2))) b o) w1→St W (upd σ b o) w1):=Lh (fun w1 o q=>by
     have:=q.less ((HEx.out.trans (Ext.new Hnn.out _)).upd b o)
     rw [Q04] at this
     exact this)
    by_cases hov:mx<SH - AC - (pp:Int)+(ndg CC:Int) - 1
    ·have HDe:Hid (D=⟨1,nn,SH - AC - (pp:Int),CC,orN KK 20⟩):=Lh (by rw [HD2.out,if_pos hov])
     have HSE:Hid (Calls Tryz.prog 86 #[.pointer (some ⟨b,0,none⟩),.pointer (some ⟨bk,0,none⟩),.int .i64 N,.int .u32 (KK:Int),.slice (some ⟨wc.heap.size,0,none⟩) 3 3] (wc.alloc (.cells #[.int .i64 SH,.int .i64 NAC,.int .i64 NPP] 2)) fun r w'=>r=.returned (.int .u32 ((orN KK 20:Nat):Int))∧St W (upd σ b (.dec 1 nn (SH - AC - (pp:Int)) (CC:Int))) w'):=Lh (by
      have hf:finK (orN KK 20)=orN KK 20:=by rcases HKv.out with e | e <;> rw [e] <;> decide
      obtain ⟨h1,h2,h3,h4⟩:=HNn.out
      have hres:KK<4096:=by rcases HKv.out with e | e <;> omega
      rw [← hf,← h4]
      rw [← h4] at hov
      rcases HN.out with e | e
      ·rw [e]
       refine (Qat hW (HQx.out.alloc _) (by rw [Qa _ _ Hnb.out];exact HBb.out) (HKx.out.ext (Ext.new Hnn.out _)) (Q1 _ _ _) h1 h2 h3 rfl hres HCC.out.2.1 HCC.out.1 hov).mono ?_
       rintro r w' ⟨e1,e2⟩
       exact ⟨e1,HFin.out _ _ e2⟩
      ·rw [e]
       refine (Qas hW (HQx.out.alloc _) (by rw [Qa _ _ Hnb.out];exact HBb.out) (HKx.out.ext (Ext.new Hnn.out _)) (Q1 _ _ _) h1 h2 h3 HCC.out.2.2 hres HCC.out.2.1 HCC.out.1 hov).mono ?_
       rintro r w' ⟨e1,e2⟩
       exact ⟨e1,HFin.out _ _ e2⟩)
     have hbit2:bits .or .u32 (KK:Int) ((orN KK 20:Nat):Int)=((orN KK 20:Nat):Int):=by
      rcases HKv.out with e | e <;> rw [e] <;> exact (Qr _ _ (by decide) (by decide)).trans (by decide)
     have hok:orN KK 20<4096:=by rcases HKv.out with e | e <;> rw [e] <;> decide
     have HOk:=Lh hok
     clear hov hok
     generalize orN KK 20=K2 at HDe HSE hbit2 HOk
     go_wp2_with fail
     refine HSE.out.mono ?_
     rintro r w18 ⟨rfl,q19⟩
     have H19:=Lh (Q4i q19 (HK.out.upd HB.out _) (k:=K2) HOk.out HTr.out)
     clear q19
     go_wp2_with fail
     refine H19.out.mono ?_
     rintro r w19 ⟨⟨v,rfl,hv⟩,q20⟩
     have H20:=Lh q20;have HV:=Lh hv
     clear q20 hv H19
     go_wp2_with fail
     go_ret2
     rw [HDe.out]
     exact ⟨⟨_,rfl,HV.out⟩,H20.out⟩
    ·have HDe:Hid (D=⟨0,nn,SH - AC - (pp:Int),CC,KK⟩):=Lh (by rw [HD2.out,if_neg hov])
     have HSE:Hid (Calls Tryz.prog 86 #[.pointer (some ⟨b,0,none⟩),.pointer (some ⟨bk,0,none⟩),.int .i64 N,.int .u32 (KK:Int),.slice (some ⟨wc.heap.size,0,none⟩) 3 3] (wc.alloc (.cells #[.int .i64 SH,.int .i64 NAC,.int .i64 NPP] 2)) fun r w'=>r=.returned (.int .u32 (KK:Int))∧St W (upd σ b (.dec 0 nn (SH - AC - (pp:Int)) (CC:Int))) w'):=Lh (by
      have hf:finK KK=KK:=by rcases HKv.out with e | e <;> rw [e] <;> decide
      obtain ⟨h1,h2,h3,h4⟩:=HNn.out
      have hres:KK<4096:=by rcases HKv.out with e | e <;> omega
      have hsb:=HSb.out
      rw [← h4] at hov hsb
      have hr:((KK:Nat):Int)=((finK KK:Nat):Int):=by rw [hf]
      rcases HN.out with e | e
      ·rw [e]
       refine (QaC hW (HQx.out.alloc _) (by rw [Qa _ _ Hnb.out];exact HBb.out) (HKx.out.ext (Ext.new Hnn.out _)) (Q1 _ _ _) h1 h2 h3 rfl hres HCC.out.2.1 hsb (by omega)).mono ?_
       rintro r w' ⟨e1,e2⟩
       exact ⟨by rw [e1,hf],by rw [← h4];exact HFin.out _ _ e2⟩
      ·rw [e]
       refine (Q4m hW (HQx.out.alloc _) (by rw [Qa _ _ Hnb.out];exact HBb.out) (HKx.out.ext (Ext.new Hnn.out _)) (Q1 _ _ _) h1 h2 h3 HCC.out.2.2 hres HCC.out.2.1 hsb (by omega)).mono ?_
       rintro r w' ⟨e1,e2⟩
       exact ⟨by rw [e1,hf],by rw [← h4];exact HFin.out _ _ e2⟩)
     have hbit2:bits .or .u32 (KK:Int) (KK:Int)=(KK:Int):=by
      rcases HKv.out with e | e <;> rw [e] <;> exact (Qr _ _ (by decide) (by decide)).trans (by decide)
     have hok:KK<4096:=by rcases HKv.out with e | e <;> rw [e] <;> decide
     have HOk:=Lh hok
     clear hov hok
     go_wp2_with fail
     refine HSE.out.mono ?_
     rintro r w18 ⟨rfl,q19⟩
     have H19:=Lh (Q4i q19 (HK.out.upd HB.out _) (k:=KK) HOk.out HTr.out)
     clear q19
     go_wp2_with fail
     refine H19.out.mono ?_
     rintro r w19 ⟨⟨v,rfl,hv⟩,q20⟩
     have H20:=Lh q20;have HV:=Lh hv
     clear q20 hv H19
     go_wp2_with fail
     go_ret2
     rw [HDe.out]
     exact ⟨⟨_,rfl,HV.out⟩,H20.out⟩
theorem Qbr {W:World}{σ:Sg}{w:World}(hW:GW W)(h:St W σ w){b bx bu bk p md tr:Nat}{mx mn:Int}(hk:Ctx σ bk p mx mn ((tr:Nat):Int) md)(htr:tr<4096)(hp:0<p∧p≤60){f ed:Int}{nd:Bool}{cd:Int}{n1 n2:Bool}{e1 e2:Int}{c2:Nat}(hb:σ b=some (.dec f nd ed cd))(hx:σ bx=some (.dec 0 n1 e1 ((0:Nat):Int)))(hu:σ bu=some (.dec 0 n2 e2 (c2:Int)))(hc2:0<c2)(he1 : -200≤e1∧e1≤200)(he2 : -200≤e2∧e2≤200)(hz:(e1 - e2<mn→mn - ((p:Int) - 1)≤e1 - e2)∧e1 - e2≤mx) :
  Calls Tryz.prog 39 #[.pointer (some ⟨bk,0,none⟩),.pointer (some ⟨b,0,none⟩),.pointer (some ⟨bx,0,none⟩),.pointer (some ⟨bu,0,none⟩)] w fun r w'=>(∃ v,r=.returned (.tuple #[.int .u32 ((0:Nat):Int),v])∧ErrV (badK 0 tr) v)∧St W (upd σ b (.dec 0 (n1 != n2) (e1 - e2) ((0:Nat):Int))) w':=by
 have HQ:=Lh (Q9q (b:=b) h hk (by omega) hx hu hc2)
 have HF:Hid (∀ w1,St W σ w1→(w1.cell? ⟨bx,1,none⟩=some (.bool n1)∧w1.cell? ⟨bx,2,none⟩=some (.int .i32 e1)∧w1.cell? ⟨bu,1,none⟩=some (.bool n2)∧w1.cell? ⟨bu,2,none⟩=some (.int .i32 e2))∧Calls Tryz.prog 81 #[.pointer (some ⟨bx,0,none⟩)] w1 fun r w'=>r=.returned (.bool true)∧w'=w1):=fun w1 q1 =>
  ⟨⟨(q1.dec hx).2.1,(q1.dec hx).2.2.1,(q1.dec hu).2.1,(q1.dec hu).2.2.1⟩,by
   have:=QC q1 hx
   rw [decide_eq_true (by omega)] at this
   exact this⟩
 have HK:=Lh hk;have HB:=Lh hb
 have HS:=Lh (fun bn w1 (hn:σ bn=none) (q:St W (upd σ bn (.dec 0 false 0 0)) w1)=>Qaq hb hn (by unfold BB;decide) q)
 have HE:=Lh (And.intro he1 (And.intro he2 hz));have HTr:=Lh htr;have HP:=Lh hp
 obtain ⟨SH,hSH⟩:∃ SH,SH=e1 - e2:=⟨_,rfl⟩
 have HSH:=Lh hSH
 have j1:IntKind.i32.wrap (e1 - e2)=SH:=by rw [hSH];exact IntWalk.i32_in _ (by omega)
 have j2:IntKind.i64.wrap SH=SH:=by rw [hSH];exact IntWalk.i64_in _ (by omega)
 rw [← hSH]
 generalize hnn:(n1 != n2)=nn
 have hnq:(!(n1 == n2))=nn:=hnn
 clear h hk hb hx hu hnn hSH hp hc2 he1 he2 hz htr
 go_enter Tryz.func39, Tryz.ntmps39
 go_wp2_with fail
 refine HQ.out.mono ?_
 rintro r w1 ⟨rfl,q1⟩
 obtain ⟨⟨x1,x2,u1,u2⟩,hz⟩:=HF.out _ q1
 have H1:=Lh q1;clear q1 HQ hz
 go_wp2_with fail
 go_quiet (fail)
 go_wp2_with fail
 go_quiet (fail)
 go_wp2_with fail
 refine (HF.out _ (by exact H1.out.sm ⟨rfl,rfl,rfl,rfl⟩)).2.mono ?_
 rintro r w2 ⟨rfl,hw2⟩
 have H2:=Lh (show St W σ w2 by rw [hw2];exact H1.out.sm ⟨rfl,rfl,rfl,rfl⟩)
 clear hw2 H1 x1 x2 u1 u2 HF j1 hnq
 go_wp2_with fail
 refine (Qar H2.out).mono ?_
 rintro r w3 ⟨bn,rfl,hn,q3⟩
 have H3:=Lh (HS.out _ _ hn q3)
 clear hn q3 HS H2
 go_wp2_with fail
 refine H3.out.mono ?_
 rintro r w4 ⟨rfl,q4⟩
 obtain ⟨_,d1,_,_,g1,_⟩:=q4.dec (Q1 _ _ _)
 have H4:=Lh ((q4.setNeg (Q1 _ _ _) nn).upd2)
 clear q4 H3
 go_wp2_with fail
 obtain ⟨wx,hwx⟩:∃ wx,wx=w4.setCell ⟨b,1,none⟩ (.bool nn):=⟨_,rfl⟩
 have hsz:wx.heap.size=w4.heap.size:=by rw [hwx];simp
 have HSZ:=Lh hsz
 rw [← hwx] at H4 ⊢
 clear hwx d1 g1 hsz
 have hnn:=H4.out.none_new
 have hnb:b≠wx.heap.size:=by intro e;rw [← e,Q1] at hnn;cases hnn
 have HSE:Hid (Calls Tryz.prog 86 #[.pointer (some ⟨b,0,none⟩),.pointer (some ⟨bk,0,none⟩),.int .i64 (-1),.int .u32 0,.slice (some ⟨wx.heap.size,0,none⟩) 1 1] (wx.alloc (.cells #[.int .i64 SH] 2)) fun r w'=>r=.returned (.int .u32 ((0:Nat):Int))∧St W (upd σ b (.dec 0 nn SH ((0:Nat):Int))) w'):=Lh (by
  have h1:=HSH.out;have h2:=HE.out
  have hfin:∀ w1 o,St W (upd (upd (upd σ b (.dec 0 nn 0 0)) wx.heap.size (.raw (.cells #[.int .i64 SH] 2))) b o) w1→St W (upd σ b o) w1:=fun w1 o q=>by
   have:=q.less ((Ext.new hnn _).upd b o)
   rw [Q04] at this
   exact this
  have hkx:=(HK.out.upd HB.out (.dec 0 nn 0 0)).ext (Ext.new hnn (.raw (.cells #[.int .i64 SH] 2)))
  by_cases hs:SH<mn
  ·refine (Qau (nd:=1) (res:=0) hW (H4.out.alloc _) (by rw [Qa _ _ hnb];exact Q1 _ _ _) hkx (Q1 _ _ _) (by omega) rfl (by decide) (by omega) (by have:=h2.2.2.1;rw [← h1] at this;exact this hs)).mono ?_
   rintro r w' ⟨e1,e2⟩
   exact ⟨by rw [e1];rfl,hfin _ _ e2⟩
  ·refine (QaD (nd:=1) (res:=0) (c:=0) hW (H4.out.alloc _) (by rw [Qa _ _ hnb];exact Q1 _ _ _) hkx (Q1 _ _ _) (by omega) (Qj (by decide)).symm (by decide) (by unfold BB;decide) (by omega) (by omega)).mono ?_
   rintro r w' ⟨e1,e2⟩
   exact ⟨by rw [e1];rfl,hfin _ _ e2⟩)
 rw [HSZ.out] at HSE
 clear hnn hnb H4
 have hbit:bits .or .u32 0 0=0:=by decide
 refine HSE.out.mono ?_
 rintro r w18 ⟨rfl,q19⟩
 have H19:=Lh (Q4i q19 (HK.out.upd HB.out _) (k:=0) (by decide) HTr.out)
 clear q19
 go_wp2_with fail
 refine H19.out.mono ?_
 rintro r w19 ⟨⟨v,rfl,hv⟩,q20⟩
 have H20:=Lh q20;have HV:=Lh hv
 clear q20 hv H19
 go_wp2_with fail
 go_ret2
 exact ⟨⟨_,rfl,HV.out⟩,H20.out⟩
end Go.Proofs.YtpebcmfpehdafaaGreatDoor
