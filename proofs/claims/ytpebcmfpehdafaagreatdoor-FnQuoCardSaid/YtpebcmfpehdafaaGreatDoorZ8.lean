/- a part of the proof -/
import Derived.Laws.AppendOwn
import Derived.Maps.AppendAt
import Derived.IntWalk
import Derived.Deep.RegionHeld3
import Derived.Laws.NewBlocks
import Derived.Laws.IdiomStrings
import Derived.Laws.AppendOwnNone
import Derived.WalkSpells
import Derived.Test.YtpebcmfpehdafaaGreatDoorZ7
set_option linter.all false
set_option maxRecDepth 100000
set_option maxHeartbeats 16000000
namespace Go.Proofs.YtpebcmfpehdafaaGreatDoor
open Go Go.RowKit
def DC (w:World)(p:Option Addr)(l:List Nat):Prop:=∀ i d:Nat,l[i]?=some d→∃ b o,p=some ⟨b,o,none⟩∧b<w.heap.size∧w.cell? ⟨b,o+i,none⟩=some (.int .u8 (d:Int))
def CapOk (p:Option Addr)(cap:Nat):Prop:=cap≤maxLen∧(p=none→cap=0)
def Dg (w:World)(v:Value)(l:List Nat):Prop :=
 ∃ p cap,v=.slice p l.length cap∧l.length≤cap∧CapOk p cap∧DC w p l
theorem Dg.nil (w:World):Dg w (.slice none 0 0) []:=⟨none,0,rfl,by simp,⟨by simp,fun _=>rfl⟩,fun i d h=>by simp at h⟩
theorem Dg.later {w w':World}{v:Value}{l:List Nat}(h:Dg w v l)(hB:Below w.heap.size w w'):Dg w' v l:=by
 obtain ⟨p,cap,h1,h2,h3,h4⟩:=h
 refine ⟨p,cap,h1,h2,h3,fun i d hd=>?_⟩
 obtain ⟨b,o,e,hb,hc⟩:=h4 i d hd
 exact ⟨b,o,e,Nat.lt_of_lt_of_le hb hB.size,by rw [hB.cell hb];exact hc⟩
theorem DC.get {w:World}{p:Option Addr}{l:List Nat}(h:DC w p l)(i:Nat)(hi:i<l.length):∃ b o,p=some ⟨b,o,none⟩∧b<w.heap.size∧w.cell? ⟨b,o+i,none⟩=some (.int .u8 ((l[i]:Nat):Int)) :=
 h i _ (List.getElem?_eq_getElem hi)
theorem Q5p {l:List Nat}(k:Nat)(hk:k<l.length)(h0:l[k]=0)(hv:vl (l.take (k+1))=vl l):vl (l.take k)=vl l:=by
 rw [List.take_succ_eq_append_getElem hk,h0,Q7N] at hv;exact hv
theorem Q6T {l:List Nat}(hl:∀ d ∈ l,d<10)(k:Nat)(hk:k<l.length)(h0:l[k]≠0)(hv:vl (l.take (k+1))=vl l):l.take (k+1)=dgs (vl l):=by
 rw [← hv]
 refine (Q7M _ (fun d hd=>hl d (List.mem_of_mem_take hd)) (fun h=>?_)).symm
 have e:l.take (k+1)=l.take k ++ [l[k]]:=List.take_succ_eq_append_getElem hk
 simp only [e,List.getLast_concat];exact h0
theorem Dg.front {w:World}{p:Option Addr}{cap:Nat}{l:List Nat}(hc:l.length≤cap)(hm:CapOk p cap)(h:DC w p l)(k:Nat)(hk:k≤l.length):Dg w (.slice p k cap) (l.take k):=by
 refine ⟨p,cap,by rw [List.length_take_of_le hk],by rw [List.length_take_of_le hk];omega,hm,fun i d hd=>?_⟩
 have hi:i<(l.take k).length:=(List.getElem?_eq_some_iff.1 hd).1
 rw [List.length_take_of_le hk] at hi
 rw [List.getElem?_take_of_lt hi] at hd
 exact h i d hd
theorem Qz {a b:Value}(h:a=b):Ending.returned a=.returned b:=by rw [h]
theorem Dg.DC {w:World}{p:Option Addr}{n cap:Nat}{l:List Nat}(h:Dg w (.slice p n cap) l):DC w p l:=by
 obtain ⟨p',cap',e,_,_,h4⟩:=h
 injection e with e1 e2 e3
 rw [e1];exact h4
theorem Q47 {w:World}{v:Value}{l:List Nat}(h:Dg w v l)(hl:∀ d ∈ l,d<10):Calls Tryz.prog 51 #[v] w fun e w'=>∃ v',e=.returned v'∧(∀ w2,Dg w2 v l→Dg w2 v' (dgs (vl l)))∧v'.ownBlock=v.ownBlock∧w'=w:=by
 obtain ⟨p,cap,rfl,hlc,hcm,hg⟩:=h
 have HF:Hid (∀ w2 k,k≤l.length→Dg w2 (.slice p l.length cap) l→Dg w2 (.slice p k cap) (l.take k)):=fun w2 k hk q=>Dg.front hlc hcm q.DC k hk
 have HG:=Lh (DC.get hg)
 have HL:=Lh hl
 replace hcm:=hcm.1
 unfold maxLen at hcm
 clear hg hl
 go_enter Tryz.func51, Tryz.ntmps51
 go_wp2_with fail
 go_loop [0] (fun d=>∃ k:Nat,k≤l.length∧d=.slice p k cap∧vl (l.take k)=vl l) (fun d=>match d with | .slice _ k _=>k | _=>0)
 case atStart=>exact ⟨l.length,Nat.le_refl _,rfl,by rw [List.take_length]⟩
 case round =>
  obtain ⟨k,hk,rfl,hv⟩:=hrel
  rcases Nat.eq_zero_or_pos k with e | e
  ·subst e
   have HE:Hid (∀ w2,Dg w2 (.slice p l.length cap) l→Dg w2 (.slice p 0 cap) (dgs (vl l))):=fun w2 q=>by
    have:=HF.out w2 0 (Nat.zero_le _) q
    rw [List.take_zero] at this
    rw [List.take_zero] at hv
    rw [← hv]
    show Dg w2 _ (dgs 0)
    rw [Qp];exact this
   clear hv
   go_wp2_with fail
   go_ret
   exact ⟨_,rfl,HE.out,by cases p <;> rfl,rfl⟩
  ·obtain ⟨m,rfl⟩:∃ m,k=m+1:=⟨k - 1,by omega⟩
   obtain ⟨b,o,rfl,hb,hc⟩:=HG.out m (by omega)
   have h1:(0:Int)<((m+1:Nat):Int):=by omega
   have h2:((m+1:Nat):Int) - 1=(m:Int):=by omega
   have HT:=Lh (Q5p (l:=l) m (by omega))
   have HD:=Lh (Q6T HL.out m (by omega))
   have HE:=Lh (fun w2=>HF.out w2 (m+1) hk)
   have HV:=Lh hv
   clear hv
   by_cases h0:l[m]=0
   ·rw [h0] at hc
    have HV2:=Lh (HT.out h0 HV.out)
    clear h0
    go_wp2_with fail
    go_round
    case rel=>exact ⟨m,by omega,by simp,HV2.out⟩
    case measure=>simp
   ·have HD2:=Lh (HD.out h0 HV.out)
    have hne:(((l[m]:Nat):Int) == 0)=false:=by simp;exact h0
    clear h0
    generalize l[m]=x at hc hne
    go_wp2_with fail
    go_ret
    exact ⟨_,rfl,fun w2 q=>by rw [← HD2.out];exact HE.out w2 q,rfl,rfl⟩
def NumV (w:World)(v:Value)(neg:Bool)(n:Nat):Prop:=∃ s,v=.agg #[.bool neg,s]∧Dg w s (dgs n)
theorem NumV.later {w w':World}{v:Value}{neg:Bool}{n:Nat}(h:NumV w v neg n)(hB:Below w.heap.size w w'):NumV w' v neg n:=by
 obtain ⟨s,e,h⟩:=h;exact ⟨s,e,h.later hB⟩
theorem Qd {w a b:World}(h:Below w.heap.size w a)(k:Below a.heap.size a b):Below w.heap.size w b:=h.trans (k.mono h.size)
theorem bal {w a:World}(h:Below w.heap.size w a)(o:Obj):Below w.heap.size w (a.alloc o):=h.alloc h.size o
theorem Qm (w:World)(o:Obj):Below w.heap.size w (w.alloc o):=bal (Below.refl _ _) o
theorem Dg.of_own {w:World}{base:Nat}{e:TypeId}{v:Value}{l:List Nat}(h:w.ownsRow base e 1 v l.length (l.map fun (d:Nat)=>.int .u8 (d:Int))):Dg w v l:=by
 rcases h.2 with ⟨e1,e2⟩ | ⟨g,cap,cur,e1,e2,e3,e4,e5,e6,e7⟩
 ·have:l=[]:=List.length_eq_zero_iff.1 e2
  subst this;rw [e1];exact Dg.nil w
 ·refine ⟨some ⟨g,0,none⟩,cap,e1,e4,⟨e5,fun h=>(by cases h)⟩,fun i d hd=>⟨g,0,rfl,(Array.getElem?_eq_some_iff.1 e3).1,?_⟩⟩
  have hi:i<l.length:=(List.getElem?_eq_some_iff.1 hd).1
  have h7:(cur.toList.take (l.length*1))[i]?=some (.int .u8 (d:Int)):=by rw [e7,List.getElem?_map,hd];rfl
  rw [List.getElem?_take_of_lt (by omega)] at h7
  unfold World.cell?
  rw [e3]
  simpa using h7
theorem Q1B:(Tryz.prog.info? 5).map (fun i=>(i.zero,i.size,i.bytes))=some (some (.int .u8 0),1,1):=by kernel_rfl
theorem Q1n {w:World}{v:Value}{l:List Nat}(h:Dg w v l)(hl:∀ d ∈ l,d<10)(neg:Bool):Calls Tryz.prog 54 #[.bool neg,v] w fun e w'=>∃ v',e=.returned v'∧NumV w' v' (neg && decide (vl l≠0)) (vl l)∧Below w.heap.size w w':=by
 have HT:=Lh (Q47 (h.later (Qm w (.cells #[.bool false,.slice none 0 0] 37))) hl)
 have HD:Hid (∀ o,Dg (w.alloc o) v l):=fun o=>h.later (Qm w o)
 have HB:=Lh (fun o=>Qm w o)
 obtain ⟨n,hn⟩:∃ n,n=vl l:=⟨_,rfl⟩
 rw [← hn] at HT ⊢
 clear h hl hn
 have hz:=Q2U (n:=n)
 by_cases hb:neg=true∧n≠0
 ·obtain ⟨rfl,hn⟩:=hb
  have hd:decide (n≠0)=true:=decide_eq_true hn
  rw [hd]
  have h0:(0:Int)<((dgs n).length:Int):=by omega
  clear hn hd hz
  go_enter Tryz.func54, Tryz.ntmps54
  go_wp2_with fail
  refine HT.out.mono ?_
  rintro e w1 ⟨v',rfl,q,_,rfl⟩
  have HQ:=Lh (fun o=>q _ (HD.out o))
  obtain ⟨p,cap,rfl,_⟩:=q _ (HD.out (.cells #[] 0))
  clear q HT
  go_wp2_with fail
  exact bodyPost_ret (v:=.agg #[.bool true,.slice p (dgs n).length cap]) (by simp [results,Tryz.results54,go_sem];omega) rfl ⟨_,rfl,⟨_,rfl,HQ.out _⟩,HB.out _⟩
 ·have hd:(neg && decide (n≠0))=false:=by
   cases neg
   ·rfl
   ·have:n=0:=by simpa using hb
    simp [this]
  rw [hd]
  have h0:neg=true→¬ (0:Int)<((dgs n).length:Int):=fun h=>by
   have:n=0:=by simpa [h] using hb
   omega
  clear hb hd hz
  cases neg
  ·clear h0
   go_enter Tryz.func54, Tryz.ntmps54
   go_wp2_with fail
   refine HT.out.mono ?_
   rintro e w1 ⟨v',rfl,q,_,rfl⟩
   have HQ:=Lh (fun o=>q _ (HD.out o))
   obtain ⟨p,cap,rfl,_⟩:=q _ (HD.out (.cells #[] 0))
   clear q HT
   go_wp2_with fail
   exact bodyPost_ret (v:=.agg #[.bool false,.slice p (dgs n).length cap]) (by simp [results,Tryz.results54,go_sem]) rfl ⟨_,rfl,⟨_,rfl,HQ.out _⟩,HB.out _⟩
  ·replace h0:=h0 rfl
   have h1:decide ((0:Int)<((dgs n).length:Int))=false:=decide_eq_false h0
   go_enter Tryz.func54, Tryz.ntmps54
   go_wp2_with fail
   refine HT.out.mono ?_
   rintro e w1 ⟨v',rfl,q,_,rfl⟩
   have HQ:=Lh (fun o=>q _ (HD.out o))
   obtain ⟨p,cap,rfl,_⟩:=q _ (HD.out (.cells #[] 0))
   clear q HT
   go_wp2_with fail
   exact bodyPost_ret (v:=.agg #[.bool false,.slice p (dgs n).length cap]) (by simp [results,Tryz.results54,go_sem];exact List.length_eq_zero_iff.1 (by omega)) rfl ⟨_,rfl,⟨_,rfl,HQ.out _⟩,HB.out _⟩
theorem gal (W:World)(o:Obj):(W.alloc o).heap[W.heap.size]?=some o:=by show (W.heap.push o)[W.heap.size]?=_;simp
theorem Q0u (w:World)(v:Value)(T:TypeId):∀ j u,([v]:List Value)[j]?=some u→(w.alloc (.cells #[v] T)).cell? ((⟨w.heap.size,0,none⟩:Addr).add j)=some u:=by
 intro j u h
 rcases j with _ | j
 ·unfold World.cell?
  rw [show ((⟨w.heap.size,0,none⟩:Addr).add 0).block=w.heap.size by simp [Addr.add],gal]
  simpa [Addr.add] using h
 ·simp at h
theorem Q0f {w wr:World}{o:Obj}{C:Array Value}{T:TypeId}(ho:o=.cells C T (0,0))(h:Below (w.alloc o).heap.size (w.alloc o) wr):wr.heap[w.heap.size]?=some (.cells C T (0,0))∧(∀ i,wr.cell? ⟨w.heap.size,i,none⟩=C[i]?)∧∀ i,wr.frozen? ⟨w.heap.size,i,none⟩=false:=by
 have h1:wr.heap[w.heap.size]?=some (.cells C T (0,0)):=by rw [h.block _ (by simp),gal,ho]
 exact ⟨h1,fun i=>by unfold World.cell?;rw [h1];simp,fun i=>by unfold World.frozen?;rw [h1];simp⟩
def Only (B:Nat)(w w':World):Prop:=(∀ k,k≠B→w'.heap[k]?=w.heap[k]?)∧w'.heap.size=w.heap.size
theorem Only.refl (B:Nat)(w:World):Only B w w:=⟨fun _ _=>rfl,rfl⟩
theorem Only.set {B:Nat}{w w':World}(h:Only B w w')(i:Nat)(u:Value):Only B w (w'.setCell ⟨B,i,none⟩ u) :=
 ⟨fun k hk=>by rw [Below.heap_setCell _ _ _ _ hk];exact h.1 k hk,by simp [World.setCell];exact h.2⟩
def noU8 (C:Array Value):Bool:=C.toList.all fun x=>match x with | .int .u8 _=>false | _=>true
theorem Dg.keep {w w':World}{v:Value}{l:List Nat}(h:Dg w v l){B:Nat}{C:Array Value}{T:TypeId}{m:Nat × Nat}(hb:w.heap[B]?=some (.cells C T m))(hC:noU8 C=true)(ho:Only B w w'):Dg w' v l:=by
 obtain ⟨p,cap,e,h1,h2,h3⟩:=h
 refine ⟨p,cap,e,h1,h2,fun i d hd=>?_⟩
 obtain ⟨b,o,e1,e2,e3⟩:=h3 i d hd
 have hne:b≠B:=by
  rintro rfl
  unfold World.cell? at e3
  rw [hb] at e3
  have e4:C[o+i]?=some (.int .u8 (d:Int)):=by simpa using e3
  have e5:=List.all_eq_true.1 hC (.int .u8 (d:Int)) (Array.mem_toList_iff.2 (Array.mem_of_getElem? e4))
  cases e5
 exact ⟨b,o,e1,by rw [ho.2];exact e2,by rw [World.cell?_of_block (w:=w) (ho.1 b hne)];exact e3⟩
theorem Dg.other {w w':World}{v:Value}{l:List Nat}(h:Dg w v l){B:Nat}(hv:v.ownBlock≠some B)(ho:Only B w w'):Dg w' v l:=by
 obtain ⟨p,cap,e,h1,h2,h3⟩:=h
 refine ⟨p,cap,e,h1,h2,fun i d hd=>?_⟩
 obtain ⟨b,o,e1,e2,e3⟩:=h3 i d hd
 have hne:b≠B:=by
  rintro rfl
  rw [e,e1] at hv;exact hv rfl
 exact ⟨b,o,e1,by rw [ho.2];exact e2,by rw [World.cell?_of_block (w:=w) (ho.1 b hne)];exact e3⟩
theorem NumV.keep {w w':World}{v:Value}{neg:Bool}{n:Nat}(h:NumV w v neg n){B:Nat}{C:Array Value}{T:TypeId}{m:Nat × Nat}(hb:w.heap[B]?=some (.cells C T m))(hC:noU8 C=true)(ho:Only B w w'):NumV w' v neg n:=by
 obtain ⟨s,e,h⟩:=h;exact ⟨s,e,h.keep hb hC ho⟩
theorem Q6U (n:Nat)(hn:n<BB)(w:World):Calls Tryz.prog 55 #[.int .u64 (n:Int)] w fun e w'=>∃ v',e=.returned v'∧NumV w' v' false n∧Below w.heap.size w w':=by
  obtain ⟨i0,hi,hz0,hz1,hz2⟩:=info_parts Q1B
  have hdl:(dgs n).length≤20:=by
    have h0:n<10^20:=Nat.lt_trans hn (by unfold BB;decide)
    by_cases e:n=0
    · rw [e,Qp];simp
    · rw [Qw n e];exact Q09 (by decide) h0
  have HN:=Lh hn
  clear hn
  go_enter Tryz.func55, Tryz.ntmps55
  go_wp2_with fail
  go_loopw [0,3] (fun m v wr=>∃ (k:Nat) (xs:List Nat) (vv:Value),v=vv∧m=.int .u64 (k:Int)∧xs ++ dgs k=dgs n∧k<BB∧wr.ownsRow (w.heap.size+1) 5 1 v xs.length (xs.map fun (d:Nat)=>.int .u8 (d:Int))∧Below (w.alloc (.cells #[.bool false,.slice none 0 0] 37)).heap.size (w.alloc (.cells #[.bool false,.slice none 0 0] 37)) wr) (fun m _ _=>(intOf m).toNat)
  case atStart=>exact ⟨n,[],_,rfl,rfl,by simp,HN.out,World.ownsRow_nil _ _ _ _,Below.refl _ _⟩
  case round =>
    obtain ⟨k,xs,v,hve,rfl,hxs,hk,hown,hB⟩:=hrel
    replace hve:=hve.symm
    subst hve
    have HX:=Lh hxs;have HB:=Lh hB;have HK:=Lh hk
    have hxl:xs.length≤20:=by
      have:=congrArg List.length hxs
      rw [List.length_append] at this;omega
    have hsz:w.heap.size+1≤wr.heap.size:=by have:=hB.size;simpa using this
    clear hk hdl
    rcases Nat.eq_zero_or_pos k with e | e
    · subst e
      obtain ⟨_,hc,hf⟩:=Q0f rfl hB
      have c0:wr.cell? ⟨w.heap.size,0,none⟩=some (.bool false):=hc 0
      have c1:wr.cell? ⟨w.heap.size,1,none⟩=some (.slice none 0 0):=hc 1
      have f0:=hf 0;have f1:=hf 1
      rw [Qp,List.append_nil] at hxs
      have HD:Hid (Dg ((wr.setCell ⟨w.heap.size,0,none⟩ (.bool false)).setCell ⟨w.heap.size,1,none⟩ v) v (dgs n)):=by
        rw [← hxs]
        exact Dg.of_own (ownsRow_setCell_below (ownsRow_setCell_below hown (Nat.lt_succ_self _) _) (Nat.lt_succ_self _) _)
      have HE:Hid (Below w.heap.size w ((wr.setCell ⟨w.heap.size,0,none⟩ (.bool false)).setCell ⟨w.heap.size,1,none⟩ v)) :=
        ((Qd (Qm w _) hB).setCell (Nat.le_refl _) _).setCell (Nat.le_refl _) _
      obtain ⟨p,cap,rfl,_⟩:=Dg.of_own hown
      clear hown hB hc hf hxs
      go_wp2_with fail
      exact bodyPost_ret (v:=.agg #[.bool false,.slice p xs.length cap]) (by simp [results,Tryz.results55,go_sem,c0,c1]) rfl ⟨_,rfl,⟨_,rfl,HD.out⟩,HE.out⟩
    · have h1:(0:Int)<(k:Int):=by omega
      clear hB hxs
      go_wp2_with (first
            | (at_builtin;refine wpList_append_own _ rfl _ _ 35 rfl (w.heap.size+1) 5 i0 (.int .u8 0) 1 1 Tryz.underlying35 hi hz0 hz1 hz2 rfl (by decide) _ _ _ rfl (hown.alloc _) ⟨wr.heap.size,0,none⟩ 1 1 [.int .u8 ((k:Int) % 10)] rfl rfl (Q0u _ _ _) (fun x hx=>by simp at hx;subst hx;rfl) (by unfold maxLen;omega) (by omega) (by simp;omega) ?_;intro v' w3 hown' hgrow3 hnil3))
      have hw:IntKind.u64.wrap ((k:Int) / 10)=((k / 10:Nat):Int):=by
        have h2:=HK.out
        rw [show IntKind.u64.wrap ((k:Int) / 10)=((k:Int) / 10) % 18446744073709551616 from rfl];unfold BB at h2;omega
      rw [hw]
      go_roundw
      case rel=>exact ⟨k / 10,xs ++ [k % 10],_,rfl,rfl,by rw [← HX.out,Q0a (n:=k) (by omega),List.append_assoc];rfl,by have:=HK.out;omega,by rw [List.map_append,List.length_append];exact hown',(bal HB.out _).grown hgrow3 (by simp;omega) (fun q hq=>by have:=(hown.lt q hq).1;simpa using this)⟩
      case measure=>simp [intOf];omega
theorem Q2V (n:Nat)(hn:n<4611686018427387904)(w:World):Calls Tryz.prog 22 #[.int .i64 (n:Int)] w fun e w'=>∃ v',e=.returned v'∧NumV w' v' false n∧Below w.heap.size w w':=by
 have HO:Hid (∀ w1,Calls Tryz.prog 55 #[.int .u64 (n:Int)] w1 fun e w'=>∃ v',e=.returned v'∧NumV w' v' false n∧Below w1.heap.size w1 w'):=fun w1=>Q6U n (Nat.lt_trans hn (by unfold BB;decide)) w1
 have hw:IntKind.u64.wrap (n:Int)=(n:Int):=by
  rw [show IntKind.u64.wrap (n:Int)=(n:Int) % 18446744073709551616 from rfl];omega
 have h0:¬ (n:Int)<0:=by omega
 clear hn
 go_enter Tryz.func22, Tryz.ntmps22
 go_wp2_with fail
 refine (HO.out _).mono ?_
 rintro e w1 ⟨v',rfl,⟨s,rfl,q⟩,hB⟩
 obtain ⟨hb,hc,hf⟩:=Q0f rfl hB
 have c0:w1.cell? ⟨w.heap.size,0,none⟩=some (.bool false):=hc 0
 have c1:w1.cell? ⟨w.heap.size,1,none⟩=some (.slice none 0 0):=hc 1
 have f0:=hf 0;have f1:=hf 1
 have HB:=Lh (((Qd (Qm w _) hB).setCell (p:=⟨w.heap.size,0,none⟩) (Nat.le_refl _) (.bool false)).setCell (p:=⟨w.heap.size,1,none⟩) (Nat.le_refl _) s)
 have HQ:=Lh (q.keep hb (by decide) (((Only.refl _ _).set 0 (.bool false)).set 1 s))
 obtain ⟨p,cap,rfl,_⟩:=q
 clear hB hc hf HO hb
 go_wp2_with fail
 exact bodyPost_ret (v:=.agg #[.bool false,.slice p (dgs n).length cap]) (by simp [results,Tryz.results22,go_sem,c0,c1]) rfl ⟨_,rfl,⟨_,rfl,HQ.out⟩,HB.out⟩
theorem Q0b {w:World}{v:Value}{neg:Bool}{n:Nat}(h:NumV w v neg n):Calls Tryz.prog 19 #[v] w fun e w'=>e=.returned (.bool (decide (n=0)))∧Below w.heap.size w w':=by
 obtain ⟨s,rfl,p,cap,rfl,_⟩:=h
 have hz:=Q2U (n:=n)
 have HB:=Lh (fun o=>Qm w o)
 have hd:decide (((dgs n).length:Int)=0)=decide (n=0):=by
  by_cases e:n=0
  ·rw [decide_eq_true e,decide_eq_true (by omega)]
  ·rw [decide_eq_false e,decide_eq_false (by omega)]
 have HD:=Lh hd
 clear hz hd
 go_enter Tryz.func19, Tryz.ntmps19
 go_wp2_with fail
 go_ret
 exact ⟨by first | exact Qz (congrArg Value.bool HD.out) | exact Qz (by rw [← HD.out];rfl),HB.out _⟩
theorem Qn {w:World}{v:Value}{neg:Bool}{n:Nat}(h:NumV w v neg n):Calls Tryz.prog 23 #[v] w fun e w'=>e=.returned (.int .i64 (ndg n:Int))∧Below w.heap.size w w':=by
 obtain ⟨s,rfl,p,cap,rfl,_⟩:=h
 have HB:=Lh (fun o=>Qm w o)
 by_cases e:n=0
 ·subst e
  rw [Qj (by decide),Qp]
  go_enter Tryz.func23, Tryz.ntmps23
  go_wp2_with fail
  go_ret
  exact ⟨rfl,HB.out _⟩
 ·have h1:=Qw n e
  have h2:=Qi n
  generalize ndg n=k at h1 h2 ⊢
  rw [h1]
  clear h1 e
  have h3:(1:Int)≤(k:Int):=by omega
  go_enter Tryz.func23, Tryz.ntmps23
  go_wp2_with fail
  go_ret
  exact ⟨by first | rfl | (show Ending.returned (.int .i64 (max (k:Int) 1))=_;rw [Int.max_eq_left h3]),HB.out _⟩
theorem Q0X (m k:Nat):m / 10^k=m / 10^k % 10+10*(m / 10^(k+1)):=by
 have:=Nat.div_div_eq_div_mul m (10^k) 10
 rw [Nat.pow_succ,← this];omega
theorem Q4J {m n k:Nat}(h:m / 10^k<n / 10^k):m<n:=by
 rcases Nat.lt_or_ge m n with q | q
 ·exact q
 ·have:=Nat.div_le_div_right (c:=10^k) q;omega
def cm (m n:Nat):Int:=if m<n then -1 else if n<m then 1 else 0
theorem Q66 {m n:Nat}(h:m<n):cm m n = -1:=by unfold cm;rw [if_pos h]
theorem Q67 {m n:Nat}(h:n<m):cm m n=1:=by unfold cm;rw [if_neg (by omega),if_pos h]
theorem Q7O {m n:Nat}(h:m=n):cm m n=0:=by unfold cm;rw [if_neg (by omega),if_neg (by omega)]
theorem Q1C {w:World}{u v:Value}{m n:Nat}(hu:Dg w u (dgs m))(hv:Dg w v (dgs n)):Calls Tryz.prog 52 #[u,v] w fun e w'=>e=.returned (.int .i64 (cm m n))∧Below w.heap.size w w':=by
 obtain ⟨p,cap,rfl,hpc,hpm,hp⟩:=hu
 obtain ⟨q,cbp,rfl,hqc,hqm,hq⟩:=hv
 replace hpm:=hpm.1
 replace hqm:=hqm.1
 unfold maxLen at hpm hqm
 rcases Nat.lt_trichotomy (dgs m).length (dgs n).length with hl | hl | hl
 ·have hmn:m<n:=by
   rcases Nat.lt_or_ge m n with q | q
   ·exact q
   ·have:=QR q;omega
  rw [Q66 hmn]
  have h1:(((dgs m).length:Int) != ((dgs n).length:Int))=true:=by simp;omega
  have h2:((dgs m).length:Int)<((dgs n).length:Int):=by omega
  clear hp hq hmn
  go_enter Tryz.func52, Tryz.ntmps52
  go_wp2_with fail
  go_ret
  exact ⟨rfl,Below.refl _ _⟩
 ·have HG:Hid (∀ i,i<(dgs m).length→∃ b o,p=some ⟨b,o,none⟩∧b<w.heap.size∧w.cell? ⟨b,o+i,none⟩=some (.int .u8 ((m / 10^i % 10:Nat):Int))):=fun i hi=>by
   obtain ⟨b,o,e1,e2,e3⟩:=hp.get i hi
   rw [Q2D] at e3;exact ⟨b,o,e1,e2,e3⟩
  have HK:Hid (∀ i,i<(dgs n).length→∃ b o,q=some ⟨b,o,none⟩∧b<w.heap.size∧w.cell? ⟨b,o+i,none⟩=some (.int .u8 ((n / 10^i % 10:Nat):Int))):=fun i hi=>by
   obtain ⟨b,o,e1,e2,e3⟩:=hq.get i hi
   rw [Q2D] at e3;exact ⟨b,o,e1,e2,e3⟩
  have HM:=Lh (Nat.div_eq_of_lt (QM m));have HN:=Lh (Nat.div_eq_of_lt (QM n))
  clear hp hq
  rw [← hl] at HK HN ⊢
  generalize (dgs m).length=L at hpc hpm HG HK HM HN ⊢
  clear hl
  go_enter Tryz.func52, Tryz.ntmps52
  go_wp2_with fail
  go_loopw [5] (fun i wr=>∃ (k:Nat) (z:Nat),k≤L∧i=.int .i64 ((k:Int) - 1)∧m / 10^k=n / 10^k∧wr=w.drewN z) (fun i _=>((intOf i)+1).toNat)
  case atStart=>exact ⟨L,0,Nat.le_refl _,rfl,by rw [HM.out,HN.out],rfl⟩
  case round =>
   obtain ⟨k,z,hk,rfl,he,rfl⟩:=hrel
   rcases Nat.eq_zero_or_pos k with e | e
   ·subst e
    have hmn:m=n:=by simpa using he
    have HR:=Lh (Q7O hmn)
    clear he hmn
    go_wp2_with fail
    go_ret
    exact ⟨(congrArg (fun z:Int=>Ending.returned (Value.int IntKind.i64 z)) HR.out).symm,⟨rfl,rfl,rfl,Nat.le_refl _,fun _ _=>rfl⟩⟩
   ·obtain ⟨j,rfl⟩:∃ j,k=j+1:=⟨k - 1,by omega⟩
    obtain ⟨b,o,rfl,hb,hc⟩:=HG.out j (by omega)
    obtain ⟨b',o',rfl,hb',hc'⟩:=HK.out j (by omega)
    have s1:=Q0X m j;have s2:=Q0X n j
    rw [he] at s1
    have HE:=Lh he
    have h2:((j+1:Nat):Int) - 1=(j:Int):=by omega
    generalize hx:m / 10^j % 10=x at hc s1
    generalize hy:n / 10^j % 10=y at hc' s2
    have hge:(0:Int)≤(j:Int):=by omega
    rcases Nat.lt_trichotomy x y with hxy | hxy | hxy
    ·have hmn:m<n:=Q4J (k:=j) (by omega)
     have HR:=Lh (Q66 hmn)
     have h3:((x:Int) != (y:Int))=true:=by simp;omega
     have h4:(x:Int)<(y:Int):=by omega
     clear s1 s2 hx hy he hmn
     rw [h2]
     go_wp2_with fail
     go_quiet (fail)
     go_wp2_with fail
     go_quiet (fail)
     go_wp2_with fail
     go_ret
     exact ⟨(congrArg (fun z:Int=>Ending.returned (Value.int IntKind.i64 z)) HR.out).symm,⟨rfl,rfl,rfl,Nat.le_refl _,fun _ _=>rfl⟩⟩
    ·subst hxy
     have hmn:=Lh (show m / 10^j=n / 10^j by omega)
     clear s1 s2 hx hy he
     rw [h2]
     go_wp2_with fail
     go_quiet (fail)
     go_wp2_with fail
     go_roundw
     case rel=>exact ⟨j,_,by omega,rfl,hmn.out,rfl⟩
     case measure=>simp [intOf];try omega
    ·have hmn:n<m:=Q4J (k:=j) (by omega)
     have HR:=Lh (Q67 hmn)
     have h3:((x:Int) != (y:Int))=true:=by simp;omega
     have h4:¬ (x:Int)<(y:Int):=by omega
     clear s1 s2 hx hy he hmn
     rw [h2]
     go_wp2_with fail
     go_quiet (fail)
     go_wp2_with fail
     go_quiet (fail)
     go_wp2_with fail
     go_ret
     exact ⟨(congrArg (fun z:Int=>Ending.returned (Value.int IntKind.i64 z)) HR.out).symm,⟨rfl,rfl,rfl,Nat.le_refl _,fun _ _=>rfl⟩⟩
 ·have hmn:n<m:=by
   rcases Nat.lt_or_ge n m with q | q
   ·exact q
   ·have:=QR q;omega
  rw [Q67 hmn]
  have h1:(((dgs m).length:Int) != ((dgs n).length:Int))=true:=by simp;omega
  have h2:¬ ((dgs m).length:Int)<((dgs n).length:Int):=by omega
  clear hp hq hmn
  go_enter Tryz.func52, Tryz.ntmps52
  go_wp2_with fail
  go_ret
  exact ⟨rfl,Below.refl _ _⟩
theorem Q1f (m k:Nat):m % 10^(k+1)=m % 10^k+10^k*(m / 10^k % 10):=by rw [Nat.pow_succ,Nat.mod_mul]
theorem DC.dig {w:World}{p:Option Addr}{m:Nat}(h:DC w p (dgs m)):∀ i,i<(dgs m).length→∃ b o,p=some ⟨b,o,none⟩∧b<w.heap.size∧w.cell? ⟨b,o+i,none⟩=some (.int .u8 ((m / 10^i % 10:Nat):Int)):=fun i hi=>by
 obtain ⟨b,o,e1,e2,e3⟩:=h.get i hi
 rw [Q2D] at e3;exact ⟨b,o,e1,e2,e3⟩
theorem Q3D {m n k bw A B x:Nat}(hA:A=m / 10^k % 10)(hB:B=n / 10^k % 10)(hb:bw≤1)(hx:x+n % 10^k=m % 10^k+bw*10^k) :
  (x+10^k*((10+A - bw - B) % 10))+n % 10^(k+1)=m % 10^(k+1)+(1 - (10+A - bw - B) / 10)*10^(k+1)∧1 - (10+A - bw - B) / 10≤1:=by
 refine ⟨?_,by omega⟩
 have hA9:A<10:=by omega
 have hB9:B<10:=by omega
 rw [Q1f,Q1f,← hA,← hB,Nat.pow_succ]
 generalize 10^k=t at hx ⊢
 generalize n % t=r at hx ⊢
 generalize m % t=s at hx ⊢
 clear hA hB
 have key:∀ d b':Nat,d+B+bw=A+10*b'→x+t*d+(r+t*B)=s+t*A+b'*(t*10):=by
  intro d b' e
  have e2:t*(d+B+bw)=t*(A+10*b'):=by rw [e]
  rw [Nat.mul_add,Nat.mul_add,Nat.mul_add] at e2
  rw [Nat.mul_comm bw t] at hx
  have e3:b'*(t*10)=t*(10*b'):=by rw [Nat.mul_comm b',Nat.mul_assoc]
  omega
 apply key
 omega
theorem Q7P {m n k bw x:Nat}(hm:m<10^k)(hn:n≤m)(hb:bw≤1)(hxl:x<10^k)(hx:x+n % 10^k=m % 10^k+bw*10^k):x=m - n:=by
 rw [Nat.mod_eq_of_lt hm,Nat.mod_eq_of_lt (Nat.lt_of_le_of_lt hn hm)] at hx
 have:bw=0∨bw=1:=by omega
 rcases this with e | e <;> subst e <;> omega
theorem Q1g (xs:List Nat)(d:Nat)(h:∀ x ∈ xs,x<10)(hd:d<10):∀ x ∈ xs ++ [d],x<10:=by
 intro x hx
 rcases List.mem_append.1 hx with e | e
 ·exact h x e
 ·simp at e;omega
theorem Q68 {w:World}{u v:Value}{m n:Nat}(hu:Dg w u (dgs m))(hv:Dg w v (dgs n))(hnm:n≤m)(hlen:(dgs m).length≤4000000000):Calls Tryz.prog 53 #[u,v] w fun e w'=>∃ v',e=.returned v'∧Dg w' v' (dgs (m - n))∧(∀ k,v'.ownBlock=some k→w.heap.size≤k)∧Below w.heap.size w w':=by
 obtain ⟨i0,hi,hz0,hz1,hz2⟩:=info_parts Q1B
 obtain ⟨p,cap,rfl,hpc,hpm,hp⟩:=hu
 obtain ⟨q,cbp,rfl,hqc,hqm,hq⟩:=hv
 have hpm:=Lh hpm
 have hqm:=Lh hqm
 have HP:=Lh hp.dig
 have HQ:=Lh hq.dig
 have HM:=Lh (QM m)
 have HN:=Lh (QM n)
 have hll:=QR hnm
 have Hnm:=Lh hnm
 generalize (dgs m).length=L at hpc HP HM hll hlen ⊢
 generalize (dgs n).length=K at hqc HQ HN hll ⊢
 clear hp hq hnm
 go_enter Tryz.func53, Tryz.ntmps53
 go_wp2_with fail
 go_loopw [5,6,7,8] (fun out bw i n8 wr=>∃ (k:Nat) (xs:List Nat) (b:Nat) (vv:Value),out=vv∧k≤L∧i=.int .i64 (k:Int)∧bw=.int .u8 (b:Int)∧b≤1∧xs.length=k∧(∀ x ∈ xs,x<10)∧vl xs+n % 10^k=m % 10^k+b*10^k∧wr.ownsRow w.heap.size 5 1 out xs.length (xs.map fun (d:Nat)=>.int .u8 (d:Int))∧Below w.heap.size w wr) (fun _ _ i _ _=>L - (intOf i).toNat)
 case atStart=>exact ⟨0,[],0,_,rfl,Nat.zero_le _,rfl,rfl,by omega,rfl,by simp,by simp [vl,Nat.mod_one],World.ownsRow_nil _ _ _ _,Below.refl _ _⟩
 case round =>
  obtain ⟨k,xs,b,out,hve,hk,rfl,rfl,hb,hxl,hx9,hx,hown,hB⟩:=hrel
  replace hve:=hve.symm
  subst hve
  have hsz:=hB.size
  have HB:=Lh hB;have HX9:=Lh hx9;have HX:=Lh hx
  clear hx9 hx
  rcases Nat.lt_or_ge k L with hkl | hkl
  ·obtain ⟨bp,op,rfl,hbp,hcp⟩:=HP.out k hkl
   have hc:wr.cell? ⟨bp,op+k,none⟩=some (.int .u8 ((m / 10^k % 10:Nat):Int)):=by rw [hB.cell hbp];exact hcp
   have hA9:m / 10^k % 10<10:=Nat.mod_lt _ (by decide)
   have h1:(k:Int)<(L:Int):=by omega
   rcases Nat.lt_or_ge k K with hkk | hkk
   ·obtain ⟨bq,oq,rfl,hbq,hcq⟩:=HQ.out k hkk
    have hd:wr.cell? ⟨bq,oq+k,none⟩=some (.int .u8 ((n / 10^k % 10:Nat):Int)):=by rw [hB.cell hbq];exact hcq
    have hB9:n / 10^k % 10<10:=Nat.mod_lt _ (by decide)
    have HS:=Lh (Q3D (A:=m / 10^k % 10) (B:=n / 10^k % 10) rfl rfl hb HX.out).1
    generalize m / 10^k % 10=A at hc hA9 HS
    generalize n / 10^k % 10=B at hd hB9 HS
    have h2:(k:Int)<(K:Int):=by omega
    obtain ⟨N,hN⟩:∃ N,N=10+A - b - B:=⟨_,rfl⟩
    rw [← hN] at HS
    have hN19:N≤19:=by omega
    have hw1:IntKind.u8.wrap (10+(A:Int))=10+(A:Int):=IntWalk.u8_in _ (by omega)
    have hw2:IntKind.u8.wrap (10+(A:Int) - (b:Int))=10+(A:Int) - (b:Int):=IntWalk.u8_in _ (by omega)
    have hw3:IntKind.u8.wrap (10+(A:Int) - (b:Int) - (B:Int))=(N:Int):=by rw [IntWalk.u8_in _ (by omega)];omega
    have hw4:IntKind.u8.wrap (1 - (N:Int) / 10)=((1 - N / 10:Nat):Int):=by rw [IntWalk.u8_in _ (by omega)];omega
    clear hB hcp hcq hN
    go_wp2_with (first | (at_builtin;refine wpList_append_own _ rfl _ _ 35 rfl w.heap.size 5 i0 (.int .u8 0) 1 1 Tryz.underlying35 hi hz0 hz1 hz2 rfl (by decide) _ _ _ rfl (hown.alloc _) ⟨wr.heap.size,0,none⟩ 1 1 [.int .u8 ((N:Int) % 10)] rfl rfl (Q0u _ _ _) (fun x hx=>by simp at hx;subst hx;rfl) (by unfold maxLen;omega) (by omega) (by simp;omega) ?_;intro v' w3 hown' hgrow3 hnil3))
    go_roundw
    case rel=>exact ⟨k+1,xs ++ [N % 10],1 - N / 10,_,rfl,by omega,by go_num,rfl,by omega,by rw [List.length_append,hxl];rfl,Q1g xs _ HX9.out (Nat.mod_lt _ (by decide)),by rw [Q0F,hxl];exact HS.out,by rw [List.map_append,List.length_append];exact hown',(bal HB.out _).grown hgrow3 (by simp;omega) (fun q hq=>(hown.lt q hq).1)⟩
    case measure=>simp [intOf];omega
   ·have hB0:n / 10^k % 10=0:=by
     have:n<10^k:=Nat.lt_of_lt_of_le HN.out (QI hkk)
     rw [Nat.div_eq_of_lt this]
    have HS:=Lh (Q3D (A:=m / 10^k % 10) (B:=n / 10^k % 10) rfl rfl hb HX.out).1
    rw [hB0] at HS
    generalize m / 10^k % 10=A at hc hA9 HS
    have h2:¬ (k:Int)<(K:Int):=by omega
    obtain ⟨N,hN⟩:∃ N,N=10+A - b - 0:=⟨_,rfl⟩
    rw [← hN] at HS
    have hN19:N≤19:=by omega
    have hw1:IntKind.u8.wrap (10+(A:Int))=10+(A:Int):=IntWalk.u8_in _ (by omega)
    have hw2:IntKind.u8.wrap (10+(A:Int) - (b:Int))=(N:Int):=by rw [IntWalk.u8_in _ (by omega)];omega
    have hw4:IntKind.u8.wrap (1 - (N:Int) / 10)=((1 - N / 10:Nat):Int):=by rw [IntWalk.u8_in _ (by omega)];omega
    clear hB hcp hN hB0
    go_wp2_with (first | (at_builtin;refine wpList_append_own _ rfl _ _ 35 rfl w.heap.size 5 i0 (.int .u8 0) 1 1 Tryz.underlying35 hi hz0 hz1 hz2 rfl (by decide) _ _ _ rfl (hown.alloc _) ⟨wr.heap.size,0,none⟩ 1 1 [.int .u8 ((N:Int) % 10)] rfl rfl (Q0u _ _ _) (fun x hx=>by simp at hx;subst hx;rfl) (by unfold maxLen;omega) (by omega) (by simp;omega) ?_;intro v' w3 hown' hgrow3 hnil3))
    go_roundw
    case rel=>exact ⟨k+1,xs ++ [N % 10],1 - N / 10,_,rfl,by omega,by go_num,rfl,by omega,by rw [List.length_append,hxl];rfl,Q1g xs _ HX9.out (Nat.mod_lt _ (by decide)),by rw [Q0F,hxl];exact HS.out,by rw [List.map_append,List.length_append];exact hown',(bal HB.out _).grown hgrow3 (by simp;omega) (fun q hq=>(hown.lt q hq).1)⟩
    case measure=>simp [intOf];omega
  ·have hkL:k=L:=by omega
   subst hkL
   have hv:=Q7P HM.out Hnm.out hb (by have:=Q65 xs HX9.out;rw [hxl] at this;exact this) HX.out
   have HT:=Lh (Q47 (Dg.of_own hown) HX9.out)
   have HO:=Lh (Dg.of_own hown)
   have HOw:=Lh (fun k e=>(hown.lt k e).1)
   rw [hv] at HT
   have h1:¬ (k:Int)<(k:Int):=by omega
   clear hown hB hv
   go_wp2_with fail
   refine HT.out.mono ?_
   rintro e w1 ⟨v',rfl,q,hob,rfl⟩
   have HQ:=Lh (q _ HO.out)
   have HF:=Lh (fun k (e:v'.ownBlock=some k)=>HOw.out k (hob ▸ e))
   clear q hob
   go_wp2_with fail
   go_ret
   exact ⟨_,rfl,HQ.out,HF.out,HB.out⟩
def DgV (w:World)(v:Value)(n:Nat):Prop:=∃ l,Dg w v l∧(∀ d ∈ l,d<10)∧vl l=n
theorem Q1o {m n k c A B x:Nat}(hA:A=m / 10^k % 10)(hB:B=n / 10^k % 10)(hx:x+c*10^k=m % 10^k+n % 10^k) :
  (x+10^k*((c+A+B) % 10))+(c+A+B) / 10*10^(k+1)=m % 10^(k+1)+n % 10^(k+1):=by
 rw [Q1f,Q1f,← hA,← hB,Nat.pow_succ]
 generalize 10^k=t at hx ⊢
 generalize n % t=r at hx ⊢
 generalize m % t=s at hx ⊢
 clear hA hB
 have key:∀ d b':Nat,d+10*b'=c+A+B→x+t*d+b'*(t*10)=s+t*A+(r+t*B):=by
  intro d b' e
  have e2:t*(d+10*b')=t*(c+A+B):=by rw [e]
  rw [Nat.mul_add,Nat.mul_add,Nat.mul_add] at e2
  rw [Nat.mul_comm c t] at hx
  have e3:b'*(t*10)=t*(10*b'):=by rw [Nat.mul_comm b',Nat.mul_assoc]
  omega
 apply key
 omega
theorem Q3E {m n k c x:Nat}(hm:m<10^k)(hn:n<10^k)(h:x+c*10^k=m % 10^k+n % 10^k):x+c*10^k=m+n:=by
 rw [Nat.mod_eq_of_lt hm,Nat.mod_eq_of_lt hn] at h;exact h
theorem Q95 {w:World}{u v:Value}{m n:Nat}(hu:Dg w u (dgs m))(hv:Dg w v (dgs n))(hlen:(dgs m).length≤4000000000)(hlen2:(dgs n).length≤4000000000):Calls Tryz.prog 113 #[u,v] w fun e w'=>∃ v',e=.returned v'∧DgV w' v' (m+n)∧Below w.heap.size w w':=by
 obtain ⟨i0,hi,hz0,hz1,hz2⟩:=info_parts Q1B
 obtain ⟨p,cap,rfl,hpc,hpm,hp⟩:=hu
 obtain ⟨q,cbp,rfl,hqc,hqm,hq⟩:=hv
 have hpm:=Lh hpm
 have hqm:=Lh hqm
 have HP:=Lh hp.dig
 have HQ:=Lh hq.dig
 have HM:=Lh (QM m)
 have HN:=Lh (QM n)
 generalize (dgs m).length=L at hpc HP HM hlen ⊢
 generalize (dgs n).length=K at hqc HQ HN hlen2 ⊢
 clear hp hq
 go_enter Tryz.func113, Tryz.ntmps113
 go_wp2_with fail
 go_loopw [5,6,7,8] (fun out cr i n8 wr=>∃ (k:Nat) (xs:List Nat) (b:Nat) (vv:Value),out=vv∧k≤L+K+1∧i=.int .i64 (k:Int)∧cr=.int .u8 (b:Int)∧b≤1∧xs.length=k∧(∀ x ∈ xs,x<10)∧vl xs+b*10^k=m % 10^k+n % 10^k∧wr.ownsRow w.heap.size 5 1 out xs.length (xs.map fun (d:Nat)=>.int .u8 (d:Int))∧Below w.heap.size w wr) (fun _ _ i _ _=>L+K+2 - (intOf i).toNat)
 case atStart=>exact ⟨0,[],0,_,rfl,Nat.zero_le _,rfl,rfl,by omega,rfl,by simp,by simp [vl,Nat.mod_one],World.ownsRow_nil _ _ _ _,Below.refl _ _⟩
 case round =>
  obtain ⟨k,xs,b,out,hve,hk,rfl,rfl,hb,hxl,hx9,hx,hown,hB⟩:=hrel
  replace hve:=hve.symm
  subst hve
  have hsz:=hB.size
  have HB:=Lh hB;have HX9:=Lh hx9;have HX:=Lh hx
  clear hx9 hx
  have hkz:k≤L+K∨(b=0∧L≤k∧K≤k):=by
   rcases Nat.lt_or_ge (L+K) k with q | q
   ·right
    refine ⟨?_,by omega,by omega⟩
    have h1:=Q3E (k:=k) (Nat.lt_of_lt_of_le HM.out (QI (by omega))) (Nat.lt_of_lt_of_le HN.out (QI (by omega))) HX.out
    obtain ⟨j,rfl⟩:∃ j,k=j+1:=⟨k - 1,by omega⟩
    have h2:m<10^j:=Nat.lt_of_lt_of_le HM.out (QI (by omega))
    have h3:n<10^j:=Nat.lt_of_lt_of_le HN.out (QI (by omega))
    rw [Nat.pow_succ] at h1
    rcases (show b=0∨b=1 by omega) with e | e
    ·exact e
    ·subst e;omega
   ·exact .inl q
  rcases Nat.lt_or_ge k L with hkl | hkl
  ·rcases Nat.lt_or_ge k K with hkk | hkk
   ·obtain ⟨bp,op,rfl,hbp,hcp⟩:=HP.out k hkl
    have hc:wr.cell? ⟨bp,op+k,none⟩=some (.int .u8 ((m / 10^k % 10:Nat):Int)):=by rw [hB.cell hbp];exact hcp
    have hA9:m / 10^k % 10<10:=Nat.mod_lt _ (by decide)
    obtain ⟨bq,oq,rfl,hbq,hcq⟩:=HQ.out k hkk
    have hd:wr.cell? ⟨bq,oq+k,none⟩=some (.int .u8 ((n / 10^k % 10:Nat):Int)):=by rw [hB.cell hbq];exact hcq
    have hB9:n / 10^k % 10<10:=Nat.mod_lt _ (by decide)
    have HS:=Lh (Q1o (A:=m / 10^k % 10) (B:=n / 10^k % 10) rfl rfl HX.out)
    generalize m / 10^k % 10=A at hc hA9 HS
    generalize n / 10^k % 10=B at hd hB9 HS
    have h1:(k:Int)<(L:Int):=by omega
    have h2:(k:Int)<(K:Int):=by omega
    have h1':decide ((k:Int)<(L:Int))=true:=by simp;omega
    have h2':decide ((k:Int)<(K:Int))=true:=by simp;omega
    obtain ⟨N,hN⟩:∃ N,N=b+A+B:=⟨_,rfl⟩
    rw [← hN] at HS
    have hN19:N≤19:=by omega
    have hw1:IntKind.u8.wrap ((b:Int)+(A:Int))=(b:Int)+(A:Int):=IntWalk.u8_in _ (by omega)
    have hw2:IntKind.u8.wrap ((b:Int)+(A:Int)+(B:Int))=(N:Int):=by rw [IntWalk.u8_in _ (by omega)];omega
    have HK1:Hid (k+1≤L+K+1):=Lh (by have:=hkz;omega)
    clear hB hkz hcp hcq hN
    go_wp2_with (first | (at_builtin;refine wpList_append_own _ rfl _ _ 35 rfl w.heap.size 5 i0 (.int .u8 0) 1 1 Tryz.underlying35 hi hz0 hz1 hz2 rfl (by decide) _ _ _ rfl (hown.alloc _) ⟨wr.heap.size,0,none⟩ 1 1 [.int .u8 ((N:Int) % 10)] rfl rfl (Q0u _ _ _) (fun x hx=>by simp at hx;subst hx;rfl) (by unfold maxLen;omega) (by omega) (by simp;omega) ?_;intro v' w3 hown' hgrow3 hnil3))
    go_roundw
    case rel=>exact ⟨k+1,xs ++ [N % 10],N / 10,_,rfl,HK1.out,by go_num,by go_num,by omega,by rw [List.length_append,hxl];rfl,Q1g xs _ HX9.out (Nat.mod_lt _ (by decide)),by rw [Q0F,hxl];exact HS.out,by rw [List.map_append,List.length_append];exact hown',(bal HB.out _).grown hgrow3 (by simp;omega) (fun q hq=>(hown.lt q hq).1)⟩
    case measure=>simp [intOf];omega
   ·obtain ⟨bp,op,rfl,hbp,hcp⟩:=HP.out k hkl
    have hc:wr.cell? ⟨bp,op+k,none⟩=some (.int .u8 ((m / 10^k % 10:Nat):Int)):=by rw [hB.cell hbp];exact hcp
    have hA9:m / 10^k % 10<10:=Nat.mod_lt _ (by decide)
    have hB0:n / 10^k % 10=0:=by rw [Nat.div_eq_of_lt (Nat.lt_of_lt_of_le HN.out (QI hkk))]
    have HS:=Lh (Q1o (A:=m / 10^k % 10) (B:=n / 10^k % 10) rfl rfl HX.out)
    generalize m / 10^k % 10=A at hc hA9 HS
    rw [hB0] at HS
    have h1:(k:Int)<(L:Int):=by omega
    have h2:¬ (k:Int)<(K:Int):=by omega
    have h1':decide ((k:Int)<(L:Int))=true:=by simp;omega
    have h2':decide ((k:Int)<(K:Int))=false:=by simp;omega
    obtain ⟨N,hN⟩:∃ N,N=b+A+0:=⟨_,rfl⟩
    rw [← hN] at HS
    have hN19:N≤19:=by omega
    have hw1:IntKind.u8.wrap ((b:Int)+(A:Int))=(N:Int):=by rw [IntWalk.u8_in _ (by omega)];omega
    have HK1:Hid (k+1≤L+K+1):=Lh (by have:=hkz;omega)
    clear hB hkz hcp hB0 hN
    go_wp2_with (first | (at_builtin;refine wpList_append_own _ rfl _ _ 35 rfl w.heap.size 5 i0 (.int .u8 0) 1 1 Tryz.underlying35 hi hz0 hz1 hz2 rfl (by decide) _ _ _ rfl (hown.alloc _) ⟨wr.heap.size,0,none⟩ 1 1 [.int .u8 ((N:Int) % 10)] rfl rfl (Q0u _ _ _) (fun x hx=>by simp at hx;subst hx;rfl) (by unfold maxLen;omega) (by omega) (by simp;omega) ?_;intro v' w3 hown' hgrow3 hnil3))
    go_roundw
    case rel=>exact ⟨k+1,xs ++ [N % 10],N / 10,_,rfl,HK1.out,by go_num,by go_num,by omega,by rw [List.length_append,hxl];rfl,Q1g xs _ HX9.out (Nat.mod_lt _ (by decide)),by rw [Q0F,hxl];exact HS.out,by rw [List.map_append,List.length_append];exact hown',(bal HB.out _).grown hgrow3 (by simp;omega) (fun q hq=>(hown.lt q hq).1)⟩
    case measure=>simp [intOf];omega
  ·rcases Nat.lt_or_ge k K with hkk | hkk
   ·have hA0:m / 10^k % 10=0:=by rw [Nat.div_eq_of_lt (Nat.lt_of_lt_of_le HM.out (QI hkl))]
    obtain ⟨bq,oq,rfl,hbq,hcq⟩:=HQ.out k hkk
    have hd:wr.cell? ⟨bq,oq+k,none⟩=some (.int .u8 ((n / 10^k % 10:Nat):Int)):=by rw [hB.cell hbq];exact hcq
    have hB9:n / 10^k % 10<10:=Nat.mod_lt _ (by decide)
    have HS:=Lh (Q1o (A:=m / 10^k % 10) (B:=n / 10^k % 10) rfl rfl HX.out)
    rw [hA0] at HS
    generalize n / 10^k % 10=B at hd hB9 HS
    have h1:¬ (k:Int)<(L:Int):=by omega
    have h2:(k:Int)<(K:Int):=by omega
    have h1':decide ((k:Int)<(L:Int))=false:=by simp;omega
    have h2':decide ((k:Int)<(K:Int))=true:=by simp;omega
    obtain ⟨N,hN⟩:∃ N,N=b+0+B:=⟨_,rfl⟩
    rw [← hN] at HS
    have hN19:N≤19:=by omega
    have hw1:IntKind.u8.wrap ((b:Int)+(B:Int))=(N:Int):=by rw [IntWalk.u8_in _ (by omega)];omega
    have HK1:Hid (k+1≤L+K+1):=Lh (by have:=hkz;omega)
    clear hB hkz hA0 hcq hN
    go_wp2_with (first | (at_builtin;refine wpList_append_own _ rfl _ _ 35 rfl w.heap.size 5 i0 (.int .u8 0) 1 1 Tryz.underlying35 hi hz0 hz1 hz2 rfl (by decide) _ _ _ rfl (hown.alloc _) ⟨wr.heap.size,0,none⟩ 1 1 [.int .u8 ((N:Int) % 10)] rfl rfl (Q0u _ _ _) (fun x hx=>by simp at hx;subst hx;rfl) (by unfold maxLen;omega) (by omega) (by simp;omega) ?_;intro v' w3 hown' hgrow3 hnil3))
    go_roundw
    case rel=>exact ⟨k+1,xs ++ [N % 10],N / 10,_,rfl,HK1.out,by go_num,by go_num,by omega,by rw [List.length_append,hxl];rfl,Q1g xs _ HX9.out (Nat.mod_lt _ (by decide)),by rw [Q0F,hxl];exact HS.out,by rw [List.map_append,List.length_append];exact hown',(bal HB.out _).grown hgrow3 (by simp;omega) (fun q hq=>(hown.lt q hq).1)⟩
    case measure=>simp [intOf];omega
   ·rcases Nat.eq_zero_or_pos b with hb0 | hb0
    ·subst hb0
     have hv:=Q3E (Nat.lt_of_lt_of_le HM.out (QI hkl)) (Nat.lt_of_lt_of_le HN.out (QI hkk)) HX.out
     have HO:=Lh (Dg.of_own hown)
     have HV:=Lh (show vl xs=m+n by omega)
     have h1:¬ (k:Int)<(L:Int):=by omega
     have h2:¬ (k:Int)<(K:Int):=by omega
     have h1':decide ((k:Int)<(L:Int))=false:=by simp;omega
     have h2':decide ((k:Int)<(K:Int))=false:=by simp;omega
     clear hown hB hv hkz
     go_wp2_with fail
     go_ret
     exact ⟨_,rfl,⟨xs,HO.out,HX9.out,HV.out⟩,HB.out⟩
    ·have hA0:m / 10^k % 10=0:=by rw [Nat.div_eq_of_lt (Nat.lt_of_lt_of_le HM.out (QI hkl))]
     have hB0:n / 10^k % 10=0:=by rw [Nat.div_eq_of_lt (Nat.lt_of_lt_of_le HN.out (QI hkk))]
     have HS:=Lh (Q1o (A:=m / 10^k % 10) (B:=n / 10^k % 10) rfl rfl HX.out)
     rw [hA0] at HS
     rw [hB0] at HS
     have h1:¬ (k:Int)<(L:Int):=by omega
     have h2:¬ (k:Int)<(K:Int):=by omega
     have h1':decide ((k:Int)<(L:Int))=false:=by simp;omega
     have h2':decide ((k:Int)<(K:Int))=false:=by simp;omega
     obtain ⟨N,hN⟩:∃ N,N=b+0+0:=⟨_,rfl⟩
     rw [← hN] at HS
     have hN19:N≤19:=by omega
     obtain rfl:b=N:=by omega
     clear hN
     have hN0:(0:Int)<(b:Int):=by omega
     have HK1:Hid (k+1≤L+K+1):=Lh (by have:=hkz;omega)
     clear hB hkz hA0 hB0
     go_wp2_with (first | (at_builtin;refine wpList_append_own _ rfl _ _ 35 rfl w.heap.size 5 i0 (.int .u8 0) 1 1 Tryz.underlying35 hi hz0 hz1 hz2 rfl (by decide) _ _ _ rfl (hown.alloc _) ⟨wr.heap.size,0,none⟩ 1 1 [.int .u8 ((b:Int) % 10)] rfl rfl (Q0u _ _ _) (fun x hx=>by simp at hx;subst hx;rfl) (by unfold maxLen;omega) (by omega) (by simp;omega) ?_;intro v' w3 hown' hgrow3 hnil3))
     go_roundw
     case rel=>exact ⟨k+1,xs ++ [b % 10],b / 10,_,rfl,HK1.out,by go_num,by go_num,by omega,by rw [List.length_append,hxl];rfl,Q1g xs _ HX9.out (Nat.mod_lt _ (by decide)),by rw [Q0F,hxl];exact HS.out,by rw [List.map_append,List.length_append];exact hown',(bal HB.out _).grown hgrow3 (by simp;omega) (fun q hq=>(hown.lt q hq).1)⟩
     case measure=>simp [intOf];omega
theorem Q7Q {w wr:World}{X Y R:Obj}{A B C:Array Value}{S T U:TypeId}(hX:X=.cells A S (0,0))(hY:Y=.cells B T (0,0))(hR:R=.cells C U (0,0))(h:Below (((w.alloc X).alloc Y).alloc R).heap.size (((w.alloc X).alloc Y).alloc R) wr) :
  (∀ i,wr.cell? ⟨w.heap.size,i,none⟩=A[i]?)∧(∀ i,wr.cell? ⟨w.heap.size+1,i,none⟩=B[i]?)∧(∀ i,wr.cell? ⟨w.heap.size+1+1,i,none⟩=C[i]?)∧(∀ i,wr.frozen? ⟨w.heap.size+1+1,i,none⟩=false)∧wr.heap[w.heap.size+1+1]?=some (.cells C U (0,0)):=by
 have s1:(w.alloc X).heap.size=w.heap.size+1:=by simp
 have s2:((w.alloc X).alloc Y).heap.size=w.heap.size+1+1:=by simp
 have s3:(((w.alloc X).alloc Y).alloc R).heap.size=w.heap.size+1+1+1:=by simp
 have b0:wr.heap[w.heap.size]?=some X:=by
  rw [h.block _ (by omega),Below.heap_alloc _ _ _ (by omega),Below.heap_alloc _ _ _ (by omega),gal]
 have b1:wr.heap[w.heap.size+1]?=some Y:=by
  rw [h.block _ (by omega),Below.heap_alloc _ _ _ (by omega),← s1,gal]
 have b2:wr.heap[w.heap.size+1+1]?=some R:=by
  rw [h.block _ (by omega),← s2,gal]
 subst hX hY hR
 exact ⟨fun i=>by unfold World.cell?;rw [b0];simp,fun i=>by unfold World.cell?;rw [b1];simp,fun i=>by unfold World.cell?;rw [b2];simp,fun i=>by unfold World.frozen?;rw [b2];simp,b2⟩
theorem Q4K {w:World}{u v:Value}{neg:Bool}{m n:Nat}(hu:NumV w u neg m)(hv:NumV w v neg n)(hlen:(dgs m).length≤4000000000)(hlen2:(dgs n).length≤4000000000) :
  Calls Tryz.prog 58 #[u,v] w fun e w'=>∃ v',e=.returned v'∧NumV w' v' (neg && decide (m+n≠0)) (m+n)∧Below w.heap.size w w':=by
 obtain ⟨s,rfl,hs⟩:=hu
 obtain ⟨t,rfl,ht⟩:=hv
 generalize hbz:(neg && decide (m+n≠0))=bz
 have hs0:=hs;have ht0:=ht
 obtain ⟨p,cap,rfl,_⟩:=hs
 obtain ⟨q,cbp,rfl,_⟩:=ht
 obtain ⟨wA,hwA⟩:∃ wA,wA=((w.alloc (.cells #[.bool neg,.slice p (dgs m).length cap] 37)).alloc (.cells #[.bool neg,.slice q (dgs n).length cbp] 37)).alloc (.cells #[.bool false,.slice none 0 0] 37):=⟨_,rfl⟩
 have hBA:Below w.heap.size w wA:=by rw [hwA];exact bal (bal (Qm w _) _) _
 have HC:Hid (∀ w2,Below wA.heap.size wA w2→(w2.cell? ⟨w.heap.size,0,none⟩=some (.bool neg)∧w2.cell? ⟨w.heap.size,1,none⟩=some (.slice p (dgs m).length cap)∧w2.cell? ⟨w.heap.size+1,1,none⟩=some (.slice q (dgs n).length cbp))∧(w2.cell? ⟨w.heap.size+1+1,0,none⟩=some (.bool false)∧w2.cell? ⟨w.heap.size+1+1,1,none⟩=some (.slice none 0 0)∧w2.frozen? ⟨w.heap.size+1+1,0,none⟩=false∧w2.frozen? ⟨w.heap.size+1+1,1,none⟩=false)∧w2.heap[w.heap.size+1+1]?=some (.cells #[.bool false,.slice none 0 0] 37 (0,0))):=fun w2 h=>by
  rw [hwA] at h
  obtain ⟨a,b,c,d,f⟩:=Q7Q rfl rfl rfl h
  exact ⟨⟨a 0,a 1,b 1⟩,⟨c 0,c 1,d 0,d 1⟩,f⟩
 have HP:Hid (∀ w2,Below wA.heap.size wA w2→Calls Tryz.prog 113 #[.slice p (dgs m).length cap,.slice q (dgs n).length cbp] w2 fun e w'=>∃ v',e=.returned v'∧DgV w' v' (m+n)∧Below w2.heap.size w2 w'):=fun w2 h =>
  Q95 (hs0.later (Qd hBA h)) (ht0.later (Qd hBA h)) hlen hlen2
 have HSg:Hid (∀ w2,Below wA.heap.size wA w2→∀ v',DgV w2 v' (m+n)→Calls Tryz.prog 54 #[.bool neg,v'] w2 fun e w'=>∃ v',e=.returned v'∧NumV w' v' bz (m+n)∧Below w2.heap.size w2 w'):=fun w2 h v' ⟨l,h1,h2,h3⟩=>by
  have:=Q1n h1 h2 neg
  rw [h3,hbz] at this;exact this
 have HFin:Hid (∀ w2,Below wA.heap.size wA w2→∀ b s,NumV w2 (.agg #[.bool b,s]) bz (m+n)→NumV ((w2.setCell ⟨w.heap.size+1+1,0,none⟩ (.bool b)).setCell ⟨w.heap.size+1+1,1,none⟩ s) (.agg #[.bool b,s]) bz (m+n)∧Below w.heap.size w ((w2.setCell ⟨w.heap.size+1+1,0,none⟩ (.bool b)).setCell ⟨w.heap.size+1+1,1,none⟩ s)):=fun w2 h b s hN =>
  ⟨hN.keep (HC.out _ h).2.2 (by decide) (((Only.refl _ _).set 0 _).set 1 _),((Qd hBA h).setCell (by simp only;omega) _).setCell (by simp only;omega) _⟩
 have HSt:Hid (∀ (w2:World) (b s:Value),(w2.cell? ⟨w.heap.size,0,none⟩=some (.bool neg)∧w2.cell? ⟨w.heap.size,1,none⟩=some (.slice p (dgs m).length cap)∧w2.cell? ⟨w.heap.size+1,1,none⟩=some (.slice q (dgs n).length cbp))→((w2.setCell ⟨w.heap.size+1+1,0,none⟩ b).setCell ⟨w.heap.size+1+1,1,none⟩ s).cell? ⟨w.heap.size,0,none⟩=some (.bool neg)∧((w2.setCell ⟨w.heap.size+1+1,0,none⟩ b).setCell ⟨w.heap.size+1+1,1,none⟩ s).cell? ⟨w.heap.size,1,none⟩=some (.slice p (dgs m).length cap)∧((w2.setCell ⟨w.heap.size+1+1,0,none⟩ b).setCell ⟨w.heap.size+1+1,1,none⟩ s).cell? ⟨w.heap.size+1,1,none⟩=some (.slice q (dgs n).length cbp)):=fun w2 b s ⟨a1,a2,a3⟩=>by
  have e:∀ B i j,B≠w.heap.size+1+1→(⟨w.heap.size+1+1,i,none⟩:Addr)≠⟨B,j,none⟩:=fun B i j h e=>h (by injection e with e1;exact e1.symm)
  refine ⟨?_,?_,?_⟩ <;> (rw [World.cell?_setCell_other _ _ _ _ (e _ _ _ (by omega)),World.cell?_setCell_other _ _ _ _ (e _ _ _ (by omega))];assumption)
 have HBA:=Lh hBA
 clear hs0 ht0 hlen hlen2 hBA hbz
 obtain ⟨c0,_,_⟩:=HC.out wA (Below.refl _ _)
 go_enter Tryz.func58, Tryz.ntmps58
 go_wp2_with fail
 rw [← hwA]
 have HwA:=Lh hwA
 clear hwA
 go_region_held3 (fun x=>x.cell? ⟨w.heap.size,0,none⟩=some (.bool neg)∧x.cell? ⟨w.heap.size,1,none⟩=some (.slice p (dgs m).length cap)∧x.cell? ⟨w.heap.size+1,1,none⟩=some (.slice q (dgs n).length cbp)) (first | exact c0 | exact c1 | exact c2 | exact HSt.out _ _ _ c2) (first | (go_at_call 113;refine (HP.out _ (by exact (Below.refl _ _).drew)).mono ?_;rintro r w1 ⟨v1,rfl,k1,hB1⟩;have H1:Hid (DgV w1 v1 (m+n)):=Lh k1;have HB1:Hid (Below wA.heap.size wA w1):=Lh ((Below.refl _ _).drew.trans hB1);obtain ⟨c1,_,_⟩:=HC.out _ HB1.out;clear k1 hB1) | (go_at_call 54;refine (HSg.out _ HB1.out _ H1.out).mono ?_;rintro r w2 ⟨v2,rfl,k2,hB2⟩;obtain ⟨s2,rfl,k3⟩:=k2;have H2:Hid (NumV w2 (.agg #[.bool bz,s2]) bz (m+n)):=Lh ⟨s2,rfl,k3⟩;have HB2:Hid (Below wA.heap.size wA w2):=Lh (Qd HB1.out hB2);obtain ⟨c2,⟨z0,z1,z2,z3⟩,_⟩:=HC.out _ HB2.out;obtain ⟨p2,cap2,rfl,_⟩:=k3;clear hB2))
 have HF:=Lh (HFin.out _ HB2.out _ _ H2.out)
 have HwE:=HwA.out
 clear c0 c1 c2
 go_wp2_with fail
 exact bodyPost_ret (v:=.agg #[.bool bz,.slice p2 (dgs (m+n)).length cap2]) (by simp [results,Tryz.results58,go_sem,z0,z1]) rfl ⟨_,rfl,HF.out.1,HF.out.2⟩
theorem Q96 {w:World}{u v:Value}{m n:Nat}(hu:NumV w u false m)(hv:NumV w v false n):Calls Tryz.prog 59 #[u,v] w fun e w'=>e=.returned (.int .i64 (cm m n))∧Below w.heap.size w w':=by
 obtain ⟨s,rfl,hs⟩:=hu
 obtain ⟨t,rfl,ht⟩:=hv
 have hs0:=hs;have ht0:=ht
 obtain ⟨p,cap,rfl,_⟩:=hs
 obtain ⟨q,cbp,rfl,_⟩:=ht
 have HP:Hid (∀ w2,Below w.heap.size w w2→Calls Tryz.prog 52 #[.slice p (dgs m).length cap,.slice q (dgs n).length cbp] w2 fun e w'=>e=.returned (.int .i64 (cm m n))∧Below w2.heap.size w2 w'):=fun w2 h =>
  Q1C (hs0.later h) (ht0.later h)
 have HB:=Lh (fun X Y=>bal (Qm w X) Y)
 clear hs0 ht0
 generalize cm m n=z at HP ⊢
 go_enter Tryz.func59, Tryz.ntmps59
 go_wp2_with fail
 refine (HP.out _ (HB.out _ _)).mono ?_
 rintro e w1 ⟨rfl,hB⟩
 have HB1:=Lh (Qd (HB.out _ _) hB)
 clear hB HP
 go_wp2_with fail
 go_ret
 exact ⟨rfl,HB1.out⟩
theorem Q2E (n:Nat):dgs (10^n)=List.replicate n 0 ++ [1]:=by
 have h:vl (List.replicate n 0 ++ [1])=10^n:=by
  rw [Q0F,List.length_replicate,Nat.mul_one]
  have:vl (List.replicate n 0)=0:=by
   induction n with
   | zero=>rfl
   | succ n ih=>rw [List.replicate_succ];show 0+10*vl _=0;rw [ih]
  omega
 rw [← h]
 refine Q7M _ (Q1g _ _ (fun x hx=>by rw [List.mem_replicate] at hx;omega) (by decide)) (fun _=>by rw [List.getLast_concat];decide)
theorem Q9H (n:Nat)(hn:n≤4000000)(w:World):Calls Tryz.prog 56 #[.int .i64 (n:Int)] w fun e w'=>∃ v',e=.returned v'∧NumV w' v' false (10^n)∧Below w.heap.size w w':=by
 obtain ⟨i0,hi,hz0,hz1,hz2⟩:=info_parts Q1B
 have hrun:∀ w:World,(Instr.makeSlice 35 (.int .i64 ((n:Int)+1)) (.int .i64 ((n:Int)+1))).run Tryz.prog w=.ok (.slice (some ⟨w.heap.size,0,none⟩) (n+1) (n+1)) (w.alloc (.cells (madeCells #[.int .u8 0] (n+1)) 5)):=fun w=>by
  have:=run_makeSlice (P:=Tryz.prog) w 35 5 i0 (.int .u8 0) Tryz.underlying35 hi hz0 .i64 .i64 (n+1) ((n:Int)+1) (by omega) (by omega) (by rw [hz1];omega) (by rw [hz2];omega) (by omega)
  rw [hz1,show ((n:Int)+1).toNat=n+1 by omega,Nat.mul_one] at this
  exact this
 obtain ⟨M,hM⟩:∃ M,M=madeCells #[.int .u8 0] (n+1):=⟨_,rfl⟩
 rw [← hM] at hrun
 have hMl:M.toList=List.replicate (n+1) (.int .u8 0):=by rw [hM];exact toList_madeCells_one _ _
 have hMs:M.size=n+1:=by rw [← Array.length_toList,hMl,List.length_replicate]
 have hMn:M[n]?=some (.int .u8 0):=by rw [← Array.getElem?_toList,hMl,List.getElem?_replicate];simp
 have HD:Hid (∀ C,Dg ((w.alloc (.cells C 37)).alloc (.cells (M.setIfInBounds n (.int .u8 1)) 5)) (.slice (some ⟨w.heap.size+1,0,none⟩) (n+1) (n+1)) (dgs (10^n))):=fun C=>by
  have hl:(dgs (10^n)).length=n+1:=by rw [Q2E];simp
  refine ⟨some ⟨w.heap.size+1,0,none⟩,n+1,by rw [hl],by rw [hl];exact Nat.le_refl _,⟨by unfold maxLen;omega,fun h=>(by cases h)⟩,fun i d hd=>⟨w.heap.size+1,0,rfl,by simp,?_⟩⟩
  have hi:i<n+1:=by rw [← hl];exact (List.getElem?_eq_some_iff.1 hd).1
  rw [Q2E] at hd
  have hs:(w.alloc (.cells C 37)).heap.size=w.heap.size+1:=by simp
  unfold World.cell?
  rw [show (⟨w.heap.size+1,0+i,none⟩:Addr).block=(w.alloc (.cells C 37)).heap.size from hs.symm,gal]
  show (M.setIfInBounds n (.int .u8 1))[0+i]?=_
  rw [Nat.zero_add,Array.getElem?_setIfInBounds]
  by_cases e:n=i
  ·subst e
   rw [if_pos rfl,if_pos (by omega)]
   rw [List.getElem?_append_right (by simp),List.length_replicate] at hd
   simp at hd;rw [← hd];rfl
  ·rw [if_neg e,← Array.getElem?_toList,hMl,List.getElem?_replicate,if_pos hi]
   rw [List.getElem?_append_left (by simp;omega),List.getElem?_replicate,if_pos (by omega)] at hd
   cases hd;rfl
 have HB:=Lh (fun X Y=>bal (Qm w X) Y)
 clear hM hMl hz0 hz1 hz2 hi
 go_enter Tryz.func56, Tryz.ntmps56
 go_wp2_with fail
 exact bodyPost_ret (v:=.agg #[.bool false,.slice (some ⟨w.heap.size+1,0,none⟩) (n+1) (n+1)]) (by simp [results,Tryz.results56,go_sem]) rfl ⟨_,rfl,⟨_,rfl,HD.out _⟩,HB.out _ _⟩
def txB (n:Nat):List UInt8:=(List.range (ndg n)).map fun i=>UInt8.ofNat (48+n / 10^(ndg n - 1 - i) % 10)
def txS (n:Nat):ByteArray:=⟨(txB n).toArray⟩
def txL (n L k:Nat):List Nat:=(List.range (L - k)).map fun i=>48+n / 10^(L - 1 - i) % 10
theorem Q7R (n L j:Nat)(h:j<L):txL n L j=txL n L (j+1) ++ [48+n / 10^j % 10]:=by
 unfold txL
 rw [show L - j=(L - (j+1))+1 by omega,List.range_succ,List.map_append]
 simp only [List.map_cons,List.map_nil]
 rw [show L - 1 - (L - (j+1))=j by omega]
theorem Q0Y (n:Nat):(txB n).length=ndg n:=by simp [txB]
theorem Q7S {w:World}{base n:Nat}{v:Value}(hn:n≠0)(h:w.ownsRow base 5 1 v (txL n (ndg n) 0).length ((txL n (ndg n) 0).map fun (d:Nat)=>.int .u8 (d:Int))):(convert 35 9 v).run Tryz.prog w=.ok (.string (txS n)) w:=by
 have hl:(txL n (ndg n) 0).length=ndg n:=by simp [txL]
 have hp:=Qi n
 rcases h.2 with ⟨e1,e2⟩ | ⟨g,cap,cur,e1,e2,e3,e4,e5,e6,e7⟩
 ·omega
 ·rw [hl] at e1 e7
  have:=run_convert_bytes_back (P:=Tryz.prog) w 35 9 5 ⟨g,0,none⟩ cap (txB n) Tryz.underlying35 Tryz.underlying5 Tryz.underlying9 (fun j hj=>by
   rw [Q0Y] at hj
   have h7:(cur.toList.take (ndg n*1))[j]?=some (.int .u8 ((48+n / 10^(ndg n - 1 - j) % 10:Nat):Int)):=by
    rw [e7,List.getElem?_map]
    unfold txL
    rw [List.getElem?_map,List.getElem?_range (by omega)];rfl
   rw [List.getElem?_take_of_lt (by omega)] at h7
   have h8:(((txB n)[j]'(by rw [Q0Y];exact hj)).toNat:Int)=((48+n / 10^(ndg n - 1 - j) % 10:Nat):Int):=by
    have h2:(txB n)[j]'(by rw [Q0Y];exact hj)=UInt8.ofNat (48+n / 10^(ndg n - 1 - j) % 10):=by simp [txB]
    have:n / 10^(ndg n - 1 - j) % 10<10:=Nat.mod_lt _ (by decide)
    rw [h2,UInt8.toNat_ofNat_of_lt' (by simp [UInt8.size];omega)]
   rw [h8]
   have e:(⟨g,0,none⟩:Addr).add j=⟨g,0+j,none⟩:=by unfold Addr.add;split <;> simp_all
   rw [e]
   unfold World.cell?
   rw [e3]
   simpa using h7)
  rw [Q0Y] at this
  rw [e1];exact this
theorem Q97 {w:World}{v:Value}{n:Nat}(h:NumV w v false n)(hlen:(dgs n).length≤4000000000):Calls Tryz.prog 50 #[v] w fun e w'=>e=.returned (.string (txS n))∧Below w.heap.size w w':=by
 obtain ⟨s,rfl,p,cap,rfl,hpc,hpm,hp⟩:=h
 by_cases e:n=0
 ·subst e
  have hB:=Lh (fun X=>Qm w X)
  rw [show txS 0=⟨#[48]⟩ by unfold txS txB;rw [Qj (by decide)];rfl]
  clear hp hlen hpc
  rw [Qp]
  go_enter Tryz.func50, Tryz.ntmps50
  go_wp2_with fail
  go_ret
  exact ⟨rfl,hB.out _⟩
 ·have HP:=Lh hp.dig
  have hL:=Qw n e
  have hL0:=Qi n
  have HCv:Hid (∀ wr v,wr.ownsRow (w.heap.size+1) 5 1 v (txL n (ndg n) 0).length ((txL n (ndg n) 0).map fun (d:Nat)=>.int .u8 (d:Int))→(convert 35 9 v).run Tryz.prog wr=.ok (.string (txS n)) wr):=fun wr v h=>Q7S e h
  generalize txS n=S at HCv ⊢
  rw [hL] at HP hlen
  rw [hL]
  obtain ⟨i0,hi,hz0,hz1,hz2⟩:=info_parts Q1B
  generalize ndg n=L at HP HCv hL0 hlen ⊢
  clear hp hL e hpc
  have hpm:=Lh hpm
  have hl0:((L:Int) == 0)=false:=by simp;omega
  go_enter Tryz.func50, Tryz.ntmps50
  go_wp2_with fail
  go_loopw [3,4] (fun out i wr=>∃ (k:Nat) (vv:Value),out=vv∧k≤L∧i=.int .i64 ((k:Int) - 1)∧wr.ownsRow (w.heap.size+1) 5 1 out (txL n L k).length ((txL n L k).map fun (d:Nat)=>.int .u8 (d:Int))∧Below (w.alloc (.cells #[.bool false,.slice p L cap] 37)).heap.size (w.alloc (.cells #[.bool false,.slice p L cap] 37)) wr) (fun _ i _=>(intOf i+1).toNat)
  case atStart=>exact ⟨L,_,rfl,Nat.le_refl _,rfl,by unfold txL;rw [Nat.sub_self];exact World.ownsRow_nil _ _ _ _,Below.refl _ _⟩
  case round =>
   obtain ⟨k,out,hve,hk,rfl,hown,hB⟩:=hrel
   replace hve:=hve.symm
   subst hve
   obtain ⟨_,hcc,_⟩:=Q0f rfl hB
   have c1:wr.cell? ⟨w.heap.size,1,none⟩=some (.slice p L cap):=hcc 1
   have hsz:w.heap.size+1≤wr.heap.size:=by have:=hB.size;simpa using this
   have HB:=Lh hB
   rcases Nat.eq_zero_or_pos k with e | e
   ·subst e
    have hcv:=HCv.out _ _ hown
    have HB2:=Lh (Qd (Qm w _) hB)
    clear hown hB hcc
    go_wp2_with fail
    go_ret
    exact ⟨rfl,HB2.out⟩
   ·obtain ⟨j,rfl⟩:∃ j,k=j+1:=⟨k - 1,by omega⟩
    obtain ⟨b,o,rfl,hb,hc0⟩:=HP.out j (by omega)
    have hc:wr.cell? ⟨b,o+j,none⟩=some (.int .u8 ((n / 10^j % 10:Nat):Int)):=by
     rw [hB.cell (by simp;omega),World.cell?_of_block (w:=w) (Below.heap_alloc _ _ _ hb)];exact hc0
    have h2:((j+1:Nat):Int) - 1=(j:Int):=by omega
    have hge:(0:Int)≤(j:Int):=by omega
    have hd9:n / 10^j % 10<10:=Nat.mod_lt _ (by decide)
    have HS:=Lh (Q7R n L j (by omega))
    have hll:(txL n L (j+1)).length=L - (j+1):=by simp [txL]
    generalize n / 10^j % 10=d at hc hd9 HS
    have hw:IntKind.u8.wrap (48+(d:Int))=((48+d:Nat):Int):=by rw [IntWalk.u8_in _ (by omega)];omega
    rw [hll] at hown
    clear hB hcc hc0
    rw [h2]
    go_wp2_with (first | (at_builtin;refine wpList_append_own _ rfl _ _ 35 rfl (w.heap.size+1) 5 i0 (.int .u8 0) 1 1 Tryz.underlying35 hi hz0 hz1 hz2 rfl (by decide) _ _ _ rfl (hown.alloc _) ⟨wr.heap.size,0,none⟩ 1 1 [.int .u8 ((48+d:Nat):Int)] rfl rfl (Q0u _ _ _) (fun x hx=>by simp at hx;subst hx;rfl) (by unfold maxLen;omega) (by omega) (by simp;omega) ?_;intro v' w3 hown' hgrow3 hnil3))
    go_roundw
    case rel=>exact ⟨j,_,rfl,by omega,rfl,by rw [HS.out,List.map_append,List.length_append,hll];exact hown',(bal HB.out _).grown hgrow3 (by simp;omega) (fun q hq=>by have:=(hown.lt q hq).1;simpa using this)⟩
    case measure=>simp [intOf];try omega
def qL (Q L k:Nat):List Nat:=(List.range L).map fun i=>if i<k then 0 else Q / 10^i % 10
def qLc (Q L k c:Nat):List Nat:=(List.range L).map fun i=>if i<k then 0 else if i=k then c else Q / 10^i % 10
theorem Q6V (X Y k:Nat):X / 10^k / Y=X / Y / 10^k:=by rw [Nat.div_div_eq_div_mul,Nat.div_div_eq_div_mul,Nat.mul_comm]
theorem Q98 {X Y k:Nat}(hY:0<Y):∃ V,V=X / 10^k % 10+10*(X / 10^(k+1) % Y)∧V<10*Y∧V % Y=X / 10^k % Y∧V / Y=X / Y / 10^k % 10:=by
 refine ⟨_,rfl,?_,?_,?_⟩
 ·have:=Nat.mod_lt (X / 10^(k+1)) hY
  have:=Nat.mod_lt (X / 10^k) (show 0<10 by decide)
  omega
 ·have h:=Q0X X k
  generalize X / 10^k % 10=d at h ⊢
  generalize X / 10^(k+1)=U at h ⊢
  rw [h]
  rw [Nat.add_mod,Nat.mul_mod,Nat.mod_mod,← Nat.mul_mod,← Nat.add_mod]
 ·have h:=Q0X X k
  rw [← Q6V]
  generalize hd:X / 10^k % 10=d at h ⊢
  generalize X / 10^(k+1)=U at h ⊢
  rw [h]
  have h1:=Nat.div_add_mod U Y
  have e:d+10*U=(d+10*(U % Y))+Y*(10*(U / Y)):=by
   have:Y*(10*(U / Y))=10*(Y*(U / Y)):=by rw [← Nat.mul_assoc,Nat.mul_comm Y 10,Nat.mul_assoc]
   omega
  rw [e,Nat.add_mul_div_left _ _ hY]
  have h2:(d+10*(U % Y)) / Y<10:=by
   rw [Nat.div_lt_iff_lt_mul hY]
   have:=Nat.mod_lt U hY
   have:d<10:=by omega
   omega
  generalize (d+10*(U % Y)) / Y=G at h2 ⊢
  generalize U / Y=H
  omega
theorem Q69 {Q L k c:Nat}(h:c=Q / 10^k % 10):qLc Q L k c=qL Q L k:=by
 unfold qLc qL
 congr 1;funext i
 by_cases e:i<k
 ·rw [if_pos e,if_pos e]
 ·rw [if_neg e,if_neg e]
  by_cases e2:i=k
  ·subst e2;rw [if_pos rfl,h]
  ·rw [if_neg e2]
theorem Q4L {Q L k:Nat}:qLc Q L k 0=qL Q L (k+1):=by
 unfold qLc qL
 congr 1;funext i
 by_cases e:i<k
 ·rw [if_pos e,if_pos (by omega)]
 ·rw [if_neg e]
  by_cases e2:i=k
  ·rw [if_pos e2,if_pos (by omega)]
  ·rw [if_neg e2,if_neg (by omega)]
theorem Q99 {Q L:Nat}:qL Q L L=List.replicate L 0:=by
 unfold qL
 apply List.ext_getElem
 ·simp
 ·intro i h1 h2
  simp only [List.getElem_map,List.getElem_range,List.getElem_replicate]
  rw [if_pos (by simpa using h1)]
theorem Q9Z {Q L:Nat}(h:Q<10^L):vl (qL Q L 0)=Q:=by
 have key:∀ n,vl ((List.range n).map fun i=>if i<0 then 0 else Q / 10^i % 10)=Q % 10^n:=by
  intro n
  induction n with
  | zero=>simp [vl,Nat.mod_one]
  | succ n ih =>
   rw [List.range_succ,List.map_append]
   simp only [List.map_cons,List.map_nil]
   rw [Q0F,ih,if_neg (by omega),Q1f];simp
 unfold qL
 rw [key,Nat.mod_eq_of_lt h]
theorem Qa0 {Q L:Nat}:∀ d ∈ qL Q L 0,d<10:=by
 unfold qL
 intro d hd
 obtain ⟨i,_,rfl⟩:=List.mem_map.1 hd
 rw [if_neg (by omega)];exact Nat.mod_lt _ (by decide)
def QBl (w:World)(B:Nat)(l:List Nat):Prop:=w.heap[B]?=some (.cells (l.map fun (d:Nat)=>Value.int .u8 (d:Int)).toArray 5 (0,0))
theorem QBl.dg {w:World}{B:Nat}{l:List Nat}(h:QBl w B l)(hl:l.length≤maxLen):Dg w (.slice (some ⟨B,0,none⟩) l.length l.length) l:=by
 refine ⟨_,_,rfl,Nat.le_refl _,⟨hl,fun h=>(by cases h)⟩,fun i d hd=>⟨B,0,rfl,(Array.getElem?_eq_some_iff.1 h).1,?_⟩⟩
 unfold World.cell?
 rw [h]
 simp [hd]
theorem QBl.cell {w:World}{B:Nat}{l:List Nat}(h:QBl w B l)(i:Nat)(d:Nat)(hd:l[i]?=some d):w.cell? ⟨B,i,none⟩=some (.int .u8 (d:Int))∧w.frozen? ⟨B,i,none⟩=false:=by
 constructor
 ·unfold World.cell?;rw [h];simp [hd]
 ·unfold World.frozen?;rw [h];simp
theorem QBl.later {w w':World}{B:Nat}{l:List Nat}(h:QBl w B l)(hB:Below w.heap.size w w'):QBl w' B l:=by
 unfold QBl at h ⊢;rw [hB.block _ (Array.getElem?_eq_some_iff.1 h).1];exact h
theorem QBl.grown {w w':World}{B:Nat}{l:List Nat}{row:Option Nat}(h:QBl w B l)(hg:w.grownBy w' row)(hr:∀ g,row=some g→B+1≤g):QBl w' B l:=by
 unfold QBl at h ⊢
 rw [hg.block _ (Array.getElem?_eq_some_iff.1 h).1 (fun e=>by have:=hr B e.symm;omega)];exact h
theorem QBl.set {w:World}{B Q L j c:Nat}(h:QBl w B (qLc Q L j c))(hj:j<L):QBl (w.setCell ⟨B,j,none⟩ (.int .u8 ((c+1:Nat):Int))) B (qLc Q L j (c+1)):=by
 unfold QBl at h ⊢
 unfold World.setCell
 simp only [Array.getElem?_modify,if_true,h,Option.map_some]
 have key:((qLc Q L j c).map fun (d:Nat)=>Value.int .u8 (d:Int)).toArray.setIfInBounds j (.int .u8 ((c+1:Nat):Int))=((qLc Q L j (c+1)).map fun (d:Nat)=>Value.int .u8 (d:Int)).toArray:=by
  apply Array.ext_getElem?
  intro i
  rw [Array.getElem?_setIfInBounds]
  by_cases e:j=i
  ·subst e
   rw [if_pos rfl,if_pos (by simp [qLc];exact hj)]
   simp only [List.getElem?_toArray,List.getElem?_map,qLc,List.getElem?_range hj]
   simp
  ·rw [if_neg e]
   simp only [List.getElem?_toArray,List.getElem?_map,qLc]
   by_cases h2:i<L
   ·rw [List.getElem?_range h2]
    simp only [Option.map_some]
    by_cases h3:i<j
    ·rw [if_pos h3,if_pos h3]
    ·rw [if_neg h3,if_neg h3,if_neg (Ne.symm e),if_neg (Ne.symm e)]
   ·rw [List.getElem?_eq_none (by simp;omega)];rfl
 rw [← key]
 rfl
theorem Q1p {Q L j c:Nat}(hj:j<L):(qLc Q L j c)[j]?=some c:=by
 unfold qLc
 rw [List.getElem?_map,List.getElem?_range hj]
 simp
theorem Q1q {w:World}{u v:Value}{X Y:Nat}(hu:NumV w u false X)(hv:NumV w v false Y)(hY:0<Y)(hlen:(dgs X).length≤4000000)(hlen2:(dgs Y).length≤4000000) :
  Calls Tryz.prog 21 #[u,v] w fun e w'=>∃ v1 v2,e=.returned (.tuple #[v1,v2])∧(NumV w' v1 false (X / Y)∧NumV w' v2 false (X % Y))∧Below w.heap.size w w':=by
 obtain ⟨s,rfl,hs⟩:=hu
 obtain ⟨t,rfl,ht⟩:=hv
 have hs0:=Lh hs;have ht0:=Lh ht
 obtain ⟨p,cap,rfl,_,_,hdc⟩:=hs
 obtain ⟨q,cbp,rfl,_⟩:=ht
 have HP:=Lh hdc.dig
 have HX:=Lh (QM X)
 have hYlen:=Lh hlen2
 have HL:Hid (∀ k,(dgs (X / 10^k % Y)).length≤4000000):=fun k=>Nat.le_trans (QR (Nat.le_of_lt (Nat.mod_lt _ hY))) hlen2
 generalize hL:(dgs X).length=L at hlen ⊢
 generalize hK:(dgs Y).length=K at hlen2 ⊢
 rw [hL] at HP HX
 obtain ⟨i0,hi,hz0,hz1,hz2⟩:=info_parts Q1B
 have hrun:∀ w:World,(Instr.makeSlice 35 (.int .i64 (L:Int)) (.int .i64 (L:Int))).run Tryz.prog w=.ok (.slice (some ⟨w.heap.size,0,none⟩) L L) (w.alloc (.cells (madeCells #[.int .u8 0] L) 5)):=fun w=>by
  have:=run_makeSlice (P:=Tryz.prog) w 35 5 i0 (.int .u8 0) Tryz.underlying35 hi hz0 .i64 .i64 L (L:Int) (by omega) (by omega) (by rw [hz1];omega) (by rw [hz2];omega) (by omega)
  rw [hz1,show ((L:Int)).toNat=L by omega,Nat.mul_one] at this
  exact this
 obtain ⟨M,hM0⟩:∃ M,M=madeCells #[.int .u8 0] L:=⟨_,rfl⟩
 rw [← hM0] at hrun
 have hMl:M=((qL (X / Y) L L).map fun (d:Nat)=>Value.int .u8 (d:Int)).toArray:=by
  apply Array.ext'
  rw [hM0,toList_madeCells_one,Q99]
  simp
 have hM:=Lh hMl
 clear hMl hM0
 obtain ⟨w4,hw4⟩:∃ w4,w4=(((w.alloc (.cells #[.bool false,.slice p L cap] 37)).alloc (.cells #[.bool false,.slice q K cbp] 37)).alloc (.cells #[.bool false,.slice none 0 0] 37)).alloc (.cells #[.bool false,.slice none 0 0] 37):=⟨_,rfl⟩
 have hw4s:w4.heap.size=w.heap.size+1+1+1+1:=by rw [hw4];simp
 have hBA:Below w.heap.size w w4:=by rw [hw4];exact bal (bal (bal (Qm w _) _) _) _
 have HC:Hid (∀ w2,Below w4.heap.size w4 w2→(w2.cell? ⟨w.heap.size,0,none⟩=some (.bool false)∧w2.cell? ⟨w.heap.size+1,0,none⟩=some (.bool false))∧(w2.cell? ⟨w.heap.size,1,none⟩=some (.slice p L cap)∧w2.cell? ⟨w.heap.size+1,1,none⟩=some (.slice q K cbp))∧(w2.cell? ⟨w.heap.size+1+1,0,none⟩=some (.bool false)∧w2.cell? ⟨w.heap.size+1+1,1,none⟩=some (.slice none 0 0)∧w2.frozen? ⟨w.heap.size+1+1,0,none⟩=false∧w2.frozen? ⟨w.heap.size+1+1,1,none⟩=false)∧(w2.cell? ⟨w.heap.size+1+1+1,0,none⟩=some (.bool false)∧w2.cell? ⟨w.heap.size+1+1+1,1,none⟩=some (.slice none 0 0)∧w2.frozen? ⟨w.heap.size+1+1+1,0,none⟩=false∧w2.frozen? ⟨w.heap.size+1+1+1,1,none⟩=false)∧w2.heap[w.heap.size+1+1]?=some (.cells #[.bool false,.slice none 0 0] 37 (0,0))∧w2.heap[w.heap.size+1+1+1]?=some (.cells #[.bool false,.slice none 0 0] 37 (0,0))):=fun w2 h=>by
  rw [hw4] at h
  obtain ⟨a,b,c,d,f⟩:=Q7Q (wr:=w2) rfl rfl rfl (Qd (Qm _ _) h)
  obtain ⟨r1,r2,r3⟩:=Q0f (wr:=w2) rfl h
  have e:(((w.alloc (.cells #[.bool false,.slice p L cap] 37)).alloc (.cells #[.bool false,.slice q K cbp] 37)).alloc (.cells #[.bool false,.slice none 0 0] 37)).heap.size=w.heap.size+1+1+1:=by simp
  rw [e] at r1
  simp only [e] at r2 r3
  exact ⟨⟨a 0,b 0⟩,⟨a 1,b 1⟩,⟨c 0,c 1,d 0,d 1⟩,⟨r2 0,r2 1,r3 0,r3 1⟩,f,r1⟩
 have HSt:Hid (∀ (w2:World) (A:Nat) (b s:Value),w.heap.size+1<A→(w2.cell? ⟨w.heap.size,0,none⟩=some (.bool false)∧w2.cell? ⟨w.heap.size+1,0,none⟩=some (.bool false))→((w2.setCell ⟨A,0,none⟩ b).setCell ⟨A,1,none⟩ s).cell? ⟨w.heap.size,0,none⟩=some (.bool false)∧((w2.setCell ⟨A,0,none⟩ b).setCell ⟨A,1,none⟩ s).cell? ⟨w.heap.size+1,0,none⟩=some (.bool false)):=fun w2 A b s hA ⟨a1,a2⟩=>by
  have e:∀ B i j,B≠A→(⟨A,i,none⟩:Addr)≠⟨B,j,none⟩:=fun B i j h e=>h (by injection e with e1;exact e1.symm)
  refine ⟨?_,?_⟩ <;> (rw [World.cell?_setCell_other _ _ _ _ (e _ _ _ (by omega)),World.cell?_setCell_other _ _ _ _ (e _ _ _ (by omega))];assumption)
 have HTY:Hid ((dgs (10*Y)).length≤4000000000):=Lh (by
  rw [Qw _ (by omega)]
  refine Nat.le_trans (Q09 (k:=K+1) (by omega) ?_) (by omega)
  rw [Nat.pow_succ,← hK];have:=QM Y;omega)
 have HBA:=Lh hBA
 have HH4:=Lh hw4s
 have HX4:Hid (∀ wr b o i v,Below w4.heap.size w4 wr→b<w.heap.size→w.cell? ⟨b,o+i,none⟩=some v→wr.cell? ⟨b,o+i,none⟩=some v):=fun wr b o i v h hb hc=>by
  rw [h.cell (by simp only;omega),hBA.cell hb];exact hc
 have HYD:Hid (∀ wr,Below w4.heap.size w4 wr→Dg wr (.slice q K cbp) (dgs Y)):=fun wr h=>by
  have:=ht0.out.later (Qd hBA h)
  rw [hK] at this;exact this
 have HM0:=Lh (show QBl (w4.alloc (.cells M 5)) w4.heap.size (qL (X / Y) L L) from by unfold QBl;rw [gal,hM.out])
 have hrx:=Lh hrun
 clear hdc hw4s hBA
 go_enter Tryz.func21, Tryz.ntmps21
 go_wp2_with fail
 rw [← hw4]
 have h4:w.heap.size+1+1+1+1=w4.heap.size:=HH4.out.symm
 rw [h4]
 have HW4:=Lh hw4;have H4:=Lh h4
 clear hw4 h4 hrun
 go_loopw [7,8] (fun r i wr=>∃ (k:Nat) (vv:Value),r=vv∧k≤L∧i=.int .i64 ((k:Int) - 1)∧Dg wr vv (dgs (X / 10^k % Y))∧(∀ g,vv.ownBlock=some g→w4.heap.size+1≤g)∧Below w4.heap.size w4 wr∧QBl wr w4.heap.size (qL (X / Y) L k)) (fun _ i _=>(intOf i+1).toNat)
 case atStart=>exact ⟨L,_,rfl,Nat.le_refl _,rfl,by rw [Nat.div_eq_of_lt HX.out,Nat.zero_mod,Qp];exact Dg.nil _,fun g h=>(by cases h),Qm _ _,HM0.out⟩
 case round =>
  obtain ⟨k,vr,hve,hk,rfl,hD,hfr,hB,hQ⟩:=hrel
  replace hve:=hve.symm
  subst hve
  obtain ⟨_,⟨cx,cy⟩,_⟩:=HC.out _ hB
  have HB:=Lh hB;have HQ:=Lh hQ;have HD:=Lh hD;have HFr:=Lh hfr
  have hsz:w4.heap.size+1≤wr.heap.size:=(Array.getElem?_eq_some_iff.1 hQ).1
  rcases Nat.eq_zero_or_pos k with e | e
  ·subst e
   have hLx:(qL (X / Y) L 0).length=L:=by simp [qL]
   have HS1:Hid (∀ w2,Below wr.heap.size wr w2→Calls Tryz.prog 54 #[.bool false,.slice (some ⟨w4.heap.size,0,none⟩) L L] w2 fun e w'=>∃ v',e=.returned v'∧NumV w' v' false (X / Y)∧Below w2.heap.size w2 w'):=fun w2 h2=>by
    have h3:=(hQ.dg (by rw [hLx];unfold maxLen;omega)).later h2
    rw [hLx] at h3
    have h4:=Q1n h3 Qa0 false
    rw [Q9Z (Nat.lt_of_le_of_lt (Nat.div_le_self _ _) HX.out)] at h4
    exact h4
   have HS2:Hid (∀ w2,Below wr.heap.size wr w2→Calls Tryz.prog 54 #[.bool false,vr] w2 fun e w'=>∃ v',e=.returned v'∧NumV w' v' false (X % Y)∧Below w2.heap.size w2 w'):=fun w2 h2=>by
    have h4:=Q1n (hD.later h2) (Q5o _) false
    rw [Q46,Nat.pow_zero,Nat.div_one] at h4
    exact h4
   obtain ⟨c0,_,_⟩:=HC.out _ hB
   have c0':wr.drew.cell? ⟨w.heap.size,0,none⟩=some (.bool false)∧wr.drew.cell? ⟨w.heap.size+1,0,none⟩=some (.bool false):=c0
   clear hD hfr hB hQ cx cy HD HQ hLx
   have tok1:True:=trivial
   go_wp2_with fail
   go_region_held3 (fun x=>x.cell? ⟨w.heap.size,0,none⟩=some (.bool false)∧x.cell? ⟨w.heap.size+1,0,none⟩=some (.bool false)) (first | with_reducible exact c0 | with_reducible exact c0' | with_reducible exact c1 | with_reducible exact c2 | with_reducible exact HSt.out _ _ _ _ (by omega) c2 | with_reducible exact HSt.out _ _ _ _ (by omega) (HSt.out _ _ _ _ (by omega) c2)) (first | (go_at_call 54;have _t:=tok1;refine (HS1.out _ (by exact (Below.refl _ _).drew)).mono ?_;clear tok1 _t;rintro r w5 ⟨v1,rfl,k1,hB1⟩;obtain ⟨s1,rfl,k3⟩:=k1;have H1:Hid (NumV w5 (.agg #[.bool false,s1]) false (X / Y)):=Lh ⟨s1,rfl,k3⟩;have HB1:Hid (Below wr.heap.size wr w5):=Lh ((Below.refl _ _).drew.trans hB1);obtain ⟨c1,_,_⟩:=HC.out _ (Qd HB.out HB1.out);obtain ⟨p1,cap1,rfl,_⟩:=k3;clear hB1) | (go_at_call 54;refine (HS2.out _ HB1.out).mono ?_;rintro r w6 ⟨v2,rfl,k2,hB2⟩;obtain ⟨s2,rfl,k3⟩:=k2;have H2:Hid (NumV w6 (.agg #[.bool false,s2]) false (X % Y)):=Lh ⟨s2,rfl,k3⟩;have HB2:Hid (Below wr.heap.size wr w6):=Lh (Qd HB1.out hB2);have H1':Hid (NumV w6 (.agg #[.bool false,.slice p1 (dgs (X / Y)).length cap1]) false (X / Y)):=Lh (H1.out.later hB2);obtain ⟨c2,_,⟨z0,z1,z2,z3⟩,⟨y0,y1,y2,y3⟩,hh1,hh2⟩:=HC.out _ (Qd HB.out HB2.out);have HH1:=Lh hh1;have HH2:=Lh hh2;clear hh1 hh2;obtain ⟨p2,cap2,rfl,_⟩:=k3;clear hB2))
   have HFn:Hid (∀ s1 s2:Value,NumV w6 (.agg #[.bool false,s1]) false (X / Y)→NumV w6 (.agg #[.bool false,s2]) false (X % Y)→(NumV ((((w6.setCell ⟨w.heap.size+1+1,0,none⟩ (.bool false)).setCell ⟨w.heap.size+1+1,1,none⟩ s1).setCell ⟨w.heap.size+1+1+1,0,none⟩ (.bool false)).setCell ⟨w.heap.size+1+1+1,1,none⟩ s2) (.agg #[.bool false,s1]) false (X / Y)∧NumV ((((w6.setCell ⟨w.heap.size+1+1,0,none⟩ (.bool false)).setCell ⟨w.heap.size+1+1,1,none⟩ s1).setCell ⟨w.heap.size+1+1+1,0,none⟩ (.bool false)).setCell ⟨w.heap.size+1+1+1,1,none⟩ s2) (.agg #[.bool false,s2]) false (X % Y))∧Below w.heap.size w ((((w6.setCell ⟨w.heap.size+1+1,0,none⟩ (.bool false)).setCell ⟨w.heap.size+1+1,1,none⟩ s1).setCell ⟨w.heap.size+1+1+1,0,none⟩ (.bool false)).setCell ⟨w.heap.size+1+1+1,1,none⟩ s2)):=fun s1 s2 k1 k2=>by
    have o1:=((Only.refl (w.heap.size+1+1) w6).set 0 (.bool false)).set 1 s1
    have o2:=((Only.refl (w.heap.size+1+1+1) ((w6.setCell ⟨w.heap.size+1+1,0,none⟩ (.bool false)).setCell ⟨w.heap.size+1+1,1,none⟩ s1)).set 0 (.bool false)).set 1 s2
    have h2':=(o1.1 (w.heap.size+1+1+1) (by omega)).trans HH2.out
    exact ⟨⟨(k1.keep HH1.out (by decide) o1).keep h2' (by decide) o2,(k2.keep HH1.out (by decide) o1).keep h2' (by decide) o2⟩,((((Qd HBA.out (Qd HB.out HB2.out)).setCell (by simp only;omega) _).setCell (by simp only;omega) _).setCell (by simp only;omega) _).setCell (by simp only;omega) _⟩
   have HFn2:=Lh (HFn.out _ _ H1'.out H2.out)
   clear c0 c0' c1 c2 HFn
   go_wp2_with fail
   exact bodyPost_ret (v:=.tuple #[.agg #[.bool false,.slice p1 (dgs (X / Y)).length cap1],.agg #[.bool false,.slice p2 (dgs (X % Y)).length cap2]]) (by simp [results,Tryz.results21,go_sem,z0,z1,y0,y1]) rfl ⟨_,_,rfl,HFn2.out.1,HFn2.out.2⟩
  ·obtain ⟨j,rfl⟩:∃ j,k=j+1:=⟨k - 1,by omega⟩
   obtain ⟨b,o,rfl,hb,hc0⟩:=HP.out j (by omega)
   have hc:=HX4.out _ _ _ _ _ hB hb hc0
   have h2:((j+1:Nat):Int) - 1=(j:Int):=by omega
   have hge:(0:Int)≤(j:Int):=by omega
   obtain ⟨V,hV0,hV1,hV2,hV3⟩:=Q98 (X:=X) (k:=j) hY
   have hd9:X / 10^j % 10<10:=Nat.mod_lt _ (by decide)
   have hRl:=HL.out (j+1)
   have HV2:=Lh hV2;have HV3:=Lh hV3
   clear hV2 hV3
   generalize X / 10^j % 10=d at hc hc0 hd9 hV0
   generalize X / 10^(j+1) % Y=R at hD HD hRl hV0
   have hR9:=Lh (Q5o R)
   have hvl:vl (d :: dgs R)=V:=by rw [hV0];show d+10*vl (dgs R)=_;rw [Q46]
   have hvlt:∀ x ∈ d :: dgs R,x<10:=fun x hx=>by
    rcases List.mem_cons.1 hx with e | e
    ·omega
    ·exact hR9.out x e
   have hown:(wr.alloc (.cells #[.int .u8 (d:Int)] 5)).ownsRow (w4.heap.size+1) 5 1 (.slice (some ⟨wr.heap.size,0,none⟩) 1 1) 1 [.int .u8 (d:Int)] :=
    ⟨rfl,.inr ⟨wr.heap.size,1,#[.int .u8 (d:Int)],rfl,hsz,gal _ _,Nat.le_refl _,by unfold maxLen;omega,rfl,rfl⟩⟩
   have HB':=Lh ((hB.alloc (by omega) (.cells #[.int .u8 (d:Int)] 5)))
   have HQ':=Lh (hQ.later (Qm wr (.cells #[.int .u8 (d:Int)] 5)))
   obtain ⟨pr,cr,rfl,hlr,hok,hdr⟩:=hD
   have HT:Hid (∀ v' w3,w3.ownsRow (w4.heap.size+1) 5 1 v' (1+(dgs R).length) ([.int .u8 (d:Int)] ++ (dgs R).map fun (d:Nat)=>.int .u8 (d:Int))→(∀ g,v'.ownBlock=some g→w4.heap.size+1≤g)∧Calls Tryz.prog 51 #[v'] w3 fun e w'=>∃ v'',e=.returned v''∧(Dg w3 v'' (dgs V)∧v''.ownBlock=v'.ownBlock)∧w'=w3):=fun v' w3 ho=>by
    have ho2:w3.ownsRow (w4.heap.size+1) 5 1 v' (d :: dgs R).length ((d :: dgs R).map fun (d:Nat)=>.int .u8 (d:Int)):=by
     rw [show (d :: dgs R).length=1+(dgs R).length by rw [List.length_cons,Nat.add_comm]];exact ho
    refine ⟨fun g hg=>(ho2.lt g hg).1,(Q47 (Dg.of_own ho2) hvlt).mono ?_⟩
    rintro e w' ⟨v'',rfl,k1,k2,rfl⟩
    rw [hvl] at k1
    exact ⟨_,rfl,⟨k1 _ (Dg.of_own ho2),k2⟩,rfl⟩
   clear hc0 hB hQ hfr hV0 hvl hvlt
   have hcy':(wr.alloc (.cells #[.int .u8 (d:Int)] 5)).cell? ⟨w.heap.size+1,1,none⟩=some (.slice q K cbp):=by
    have:=(HC.out _ HB'.out).2.1.2;exact this
   rw [h2]
   cases pr with
   | none =>
    have hR0:dgs R=[]:=by
     cases hl:dgs R with
     | nil=>rfl
     | cons x l =>
      rw [hl] at hdr
      obtain ⟨_,_,e,_⟩:=hdr 0 x rfl
      cases e
    rw [hok.2 rfl,hR0]
    rw [hR0] at HT
    have HT3:=Lh (HT.out _ _ hown)
    have HB3:=HB';have HQ3:=HQ';have cy3:=hcy'
    clear hdr hok hlr HD HFr hRl
    go_wp2_with (first | (at_builtin;refine wpList_append_own_none rfl _ _ 35 rfl (w4.heap.size+1) 5 i0 1 Tryz.underlying35 hi _ 1 _ rfl hown rfl ?_))
    generalize hv3:Value.slice (some ⟨wr.heap.size,0,none⟩) 1 1=v3 at HT3
    generalize hw3:wr.alloc (.cells #[.int .u8 (d:Int)] 5)=w3 at HT3 HB3 HQ3 cy3 ⊢
    obtain ⟨hf3,ht3⟩:=HT3.out
    clear HT HB' HQ' hcy' hown HT3 hv3 hw3 hR0 hR9
    have Hf3:=Lh hf3;have Ht3:=Lh ht3
    clear hf3 ht3
    go_wp2_with fail
    refine Ht3.out.mono ?_
    rintro e w3_ ⟨r0,rfl,⟨hD0,hob⟩,hw_⟩
    subst hw_
    have HD0:=Lh hD0
    have HF0:=Lh (fun g (h:r0.ownBlock=some g)=>Hf3.out g (hob ▸ h))
    clear hD0 hob Ht3 Hf3
    go_wp2_with fail
    go_loopw [7] (fun r wi=>∃ (c:Nat) (vv:Value),r=vv∧c*Y≤V∧Dg wi vv (dgs (V - c*Y))∧(∀ g,vv.ownBlock=some g→w4.heap.size+1≤g)∧Below w4.heap.size w4 wi∧QBl wi w4.heap.size (qLc (X / Y) L j c)) (fun _ wi=>10 - (((wi.cell? ⟨w4.heap.size,j,none⟩).map intOf).getD 0).toNat)
    case atStart=>exact ⟨0,_,rfl,by omega,by rw [Nat.zero_mul,Nat.sub_zero];exact HD0.out,HF0.out,HB3.out,by rw [Q4L];exact HQ3.out⟩
    case round =>
     obtain ⟨c,vi,hvi,hcV,hDi,hfi,hBi,hQi⟩:=hrel
     replace hvi:=hvi.symm
     subst hvi
     have cyi:=(HC.out _ hBi).2.1.2
     have HCm:=Lh (Q1C hDi (HYD.out _ hBi))
     have HDi:=Lh hDi;have HBi:=Lh hBi;have HQi:=Lh hQi;have HFi:=Lh hfi
     by_cases hlt:V - c*Y<Y
     ·rw [Q66 hlt] at HCm
      have hdm:V=c*Y+(V - c*Y):=by omega
      have hcq:V / Y=c:=by
       rw [hdm,Nat.add_comm,Nat.add_mul_div_right _ _ hY,Nat.div_eq_of_lt hlt,Nat.zero_add]
      have hcr:V % Y=V - c*Y:=by
       have:=Nat.mod_eq_of_lt hlt
       rw [hdm,Nat.mul_add_mod_self_right,← hdm,this]
      have HDf:=Lh (show Dg wr vi (dgs (X / 10^j % Y)) from by rw [← HV2.out,hcr];exact hDi)
      have HQf:=Lh (show QBl wr w4.heap.size (qL (X / Y) L j) from by rw [← Q69 (c:=c) (by rw [← hcq];exact HV3.out)];exact hQi)
      clear hDi hfi hBi hQi HDi HQi hcV hlt hdm hcq hcr
      go_wp2_with fail
      refine HCm.out.mono ?_
      rintro e w5 ⟨rfl,hB5⟩
      have HB5:=Lh hB5
      clear hB5 HCm
      go_wp2_with fail
      go_roundw
      case rel=>exact ⟨j,_,rfl,by omega,by go_num,HDf.out.later HB5.out,HFi.out,Qd HBi.out HB5.out,HQf.out.later HB5.out⟩
      case measure=>simp [intOf];try omega
     ·have hge':Y≤V - c*Y:=by omega
      have hz:0≤cm (V - c*Y) Y:=by
       rcases Nat.lt_or_ge Y (V - c*Y) with h | h
       ·rw [Q67 h];decide
       ·rw [Q7O (by omega)];decide
      have hc9:c≤8:=by
       rcases Nat.lt_or_ge 8 c with h | h
       ·have:9*Y≤c*Y:=Nat.mul_le_mul_right _ h
        omega
       ·exact h
      have HLs:Hid (∀ w5,Below wr.heap.size wr w5→w5.cell? ⟨w.heap.size+1,1,none⟩=some (.slice q K cbp)∧Calls Tryz.prog 53 #[vi,.slice q K cbp] w5 fun e w'=>∃ v',e=.returned v'∧Dg w' v' (dgs (V - c*Y - Y))∧(∀ k,v'.ownBlock=some k→w5.heap.size≤k)∧Below w5.heap.size w5 w'):=fun w5 h5 =>
       ⟨(HC.out _ (Qd hBi h5)).2.1.2,Q68 (hDi.later h5) ((HYD.out _ hBi).later h5) hge' (Nat.le_trans (QR (Nat.le_trans (Nat.sub_le _ _) (Nat.le_of_lt hV1))) HTY.out)⟩
      have hnx:V - c*Y - Y=V - (c+1)*Y:=by rw [Nat.add_mul,Nat.one_mul];omega
      have hn2:(c+1)*Y≤V:=by rw [Nat.add_mul,Nat.one_mul];omega
      rw [hnx] at HLs
      have hn2:=Lh hn2
      clear hnx hge' hlt hDi hfi hBi hQi hcV
      generalize cm (V - c*Y) Y=z at HCm hz
      go_wp2_with fail
      refine HCm.out.mono ?_
      rintro e w5 ⟨rfl,hB5⟩
      obtain ⟨cy5,hls⟩:=HLs.out _ hB5
      have HLs5:=Lh hls
      have HB5:=Lh hB5
      clear hB5 HCm HLs hls
      go_wp2_with fail
      refine HLs5.out.mono ?_
      rintro e w6 ⟨v6,rfl,hD6,hf6,hB6⟩
      have hQ6:=(HQi.out.later HB5.out).later hB6
      have hB6':=Qd (Qd HBi.out HB5.out) hB6
      obtain ⟨c6,f6⟩:=hQ6.cell j c (Q1p (by omega))
      have hw:IntKind.u8.wrap ((c:Int)+1)=((c+1:Nat):Int):=by rw [IntWalk.u8_in _ (by omega)];omega
      have HF6:=Lh (fun k (h:v6.ownBlock=some k)=>(show w4.heap.size+1≤k from by have:=hf6 k h;have:=hB6'.size;have:=HB5.out.size;have:=(Array.getElem?_eq_some_iff.1 HQi.out).1;omega))
      have HR6:=Lh (show Dg (w6.setCell ⟨w4.heap.size,j,none⟩ (.int .u8 ((c+1:Nat):Int))) v6 (dgs (V - (c+1)*Y)) from hD6.other (B:=w4.heap.size) (fun h=>by have:=HF6.out _ h;omega) ((Only.refl _ _).set _ _))
      have HB7:=Lh (show Below w4.heap.size w4 (w6.setCell ⟨w4.heap.size,j,none⟩ (.int .u8 ((c+1:Nat):Int))) from hB6'.setCell (Nat.le_refl _) _)
      have HQ7:=Lh (hQ6.set (j:=j) (by omega))
      have HM1:=Lh ((HQi.out.cell j c (Q1p (by omega))).1)
      have HM2:=Lh ((HQ7.out.cell j (c+1) (Q1p (by omega))).1)
      clear hD6 hf6 hB6 hQ6 hB6' HLs5
      go_wp2_with fail
      go_roundw
      case rel=>exact ⟨c+1,_,rfl,hn2.out,HR6.out,HF6.out,HB7.out,HQ7.out⟩
      case measure =>
       show 10 - _<10 - _
       rw [HM1.out,show (w6.setCell ⟨w4.heap.size,j,none⟩ (.int .u8 ((c:Int)+1))).cell? ⟨w4.heap.size,j,none⟩=some (.int .u8 ((c+1:Nat):Int)) from HM2.out]
       simp [intOf];omega
   | some a =>
    obtain ⟨b',o',ha⟩:∃ b' o',a=⟨b',o',none⟩∨dgs R=[]:=by
     cases hl:dgs R with
     | nil=>exact ⟨0,0,.inr rfl⟩
     | cons x l =>
      rw [hl] at hdr
      obtain ⟨b',o',e,_⟩:=hdr 0 x rfl
      cases e
      exact ⟨b',o',.inl rfl⟩
    have hnews:∀ i u,((dgs R).map fun (d:Nat)=>Value.int .u8 (d:Int))[i]?=some u→(wr.alloc (.cells #[.int .u8 (d:Int)] 5)).cell? (a.add i)=some u:=fun i u hu=>by
     rw [List.getElem?_map] at hu
     cases hx:(dgs R)[i]? with
     | none=>rw [hx] at hu;cases hu
     | some x =>
      rw [hx] at hu
      obtain ⟨b',o',e,hb',hc'⟩:=hdr i x hx
      cases e
      have e2:(⟨b',o',none⟩:Addr).add i=⟨b',o'+i,none⟩:=by unfold Addr.add;split <;> simp_all
      rw [e2,World.cell?_of_block (w:=wr) (Below.heap_alloc _ _ _ hb'),hc']
      simpa using hu
    have hone:∀ u ∈ ((dgs R).map fun (d:Nat)=>Value.int .u8 (d:Int)),u.oneCell'=true:=fun u hu=>by
     obtain ⟨x,_,rfl⟩:=List.mem_map.1 hu;rfl
    have hlen':((dgs R).map fun (d:Nat)=>Value.int .u8 (d:Int)).length=(dgs R).length*1:=by simp
    have Hn:=Lh hnews;have Ho:=Lh hone;have Hl:=Lh hlen'
    clear hdr hok hlr HD HFr hnews hone hlen' ha
    go_wp2_with (first | (at_builtin;refine wpList_append_own _ rfl _ _ 35 rfl (w4.heap.size+1) 5 i0 (.int .u8 0) 1 1 Tryz.underlying35 hi hz0 hz1 hz2 rfl (by decide) _ _ _ rfl hown a (dgs R).length cr ((dgs R).map fun (d:Nat)=>Value.int .u8 (d:Int)) rfl Hl.out Hn.out Ho.out (by unfold maxLen;omega) (by omega) (by simp;omega) ?_;intro v3 w3 hown3 hgrow3 hnil3))
    obtain ⟨hf3,ht3⟩:=HT.out _ _ hown3
    have HB3:=Lh (HB'.out.grown hgrow3 (by simp;omega) (fun g hg=>by have:=(hown.lt g hg).1;omega))
    have HQ3:=Lh (HQ'.out.grown hgrow3 (fun g hg=>(hown.lt g hg).1))
    have cy3:=(HC.out _ HB3.out).2.1.2
    clear HT HB' HQ' hcy' hown hown3 hgrow3 hnil3 Hn Ho Hl hRl hR9
    have Hf3:=Lh hf3;have Ht3:=Lh ht3
    clear hf3 ht3
    go_wp2_with fail
    refine Ht3.out.mono ?_
    rintro e w3_ ⟨r0,rfl,⟨hD0,hob⟩,hw_⟩
    subst hw_
    have HD0:=Lh hD0
    have HF0:=Lh (fun g (h:r0.ownBlock=some g)=>Hf3.out g (hob ▸ h))
    clear hD0 hob Ht3 Hf3
    go_wp2_with fail
    go_loopw [7] (fun r wi=>∃ (c:Nat) (vv:Value),r=vv∧c*Y≤V∧Dg wi vv (dgs (V - c*Y))∧(∀ g,vv.ownBlock=some g→w4.heap.size+1≤g)∧Below w4.heap.size w4 wi∧QBl wi w4.heap.size (qLc (X / Y) L j c)) (fun _ wi=>10 - (((wi.cell? ⟨w4.heap.size,j,none⟩).map intOf).getD 0).toNat)
    case atStart=>exact ⟨0,_,rfl,by omega,by rw [Nat.zero_mul,Nat.sub_zero];exact HD0.out,HF0.out,HB3.out,by rw [Q4L];exact HQ3.out⟩
    case round =>
     obtain ⟨c,vi,hvi,hcV,hDi,hfi,hBi,hQi⟩:=hrel
     replace hvi:=hvi.symm
     subst hvi
     have cyi:=(HC.out _ hBi).2.1.2
     have HCm:=Lh (Q1C hDi (HYD.out _ hBi))
     have HDi:=Lh hDi;have HBi:=Lh hBi;have HQi:=Lh hQi;have HFi:=Lh hfi
     by_cases hlt:V - c*Y<Y
     ·rw [Q66 hlt] at HCm
      have hdm:V=c*Y+(V - c*Y):=by omega
      have hcq:V / Y=c:=by
       rw [hdm,Nat.add_comm,Nat.add_mul_div_right _ _ hY,Nat.div_eq_of_lt hlt,Nat.zero_add]
      have hcr:V % Y=V - c*Y:=by
       have:=Nat.mod_eq_of_lt hlt
       rw [hdm,Nat.mul_add_mod_self_right,← hdm,this]
      have HDf:=Lh (show Dg wr vi (dgs (X / 10^j % Y)) from by rw [← HV2.out,hcr];exact hDi)
      have HQf:=Lh (show QBl wr w4.heap.size (qL (X / Y) L j) from by rw [← Q69 (c:=c) (by rw [← hcq];exact HV3.out)];exact hQi)
      clear hDi hfi hBi hQi HDi HQi hcV hlt hdm hcq hcr
      go_wp2_with fail
      refine HCm.out.mono ?_
      rintro e w5 ⟨rfl,hB5⟩
      have HB5:=Lh hB5
      clear hB5 HCm
      go_wp2_with fail
      go_roundw
      case rel=>exact ⟨j,_,rfl,by omega,by go_num,HDf.out.later HB5.out,HFi.out,Qd HBi.out HB5.out,HQf.out.later HB5.out⟩
      case measure=>simp [intOf];try omega
     ·have hge':Y≤V - c*Y:=by omega
      have hz:0≤cm (V - c*Y) Y:=by
       rcases Nat.lt_or_ge Y (V - c*Y) with h | h
       ·rw [Q67 h];decide
       ·rw [Q7O (by omega)];decide
      have hc9:c≤8:=by
       rcases Nat.lt_or_ge 8 c with h | h
       ·have:9*Y≤c*Y:=Nat.mul_le_mul_right _ h
        omega
       ·exact h
      have HLs:Hid (∀ w5,Below wr.heap.size wr w5→w5.cell? ⟨w.heap.size+1,1,none⟩=some (.slice q K cbp)∧Calls Tryz.prog 53 #[vi,.slice q K cbp] w5 fun e w'=>∃ v',e=.returned v'∧Dg w' v' (dgs (V - c*Y - Y))∧(∀ k,v'.ownBlock=some k→w5.heap.size≤k)∧Below w5.heap.size w5 w'):=fun w5 h5 =>
       ⟨(HC.out _ (Qd hBi h5)).2.1.2,Q68 (hDi.later h5) ((HYD.out _ hBi).later h5) hge' (Nat.le_trans (QR (Nat.le_trans (Nat.sub_le _ _) (Nat.le_of_lt hV1))) HTY.out)⟩
      have hnx:V - c*Y - Y=V - (c+1)*Y:=by rw [Nat.add_mul,Nat.one_mul];omega
      have hn2:(c+1)*Y≤V:=by rw [Nat.add_mul,Nat.one_mul];omega
      rw [hnx] at HLs
      have hn2:=Lh hn2
      clear hnx hge' hlt hDi hfi hBi hQi hcV
      generalize cm (V - c*Y) Y=z at HCm hz
      go_wp2_with fail
      refine HCm.out.mono ?_
      rintro e w5 ⟨rfl,hB5⟩
      obtain ⟨cy5,hls⟩:=HLs.out _ hB5
      have HLs5:=Lh hls
      have HB5:=Lh hB5
      clear hB5 HCm HLs hls
      go_wp2_with fail
      refine HLs5.out.mono ?_
      rintro e w6 ⟨v6,rfl,hD6,hf6,hB6⟩
      have hQ6:=(HQi.out.later HB5.out).later hB6
      have hB6':=Qd (Qd HBi.out HB5.out) hB6
      obtain ⟨c6,f6⟩:=hQ6.cell j c (Q1p (by omega))
      have hw:IntKind.u8.wrap ((c:Int)+1)=((c+1:Nat):Int):=by rw [IntWalk.u8_in _ (by omega)];omega
      have HF6:=Lh (fun k (h:v6.ownBlock=some k)=>(show w4.heap.size+1≤k from by have:=hf6 k h;have:=hB6'.size;have:=HB5.out.size;have:=(Array.getElem?_eq_some_iff.1 HQi.out).1;omega))
      have HR6:=Lh (show Dg (w6.setCell ⟨w4.heap.size,j,none⟩ (.int .u8 ((c+1:Nat):Int))) v6 (dgs (V - (c+1)*Y)) from hD6.other (B:=w4.heap.size) (fun h=>by have:=HF6.out _ h;omega) ((Only.refl _ _).set _ _))
      have HB7:=Lh (show Below w4.heap.size w4 (w6.setCell ⟨w4.heap.size,j,none⟩ (.int .u8 ((c+1:Nat):Int))) from hB6'.setCell (Nat.le_refl _) _)
      have HQ7:=Lh (hQ6.set (j:=j) (by omega))
      have HM1:=Lh ((HQi.out.cell j c (Q1p (by omega))).1)
      have HM2:=Lh ((HQ7.out.cell j (c+1) (Q1p (by omega))).1)
      clear hD6 hf6 hB6 hQ6 hB6' HLs5
      go_wp2_with fail
      go_roundw
      case rel=>exact ⟨c+1,_,rfl,hn2.out,HR6.out,HF6.out,HB7.out,HQ7.out⟩
      case measure =>
       show 10 - _<10 - _
       rw [HM1.out,show (w6.setCell ⟨w4.heap.size,j,none⟩ (.int .u8 ((c:Int)+1))).cell? ⟨w4.heap.size,j,none⟩=some (.int .u8 ((c+1:Nat):Int)) from HM2.out]
       simp [intOf];omega
def Good (s:ByteArray):Prop:=∀ k (h:k<s.size),48≤s[k].toNat∧s[k].toNat≤57
def sdL (s:ByteArray)(k:Nat):List Nat:=((s.data.toList.drop k).reverse).map fun c=>c.toNat - 48
theorem Q7T (s:ByteArray)(k:Nat)(h:k<s.size):sdL s k=sdL s (k+1) ++ [s[k].toNat - 48]:=by
 unfold sdL
 have h2:k<s.data.toList.length:=by simpa using h
 rw [List.drop_eq_getElem_cons h2,List.reverse_cons,List.map_append]
 rfl
theorem Q6a (s:ByteArray):sdL s s.size=[]:=by
 unfold sdL
 rw [List.drop_eq_nil_of_le (by simp)];rfl
theorem Q48 (s:ByteArray)(k:Nat):(sdL s k).length=s.size - k:=by
 unfold sdL;simp
def DgR (s:ByteArray)(w:World)(v:Value)(b:Bool):Prop :=
 (Good s∧b=decide (s.size≠0)∧NumV w v false (vl (sdL s 0)))∨(¬ Good s∧b=false∧v=.agg #[.bool false,.slice none 0 0])
def DigP (s:ByteArray)(w:World)(e:Ending)(w':World):Prop:=∃ v' b,e=.returned (.tuple #[v',.bool b])∧DgR s w' v' b∧Below w.heap.size w w'
theorem Q5q (s:ByteArray):s.toList.isEmpty=decide (s.size=0):=by
 rw [ByteArray.toList_eq]
 have h:s.data.toList.length=s.size:=by simp
 cases hc:s.data.toList with
 | nil=>rw [hc] at h;simp only [List.length_nil] at h;rw [decide_eq_true (by omega)];rfl
 | cons x l=>rw [hc] at h;simp only [List.length_cons] at h;rw [decide_eq_false (by omega)];rfl
theorem Q3F (s:ByteArray)(hs:s.size≤2147483647)(w:World):Calls Tryz.prog 60 #[.string s] w (DigP s w):=by
 obtain ⟨i0,hi,hz0,hz1,hz2⟩:=info_parts Q1B
 go_enter Tryz.func60, Tryz.ntmps60
 go_wp2_with fail
 go_loopw [4,5] (fun out i wr=>∃ (k:Nat) (vv:Value),out=vv∧k≤s.size∧i=.int .i64 ((k:Int) - 1)∧(∀ j (h:j<s.size),k≤j→48≤s[j].toNat∧s[j].toNat≤57)∧(∀ d ∈ sdL s k,d<10)∧wr.ownsRow (w.heap.size+1) 5 1 vv (sdL s k).length ((sdL s k).map fun (d:Nat)=>.int .u8 (d:Int))∧Below (w.alloc (.cells #[.bool false,.slice none 0 0] 37)).heap.size (w.alloc (.cells #[.bool false,.slice none 0 0] 37)) wr) (fun _ i _=>(intOf i+1).toNat)
 case atStart=>exact ⟨s.size,_,rfl,Nat.le_refl _,rfl,fun j h h2=>by omega,by rw [Q6a];simp,by rw [Q6a];exact World.ownsRow_nil _ _ _ _,Below.refl _ _⟩
 case round =>
  obtain ⟨k,out,hve,hk,rfl,hgd,h9,hown,hB⟩:=hrel
  replace hve:=hve.symm
  subst hve
  obtain ⟨hh,hc,hf⟩:=Q0f rfl hB
  have c0:wr.cell? ⟨w.heap.size,0,none⟩=some (.bool false):=hc 0
  have c1:wr.cell? ⟨w.heap.size,1,none⟩=some (.slice none 0 0):=hc 1
  have f0:=hf 0;have f1:=hf 1
  have hsz:w.heap.size+1≤wr.heap.size:=by have:=hB.size;simpa using this
  have HB:=Lh hB;have HG:=Lh hgd;have H9:=Lh h9;have HH:=Lh hh
  clear hgd h9 hc hf hh
  rcases Nat.eq_zero_or_pos k with e | e
  ·subst e
   have HSg:=Lh (Q1n (Dg.of_own hown) H9.out false)
   have hem:=Q5q s
   have HGd:Hid (Good s):=Lh (fun j h=>HG.out j h (Nat.zero_le _))
   generalize hZ:vl (sdL s 0)=Z at HSg
   have HZ:=Lh hZ
   clear hB hown hZ
   by_cases hs0:s.size=0
   ·rw [decide_eq_true hs0] at hem
    have HS0:=Lh hs0
    clear hs0
    go_wp2_with fail
    refine HSg.out.mono ?_
    rintro e w1 ⟨v1,rfl,⟨s1,rfl,k1⟩,hB1⟩
    have hB2:=Qd HB.out hB1
    obtain ⟨hh,hc,hf⟩:=Q0f rfl hB2
    have d0:w1.cell? ⟨w.heap.size,0,none⟩=some (.bool false):=hc 0
    have d1:w1.cell? ⟨w.heap.size,1,none⟩=some (.slice none 0 0):=hc 1
    have g0:=hf 0;have g1:=hf 1
    have HN:Hid (NumV ((w1.setCell ⟨w.heap.size,0,none⟩ (.bool false)).setCell ⟨w.heap.size,1,none⟩ s1) (.agg #[.bool false,s1]) false (vl (sdL s 0))):=Lh (by
     rw [HZ.out];exact NumV.keep ⟨s1,rfl,k1⟩ hh (by decide) (((Only.refl _ _).set 0 _).set 1 _))
    have HE:=Lh ((((Qd (Qm w _) hB2).setCell (p:=⟨w.heap.size,0,none⟩) (Nat.le_refl _) (.bool false)).setCell (p:=⟨w.heap.size,1,none⟩) (Nat.le_refl _) s1))
    obtain ⟨p1,cap1,rfl,_⟩:=k1
    clear hB1 hB2 hc hf hh HSg
    go_wp2_with fail
    exact bodyPost_ret (v:=.tuple #[.agg #[.bool false,.slice p1 (dgs Z).length cap1],.bool false]) (by simp [results,Tryz.results60,go_sem,d0,d1]) rfl ⟨_,_,rfl,.inl ⟨HGd.out,by rw [decide_eq_false (by simpa using HS0.out)],HN.out⟩,HE.out⟩
   ·rw [decide_eq_false hs0] at hem
    have HS0:=Lh hs0
    clear hs0
    go_wp2_with fail
    refine HSg.out.mono ?_
    rintro e w1 ⟨v1,rfl,⟨s1,rfl,k1⟩,hB1⟩
    have hB2:=Qd HB.out hB1
    obtain ⟨hh,hc,hf⟩:=Q0f rfl hB2
    have d0:w1.cell? ⟨w.heap.size,0,none⟩=some (.bool false):=hc 0
    have d1:w1.cell? ⟨w.heap.size,1,none⟩=some (.slice none 0 0):=hc 1
    have g0:=hf 0;have g1:=hf 1
    have HN:Hid (NumV ((w1.setCell ⟨w.heap.size,0,none⟩ (.bool false)).setCell ⟨w.heap.size,1,none⟩ s1) (.agg #[.bool false,s1]) false (vl (sdL s 0))):=Lh (by
     rw [HZ.out];exact NumV.keep ⟨s1,rfl,k1⟩ hh (by decide) (((Only.refl _ _).set 0 _).set 1 _))
    have HE:=Lh ((((Qd (Qm w _) hB2).setCell (p:=⟨w.heap.size,0,none⟩) (Nat.le_refl _) (.bool false)).setCell (p:=⟨w.heap.size,1,none⟩) (Nat.le_refl _) s1))
    obtain ⟨p1,cap1,rfl,_⟩:=k1
    clear hB1 hB2 hc hf hh HSg
    go_wp2_with fail
    exact bodyPost_ret (v:=.tuple #[.agg #[.bool false,.slice p1 (dgs Z).length cap1],.bool true]) (by simp [results,Tryz.results60,go_sem,d0,d1]) rfl ⟨_,_,rfl,.inl ⟨HGd.out,by rw [decide_eq_true (by simpa using HS0.out)],HN.out⟩,HE.out⟩
  ·obtain ⟨j,rfl⟩:∃ j,k=j+1:=⟨k - 1,by omega⟩
   have hj:j<s.size:=by omega
   have h2:((j+1:Nat):Int) - 1=(j:Int):=by omega
   have hge:(0:Int)≤(j:Int):=by omega
   have HBad:Hid (¬ (48≤s[j].toNat∧s[j].toNat≤57)→¬ Good s):=Lh (fun h g=>h (g j hj))
   have HE:=Lh (((Qd (Qm w _) hB).setCell (p:=⟨w.heap.size,0,none⟩) (Nat.le_refl _) (.bool false)).setCell (p:=⟨w.heap.size,1,none⟩) (Nat.le_refl _) (.slice none 0 0))
   rw [h2]
   by_cases hlo:s[j].toNat<48
   ·have h3:(s[j].toNat:Int)<48:=by omega
    have hNG:=Lh (HBad.out (by omega))
    clear hB hown hlo
    go_wp2_with fail
    exact bodyPost_ret (v:=.tuple #[.agg #[.bool false,.slice none 0 0],.bool false]) (by simp [results,Tryz.results60,go_sem,c0,c1]) rfl ⟨_,_,rfl,.inr ⟨hNG.out,rfl,rfl⟩,HE.out⟩
   ·have h3:¬ (s[j].toNat:Int)<48:=by omega
    by_cases hhi:57<s[j].toNat
    ·have h4:(57:Int)<(s[j].toNat:Int):=by omega
     have hNG:=Lh (HBad.out (by omega))
     clear hB hown hlo hhi
     go_wp2_with fail
     exact bodyPost_ret (v:=.tuple #[.agg #[.bool false,.slice none 0 0],.bool false]) (by simp [results,Tryz.results60,go_sem,c0,c1]) rfl ⟨_,_,rfl,.inr ⟨hNG.out,rfl,rfl⟩,HE.out⟩
    ·have h4:¬ (57:Int)<(s[j].toNat:Int):=by omega
     have HS:=Lh (Q7T s j hj)
     have hll:=Q48 s (j+1)
     have HG2:Hid (∀ i (h:i<s.size),j≤i→48≤s[i].toNat∧s[i].toNat≤57):=Lh (fun i h hji=>by
      rcases Nat.lt_or_ge j i with q | q
      ·exact HG.out i h q
      ·obtain rfl:i=j:=by omega
       omega)
     have hw:IntKind.u8.wrap ((s[j].toNat:Int) - 48)=((s[j].toNat - 48:Nat):Int):=by rw [IntWalk.u8_in _ (by omega)];omega
     have H92:Hid (∀ d ∈ sdL s j,d<10):=Lh (by rw [HS.out];exact Q1g _ _ H9.out (by omega))
     rw [hll] at hown
     clear hB hlo hhi
     go_wp2_with (first | (at_builtin;refine wpList_append_own _ rfl _ _ 35 rfl (w.heap.size+1) 5 i0 (.int .u8 0) 1 1 Tryz.underlying35 hi hz0 hz1 hz2 rfl (by decide) _ _ _ rfl (hown.alloc _) ⟨wr.heap.size,0,none⟩ 1 1 [.int .u8 ((s[j].toNat - 48:Nat):Int)] rfl rfl (Q0u _ _ _) (fun x hx=>by simp at hx;subst hx;rfl) (by unfold maxLen;omega) (by omega) (by simp;omega) ?_;intro v' w3 hown' hgrow3 hnil3))
     go_roundw
     case rel=>exact ⟨j,_,rfl,by omega,rfl,HG2.out,H92.out,by rw [HS.out,List.map_append,List.length_append,hll];exact hown',(bal HB.out _).grown hgrow3 (by simp;omega) (fun q hq=>by have:=(hown.lt q hq).1;simpa using this)⟩
     case measure=>simp [intOf];try omega
def Canon (s:ByteArray):Prop:=Good s∧0<s.size∧(∀ h:1<s.size,s[0].toNat≠48)
def RdR (s:ByteArray)(w:World)(v:Value)(b:Bool):Prop :=
 (∃ n p l c,v=.agg #[.bool n,.slice p l c]∧(b=true→n=true∨Canon s))∧(Canon s→b=true∧NumV w v false (vl (sdL s 0)))
def RdP (s:ByteArray)(w:World)(e:Ending)(w':World):Prop:=∃ v' b,e=.returned (.tuple #[v',.bool b])∧RdR s w' v' b∧Below w.heap.size w w'
theorem DgR.form {s:ByteArray}{w:World}{v:Value}{b:Bool}(h:DgR s w v b):∃ p l c,v=.agg #[.bool false,.slice p l c]:=by
 rcases h with ⟨_,_,sl,rfl,p,c,rfl,_⟩ | ⟨_,_,rfl⟩
 ·exact ⟨_,_,_,rfl⟩
 ·exact ⟨_,_,_,rfl⟩
theorem Q0J {w:World}{B:Nat}{x y:Value}(d0:w.cell? ⟨B,0,none⟩=some x)(d1:w.cell? ⟨B,1,none⟩=some y)(u v:Value)(o:Obj):(((w.setCell ⟨B,0,none⟩ u).setCell ⟨B,1,none⟩ v).alloc o).cell? ⟨B,0,none⟩=some u∧(((w.setCell ⟨B,0,none⟩ u).setCell ⟨B,1,none⟩ v).alloc o).cell? ⟨B,1,none⟩=some v:=by
 have hlt:=World.block_lt_of_cell? _ _ d0
 have e01:(⟨B,0,none⟩:Addr)≠⟨B,1,none⟩:=fun e=>by injection e with _ e2;omega
 have hb:(((w.setCell ⟨B,0,none⟩ u).setCell ⟨B,1,none⟩ v).alloc o).heap[B]?=((w.setCell ⟨B,0,none⟩ u).setCell ⟨B,1,none⟩ v).heap[B]?:=Below.heap_alloc _ _ _ (by simpa [World.setCell] using hlt)
 constructor
 ·rw [World.cell?_of_block (a:=⟨B,0,none⟩) hb,World.cell?_setCell_other _ _ _ _ e01.symm]
  exact World.cell?_setCell_same _ _ _ d0
 ·rw [World.cell?_of_block (a:=⟨B,1,none⟩) hb]
  refine World.cell?_setCell_same _ _ _ (?_:_=some y)
  rw [World.cell?_setCell_other _ _ _ _ e01];exact d1
theorem DgR.bad {s:ByteArray}{w:World}{v:Value}(h:DgR s w v false):¬ Canon s:=by
 rcases h with ⟨_,h,_⟩ | ⟨h,_,_⟩
 ·intro c
  have:=c.2.1
  have h2:s.size=0:=by simpa using h
  omega
 ·exact fun c=>h c.1
theorem DgR.good {s:ByteArray}{w:World}{v:Value}(h:DgR s w v true):Good s∧0<s.size:=by
 rcases h with ⟨h1,h,_⟩ | ⟨_,h,_⟩
 ·have h2:s.size≠0:=by simpa using h
  exact ⟨h1,by omega⟩
 ·cases h
theorem Q5r (s:ByteArray)(hs:s.size≤2147483647)(w:World)(hm:∀ h:1<s.size,s[0].toNat≠45):Calls Tryz.prog 25 #[.string s] w (RdP s w):=by
 have HD:Hid (∀ w1,Calls Tryz.prog 60 #[.string s] w1 (DigP s w1)):=fun w1=>Q3F s hs w1
 have HM:=Lh hm
 clear hm
 by_cases h1:1<s.size
 ·have hx:=HM.out h1
  have hl1:(1:Int)<(s.size:Int):=by omega
  have h0:0<s.size:=by omega
  have hx2:((s[0].toNat:Int) == 45)=false:=by simp;omega
  have hl1d:decide ((1:Int)<(s.size:Int))=true:=by simp;omega
  go_enter Tryz.func25, Tryz.ntmps25
  go_wp2_with fail
  refine (HD.out _).mono ?_
  rintro e w1 ⟨v1,b,rfl,hR,hB1⟩
  have hB2:Below w.heap.size w w1:=Qd (Qm w _) hB1
  obtain ⟨hh,hc,hf⟩:=Q0f rfl hB1
  have d0:w1.cell? ⟨w.heap.size,0,none⟩=some (.bool false):=hc 0
  have d1:w1.cell? ⟨w.heap.size,1,none⟩=some (.slice none 0 0):=hc 1
  have g0:=hf 0;have g1:=hf 1
  have hlt:w.heap.size<w1.heap.size:=by have:=hB1.size;simp at this;omega
  obtain ⟨p1,l1,c1,rfl⟩:=hR.form
  have HE:Hid (∀ (u v:Value) (o:Obj),Below w.heap.size w (((w1.setCell ⟨w.heap.size,0,none⟩ u).setCell ⟨w.heap.size,1,none⟩ v).alloc o)):=Lh (fun u v o=>bal ((hB2.setCell (by exact Nat.le_refl _) u).setCell (by exact Nat.le_refl _) v) o)
  have HR:=Lh hR;have HH:=Lh hh
  clear hR hB1 hB2 hc hf hh
  cases b
  ·have HB:=Lh HR.out.bad
   clear HR
   go_wp2_with fail
   exact bodyPost_ret (v:=.tuple #[.agg #[.bool false,.slice none 0 0],.bool false]) (by simp [results,Tryz.results25,go_sem,Q0J d0 d1]) rfl ⟨_,_,rfl,⟨⟨_,_,_,_,rfl,fun h=>(by cases h)⟩,fun h=>absurd h HB.out⟩,HE.out _ _ _⟩
  ·by_cases hz:s[0].toNat=48
   ·have HB:Hid (¬ Canon s):=Lh (fun c=>c.2.2 h1 hz)
    have hz2:((s[0].toNat:Int) == 48)=true:=by simp;omega
    clear hz HR
    go_wp2_with fail
    exact bodyPost_ret (v:=.tuple #[.agg #[.bool false,.slice none 0 0],.bool false]) (by simp [results,Tryz.results25,go_sem,Q0J d0 d1]) rfl ⟨_,_,rfl,⟨⟨_,_,_,_,rfl,fun h=>(by cases h)⟩,fun h=>absurd h HB.out⟩,HE.out _ _ _⟩
   ·have hz2:((s[0].toNat:Int) == 48)=false:=by simp;omega
    have HCn:Hid (Canon s):=Lh ⟨HR.out.good.1,HR.out.good.2,fun _=>hz⟩
    clear hz
    have HN:Hid (∀ o,NumV (((w1.setCell ⟨w.heap.size,0,none⟩ (.bool false)).setCell ⟨w.heap.size,1,none⟩ (.slice p1 l1 c1)).alloc o) (.agg #[.bool false,.slice p1 l1 c1]) false (vl (sdL s 0))):=Lh (fun o=>by
     rcases HR.out with ⟨_,_,hN⟩ | ⟨_,h,_⟩
     ·exact (hN.keep HH.out (by decide) (((Only.refl _ _).set 0 _).set 1 _)).later (Qm _ _)
     ·cases h)
    go_wp2_with fail
    exact bodyPost_ret (v:=.tuple #[.agg #[.bool false,.slice p1 l1 c1],.bool true]) (by simp [results,Tryz.results25,go_sem,Q0J d0 d1]) rfl ⟨_,_,rfl,⟨⟨_,_,_,_,rfl,fun _=>.inr HCn.out⟩,fun _=>⟨rfl,HN.out _⟩⟩,HE.out _ _ _⟩
 ·have hl1:¬ (1:Int)<(s.size:Int):=by omega
  have hl1d:decide ((1:Int)<(s.size:Int))=false:=by simp;omega
  go_enter Tryz.func25, Tryz.ntmps25
  go_wp2_with fail
  refine (HD.out _).mono ?_
  rintro e w1 ⟨v1,b,rfl,hR,hB1⟩
  have hB2:Below w.heap.size w w1:=Qd (Qm w _) hB1
  obtain ⟨hh,hc,hf⟩:=Q0f rfl hB1
  have d0:w1.cell? ⟨w.heap.size,0,none⟩=some (.bool false):=hc 0
  have d1:w1.cell? ⟨w.heap.size,1,none⟩=some (.slice none 0 0):=hc 1
  have g0:=hf 0;have g1:=hf 1
  have hlt:w.heap.size<w1.heap.size:=by have:=hB1.size;simp at this;omega
  obtain ⟨p1,l1,c1,rfl⟩:=hR.form
  have HE:Hid (∀ (u v:Value) (o:Obj),Below w.heap.size w (((w1.setCell ⟨w.heap.size,0,none⟩ u).setCell ⟨w.heap.size,1,none⟩ v).alloc o)):=Lh (fun u v o=>bal ((hB2.setCell (by exact Nat.le_refl _) u).setCell (by exact Nat.le_refl _) v) o)
  have HR:=Lh hR;have HH:=Lh hh
  clear hR hB1 hB2 hc hf hh
  cases b
  ·have HB:=Lh HR.out.bad
   clear HR
   go_wp2_with fail
   exact bodyPost_ret (v:=.tuple #[.agg #[.bool false,.slice none 0 0],.bool false]) (by simp [results,Tryz.results25,go_sem,Q0J d0 d1]) rfl ⟨_,_,rfl,⟨⟨_,_,_,_,rfl,fun h=>(by cases h)⟩,fun h=>absurd h HB.out⟩,HE.out _ _ _⟩
  ·have HCn:Hid (Canon s):=Lh ⟨HR.out.good.1,HR.out.good.2,fun h=>absurd h h1⟩
   have HN:Hid (∀ o,NumV (((w1.setCell ⟨w.heap.size,0,none⟩ (.bool false)).setCell ⟨w.heap.size,1,none⟩ (.slice p1 l1 c1)).alloc o) (.agg #[.bool false,.slice p1 l1 c1]) false (vl (sdL s 0))):=Lh (fun o=>by
    rcases HR.out with ⟨_,_,hN⟩ | ⟨_,h,_⟩
    ·exact (hN.keep HH.out (by decide) (((Only.refl _ _).set 0 _).set 1 _)).later (Qm _ _)
    ·cases h)
   go_wp2_with fail
   exact bodyPost_ret (v:=.tuple #[.agg #[.bool false,.slice p1 l1 c1],.bool true]) (by simp [results,Tryz.results25,go_sem,Q0J d0 d1]) rfl ⟨_,_,rfl,⟨⟨_,_,_,_,rfl,fun _=>.inr HCn.out⟩,fun _=>⟨rfl,HN.out _⟩⟩,HE.out _ _ _⟩
theorem Q5s (s:ByteArray)(hs:s.size≤2147483647)(w:World)(h1:1<s.size)(hm:s[0].toNat=45):Calls Tryz.prog 25 #[.string s] w (RdP s w):=by
 have HD:Hid (∀ s2:ByteArray,s2.size≤2147483647→∀ w1,Calls Tryz.prog 60 #[.string s2] w1 (DigP s2 w1)):=fun s2 h w1=>Q3F s2 h w1
 have HNC:Hid (¬ Canon s):=Lh (fun c=>by have:=(c.1 0 (by omega)).1;omega)
 have hl1:(1:Int)<(s.size:Int):=by omega
 have h0:0<s.size:=by omega
 have hx2:((s[0].toNat:Int) == 45)=true:=by simp;omega
 have hl1d:decide ((1:Int)<(s.size:Int))=true:=by simp;omega
 have hsz:(s.extract 1 s.size).size=s.size - 1:=by simp
 obtain ⟨s2,hs2⟩:∃ s2,s2=s.extract 1 s.size:=⟨_,rfl⟩
 rw [← hs2] at hsz
 clear hm
 go_enter Tryz.func25, Tryz.ntmps25
 go_wp2_with fail
 rw [← hs2]
 have hs3:s2.size≤2147483647:=by omega
 have hls:s2.toList.length=s2.size:=by rw [ByteArray.toList_eq];simp
 clear hs2 hsz
 refine (HD.out _ (by omega) _).mono ?_
 rintro e w1 ⟨v1,b,rfl,hR,hB1⟩
 have hB2:Below w.heap.size w w1:=Qd (Qm w _) hB1
 obtain ⟨hh,hc,hf⟩:=Q0f rfl hB1
 have d0:w1.cell? ⟨w.heap.size,0,none⟩=some (.bool false):=hc 0
 have d1:w1.cell? ⟨w.heap.size,1,none⟩=some (.slice none 0 0):=hc 1
 have g0:=hf 0;have g1:=hf 1
 have hlt:w.heap.size<w1.heap.size:=by have:=hB1.size;simp at this;omega
 obtain ⟨p1,l1,c1,rfl⟩:=hR.form
 have HE:Hid (∀ (u v:Value) (o:Obj),Below w.heap.size w (((w1.setCell ⟨w.heap.size,0,none⟩ u).setCell ⟨w.heap.size,1,none⟩ v).alloc o)):=Lh (fun u v o=>bal ((hB2.setCell (by exact Nat.le_refl _) u).setCell (by exact Nat.le_refl _) v) o)
 clear hB1 hB2 hc hf hh
 cases b
 ·clear hR
  go_wp2_with fail
  exact bodyPost_ret (v:=.tuple #[.agg #[.bool false,.slice none 0 0],.bool false]) (by simp [results,Tryz.results25,go_sem,Q0J d0 d1]) rfl ⟨_,_,rfl,⟨⟨_,_,_,_,rfl,fun h=>(by cases h)⟩,fun h=>absurd h HNC.out⟩,HE.out _ _ _⟩
 ·have hg:=hR.good.2
  clear hR
  by_cases h2:1<s2.size
  ·have hl2:(1:Int)<(s2.size:Int):=by omega
   have hl2d:decide ((1:Int)<(s2.size:Int))=true:=by simp;omega
   have hnd:(s2.toList == [48])=false:=by
    cases hc:(s2.toList == [48]) with
    | false=>rfl
    | true=>rw [beq_iff_eq.1 hc] at hls;simp at hls;omega
   clear hls
   by_cases hz:s2[0].toNat=48
   ·have hz2:((s2[0].toNat:Int) == 48)=true:=by simp;omega
    clear hz
    go_wp2_with fail
    exact bodyPost_ret (v:=.tuple #[.agg #[.bool false,.slice none 0 0],.bool false]) (by simp [results,Tryz.results25,go_sem,Q0J d0 d1]) rfl ⟨_,_,rfl,⟨⟨_,_,_,_,rfl,fun h=>(by cases h)⟩,fun h=>absurd h HNC.out⟩,HE.out _ _ _⟩
   ·have hz2:((s2[0].toNat:Int) == 48)=false:=by simp;omega
    clear hz
    go_wp2_with fail
    exact bodyPost_ret (v:=.tuple #[.agg #[.bool true,.slice p1 l1 c1],.bool true]) (by simp [results,Tryz.results25,go_sem,Q0J d0 d1]) rfl ⟨_,_,rfl,⟨⟨_,_,_,_,rfl,fun _=>.inl rfl⟩,fun h=>absurd h HNC.out⟩,HE.out _ _ _⟩
  ·have hl2:¬ (1:Int)<(s2.size:Int):=by omega
   have hl2d:decide ((1:Int)<(s2.size:Int))=false:=by simp;omega
   clear hls
   by_cases hnd:(s2.toList == [48])=true
   ·go_wp2_with fail
    exact bodyPost_ret (v:=.tuple #[.agg #[.bool false,.slice none 0 0],.bool false]) (by simp [results,Tryz.results25,go_sem,Q0J d0 d1]) rfl ⟨_,_,rfl,⟨⟨_,_,_,_,rfl,fun h=>(by cases h)⟩,fun h=>absurd h HNC.out⟩,HE.out _ _ _⟩
   ·have hnd2:(s2.toList == [48])=false:=by simpa using hnd
    clear hnd
    go_wp2_with fail
    exact bodyPost_ret (v:=.tuple #[.agg #[.bool true,.slice p1 l1 c1],.bool true]) (by simp [results,Tryz.results25,go_sem,Q0J d0 d1]) rfl ⟨_,_,rfl,⟨⟨_,_,_,_,rfl,fun _=>.inl rfl⟩,fun h=>absurd h HNC.out⟩,HE.out _ _ _⟩
theorem Q6b (s:ByteArray)(hs:s.size≤2147483647)(w:World):Calls Tryz.prog 25 #[.string s] w (RdP s w):=by
 by_cases h:∃ h1:1<s.size,s[0].toNat=45
 ·obtain ⟨h1,h2⟩:=h;exact Q5s s hs w h1 h2
 ·exact Q5r s hs w (fun h1 h2=>h ⟨h1,h2⟩)
def DV (f:Int)(n:Bool)(e:Int)(s:ByteArray):Value:=.agg #[.int .i64 f,.bool n,.int .i32 e,.string s]
def FinV (w:World)(v:Value)(n:Bool)(c:Nat)(e:Int):Prop:=∃ s,v=.agg #[.bool n,.bool false,s,.int .i64 e]∧Dg w s (dgs c)
theorem FinV.later {w w':World}{v:Value}{n:Bool}{c:Nat}{e:Int}(h:FinV w v n c e)(hB:Below w.heap.size w w'):FinV w' v n c e:=by
 obtain ⟨cv,e,h⟩:=h;exact ⟨cv,e,h.later hB⟩
theorem FinV.keep {w w':World}{v:Value}{n:Bool}{c:Nat}{e:Int}(h:FinV w v n c e){B:Nat}{C:Array Value}{T:TypeId}{m:Nat × Nat}(hb:w.heap[B]?=some (.cells C T m))(hC:noU8 C=true)(ho:Only B w w'):FinV w' v n c e:=by
 obtain ⟨cv,e,h⟩:=h;exact ⟨cv,e,h.keep hb hC ho⟩
theorem Q49 {w wr:World}{X R:Obj}{A C:Array Value}{S U:TypeId}(hX:X=.cells A S (0,0))(hR:R=.cells C U (0,0))(h:Below ((w.alloc X).alloc R).heap.size ((w.alloc X).alloc R) wr) :
  (∀ i,wr.cell? ⟨w.heap.size,i,none⟩=A[i]?)∧(∀ i,wr.cell? ⟨w.heap.size+1,i,none⟩=C[i]?)∧(∀ i,wr.frozen? ⟨w.heap.size+1,i,none⟩=false)∧wr.heap[w.heap.size+1]?=some (.cells C U (0,0)):=by
 have s1:(w.alloc X).heap.size=w.heap.size+1:=by simp
 have s2:((w.alloc X).alloc R).heap.size=w.heap.size+1+1:=by simp
 have b0:wr.heap[w.heap.size]?=some X:=by
  rw [h.block _ (by omega),Below.heap_alloc _ _ _ (by omega),gal]
 have b1:wr.heap[w.heap.size+1]?=some R:=by
  rw [h.block _ (by omega),← s1,gal]
 subst hX hR
 exact ⟨fun i=>by unfold World.cell?;rw [b0];simp,fun i=>by unfold World.cell?;rw [b1];simp,fun i=>by unfold World.frozen?;rw [b1];simp,b1⟩
theorem Q0n {w:World}{B:Nat}{x0 x1 x2 x3:Value}(d0:w.cell? ⟨B,0,none⟩=some x0)(d1:w.cell? ⟨B,1,none⟩=some x1)(d2:w.cell? ⟨B,2,none⟩=some x2)(d3:w.cell? ⟨B,3,none⟩=some x3)(u0 u1 u2 u3:Value) :
  ((((w.setCell ⟨B,0,none⟩ u0).setCell ⟨B,1,none⟩ u1).setCell ⟨B,2,none⟩ u2).setCell ⟨B,3,none⟩ u3).cell? ⟨B,0,none⟩=some u0∧((((w.setCell ⟨B,0,none⟩ u0).setCell ⟨B,1,none⟩ u1).setCell ⟨B,2,none⟩ u2).setCell ⟨B,3,none⟩ u3).cell? ⟨B,1,none⟩=some u1∧((((w.setCell ⟨B,0,none⟩ u0).setCell ⟨B,1,none⟩ u1).setCell ⟨B,2,none⟩ u2).setCell ⟨B,3,none⟩ u3).cell? ⟨B,2,none⟩=some u2∧((((w.setCell ⟨B,0,none⟩ u0).setCell ⟨B,1,none⟩ u1).setCell ⟨B,2,none⟩ u2).setCell ⟨B,3,none⟩ u3).cell? ⟨B,3,none⟩=some u3:=by
 have e:∀ i j,i≠j→(⟨B,i,none⟩:Addr)≠⟨B,j,none⟩:=fun i j h e=>h (by injection e)
 refine ⟨?_,?_,?_,?_⟩
 ·rw [World.cell?_setCell_other _ _ _ _ (e 3 0 (by decide)),World.cell?_setCell_other _ _ _ _ (e 2 0 (by decide)),World.cell?_setCell_other _ _ _ _ (e 1 0 (by decide))]
  exact World.cell?_setCell_same _ _ _ d0
 ·rw [World.cell?_setCell_other _ _ _ _ (e 3 1 (by decide)),World.cell?_setCell_other _ _ _ _ (e 2 1 (by decide))]
  refine World.cell?_setCell_same _ _ _ (?_:_=some x1)
  rw [World.cell?_setCell_other _ _ _ _ (e 0 1 (by decide))];exact d1
 ·rw [World.cell?_setCell_other _ _ _ _ (e 3 2 (by decide))]
  refine World.cell?_setCell_same _ _ _ (?_:_=some x2)
  rw [World.cell?_setCell_other _ _ _ _ (e 1 2 (by decide)),World.cell?_setCell_other _ _ _ _ (e 0 2 (by decide))];exact d2
 ·refine World.cell?_setCell_same _ _ _ (?_:_=some x3)
  rw [World.cell?_setCell_other _ _ _ _ (e 2 3 (by decide)),World.cell?_setCell_other _ _ _ _ (e 1 3 (by decide)),World.cell?_setCell_other _ _ _ _ (e 0 3 (by decide))];exact d3
theorem Q9a {w:World}{B:Nat}{x0 x1 x2 x3:Value}(d0:w.cell? ⟨B,0,none⟩=some x0)(d1:w.cell? ⟨B,1,none⟩=some x1)(d2:w.cell? ⟨B,2,none⟩=some x2)(d3:w.cell? ⟨B,3,none⟩=some x3)(u0 u1 u2 u3:Value)(o:Obj) :
  (((((w.setCell ⟨B,0,none⟩ u0).setCell ⟨B,1,none⟩ u1).setCell ⟨B,2,none⟩ u2).setCell ⟨B,3,none⟩ u3).alloc o).cell? ⟨B,0,none⟩=some u0∧(((((w.setCell ⟨B,0,none⟩ u0).setCell ⟨B,1,none⟩ u1).setCell ⟨B,2,none⟩ u2).setCell ⟨B,3,none⟩ u3).alloc o).cell? ⟨B,1,none⟩=some u1∧(((((w.setCell ⟨B,0,none⟩ u0).setCell ⟨B,1,none⟩ u1).setCell ⟨B,2,none⟩ u2).setCell ⟨B,3,none⟩ u3).alloc o).cell? ⟨B,2,none⟩=some u2∧(((((w.setCell ⟨B,0,none⟩ u0).setCell ⟨B,1,none⟩ u1).setCell ⟨B,2,none⟩ u2).setCell ⟨B,3,none⟩ u3).alloc o).cell? ⟨B,3,none⟩=some u3:=by
 have hlt:=World.block_lt_of_cell? _ _ d0
 obtain ⟨a,b,c,d⟩:=Q0n d0 d1 d2 d3 u0 u1 u2 u3
 have hb:(((((w.setCell ⟨B,0,none⟩ u0).setCell ⟨B,1,none⟩ u1).setCell ⟨B,2,none⟩ u2).setCell ⟨B,3,none⟩ u3).alloc o).heap[B]?=((((w.setCell ⟨B,0,none⟩ u0).setCell ⟨B,1,none⟩ u1).setCell ⟨B,2,none⟩ u2).setCell ⟨B,3,none⟩ u3).heap[B]?:=Below.heap_alloc _ _ _ (by simpa [World.setCell] using hlt)
 exact ⟨(World.cell?_of_block (a:=⟨B,0,none⟩) hb).trans a,(World.cell?_of_block (a:=⟨B,1,none⟩) hb).trans b,(World.cell?_of_block (a:=⟨B,2,none⟩) hb).trans c,(World.cell?_of_block (a:=⟨B,3,none⟩) hb).trans d⟩
theorem Q1S (f:Int)(n:Bool)(e:Int)(s:ByteArray)(hs:s.size≤2147483647)(hc:Canon s)(he : -100000≤e∧e≤100000)(w:World):Calls Tryz.prog 12 #[DV f n e s] w fun r w'=>∃ v',r=.returned v'∧FinV w' v' n (vl (sdL s 0)) e∧Below w.heap.size w w':=by
 obtain ⟨w2,hw2⟩:∃ w2,w2=(w.alloc (.cells #[.int .i64 f,.bool n,.int .i32 e,.string s] 26)).alloc (.cells #[.bool false,.bool false,.slice none 0 0,.int .i64 0] 39):=⟨_,rfl⟩
 have hBA:Below w.heap.size w w2:=by rw [hw2];exact bal (Qm w _) _
 have HR:=Lh (Q6b s hs w2)
 have HC:=Lh hc
 obtain ⟨he1,he2⟩:=he
 generalize hz:vl (sdL s 0)=z
 have HZ:=Lh hz
 have hci:IntKind.i64.wrap e=e:=IntWalk.i64_in _ (by omega)
 have HBA:=Lh hBA
 unfold DV
 clear hc hz hBA
 go_enter Tryz.func12, Tryz.ntmps12
 go_wp2_with fail
 rw [← hw2]
 refine HR.out.mono ?_
 rintro r w3 ⟨v1,b,rfl,⟨⟨n1,p1,l1,c1,rfl,_⟩,hR⟩,hB3⟩
 obtain ⟨rfl,hN⟩:=hR HC.out
 obtain ⟨s1,he,hN⟩:=hN
 obtain ⟨rfl,rfl⟩:n1=false∧.slice p1 l1 c1=s1:=by
  have h0:=congrArg (fun v=>match v with | Value.agg cs=>cs.toList | _=>[]) he
  simp at h0
  exact ⟨h0.1,h0.2⟩
 have hB3':=hB3
 rw [hw2] at hB3'
 obtain ⟨x,y,z',hh⟩:=Q49 (w:=w) rfl rfl hB3'
 have x0:w3.cell? ⟨w.heap.size,1,none⟩=some (.bool n):=x 1
 have x2:w3.cell? ⟨w.heap.size,2,none⟩=some (.int .i32 e):=x 2
 have y0:w3.cell? ⟨w.heap.size+1,0,none⟩=some (.bool false):=y 0
 have y1:w3.cell? ⟨w.heap.size+1,1,none⟩=some (.bool false):=y 1
 have y2:w3.cell? ⟨w.heap.size+1,2,none⟩=some (.slice none 0 0):=y 2
 have y3:w3.cell? ⟨w.heap.size+1,3,none⟩=some (.int .i64 0):=y 3
 have z0:=z' 0;have z1:=z' 1;have z2:=z' 2;have z3:=z' 3
 have hsz:w.heap.size+1<w3.heap.size:=(Array.getElem?_eq_some_iff.1 hh).1
 have hlt:w.heap.size<w3.heap.size:=by omega
 have HH:=Lh hh
 have HB:=Lh (Qd HBA.out hB3)
 have HN:=Lh hN
 clear hB3 hB3' x y z' hh hR hN HR hw2
 have HF:Hid (∀ o,FinV (((((w3.setCell ⟨w.heap.size+1,0,none⟩ (.bool n)).setCell ⟨w.heap.size+1,1,none⟩ (.bool false)).setCell ⟨w.heap.size+1,2,none⟩ (.slice p1 l1 c1)).setCell ⟨w.heap.size+1,3,none⟩ (.int .i64 e)).alloc o) (.agg #[.bool n,.bool false,.slice p1 l1 c1,.int .i64 e]) n z e∧Below w.heap.size w (((((w3.setCell ⟨w.heap.size+1,0,none⟩ (.bool n)).setCell ⟨w.heap.size+1,1,none⟩ (.bool false)).setCell ⟨w.heap.size+1,2,none⟩ (.slice p1 l1 c1)).setCell ⟨w.heap.size+1,3,none⟩ (.int .i64 e)).alloc o)):=Lh (fun o=>by
  rw [← HZ.out]
  exact ⟨⟨_,rfl,(HN.out.keep HH.out (by decide) ((((Only.refl _ _).set 0 _).set 1 _).set 2 _ |>.set 3 _)).later (Qm _ _)⟩,bal ((((HB.out.setCell (by simp only;omega) _).setCell (by simp only;omega) _).setCell (by simp only;omega) _).setCell (by simp only;omega) _) o⟩)
 go_wp2_with fail
 exact bodyPost_ret (v:=.agg #[.bool n,.bool false,.slice p1 l1 c1,.int .i64 e]) (by simp [results,Tryz.results12,go_sem,Q9a y0 y1 y2 y3]) rfl ⟨_,rfl,(HF.out _).1,(HF.out _).2⟩
theorem Q4a {w:World}{A B:Nat}(h:B≠A)(u0 u1 u2 u3:Value)(j:Nat):((((w.setCell ⟨A,0,none⟩ u0).setCell ⟨A,1,none⟩ u1).setCell ⟨A,2,none⟩ u2).setCell ⟨A,3,none⟩ u3).cell? ⟨B,j,none⟩=w.cell? ⟨B,j,none⟩:=by
 have e:∀ i,(⟨A,i,none⟩:Addr)≠⟨B,j,none⟩:=fun i e=>h (by injection e with e1;exact e1.symm)
 rw [World.cell?_setCell_other _ _ _ _ (e _),World.cell?_setCell_other _ _ _ _ (e _),World.cell?_setCell_other _ _ _ _ (e _),World.cell?_setCell_other _ _ _ _ (e _)]
theorem Q0z {w:World}{v:Value}{n:Bool}{c:Nat}{e:Int}(h:FinV w v n c e)(he : -100000≤e∧e≤100000)(hlen:(dgs c).length≤4000000000):Calls Tryz.prog 20 #[v] w fun r w'=>r=.returned (DV 0 n e (txS c))∧Below w.heap.size w w':=by
 obtain ⟨s,rfl,hs⟩:=h
 have hs0:=hs
 obtain ⟨p,cap,rfl,_⟩:=hs
 obtain ⟨he1,he2⟩:=he
 obtain ⟨wA,hwA⟩:∃ wA,wA=(w.alloc (.cells #[.bool n,.bool false,.slice p (dgs c).length cap,.int .i64 e] 39)).alloc (.cells #[.int .i64 0,.bool false,.int .i32 0,.string ⟨#[]⟩] 26):=⟨_,rfl⟩
 have hBA:Below w.heap.size w wA:=by rw [hwA];exact bal (Qm w _) _
 have HT:Hid (∀ w2,Below wA.heap.size wA w2→Calls Tryz.prog 50 #[.agg #[.bool false,.slice p (dgs c).length cap]] w2 fun r w'=>r=.returned (.string (txS c))∧Below w2.heap.size w2 w'):=fun w2 h2 =>
  Q97 ⟨_,rfl,hs0.later (Qd hBA h2)⟩ hlen
 have HC:Hid (∀ w2,Below wA.heap.size wA w2→(w2.cell? ⟨w.heap.size,0,none⟩=some (.bool n)∧w2.cell? ⟨w.heap.size,1,none⟩=some (.bool false)∧w2.cell? ⟨w.heap.size,2,none⟩=some (.slice p (dgs c).length cap)∧w2.cell? ⟨w.heap.size,3,none⟩=some (.int .i64 e))∧(w2.cell? ⟨w.heap.size+1,0,none⟩=some (.int .i64 0)∧w2.cell? ⟨w.heap.size+1,1,none⟩=some (.bool false)∧w2.cell? ⟨w.heap.size+1,2,none⟩=some (.int .i32 0)∧w2.cell? ⟨w.heap.size+1,3,none⟩=some (.string ⟨#[]⟩))∧(∀ i,w2.frozen? ⟨w.heap.size+1,i,none⟩=false)∧w2.heap[w.heap.size+1]?=some (.cells #[.int .i64 0,.bool false,.int .i32 0,.string ⟨#[]⟩] 26 (0,0))):=fun w2 h2=>by
  rw [hwA] at h2
  obtain ⟨x,y,z,hh⟩:=Q49 (w:=w) rfl rfl h2
  exact ⟨⟨x 0,x 1,x 2,x 3⟩,⟨y 0,y 1,y 2,y 3⟩,z,hh⟩
 have HSt:Hid (∀ (w2:World) (u0 u1 u2 u3:Value),(w2.cell? ⟨w.heap.size,0,none⟩=some (.bool n)∧w2.cell? ⟨w.heap.size,1,none⟩=some (.bool false)∧w2.cell? ⟨w.heap.size,2,none⟩=some (.slice p (dgs c).length cap)∧w2.cell? ⟨w.heap.size,3,none⟩=some (.int .i64 e))→(((((w2.setCell ⟨w.heap.size+1,0,none⟩ u0).setCell ⟨w.heap.size+1,1,none⟩ u1).setCell ⟨w.heap.size+1,2,none⟩ u2).setCell ⟨w.heap.size+1,3,none⟩ u3).cell? ⟨w.heap.size,0,none⟩=some (.bool n)∧((((w2.setCell ⟨w.heap.size+1,0,none⟩ u0).setCell ⟨w.heap.size+1,1,none⟩ u1).setCell ⟨w.heap.size+1,2,none⟩ u2).setCell ⟨w.heap.size+1,3,none⟩ u3).cell? ⟨w.heap.size,1,none⟩=some (.bool false)∧((((w2.setCell ⟨w.heap.size+1,0,none⟩ u0).setCell ⟨w.heap.size+1,1,none⟩ u1).setCell ⟨w.heap.size+1,2,none⟩ u2).setCell ⟨w.heap.size+1,3,none⟩ u3).cell? ⟨w.heap.size,2,none⟩=some (.slice p (dgs c).length cap)∧((((w2.setCell ⟨w.heap.size+1,0,none⟩ u0).setCell ⟨w.heap.size+1,1,none⟩ u1).setCell ⟨w.heap.size+1,2,none⟩ u2).setCell ⟨w.heap.size+1,3,none⟩ u3).cell? ⟨w.heap.size,3,none⟩=some (.int .i64 e))):=Lh (fun w2 u0 u1 u2 u3 ⟨a,b,c,d⟩ =>
  ⟨(Q4a (by omega) _ _ _ _ _).trans a,(Q4a (by omega) _ _ _ _ _).trans b,(Q4a (by omega) _ _ _ _ _).trans c,(Q4a (by omega) _ _ _ _ _).trans d⟩)
 have HFin:Hid (∀ w2,Below wA.heap.size wA w2→∀ u0 u1 u2 u3:Value,Below w.heap.size w ((((w2.setCell ⟨w.heap.size+1,0,none⟩ u0).setCell ⟨w.heap.size+1,1,none⟩ u1).setCell ⟨w.heap.size+1,2,none⟩ u2).setCell ⟨w.heap.size+1,3,none⟩ u3)):=Lh (fun w2 h2 u0 u1 u2 u3 =>
  ((((Qd hBA h2).setCell (by simp only;omega) _).setCell (by simp only;omega) _).setCell (by simp only;omega) _).setCell (by simp only;omega) _)
 have hci:IntKind.i32.wrap e=e:=IntWalk.i32_in _ (by omega)
 obtain ⟨c0,_,_⟩:=HC.out wA (Below.refl _ _)
 have c0':(wA.drew.cell? ⟨w.heap.size,0,none⟩=some (.bool n)∧wA.drew.cell? ⟨w.heap.size,1,none⟩=some (.bool false)∧wA.drew.cell? ⟨w.heap.size,2,none⟩=some (.slice p (dgs c).length cap)∧wA.drew.cell? ⟨w.heap.size,3,none⟩=some (.int .i64 e)):=c0
 generalize txS c=S at HT ⊢
 unfold DV
 clear hs0 hlen hBA
 go_enter Tryz.func20, Tryz.ntmps20
 go_wp2_with fail
 rw [← hwA]
 have HwA:=Lh hwA
 clear hwA
 go_region_held3 (fun x=>x.cell? ⟨w.heap.size,0,none⟩=some (.bool n)∧x.cell? ⟨w.heap.size,1,none⟩=some (.bool false)∧x.cell? ⟨w.heap.size,2,none⟩=some (.slice p (dgs c).length cap)∧x.cell? ⟨w.heap.size,3,none⟩=some (.int .i64 e)) (first | with_reducible exact c0 | with_reducible exact c0' | with_reducible exact c1 | with_reducible exact HSt.out _ _ _ _ _ c1) (first | (go_at_call 50;refine (HT.out _ (by exact (Below.refl _ _).drew)).mono ?_;rintro r w1 ⟨rfl,hB1⟩;have HB1:Hid (Below wA.heap.size wA w1):=Lh ((Below.refl _ _).drew.trans hB1);obtain ⟨c1,⟨y0,y1,y2,y3⟩,hz,hh⟩:=HC.out _ HB1.out;have z0:=hz 0;have z1:=hz 1;have z2:=hz 2;have z3:=hz 3;clear hB1 hz hh))
 have HF:=Lh (HFin.out _ HB1.out)
 clear c0 c0' c1
 go_wp2_with fail
 exact bodyPost_ret (v:=.agg #[.int .i64 0,.bool n,.int .i32 e,.string S]) (by simp [results,Tryz.results20,go_sem,Q0n y0 y1 y2 y3]) rfl ⟨rfl,HF.out _ _ _ _⟩
def RsV (f:Int)(n:Bool)(e:Int)(s:ByteArray)(k:Nat)(known val over:Bool):Value:=.agg #[.int .i64 f,.bool n,.int .i32 e,.string s,.int .u32 (k:Int),.bool known,.bool val,.bool over]
theorem QaP (k:Nat)(w:World):Calls Tryz.prog 72 #[.int .u32 (k:Int)] w fun r w'=>r=.returned (RsV 3 false 0 ⟨#[]⟩ k true false false)∧Below w.heap.size w w':=by
 have HB:=Lh (fun o=>Qm w o)
 unfold RsV
 go_enter Tryz.func72, Tryz.ntmps72
 go_wp2_with fail
 exact bodyPost_ret (v:=.agg #[.int .i64 3,.bool false,.int .i32 0,.string ⟨#[]⟩,.int .u32 (k:Int),.bool true,.bool false,.bool false]) (by simp [results,Tryz.results72,go_sem]) rfl ⟨rfl,HB.out _⟩
theorem QaE (n:Bool)(k:Nat)(w:World):Calls Tryz.prog 73 #[.bool n,.int .u32 (k:Int)] w fun r w'=>r=.returned (RsV 1 n 0 ⟨#[]⟩ k true false false)∧Below w.heap.size w w':=by
 have HB:=Lh (fun o=>Qm w o)
 unfold RsV
 go_enter Tryz.func73, Tryz.ntmps73
 go_wp2_with fail
 exact bodyPost_ret (v:=.agg #[.int .i64 1,.bool n,.int .i32 0,.string ⟨#[]⟩,.int .u32 (k:Int),.bool true,.bool false,.bool false]) (by simp [results,Tryz.results73,go_sem]) rfl ⟨rfl,HB.out _⟩
def CV (p mx mn tr md:Int):Value:=.agg #[.int .u32 p,.int .i32 mx,.int .i32 mn,.int .u32 tr,.int .i64 md]
def CtxOk (p mx mn md:Int):Prop:=p≤60∧0≤mx∧mx≤500∧mn≤0 ∧ -500≤mn∧0≤md∧md<8
def Says (P:Prop)(w:World)(e:Ending)(w':World):Prop:=∃ b:Bool,e=.returned (.bool b)∧(b=true ↔ P)∧Below w.heap.size w w'
theorem Q4M (p mx mn tr md:Int)(w:World):Calls Tryz.prog 15 #[CV p mx mn tr md] w (Says (CtxOk p mx mn md) w):=by
 have HB:=Lh (fun o=>Qm w o)
 unfold CV
 by_cases a1:p≤60
 ·have b1:decide (p≤60)=true:=decide_eq_true a1
  by_cases a2:0≤mx
  ·have b2:decide (0≤mx)=true:=decide_eq_true a2
   by_cases a3:mx≤500
   ·have b3:decide (mx≤500)=true:=decide_eq_true a3
    by_cases a4:mn≤0
    ·have b4:decide (mn≤0)=true:=decide_eq_true a4
     by_cases a5 : -500≤mn
     ·have b5:decide (-500≤mn)=true:=decide_eq_true a5
      by_cases a6:0≤md
      ·have b6:decide (0≤md)=true:=decide_eq_true a6
       by_cases a7:md<8
       ·have b7:decide (md<8)=true:=decide_eq_true a7
        have HR:Hid (CtxOk p mx mn md):=Lh ⟨a1,a2,a3,a4,a5,a6,a7⟩
        go_enter Tryz.func15, Tryz.ntmps15
        go_wp2_with fail
        go_ret
        exact ⟨true,rfl,⟨fun _=>HR.out,fun _=>rfl⟩,HB.out _⟩
       ·have b7:decide (md<8)=false:=decide_eq_false a7
        have HR:Hid (¬ CtxOk p mx mn md):=Lh (fun h=>a7 h.2.2.2.2.2.2)
        clear a7
        go_enter Tryz.func15, Tryz.ntmps15
        go_wp2_with fail
        go_ret
        exact ⟨false,rfl,⟨fun h=>(by cases h),fun h=>absurd h HR.out⟩,HB.out _⟩
      ·have b6:decide (0≤md)=false:=decide_eq_false a6
       have HR:Hid (¬ CtxOk p mx mn md):=Lh (fun h=>a6 h.2.2.2.2.2.1)
       clear a6
       go_enter Tryz.func15, Tryz.ntmps15
       go_wp2_with fail
       go_ret
       exact ⟨false,rfl,⟨fun h=>(by cases h),fun h=>absurd h HR.out⟩,HB.out _⟩
     ·have b5:decide (-500≤mn)=false:=decide_eq_false a5
      have HR:Hid (¬ CtxOk p mx mn md):=Lh (fun h=>a5 h.2.2.2.2.1)
      clear a5
      go_enter Tryz.func15, Tryz.ntmps15
      go_wp2_with fail
      go_ret
      exact ⟨false,rfl,⟨fun h=>(by cases h),fun h=>absurd h HR.out⟩,HB.out _⟩
    ·have b4:decide (mn≤0)=false:=decide_eq_false a4
     have HR:Hid (¬ CtxOk p mx mn md):=Lh (fun h=>a4 h.2.2.2.1)
     clear a4
     go_enter Tryz.func15, Tryz.ntmps15
     go_wp2_with fail
     go_ret
     exact ⟨false,rfl,⟨fun h=>(by cases h),fun h=>absurd h HR.out⟩,HB.out _⟩
   ·have b3:decide (mx≤500)=false:=decide_eq_false a3
    have HR:Hid (¬ CtxOk p mx mn md):=Lh (fun h=>a3 h.2.2.1)
    clear a3
    go_enter Tryz.func15, Tryz.ntmps15
    go_wp2_with fail
    go_ret
    exact ⟨false,rfl,⟨fun h=>(by cases h),fun h=>absurd h HR.out⟩,HB.out _⟩
  ·have b2:decide (0≤mx)=false:=decide_eq_false a2
   have HR:Hid (¬ CtxOk p mx mn md):=Lh (fun h=>a2 h.2.1)
   clear a2
   go_enter Tryz.func15, Tryz.ntmps15
   go_wp2_with fail
   go_ret
   exact ⟨false,rfl,⟨fun h=>(by cases h),fun h=>absurd h HR.out⟩,HB.out _⟩
 ·have b1:decide (p≤60)=false:=decide_eq_false a1
  have HR:Hid (¬ CtxOk p mx mn md):=Lh (fun h=>a1 h.1)
  clear a1
  go_enter Tryz.func15, Tryz.ntmps15
  go_wp2_with fail
  go_ret
  exact ⟨false,rfl,⟨fun h=>(by cases h),fun h=>absurd h HR.out⟩,HB.out _⟩
theorem Canon.zero {s:ByteArray}(h:s.toList=[48]):Canon s:=by
 rw [ByteArray.toList_eq] at h
 have hs:s.size=1:=by
  have:s.data.toList.length=s.size:=by simp
  rw [h] at this;simpa using this.symm
 have hd:s.data=#[48]:=Array.ext' (by rw [h])
 have e:s=⟨#[48]⟩:=by cases s;simp at hd;rw [hd]
 subst e
 refine ⟨fun k hk=>?_,by decide,fun h=>absurd h (by decide)⟩
 have:k=0:=by have:k<1:=hk;omega
 subst this
 show 48≤(48:UInt8).toNat∧(48:UInt8).toNat≤57
 decide
def ArOk (E f e:Int)(s:ByteArray):Prop:=if f=0 then (Canon s∧s.size≤40∧e≤E ∧ -E≤e) else (0<f∧f≤3∧e=0∧s.toList=[48])
theorem Q1w (E:Int)(hE:0≤E∧E≤1000)(f:Int)(n:Bool)(e:Int)(s:ByteArray)(he : -2147483648≤e∧e≤2147483647)(hs:s.size≤2147483647)(w:World):Calls Tryz.prog 16 #[DV f n e s,.int .i64 40,.int .i64 E] w (Says (ArOk E f e s) w):=by
 have HB:=Lh (fun o=>Qm w o)
 unfold DV
 obtain ⟨hE1,hE2⟩:=hE
 obtain ⟨he1,he2⟩:=he
 by_cases hf:f=0
 ·have HF0:=Lh hf
  subst hf
  have HR0:=Lh (fun w1=>Q6b s hs w1)
  have hci:IntKind.i64.wrap e=e:=IntWalk.i64_in _ (by omega)
  have hcE:IntKind.i64.wrap (-E) = -E:=IntWalk.i64_in _ (by omega)
  go_enter Tryz.func16, Tryz.ntmps16
  go_wp2_with fail
  refine (HR0.out _).mono ?_
  rintro r w3 ⟨v1,b,rfl,⟨⟨n1,p1,l1,c1,rfl,hR1⟩,hR2⟩,hB3⟩
  have hhx:=hB3.block w.heap.size (by simp)
  rw [gal] at hhx
  have x2:w3.cell? ⟨w.heap.size,2,none⟩=some (.int .i32 e):=by unfold World.cell?;rw [hhx];rfl
  have x3:w3.cell? ⟨w.heap.size,3,none⟩=some (.string s):=by unfold World.cell?;rw [hhx];rfl
  have hlt:w.heap.size<w3.heap.size:=(Array.getElem?_eq_some_iff.1 hhx).1
  replace HB:=Lh (fun o=>bal (Qd (Qm w _) hB3) o)
  have H1:=Lh hR1;have H2:=Lh hR2
  clear HR0 hhx hB3 hR1 hR2
  have HU:Hid (ArOk E 0 e s ↔ (Canon s∧s.size≤40∧e≤E ∧ -E≤e)):=Lh (by unfold ArOk;rw [if_pos rfl])
  cases b
  ·have HR:Hid (¬ ArOk E 0 e s):=Lh (fun h=>by have:=(H2.out (HU.out.1 h).1).1;cases this)
   go_wp2_with fail
   go_ret
   exact ⟨false,rfl,⟨fun h=>(by cases h),fun h=>absurd h HR.out⟩,HB.out _⟩
  ·cases n1
   ·have HCn:Hid (Canon s):=Lh (by rcases H1.out rfl with h | h;cases h;exact h)
    by_cases a1:s.size≤40
    ·have a1':(s.size:Int)≤40:=by omega
     have b1:decide ((s.size:Int)≤40)=true:=decide_eq_true a1'
     by_cases a2:e≤E
     ·have b2:decide (e≤E)=true:=decide_eq_true a2
      by_cases a3 : -E≤e
      ·have b3:decide (-E≤e)=true:=decide_eq_true a3
       have HR:Hid (ArOk E 0 e s):=Lh (HU.out.2 ⟨HCn.out,a1,a2,a3⟩)
       go_wp2_with fail
       go_ret
       exact ⟨true,rfl,⟨fun _=>HR.out,fun _=>rfl⟩,HB.out _⟩
      ·have b3:decide (-E≤e)=false:=decide_eq_false a3
       have HR:Hid (¬ ArOk E 0 e s):=Lh (fun h=>a3 (HU.out.1 h).2.2.2)
       clear a3
       go_wp2_with fail
       go_ret
       exact ⟨false,rfl,⟨fun h=>(by cases h),fun h=>absurd h HR.out⟩,HB.out _⟩
     ·have b2:decide (e≤E)=false:=decide_eq_false a2
      have HR:Hid (¬ ArOk E 0 e s):=Lh (fun h=>a2 (HU.out.1 h).2.2.1)
      clear a2
      go_wp2_with fail
      go_ret
      exact ⟨false,rfl,⟨fun h=>(by cases h),fun h=>absurd h HR.out⟩,HB.out _⟩
    ·have b1:decide ((s.size:Int)≤40)=false:=decide_eq_false (by omega)
     have HR:Hid (¬ ArOk E 0 e s):=Lh (fun h=>a1 (HU.out.1 h).2.1)
     clear a1
     go_wp2_with fail
     go_ret
     exact ⟨false,rfl,⟨fun h=>(by cases h),fun h=>absurd h HR.out⟩,HB.out _⟩
   ·have HR:Hid (¬ ArOk E 0 e s):=Lh (fun h=>by
     obtain ⟨s1,h1,_⟩:=(H2.out (HU.out.1 h).1).2
     have h0:=congrArg (fun v=>match v with | Value.agg cs=>cs.toList | _=>[]) h1
     simp at h0)
    go_wp2_with fail
    go_ret
    exact ⟨false,rfl,⟨fun h=>(by cases h),fun h=>absurd h HR.out⟩,HB.out _⟩
 ·have HF0:=Lh hf
  have b0:(f != 0)=true:=by simpa using hf
  clear hf
  by_cases a1:0<f
  ·have b1:decide (0<f)=true:=decide_eq_true a1
   by_cases a2:f≤3
   ·have b2:decide (f≤3)=true:=decide_eq_true a2
    by_cases a3:e=0
    ·have b3:(e == 0)=true:=by simp [a3]
     have HE0:=Lh a3
     clear a3
     by_cases a4:s.toList=[48]
     ·have b4:(s.toList == [48])=true:=by simp [a4]
      have HE4:=Lh a4
      clear a4
      have HR:Hid (ArOk E f e s):=Lh (by unfold ArOk;rw [if_neg HF0.out];exact ⟨a1,a2,HE0.out,HE4.out⟩)
      go_enter Tryz.func16, Tryz.ntmps16
      go_wp2_with fail
      go_ret
      exact ⟨true,rfl,⟨fun _=>HR.out,fun _=>rfl⟩,HB.out _⟩
     ·have b4:(s.toList == [48])=false:=by simpa using a4
      have HR:Hid (¬ ArOk E f e s):=Lh (fun h=>by unfold ArOk at h;rw [if_neg HF0.out] at h;exact a4 h.2.2.2)
      clear a4
      go_enter Tryz.func16, Tryz.ntmps16
      go_wp2_with fail
      go_ret
      exact ⟨false,rfl,⟨fun h=>(by cases h),fun h=>absurd h HR.out⟩,HB.out _⟩
    ·have b3:(e == 0)=false:=by simpa using a3
     have HR:Hid (¬ ArOk E f e s):=Lh (fun h=>by unfold ArOk at h;rw [if_neg HF0.out] at h;exact a3 h.2.2.1)
     clear a3
     go_enter Tryz.func16, Tryz.ntmps16
     go_wp2_with fail
     go_ret
     exact ⟨false,rfl,⟨fun h=>(by cases h),fun h=>absurd h HR.out⟩,HB.out _⟩
   ·have b2:decide (f≤3)=false:=decide_eq_false a2
    have HR:Hid (¬ ArOk E f e s):=Lh (fun h=>by unfold ArOk at h;rw [if_neg HF0.out] at h;exact a2 h.2.1)
    clear a2
    go_enter Tryz.func16, Tryz.ntmps16
    go_wp2_with fail
    go_ret
    exact ⟨false,rfl,⟨fun h=>(by cases h),fun h=>absurd h HR.out⟩,HB.out _⟩
  ·have b1:decide (0<f)=false:=decide_eq_false a1
   have HR:Hid (¬ ArOk E f e s):=Lh (fun h=>by unfold ArOk at h;rw [if_neg HF0.out] at h;exact a1 h.1)
   clear a1
   go_enter Tryz.func16, Tryz.ntmps16
   go_wp2_with fail
   go_ret
   exact ⟨false,rfl,⟨fun h=>(by cases h),fun h=>absurd h HR.out⟩,HB.out _⟩
end Go.Proofs.YtpebcmfpehdafaaGreatDoor
