/- a part of the proof -/
import Derived.Test.YtpebcmfpehdafaaGreatDoorZ1
set_option linter.all false
set_option maxRecDepth 100000
set_option maxHeartbeats 16000000
namespace Go.Proofs.YtpebcmfpehdafaaGreatDoor
open Go Go.RowKit
inductive Ob where
 | raw (o:Obj)
 | big (v:Int)
 | dec (f:Int) (n:Bool) (e:Int) (c:Int)
def Sg:Type:=Nat→Option Ob
def upd (σ:Sg)(b:Nat)(o:Ob):Sg:=fun k=>if k=b then some o else σ k
theorem Q1 (σ:Sg)(b:Nat)(o:Ob):upd σ b o b=some o:=by simp [upd]
theorem Qa (σ:Sg){b k:Nat}(o:Ob)(h:k≠b):upd σ b o k=σ k:=by simp [upd,h]
def setN (σ:Sg)(b:Nat)(v:Int):Sg:=fun k=>if k=b then (match σ b with | some (.big _)=>some (.big v) | some (.dec f n e _)=>some (.dec f n e v) | x=>x) else σ k
theorem Qh (σ:Sg){b k:Nat}(v:Int)(h:k≠b):setN σ b v k=σ k:=by simp [setN,h]
theorem QQ {σ:Sg}{b:Nat}{u:Int}(h:σ b=some (.big u))(v:Int):setN σ b v b=some (.big v):=by simp [setN,h]
theorem Q07 {σ:Sg}{b:Nat}{f:Int}{n:Bool}{e u:Int}(h:σ b=some (.dec f n e u))(v:Int):setN σ b v b=some (.dec f n e v):=by simp [setN,h]
def Num (σ:Sg)(b o:Nat)(v:Int):Prop:=(σ b=some (.big v)∧o=0)∨∃ f n e,σ b=some (.dec f n e v)∧o=3
theorem Num.big {σ:Sg}{b:Nat}{v:Int}(h:σ b=some (.big v)):Num σ b 0 v:=.inl ⟨h,rfl⟩
theorem Num.dec {σ:Sg}{b:Nat}{f:Int}{n:Bool}{e v:Int}(h:σ b=some (.dec f n e v)):Num σ b 3 v:=.inr ⟨f,n,e,h,rfl⟩
theorem Num.some {σ:Sg}{b o:Nat}{v:Int}(h:Num σ b o v):∃ ob,σ b=Option.some ob:=by
 rcases h with ⟨h,_⟩ | ⟨f,n,e,h,_⟩ <;> exact ⟨_,h⟩
theorem Num.ne_none {σ:Sg}{b o:Nat}{v:Int}(h:Num σ b o v):σ b≠none:=by
 rcases h with ⟨h,_⟩ | ⟨f,n,e,h,_⟩ <;> rw [h] <;> simp
theorem Num.uniq {σ:Sg}{b o o':Nat}{v v':Int}(h:Num σ b o v)(k:Num σ b o' v'):o=o'∧v=v':=by
 rcases h with ⟨h,rfl⟩ | ⟨f,n,e,h,rfl⟩ <;> rcases k with ⟨k,rfl⟩ | ⟨f',n',e',k,rfl⟩ <;> rw [h] at k <;> cases k <;> exact ⟨rfl,rfl⟩
theorem Num.set {σ:Sg}{b o:Nat}{u:Int}(h:Num σ b o u)(v:Int):Num (setN σ b v) b o v:=by
 rcases h with ⟨h,rfl⟩ | ⟨f,n,e,h,rfl⟩
 ·exact .inl ⟨QQ h v,rfl⟩
 ·exact .inr ⟨f,n,e,Q07 h v,rfl⟩
theorem Num.upd_ne {σ:Sg}{b o b':Nat}{u:Int}{x:Ob}(h:Num σ b o u)(hb:b≠b'):Num (upd σ b' x) b o u:=by
 unfold Num;rw [Go.Proofs.YtpebcmfpehdafaaGreatDoor.Qa σ x hb];exact h
def toA (a:Option Nat):Option Addr:=a.map fun k=>⟨k,0,none⟩
def IntC (w:World)(b o:Nat)(a:Option Nat)(v:Int):Prop :=
 ∃ len cap,w.cell? ⟨b,o,none⟩=some (.bool (decide (v<0)))∧w.cell? ⟨b,o+1,none⟩=some (.slice (toA a) len cap)∧Nt w (toA a) len cap v.natAbs
def Holds (w:World)(b:Nat):Ob→Option Nat→Prop
 | .raw o,a=>w.heap[b]?=some o∧a=none
 | .big v,a=>(∃ T,Row w b 2 T)∧IntC w b 0 a v
 | .dec f n e c,a=>(∃ T,Row w b 5 T)∧w.cell? ⟨b,0,none⟩=some (.int .i8 f)∧w.cell? ⟨b,1,none⟩=some (.bool n)∧w.cell? ⟨b,2,none⟩=some (.int .i32 e)∧IntC w b 3 a c
theorem Nt.congr {w w':World}{p:Option Addr}{len cap x:Nat}(h:Nt w p len cap x)(hp:∀ a,p=some a→w'.heap[a.block]?=w.heap[a.block]?):Nt w' p len cap x:=by
 rcases h.cases with ⟨rfl,rfl,rfl,rfl⟩ | ⟨b,rfl,h1,h2,h3,h4,h5,h6,h7⟩
 ·exact ⟨⟨rfl,rfl⟩,rfl⟩
 ·have hb:=hp _ rfl
  have hc:∀ o,w'.cell? ⟨b,o,none⟩=w.cell? ⟨b,o,none⟩:=fun o=>World.cell?_of_block (w:=w) hb
  refine Nt.mk h1 h2 h3 ?_ (h5.congr fun i _=>hc _) ((Q05 len fun i _=>hc _).trans h6) (fun h0=>by rw [QN (hc _)];exact h7 h0)
  unfold Row hd at h4 ⊢
  rw [hb];exact h4
theorem Row.congr {w w':World}{b N:Nat}{T:TypeId}(h:Row w b N T)(hb:w'.heap[b]?=w.heap[b]?):Row w' b N T:=by
 unfold Row hd at h ⊢;rw [hb];exact h
theorem IntC.congr {w w':World}{b o:Nat}{a:Option Nat}{v:Int}(h:IntC w b o a v)(hb:w'.heap[b]?=w.heap[b]?)(ha:∀ k,a=some k→w'.heap[k]?=w.heap[k]?):IntC w' b o a v:=by
 obtain ⟨len,cap,h1,h2,h3⟩:=h
 refine ⟨len,cap,by rw [World.cell?_of_block (w:=w) (w':=w') hb];exact h1,by rw [World.cell?_of_block (w:=w) (w':=w') hb];exact h2,h3.congr ?_⟩
 intro ad had
 cases a with
 | none=>cases had
 | some k=>cases had;exact ha k rfl
theorem Holds.congr {w w':World}{b:Nat}{ob:Ob}{a:Option Nat}(h:Holds w b ob a)(hb:w'.heap[b]?=w.heap[b]?)(ha:∀ k,a=some k→w'.heap[k]?=w.heap[k]?):Holds w' b ob a:=by
 have hc:∀ o,w'.cell? ⟨b,o,none⟩=w.cell? ⟨b,o,none⟩:=fun o=>World.cell?_of_block (w:=w) hb
 cases ob with
 | raw o=>exact ⟨hb.trans h.1,h.2⟩
 | big v=>obtain ⟨⟨T,hT⟩,h2⟩:=h;exact ⟨⟨T,hT.congr hb⟩,h2.congr hb ha⟩
 | dec f n e c=>obtain ⟨⟨T,hT⟩,h2,h3,h4,h5⟩:=h;exact ⟨⟨T,hT.congr hb⟩,by rw [hc];exact h2,by rw [hc];exact h3,by rw [hc];exact h4,h5.congr hb ha⟩
structure StA (W:World) (σ:Sg) (ab:Nat→Option Nat) (w:World):Prop where
 below:Below W.heap.size W w
 dom:∀ b,σ b=none→ab b=none
 holds:∀ b ob,σ b=some ob→W.heap.size≤b∧b<w.heap.size∧Holds w b ob (ab b)
 own:∀ b k,ab b=some k→W.heap.size≤k∧k<w.heap.size∧σ k=none
 inj:∀ b b' k,ab b=some k→ab b'=some k→b=b'
def St (W:World)(σ:Sg)(w:World):Prop:=∃ ab,StA W σ ab w
theorem St.below {W:World}{σ:Sg}{w:World}(h:St W σ w):Below W.heap.size W w:=h.elim fun _ k=>k.below
theorem St.ge {W:World}{σ:Sg}{w:World}(h:St W σ w){b:Nat}{ob:Ob}(hb:σ b=some ob):W.heap.size≤b:=h.elim fun _ k=>(k.holds b ob hb).1
theorem St.lt {W:World}{σ:Sg}{w:World}(h:St W σ w){b:Nat}{ob:Ob}(hb:σ b=some ob):b<w.heap.size:=h.elim fun _ k=>(k.holds b ob hb).2.1
theorem St.ne_new {W:World}{σ:Sg}{w:World}(h:St W σ w){b:Nat}{ob:Ob}(hb:σ b=some ob):b≠w.heap.size:=by have:=h.lt hb;omega
theorem St.none_new {W:World}{σ:Sg}{w:World}(h:St W σ w):σ w.heap.size=none:=by
 cases hc:σ w.heap.size with
 | none=>rfl
 | some ob=>have:=h.lt hc;omega
theorem St.mono {W:World}{σ σ':Sg}{w:World}(h:St W σ w)(hs:∀ b ob,σ' b=some ob→σ b=some ob):St W σ' w:=by
 obtain ⟨ab,h⟩:=h
 refine ⟨fun b=>match σ' b with | none=>none | some _=>ab b,h.below,?_,?_,?_,?_⟩
 ·intro b hb;simp only [hb]
 ·intro b ob hb;simp only [hb];exact h.holds b ob (hs b ob hb)
 ·intro b k hk
  cases hb:σ' b with
  | none=>simp only [hb] at hk;cases hk
  | some ob =>
   simp only [hb] at hk
   obtain ⟨h1,h2,h3⟩:=h.own b k hk
   refine ⟨h1,h2,?_⟩
   cases hc:σ' k with
   | none=>rfl
   | some o=>rw [hs k o hc] at h3;cases h3
 ·intro b b' k hk hk'
  cases hb:σ' b with
  | none=>simp only [hb] at hk;cases hk
  | some ob =>
   cases hb':σ' b' with
   | none=>simp only [hb'] at hk';cases hk'
   | some ob'=>simp only [hb] at hk;simp only [hb'] at hk';exact h.inj b b' k hk hk'
theorem St.ext {W:World}{σ σ':Sg}{w:World}(h:St W σ w)(hs:∀ b,σ' b=σ b):St W σ' w:=h.mono fun b _ hb=>by rw [← hs b];exact hb
theorem St.same {W:World}{σ:Sg}{w w':World}(h:St W σ w)(ho:w'.os=w.os)(ht:w'.tape=w.tape)(hp:w'.output=w.output)(hh:w'.heap=w.heap):St W σ w':=by
 obtain ⟨ab,h⟩:=h
 refine ⟨ab,⟨ho.trans h.below.os,ht.trans h.below.tape,hp.trans h.below.output,by rw [hh];exact h.below.size,fun k hk=>by rw [hh];exact h.below.block k hk⟩,h.dom,?_,?_,h.inj⟩
 ·intro b ob hb;obtain ⟨h1,h2,h3⟩:=h.holds b ob hb;exact ⟨h1,by rw [hh];exact h2,h3.congr (by rw [hh]) (fun _ _=>by rw [hh])⟩
 ·intro b k hk;rw [hh];exact h.own b k hk
theorem St.drew {W:World}{σ:Sg}{w:World}(h:St W σ w):St W σ w.drew:=h.same rfl rfl rfl rfl
theorem St.drewN {W:World}{σ:Sg}{w:World}(h:St W σ w)(n:Nat):St W σ (w.drewN n):=h.same rfl rfl rfl rfl
theorem St.frame {W:World}{σ:Sg}{w w':World}(h:St W σ w)(S:Nat→Prop)(hf:Fr S w w')(hS:∀ k,S k→False):St W σ w':=by
 obtain ⟨ab,h⟩:=h
 refine ⟨ab,h.below.trans ⟨hf.os,hf.tape,hf.output,hf.size,fun k hk=>hf.block k (by have:=h.below.size;omega) (fun e=>hS k e)⟩,h.dom,?_,?_,h.inj⟩
 ·intro b ob hb
  obtain ⟨h1,h2,h3⟩:=h.holds b ob hb
  exact ⟨h1,by have:=hf.size;omega,h3.congr (hf.block b h2 (fun e=>hS _ e)) (fun k hk=>hf.block k (h.own b k hk).2.1 (fun e=>hS _ e))⟩
 ·intro b k hk;obtain ⟨h1,h2,h3⟩:=h.own b k hk;exact ⟨h1,by have:=hf.size;omega,h3⟩
theorem St.alloc_ob {W:World}{σ:Sg}{w:World}(h:St W σ w)(o:Obj)(ob:Ob)(ho:Holds (w.alloc o) w.heap.size ob none):St W (upd σ w.heap.size ob) (w.alloc o):=by
 have hn:=h.none_new
 obtain ⟨ab,h⟩:=h
 have hsz:(w.alloc o).heap.size=w.heap.size+1:=by simp
 have hbs:=h.below.size
 refine ⟨ab,h.below.trans ⟨rfl,rfl,rfl,by omega,fun k hk=>Below.heap_alloc _ _ _ (by omega)⟩,?_,?_,?_,h.inj⟩
 ·intro b hb
  by_cases e:b=w.heap.size
  ·subst e;rw [Q1] at hb;cases hb
  ·rw [Qa σ _ e] at hb;exact h.dom b hb
 ·intro b x hb
  by_cases e:b=w.heap.size
  ·subst e;rw [Q1] at hb;cases hb
   exact ⟨hbs,by omega,by rw [h.dom _ hn];exact ho⟩
  ·rw [Qa σ _ e] at hb
   obtain ⟨h1,h2,h3⟩:=h.holds b x hb
   exact ⟨h1,by omega,h3.congr (Below.heap_alloc _ _ _ h2) (fun k hk=>Below.heap_alloc _ _ _ (h.own b k hk).2.1)⟩
 ·intro b k hk
  obtain ⟨h1,h2,h3⟩:=h.own b k hk
  exact ⟨h1,by omega,by rw [Qa σ _ (by omega)];exact h3⟩
theorem Q0c (W:World)(o:Obj):(W.alloc o).heap[W.heap.size]?=some o:=by show (W.heap.push o)[W.heap.size]?=_;simp
theorem Qk (w:World)(C:Array Value)(T:TypeId)(m:Nat × Nat)(i:Nat):(w.alloc (.cells C T m)).cell? ⟨w.heap.size,i,none⟩=C[i]?:=by
 unfold World.cell?;rw [Q0c];simp
theorem St.alloc {W:World}{σ:Sg}{w:World}(h:St W σ w)(o:Obj):St W (upd σ w.heap.size (.raw o)) (w.alloc o):=h.alloc_ob o _ ⟨Q0c w o,rfl⟩
theorem St.alloc_any {W:World}{σ:Sg}{w:World}(h:St W σ w)(o:Obj):St W σ (w.alloc o) :=
 (h.alloc o).mono fun b ob hb=>by rw [Qa σ _ (h.ne_new hb)];exact hb
theorem St.alloc_big {W:World}{σ:Sg}{w:World}(h:St W σ w)(T:TypeId):St W (upd σ w.heap.size (.big 0)) (w.alloc (.cells #[.bool false,.slice none 0 0] T)) :=
 h.alloc_ob _ _ ⟨⟨T,Row.of_block (Q0c _ _)⟩,0,0,by rw [Qk];rfl,by rw [Qk];rfl,⟨rfl,rfl⟩,rfl⟩
theorem St.alloc_dec {W:World}{σ:Sg}{w:World}(h:St W σ w)(T:TypeId)(f e:Int)(n:Bool):St W (upd σ w.heap.size (.dec f n e 0)) (w.alloc (.cells #[.int .i8 f,.bool n,.int .i32 e,.bool false,.slice none 0 0] T)) :=
 h.alloc_ob _ _ ⟨⟨T,Row.of_block (Q0c _ _)⟩,by rw [Qk];rfl,by rw [Qk];rfl,by rw [Qk];rfl,0,0,by rw [Qk];rfl,by rw [Qk];rfl,⟨rfl,rfl⟩,rfl⟩
theorem St.dec {W:World}{σ:Sg}{w:World}(h:St W σ w){b:Nat}{f:Int}{n:Bool}{e c:Int}(hb:σ b=some (.dec f n e c)) :
  w.cell? ⟨b,0,none⟩=some (.int .i8 f)∧w.cell? ⟨b,1,none⟩=some (.bool n)∧w.cell? ⟨b,2,none⟩=some (.int .i32 e)∧w.frozen? ⟨b,0,none⟩=false∧w.frozen? ⟨b,1,none⟩=false∧w.frozen? ⟨b,2,none⟩=false:=by
 obtain ⟨ab,h⟩:=h
 obtain ⟨_,_,⟨T,hT⟩,h1,h2,h3,_⟩:=h.holds b _ hb
 exact ⟨h1,h2,h3,hT.free _,hT.free _,hT.free _⟩
theorem St.raw {W:World}{σ:Sg}{w:World}(h:St W σ w){b:Nat}{o:Obj}(hb:σ b=some (.raw o)):w.heap[b]?=some o:=by
 obtain ⟨ab,h⟩:=h
 exact (h.holds b _ hb).2.2.1
theorem St.num {W:World}{σ:Sg}{w:World}(h:St W σ w){b o:Nat}{v:Int}(hb:Num σ b o v) :
  ∃ p len cap,w.cell? ⟨b,o,none⟩=some (.bool (decide (v<0)))∧w.cell? ⟨b,o+1,none⟩=some (.slice p len cap)∧Nt w p len cap v.natAbs∧w.frozen? ⟨b,o,none⟩=false∧w.frozen? ⟨b,o+1,none⟩=false:=by
 obtain ⟨ab,h⟩:=h
 rcases hb with ⟨hb,rfl⟩ | ⟨f,n,e,hb,rfl⟩
 ·obtain ⟨_,_,⟨T,hT⟩,len,cap,h1,h2,h3⟩:=h.holds b _ hb
  exact ⟨_,len,cap,h1,h2,h3,hT.free _,hT.free _⟩
 ·obtain ⟨_,_,⟨T,hT⟩,_,_,_,len,cap,h1,h2,h3⟩:=h.holds b _ hb
  exact ⟨_,len,cap,h1,h2,h3,hT.free _,hT.free _⟩
theorem StA.intC {W:World}{σ:Sg}{ab:Nat→Option Nat}{w:World}(h:StA W σ ab w){b o:Nat}{v:Int}(hb:Num σ b o v):IntC w b o (ab b) v∧b<w.heap.size:=by
 rcases hb with ⟨hb,rfl⟩ | ⟨f,n,e,hb,rfl⟩
 ·exact ⟨(h.holds b _ hb).2.2.2,(h.holds b _ hb).2.1⟩
 ·exact ⟨(h.holds b _ hb).2.2.2.2.2.2,(h.holds b _ hb).2.1⟩
theorem StA.turn {W:World}{σ:Sg}{ab:Nat→Option Nat}{w w':World}(h:StA W σ ab w)(bz:Nat)(ob:Ob)(a':Option Nat)(hz:σ bz≠none)(hf:Fr (fun k=>k=bz∨ab bz=some k) w w')(ho:Holds w' bz ob a')
  (ha:∀ k,a'=some k→k<w'.heap.size∧(ab bz=some k∨w.heap.size≤k)):St W (upd σ bz ob) w':=by
 have hzs:∃ oz,σ bz=some oz:=by cases hc:σ bz with | none=>exact absurd hc hz | some x=>exact ⟨x,rfl⟩
 obtain ⟨oz,hzs⟩:=hzs
 obtain ⟨g1,g2,g3⟩:=h.holds bz oz hzs
 have hsz:=hf.size
 have hbs:=h.below.size
 refine ⟨fun k=>if k=bz then a' else ab k,h.below.trans ⟨hf.os,hf.tape,hf.output,hsz,?_⟩,?_,?_,?_,?_⟩
 ·intro k hk
  refine hf.block k (by omega) ?_
  rintro (e | e)
  ·omega
  ·have:=(h.own bz k e).1;omega
 ·intro b hb
  by_cases e:b=bz
  ·subst e;rw [Q1] at hb;cases hb
  ·rw [Qa σ _ e] at hb;simp only [if_neg e];exact h.dom b hb
 ·intro b x hb
  by_cases e:b=bz
  ·subst e;rw [Q1] at hb;cases hb
   simp only [if_true]
   exact ⟨g1,by omega,ho⟩
  ·rw [Qa σ _ e] at hb
   simp only [if_neg e]
   obtain ⟨h1,h2,h3⟩:=h.holds b x hb
   refine ⟨h1,by omega,h3.congr (hf.block b h2 ?_) (fun k hk=>hf.block k (h.own b k hk).2.1 ?_)⟩
   ·rintro (e' | e')
    ·exact e e'
    ·have:=(h.own bz b e').2.2;rw [hb] at this;cases this
   ·rintro (e' | e')
    ·have:=(h.own b k hk).2.2;rw [e',hzs] at this;cases this
    ·exact e (h.inj b bz k hk e')
 ·intro b k hk
  by_cases e:b=bz
  ·subst e
   simp only [if_true] at hk
   obtain ⟨h1,h2⟩:=ha k hk
   rcases h2 with h2 | h2
   ·obtain ⟨q1,q2,q3⟩:=h.own b k h2
    refine ⟨q1,h1,?_⟩
    rw [Qa σ _ (by rintro rfl;rw [hzs] at q3;cases q3)];exact q3
   ·refine ⟨by omega,h1,?_⟩
    rw [Qa σ _ (by omega)]
    cases hc:σ k with
    | none=>rfl
    | some x=>have:=(h.holds k x hc).2.1;omega
  ·simp only [if_neg e] at hk
   obtain ⟨q1,q2,q3⟩:=h.own b k hk
   refine ⟨q1,by omega,?_⟩
   rw [Qa σ _ (by rintro rfl;rw [hzs] at q3;cases q3)];exact q3
 ·intro b b' k hk hk'
  by_cases e:b=bz
  ·by_cases e':b'=bz
   ·rw [e,e']
   ·simp only [if_pos e] at hk;simp only [if_neg e'] at hk'
    rcases (ha k hk).2 with h2 | h2
    ·exact absurd (h.inj b' bz k hk' h2) e'
    ·have:=(h.own b' k hk').2.1;omega
  ·by_cases e':b'=bz
   ·simp only [if_neg e] at hk;simp only [if_pos e'] at hk'
    rcases (ha k hk').2 with h2 | h2
    ·exact absurd (h.inj b bz k hk h2) e
    ·have:=(h.own b k hk).2.1;omega
   ·simp only [if_neg e] at hk;simp only [if_neg e'] at hk'
    exact h.inj b b' k hk hk'
theorem Q0r {σ:Sg}{b:Nat}{u:Int}(h:σ b=some (.big u))(v:Int):∀ k,setN σ b v k=upd σ b (.big v) k:=by
 intro k
 by_cases e:k=b
 ·subst e;rw [QQ h,Q1]
 ·rw [Qh σ v e,Qa σ _ e]
theorem Q0s {σ:Sg}{b:Nat}{f:Int}{n:Bool}{e u:Int}(h:σ b=some (.dec f n e u))(v:Int):∀ k,setN σ b v k=upd σ b (.dec f n e v) k:=by
 intro k
 by_cases e:k=b
 ·subst e;rw [Q07 h,Q1]
 ·rw [Qh σ v e,Qa σ _ e]
theorem Q0I {w w':World}{S:Nat→Prop}(h:Fr S w w'){b o:Nat}(hb:S b)(v:Value):Fr S w (w'.setCell ⟨b,o,none⟩ v) :=
 h.trans ((Chg.set w' b o v).fr (fun _=>hb))
theorem St.put {W:World}{σ:Sg}{w:World}{bz oz:Nat}{vz:Int}(h:St W σ w)(hz:Num σ bz oz vz) :
  ∃ zp zl zc,w.cell? ⟨bz,oz+1,none⟩=some (.slice zp zl zc)∧Nt w zp zl zc vz.natAbs∧(∀ a,zp=some a→W.heap.size≤a.block)∧w.frozen? ⟨bz,oz,none⟩=false∧w.frozen? ⟨bz,oz+1,none⟩=false ∧
   (∀ bx ox vx,Num σ bx ox vx→∀ xp xl xc,w.cell? ⟨bx,ox+1,none⟩=some (.slice xp xl xc)→(bx=bz∧xp=zp)∨(bx≠bz∧(∀ a a',xp=some a→zp=some a'→a.block≠a'.block))) ∧
   ∀ x p len cap w1 v,NatAt w zp x p len cap w1→x=Int.natAbs v →
    (∀ b ob,σ b=some ob→∀ o,w1.cell? ⟨b,o,none⟩=w.cell? ⟨b,o,none⟩∧w1.frozen? ⟨b,o,none⟩=w.frozen? ⟨b,o,none⟩) ∧
    St W (setN σ bz v) ((w1.setCell ⟨bz,oz+1,none⟩ (.slice p len cap)).setCell ⟨bz,oz,none⟩ (.bool (decide (v<0)))):=by
 obtain ⟨ab,h⟩:=h
 obtain ⟨⟨zl,zc,h1,h2,h3⟩,hlt⟩:=h.intC hz
 have hfz:∀ o,w.frozen? ⟨bz,o,none⟩=false:=by
  intro o
  rcases hz with ⟨hb,rfl⟩ | ⟨f,n,e,hb,rfl⟩
  ·obtain ⟨_,_,⟨T,hT⟩,_⟩:=h.holds bz _ hb;exact hT.free _
  ·obtain ⟨_,_,⟨T,hT⟩,_⟩:=h.holds bz _ hb;exact hT.free _
 refine ⟨_,zl,zc,h2,h3,?_,hfz _,hfz _,?_,?_⟩
 ·intro a ha
  cases haz:ab bz with
  | none=>rw [haz] at ha;cases ha
  | some k=>rw [haz] at ha;cases ha;exact (h.own _ _ haz).1
 ·intro bx ox vx hx xp xl xc hxc
  obtain ⟨⟨xl',xc',k1,k2,k3⟩,_⟩:=h.intC hx
  rw [k2] at hxc
  cases hxc
  by_cases e:bx=bz
  ·subst e;exact .inl ⟨rfl,rfl⟩
  ·refine .inr ⟨e,?_⟩
   intro a a' ha ha' hne
   cases hax:ab bx with
   | none=>rw [hax] at ha;cases ha
   | some k =>
    cases haz:ab bz with
    | none=>rw [haz] at ha';cases ha'
    | some k' =>
     rw [hax] at ha;rw [haz] at ha';cases ha;cases ha'
     simp only at hne
     subst hne
     exact e (h.inj _ _ _ hax haz)
 ·intro x p len cap w1 v hN hx
  obtain ⟨n1,n2,n3⟩:=hN
  have hnz:∀ k,(∃ a,toA (ab bz)=some a∧a.block=k)→ab bz=some k:=by
   rintro k ⟨a,ha,rfl⟩
   cases haz:ab bz with
   | none=>rw [haz] at ha;cases ha
   | some k'=>rw [haz] at ha;cases ha;rfl
  have hown:∀ b ob,σ b=some ob→¬ (∃ a,toA (ab bz)=some a∧a.block=b):=by
   intro b ob hb e
   have:=(h.own bz b (hnz b e)).2.2
   rw [hb] at this;cases this
  obtain ⟨oz',hzo⟩:∃ oz',σ bz=some oz':=by cases hc:σ bz with | none=>exact absurd hc hz.ne_none | some x=>exact ⟨x,rfl⟩
  have hbz:=n3.block bz hlt (hown bz oz' hzo)
  have hcz:∀ o,w1.cell? ⟨bz,o,none⟩=w.cell? ⟨bz,o,none⟩:=fun o=>World.cell?_of_block (w:=w) hbz
  refine ⟨fun b ob hb o=>?_,?_⟩
  ·have hbl:=n3.block b (h.holds b ob hb).2.1 (hown b ob hb)
   exact ⟨World.cell?_of_block (w:=w) hbl,World.frozen?_of_block (w:=w) hbl⟩
  ·
   obtain ⟨a',ha'⟩:∃ a',p=toA a':=by
    rcases n2 with e | ⟨b,e,_⟩ | e
    ·exact ⟨ab bz,e⟩
    ·exact ⟨some b,e⟩
    ·exact ⟨none,e⟩
   subst ha'
   have hfr:Fr (fun k=>k=bz∨ab bz=some k) w ((w1.setCell ⟨bz,oz+1,none⟩ (.slice (toA a') len cap)).setCell ⟨bz,oz,none⟩ (.bool (decide (v<0)))) :=
    Q0I (Q0I (n3.mono (fun k _ e=>.inr (hnz k e))) (.inl rfl) _) (.inl rfl) _
   have hak:∀ k,a'=some k→k<w1.heap.size∧(ab bz=some k∨w.heap.size≤k)∧k≠bz:=by
    intro k hk
    subst hk
    have hl:k<w1.heap.size:=n1.1.2.2.2.2.2.lt
    refine ⟨hl,?_⟩
    rcases n2 with e | ⟨b,e,hb⟩ | e
    ·have h4:ab bz=some k:=by
      cases haz:ab bz with
      | none=>rw [haz] at e;cases e
      | some k'=>rw [haz] at e;cases e;rfl
     refine ⟨.inl h4,?_⟩
     rintro rfl
     have:=(h.own _ _ h4).2.2
     rw [hzo] at this;cases this
    ·cases e;exact ⟨.inr hb,by omega⟩
    ·cases e
   have hI:IntC ((w1.setCell ⟨bz,oz+1,none⟩ (.slice (toA a') len cap)).setCell ⟨bz,oz,none⟩ (.bool (decide (v<0)))) bz oz a' v:=by
    refine ⟨len,cap,?_,?_,?_⟩
    ·refine World.cell?_setCell_same _ _ _ (?_:_=some (.bool (decide (vz<0))))
     rw [World.cell?_setCell_other _ _ _ _ (by intro e;cases e),hcz];exact h1
    ·rw [World.cell?_setCell_other _ _ _ _ (by intro e;cases e)]
     refine World.cell?_setCell_same _ _ _ (?_:_=some (.slice (toA (ab bz)) zl zc))
     rw [hcz];exact h2
    ·rw [← hx]
     refine n1.congr ?_
     intro ad had
     cases a' with
     | none=>cases had
     | some k =>
      cases had
      have:=(hak k rfl).2.2
      rw [Below.heap_setCell _ _ _ _ this,Below.heap_setCell _ _ _ _ this]
   have hah:∀ k,a'=some k→k<((w1.setCell ⟨bz,oz+1,none⟩ (.slice (toA a') len cap)).setCell ⟨bz,oz,none⟩ (.bool (decide (v<0)))).heap.size∧(ab bz=some k∨w.heap.size≤k):=by
    intro k hk
    obtain ⟨q1,q2,_⟩:=hak k hk
    exact ⟨by simpa [World.setCell] using q1,q2⟩
   have hR:∀ N T,Row w bz N T→Row ((w1.setCell ⟨bz,oz+1,none⟩ (.slice (toA a') len cap)).setCell ⟨bz,oz,none⟩ (.bool (decide (v<0)))) bz N T:=fun N T hT=>hfr.row hT
   have ho:∀ o,o≠oz→o≠oz+1→((w1.setCell ⟨bz,oz+1,none⟩ (.slice (toA a') len cap)).setCell ⟨bz,oz,none⟩ (.bool (decide (v<0)))).cell? ⟨bz,o,none⟩=w.cell? ⟨bz,o,none⟩:=by
    intro o e1 e2
    rw [World.cell?_setCell_other _ _ _ _ (by intro e;cases e;exact e1 rfl),World.cell?_setCell_other _ _ _ _ (by intro e;cases e;exact e2 rfl),hcz]
   rcases hz with ⟨hb,rfl⟩ | ⟨f,n,e,hb,rfl⟩
   ·obtain ⟨_,_,⟨T,hT⟩,_⟩:=h.holds bz _ hb
    exact (h.turn bz (.big v) a' (by rw [hb];simp) hfr ⟨⟨T,hR _ _ hT⟩,hI⟩ hah).ext (Q0r hb v)
   ·obtain ⟨_,_,⟨T,hT⟩,c1,c2,c3,_⟩:=h.holds bz _ hb
    exact (h.turn bz (.dec f n e v) a' (by rw [hb];simp) hfr ⟨⟨T,hR _ _ hT⟩,by rw [ho _ (by omega) (by omega)];exact c1,by rw [ho _ (by omega) (by omega)];exact c2,by rw [ho _ (by omega) (by omega)];exact c3,hI⟩ hah).ext (Q0s hb v)
theorem St.sign {W:World}{σ:Sg}{w:World}{bz oz:Nat}{vz:Int}(h:St W σ w)(hz:Num σ bz oz vz)(v:Int)(hv:v.natAbs=vz.natAbs) :
  St W (setN σ bz v) (w.setCell ⟨bz,oz,none⟩ (.bool (decide (v<0)))):=by
 obtain ⟨ab,h⟩:=h
 obtain ⟨⟨zl,zc,h1,h2,h3⟩,hlt⟩:=h.intC hz
 have hfr:Fr (fun k=>k=bz∨ab bz=some k) w (w.setCell ⟨bz,oz,none⟩ (.bool (decide (v<0)))):=Q0I (Fr.refl _ _) (.inl rfl) _
 have hak:∀ k,ab bz=some k→k≠bz:=by
  rintro k hk rfl
  exact absurd (h.own _ _ hk).2.2 hz.ne_none
 have hI:IntC (w.setCell ⟨bz,oz,none⟩ (.bool (decide (v<0)))) bz oz (ab bz) v:=by
  refine ⟨zl,zc,World.cell?_setCell_same _ _ _ h1,?_,?_⟩
  ·rw [World.cell?_setCell_other _ _ _ _ (by intro e;cases e)];exact h2
  ·rw [hv]
   refine h3.congr ?_
   intro ad had
   cases haz:ab bz with
   | none=>rw [haz] at had;cases had
   | some k=>rw [haz] at had;cases had;exact Below.heap_setCell _ _ _ _ (hak k haz)
 have ho:∀ o,o≠oz→(w.setCell ⟨bz,oz,none⟩ (.bool (decide (v<0)))).cell? ⟨bz,o,none⟩=w.cell? ⟨bz,o,none⟩:=by
  intro o e1
  rw [World.cell?_setCell_other _ _ _ _ (by intro e;cases e;exact e1 rfl)]
 have hah:∀ k,ab bz=some k→k<(w.setCell ⟨bz,oz,none⟩ (.bool (decide (v<0)))).heap.size∧(ab bz=some k∨w.heap.size≤k) :=
  fun k hk=>⟨by simpa [World.setCell] using (h.own _ _ hk).2.1,.inl hk⟩
 rcases hz with ⟨hb,rfl⟩ | ⟨f,n,e,hb,rfl⟩
 ·obtain ⟨_,_,⟨T,hT⟩,_⟩:=h.holds bz _ hb
  exact (h.turn bz (.big v) (ab bz) (by rw [hb];simp) hfr ⟨⟨T,hfr.row hT⟩,hI⟩ hah).ext (Q0r hb v)
 ·obtain ⟨_,_,⟨T,hT⟩,c1,c2,c3,_⟩:=h.holds bz _ hb
  exact (h.turn bz (.dec f n e v) (ab bz) (by rw [hb];simp) hfr ⟨⟨T,hfr.row hT⟩,by rw [ho _ (by omega)];exact c1,by rw [ho _ (by omega)];exact c2,by rw [ho _ (by omega)];exact c3,hI⟩ hah).ext (Q0s hb v)
theorem St.field {W:World}{σ:Sg}{w:World}{b o:Nat}{f:Int}{n:Bool}{e c:Int}(h:St W σ w)(hb:σ b=some (.dec f n e c))(f':Int)(n':Bool)(e':Int)(u:Value)
  (hu:(o=0∧u=.int .i8 f'∧n'=n∧e'=e)∨(o=1∧u=.bool n'∧f'=f∧e'=e)∨(o=2∧u=.int .i32 e'∧f'=f∧n'=n)):St W (upd σ b (.dec f' n' e' c)) (w.setCell ⟨b,o,none⟩ u):=by
 obtain ⟨ab,h⟩:=h
 obtain ⟨_,_,⟨T,hT⟩,c1,c2,c3,hI⟩:=h.holds b _ hb
 have hfr:Fr (fun k=>k=b∨ab b=some k) w (w.setCell ⟨b,o,none⟩ u):=Q0I (Fr.refl _ _) (.inl rfl) _
 have hak:∀ k,ab b=some k→k≠b:=by
  rintro k hk rfl
  have:=(h.own _ _ hk).2.2
  rw [hb] at this;cases this
 have ho:∀ i,i≠o→(w.setCell ⟨b,o,none⟩ u).cell? ⟨b,i,none⟩=w.cell? ⟨b,i,none⟩:=by
  intro i e1
  rw [World.cell?_setCell_other _ _ _ _ (by intro e;cases e;exact e1 rfl)]
 have hI':IntC (w.setCell ⟨b,o,none⟩ u) b 3 (ab b) c:=by
  obtain ⟨len,cap,h1,h2,h3⟩:=hI
  refine ⟨len,cap,by rw [ho _ (by omega)];exact h1,by rw [ho _ (by omega)];exact h2,h3.congr ?_⟩
  intro ad had
  cases haz:ab b with
  | none=>rw [haz] at had;cases had
  | some k=>rw [haz] at had;cases had;exact Below.heap_setCell _ _ _ _ (hak k haz)
 have hah:∀ k,ab b=some k→k<(w.setCell ⟨b,o,none⟩ u).heap.size∧(ab b=some k∨w.heap.size≤k) :=
  fun k hk=>⟨by simpa [World.setCell] using (h.own _ _ hk).2.1,.inl hk⟩
 refine h.turn b _ (ab b) (by rw [hb];simp) hfr ⟨⟨T,hfr.row hT⟩,?_,?_,?_,hI'⟩ hah
 ·rcases hu with ⟨rfl,rfl,rfl,rfl⟩ | ⟨rfl,rfl,rfl,rfl⟩ | ⟨rfl,rfl,rfl,rfl⟩
  ·exact World.cell?_setCell_same _ _ _ c1
  ·rw [ho _ (by omega)];exact c1
  ·rw [ho _ (by omega)];exact c1
 ·rcases hu with ⟨rfl,rfl,rfl,rfl⟩ | ⟨rfl,rfl,rfl,rfl⟩ | ⟨rfl,rfl,rfl,rfl⟩
  ·rw [ho _ (by omega)];exact c2
  ·exact World.cell?_setCell_same _ _ _ c2
  ·rw [ho _ (by omega)];exact c2
 ·rcases hu with ⟨rfl,rfl,rfl,rfl⟩ | ⟨rfl,rfl,rfl,rfl⟩ | ⟨rfl,rfl,rfl,rfl⟩
  ·rw [ho _ (by omega)];exact c3
  ·rw [ho _ (by omega)];exact c3
  ·exact World.cell?_setCell_same _ _ _ c3
theorem St.setForm {W:World}{σ:Sg}{w:World}{b:Nat}{f:Int}{n:Bool}{e c:Int}(h:St W σ w)(hb:σ b=some (.dec f n e c))(f':Int):St W (upd σ b (.dec f' n e c)) (w.setCell ⟨b,0,none⟩ (.int .i8 f')):=h.field hb f' n e _ (.inl ⟨rfl,rfl,rfl,rfl⟩)
theorem St.setNeg {W:World}{σ:Sg}{w:World}{b:Nat}{f:Int}{n:Bool}{e c:Int}(h:St W σ w)(hb:σ b=some (.dec f n e c))(n':Bool):St W (upd σ b (.dec f n' e c)) (w.setCell ⟨b,1,none⟩ (.bool n')):=h.field hb f n' e _ (.inr (.inl ⟨rfl,rfl,rfl,rfl⟩))
theorem St.setExp {W:World}{σ:Sg}{w:World}{b:Nat}{f:Int}{n:Bool}{e c:Int}(h:St W σ w)(hb:σ b=some (.dec f n e c))(e':Int):St W (upd σ b (.dec f n e' c)) (w.setCell ⟨b,2,none⟩ (.int .i32 e')):=h.field hb f n e' _ (.inr (.inr ⟨rfl,rfl,rfl,rfl⟩))
theorem St.setRaw {W:World}{σ:Sg}{w:World}{b:Nat}{C:Array Value}{T:TypeId}{m:Nat × Nat}(h:St W σ w)(hb:σ b=some (.raw (.cells C T m)))(i:Nat)(u:Value):St W (upd σ b (.raw (.cells (C.setIfInBounds i u) T m))) (w.setCell ⟨b,i,none⟩ u):=by
 obtain ⟨ab,h⟩:=h
 obtain ⟨_,hl,hc,ha⟩:=h.holds b _ hb
 have hfr:Fr (fun k=>k=b∨ab b=some k) w (w.setCell ⟨b,i,none⟩ u):=Q0I (Fr.refl _ _) (.inl rfl) _
 refine h.turn b _ none (by rw [hb];simp) hfr ⟨?_,rfl⟩ (fun k hk=>by cases hk)
 simp only [World.setCell,Array.getElem?_modify,if_true,hc]
 rfl
theorem Q6N (bz oz cz bx ox cx n s:Nat)(hn0:0<n)(hn2:n≤maxLen)(hs0:0<s)(hs:s<64)(w:World)(hX:IsW w bx ox n)(hZ:Wr w bz oz n)(hal:bx≠bz∨ox≤oz) :
  Calls Tryz.prog 264 #[.slice (some ⟨bz,oz,none⟩) n cz,.slice (some ⟨bx,ox,none⟩) n cx,.int .u64 s] w fun e w' =>
   ∃ c:Nat,e=.returned (.int .u64 c)∧c<2^s∧IsW w' bz oz n∧MV w' bz oz n+c*BB^n=MV w bx ox n*2^s∧Chg bz oz (oz+n) w w':=by
 unfold maxLen at hn2
 have hxn:=hX.get (n - 1) (by omega)
 have HX:=Lh hX;clear hX
 have HZ:=Lh hZ;clear hZ
 have HA:=Lh hal;clear hal
 have hsn:((s:Int) == 0)=false:=by simp;omega
 obtain ⟨t,ht⟩:∃ t,s+t=64:=⟨64 - s,by omega⟩
 have hb1:bits .and .u64 (s:Int) 63=s:=Q5T hs
 have hb2:IntKind.u64.wrap (64 - (s:Int))=t:=by rw [Qf (by omega) (by unfold BB;omega)];omega
 have hb3:bits .and .u64 (t:Int) 63=t:=Q5T (by omega)
 have hm1:min t 64=t:=by omega
 have hm2:min s 64=s:=by omega
 have hsr:=fun x=>Q0R x t
 have hsl:=fun x=>Q0S x s
 have Ht:=Lh ht;clear ht
 go_enter Tryz.func264, Tryz.ntmps264
 go_wp2
 go_loopw [8] (fun i wr=>∃ k:Nat,k<n∧i=.int .i64 k∧IsW wr bz (oz+k+1) (n - 1 - k)∧Chg bz (oz+k+1) (oz+k+1+(n - 1 - k)) w wr ∧
   MV w bx (ox+k) (n - k)*2^s=shrW (rd w bx (ox+(n - 1))) t*BB^(n - k)+MV wr bz (oz+k+1) (n - 1 - k)*BB+shlW (rd w bx (ox+k)) s) (fun i _=>(intOf i).toNat)
 case atStart =>
  refine ⟨n - 1,by omega,by congr 1;omega,?_,?_,?_⟩
  ·rw [show n - 1 - (n - 1)=0 by omega];exact IsW.zero _ _ _
  ·exact Chg.refl _ _ _ _
  ·rw [show n - 1 - (n - 1)=0 by omega,show n - (n - 1)=1 by omega,QX,Nat.pow_one]
   have:=Q2x (x:=rd w bx (ox+(n - 1))) Ht.out
   simpa [MV] using this
 case round =>
  obtain ⟨k,hk,rfl,hW,hC,hV⟩:=hrel
  have hz:=(hC.wr HZ.out).cell k hk
  have hzf:=(hC.wr HZ.out).free k hk
  have hx:wr.cell? ⟨bx,ox+k,none⟩=some (.int .u64 ((rd w bx (ox+k):Nat):Int)):=by
   have:=HA.out;rw [hC.cell_other (by omega)];exact HX.out.get k hk
  have hxk:=HX.out.lt k hk
  by_cases h0:0<k
  ·have hx1:wr.cell? ⟨bx,ox+(k - 1),none⟩=some (.int .u64 ((rd w bx (ox+(k - 1)):Nat):Int)):=by
    have:=HA.out;rw [hC.cell_other (by omega)];exact HX.out.get (k - 1) (by omega)
   have hx1k:=HX.out.lt (k - 1) (by omega)
   have hor:=Q7q (a:=rd w bx (ox+k)) (b:=rd w bx (ox+(k - 1))) Ht.out hx1k
   have HL:=Lh (Q2b (a:=rd w bx (ox+k)) (b:=rd w bx (ox+(k - 1))) Ht.out hx1k)
   have HS:=Lh (Q21 (w:=w) (wr:=wr.drew) hW hz HL.out hC.drew)
   have HV:=Lh hV;clear hV hW hC
   obtain ⟨v1,hz⟩:=hz
   have hb0:(0:Int)<(k:Int):=by omega
   go_wp2
   go_region
   go_wp2
   go_roundw
   case rel =>
    have h1:=HS.out
    refine ⟨k - 1,by omega,by congr 1;omega,?_,?_,?_⟩
    ·have h2:=h1.1
     rw [show oz+(k - 1)+1=oz+k by omega,show n - 1 - (k - 1)=n - 1 - k+1 by omega]
     exact h2
    ·rw [show oz+(k - 1)+1=oz+k by omega,show n - 1 - (k - 1)=n - 1 - k+1 by omega]
     exact h1.2.2
    ·have h3:=h1.2.1
     rw [Q02] at h3
     have h4:=Q6s HV.out (Q2x (x:=rd w bx (ox+(k - 1))) Ht.out)
     rw [show oz+(k - 1)+1=oz+k by omega,show n - 1 - (k - 1)=n - 1 - k+1 by omega,show n - (k - 1)=n - k+1 by omega,Q0p,Nat.pow_succ,show ox+(k - 1)+1=ox+k by omega]
     refine h4.trans ?_
     rw [← h3]
     rfl
   case measure=>simp [intOf];omega
  ·obtain rfl:k=0:=by omega
   have HS:=Lh (Q21 (w:=w) hW hz (Q2y (rd w bx (ox+0)) s) hC)
   have HV:=Lh hV;clear hV hW hC
   obtain ⟨v1,hz⟩:=hz
   simp only [Nat.add_zero] at hz hzf hx hxk
   go_wp2
   go_ret
   have h1:=HS.out
   refine ⟨_,rfl,Q1k Ht.out (HX.out.lt _ (by omega)),?_,?_,?_⟩
   ·have h2:=h1.1
    rw [show n - 1 - 0+1=n by omega] at h2
    exact h2
   ·have h3:=h1.2.1
    have h4:=HV.out
    rw [show n - 1 - 0+1=n by omega] at h3
    simp only [Nat.add_zero,Nat.sub_zero] at h3 h4
    rw [h4]
    refine (congrArg (·+_) h3).trans ?_
    rw [Nat.mul_comm BB]
    omega
   ·have h2:=h1.2.2
    rw [show n - 1 - 0+1=n by omega] at h2
    exact h2
theorem Q6O {V Z xk x1 a b P S T:Nat}(hS:0<S)(hB:BB=S*T)(hI:V / S=Z+xk*P)(hx:x1*T=a*BB+b) :
  (V+x1*(P*BB)) / S=Z+(xk+b)*P+a*(P*BB):=by
 have e:x1*(P*BB)=S*(x1*T*P):=by rw [hB];simp only [Nat.mul_assoc,Nat.mul_comm,Nat.mul_left_comm]
 rw [e,Nat.add_mul_div_left _ _ hS,hI,hx,Nat.add_mul,Nat.add_mul,Nat.mul_assoc a,Nat.mul_comm BB P]
 omega
theorem Q6P (bz oz cz bx ox cx n s:Nat)(hn0:0<n)(hn2:n≤maxLen)(hs0:0<s)(hs:s<64)(w:World)(hX:IsW w bx ox n)(hZ:Wr w bz oz n)(hal:bx≠bz∨oz≤ox) :
  Calls Tryz.prog 267 #[.slice (some ⟨bz,oz,none⟩) n cz,.slice (some ⟨bx,ox,none⟩) n cx,.int .u64 s] w fun e w' =>
   ∃ c:Nat,e=.returned (.int .u64 c)∧IsW w' bz oz n∧MV w' bz oz n=MV w bx ox n / 2^s∧Chg bz oz (oz+n) w w':=by
 unfold maxLen at hn2
 have hx0:=hX.get 0 hn0
 have HX:=Lh hX;clear hX
 have HZ:=Lh hZ;clear hZ
 have HA:=Lh hal;clear hal
 have hsn:((s:Int) == 0)=false:=by simp;omega
 obtain ⟨t,ht⟩:∃ t,t+s=64:=⟨64 - s,by omega⟩
 have hb1:bits .and .u64 (s:Int) 63=s:=Q5T hs
 have hb2:IntKind.u64.wrap (64 - (s:Int))=t:=by rw [Qf (by omega) (by unfold BB;omega)];omega
 have hb3:bits .and .u64 (t:Int) 63=t:=Q5T (by omega)
 have hm1:min t 64=t:=by omega
 have hm2:min s 64=s:=by omega
 have hsr:=fun x=>Q0R x s
 have hsl:=fun x=>Q0S x t
 have Ht:=Lh ht;clear ht
 simp only [Nat.add_zero] at hx0
 go_enter Tryz.func267, Tryz.ntmps267
 go_wp2
 go_loopw [8] (fun i wr=>∃ k:Nat,k<n∧i=.int .i64 ((k+1:Nat):Int)∧IsW wr bz oz k∧Chg bz oz (oz+k) w wr ∧
   MV w bx ox (k+1) / 2^s=MV wr bz oz k+shrW (rd w bx (ox+k)) s*BB^k) (fun i _=>n - (intOf i).toNat)
 case atStart =>
  refine ⟨0,hn0,rfl,IsW.zero _ _ _,Chg.refl _ _ _ _,?_⟩
  simp [MV,shrW]
 case round =>
  obtain ⟨k,hk,rfl,hW,hC,hV⟩:=hrel
  have hz:=(hC.wr HZ.out).cell k hk
  have hzf:=(hC.wr HZ.out).free k hk
  have hx:wr.cell? ⟨bx,ox+k,none⟩=some (.int .u64 ((rd w bx (ox+k):Nat):Int)):=by
   have:=HA.out;rw [hC.cell_other (by omega)];exact HX.out.get k hk
  have hxk:=HX.out.lt k hk
  by_cases h0:k+1<n
  ·have hx1:wr.cell? ⟨bx,ox+(k+1),none⟩=some (.int .u64 ((rd w bx (ox+(k+1)):Nat):Int)):=by
    have:=HA.out;rw [hC.cell_other (by omega)];exact HX.out.get (k+1) h0
   have hx1k:=HX.out.lt (k+1) h0
   have hor:=Q8H (a:=rd w bx (ox+(k+1))) (b:=rd w bx (ox+k)) Ht.out hxk
   have HL:=Lh (Q2b (a:=rd w bx (ox+(k+1))) (b:=rd w bx (ox+k)) Ht.out hxk)
   have HS:=Lh (QJ (w:=w) (wr:=wr.drew) hW hz HL.out hC.drew)
   have HV:=Lh hV;clear hV hW hC
   obtain ⟨v1,hz⟩:=hz
   go_wp2
   go_region
   go_wp2
   go_roundw
   case rel =>
    have h1:=HS.out
    refine ⟨k+1,by omega,by go_num,h1.1,h1.2.2,?_⟩
    have h3:=h1.2.1
    rw [Q02] at h3
    have h4:=Q6O (Nat.two_pow_pos s) (Q1y (s:=s) (t:=t) (by have:=Ht.out;omega)) HV.out (Q2x (x:=rd w bx (ox+(k+1))) Ht.out)
    refine Eq.trans h4 ?_
    rw [Nat.pow_succ]
    refine congrArg (·+_) ?_
    rw [Nat.add_comm (shrW _ _)]
    exact h3.symm
   case measure=>simp [intOf];omega
  ·obtain rfl:n=k+1:=by omega
   have hzz:(((k+1:Nat):Int) - 1)=(k:Int):=by omega
   have HS:=Lh (QJ (z:=shrW (rd w bx (ox+k)) s) (w:=w) hW hz (Nat.lt_of_le_of_lt (Nat.div_le_self _ _) hxk) hC)
   have HV:=Lh hV;clear hV hW hC
   obtain ⟨v1,hz⟩:=hz
   go_wp2
   go_ret
   have h1:=HS.out
   exact ⟨_,rfl,h1.1,h1.2.1.trans HV.out.symm,h1.2.2⟩
end Go.Proofs.YtpebcmfpehdafaaGreatDoor
