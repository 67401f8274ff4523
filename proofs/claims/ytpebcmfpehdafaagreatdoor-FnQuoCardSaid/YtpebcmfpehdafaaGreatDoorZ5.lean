/- a part of the proof -/
import Derived.BigRegion
import Derived.Deep.RegionHeld3
import Derived.Test.YtpebcmfpehdafaaGreatDoorZ4
set_option linter.all false
set_option maxRecDepth 100000
set_option maxHeartbeats 16000000
namespace Go.Proofs.YtpebcmfpehdafaaGreatDoor
open Go Go.RowKit
structure WS (P:Program) (ops:Array Oper) (w:World) (Q:Act→Prop) (l:List Oper) (a:Act):Prop where
 out:wpStill P ops w Q l a
theorem WS.skip {P:Program}{ops:Array Oper}{w:World}{Q:Act→Prop}{a:Act}{o:Oper}{rest:List Oper}(hw:Region.wanted o (yielded ops a.tmps)=false)(h:WS P ops w Q rest (a.put o.dst undef)):WS P ops w Q (o :: rest) a :=
 ⟨wpStill_step fun K hK=>by rw [if_neg (by rw [hw];exact Bool.false_ne_true)];exact hK _ h.out⟩
theorem WS.want {P:Program}{ops:Array Oper}{w:World}{Q:Act→Prop}{a:Act}{o:Oper}{rest:List Oper}(hw:Region.wanted o (yielded ops a.tmps)=true)(h:∀ K:Act→Prop,(∀ a,WS P ops w Q rest a→K a)→o.still P a w K):WS P ops w Q (o :: rest) a :=
 ⟨wpStill_step fun K hK=>by rw [if_pos hw];exact h K (fun a ha=>hK a ha.out)⟩
theorem WS.nil {P:Program}{ops:Array Oper}{w:World}{Q:Act→Prop}{a:Act}(h:Q a):WS P ops w Q [] a:=⟨wpStill_nil h⟩
theorem WS.region {P:Program}{id:Nat}{Q:Exit→Act→World→Prop}{a:Act}{w:World}{l:List Oper}(n:Nat)(hm:P.follows .mixedOrders=true)(hB:Region.lexTailB .any l.toArray n=true)
  (h:WS P l.toArray { w with drawn:=w.drawn+1 } (fun a'=>wpList P l.toArray Q (l.drop n) a' { w with drawn:=w.drawn+1 }) (l.take n) a):(Code.region id l.toArray true).wp P Q a w :=
 wp_region_still_tail n hm hB h.out
structure GW (W:World):Prop where
 gk:GK W
 le:12≤W.heap.size
theorem St.gk {W:World}{σ:Sg}{w:World}(h:St W σ w)(hW:GW W):GK w:=by
 have key:∀ g v,g<12→W.cell? ⟨g,0,none⟩=some v→w.cell? ⟨g,0,none⟩=some v:=fun g v hg hc=>by
  rw [h.below.cell (p:=⟨g,0,none⟩) (by have:=hW.le;simp only;omega)];exact hc
 exact ⟨key _ _ (by omega) hW.gk.kar,key _ _ (by omega) hW.gk.bsq,key _ _ (by omega) hW.gk.ksq,key _ _ (by omega) hW.gk.div,key _ _ (by omega) hW.gk.leaf⟩
theorem St.size {W:World}{σ:Sg}{w:World}(h:St W σ w)(hW:GW W):12≤w.heap.size:=by have:=h.below.size;have:=hW.le;omega
def SM (w w':World):Prop:=w'.heap=w.heap∧w'.os=w.os∧w'.tape=w.tape∧w'.output=w.output
theorem SM.refl (w:World):SM w w:=⟨rfl,rfl,rfl,rfl⟩
theorem SM.drew {w w':World}(h:SM w w'):SM w w'.drew:=h
theorem SM.drewN {w w':World}(h:SM w w')(n:Nat):SM w (w'.drewN n):=h
theorem SM.nt {w w':World}(h:SM w w'){p:Option Addr}{l c x:Nat}(hn:Nt w p l c x):Nt w' p l c x:=hn.congr (fun _ _=>by rw [h.1])
theorem SM.cell {w w':World}(h:SM w w')(b o:Nat):w'.cell? ⟨b,o,none⟩=w.cell? ⟨b,o,none⟩:=World.cell?_of_block (w:=w) (by rw [h.1])
theorem SM.frozen {w w':World}(h:SM w w')(b o:Nat):w'.frozen? ⟨b,o,none⟩=w.frozen? ⟨b,o,none⟩:=World.frozen?_of_block (w:=w) (by rw [h.1])
theorem SM.gk {w w':World}(h:SM w w')(hg:GK w):GK w':=⟨(h.cell _ _).trans hg.kar,(h.cell _ _).trans hg.bsq,(h.cell _ _).trans hg.ksq,(h.cell _ _).trans hg.div,(h.cell _ _).trans hg.leaf⟩
theorem SM.fr {w w' w2:World}(h:SM w w'){S:Nat→Prop}(f:Fr S w' w2):Fr S w w2:=by
 refine ⟨f.os.trans h.2.1,f.tape.trans h.2.2.1,f.output.trans h.2.2.2,by rw [← h.1];exact f.size,fun k hk hS=>?_,fun k hk=>?_⟩
 ·rw [f.block k (by rw [h.1];exact hk) hS,h.1]
 ·rw [f.hdrs k (by rw [h.1];exact hk)];unfold hd;rw [h.1]
theorem SM.natAt {w w' w2:World}(h:SM w w'){zp:Option Addr}{x:Nat}{p:Option Addr}{l c:Nat}(hn:NatAt w' zp x p l c w2):NatAt w zp x p l c w2:=by
 obtain ⟨h1,h2,h3⟩:=hn
 refine ⟨h1,?_,h.fr h3⟩
 rw [h.1] at h2;exact h2
theorem SM.st {W:World}{σ:Sg}{w w':World}(h:SM w w')(hs:St W σ w):St W σ w':=hs.same h.2.1 h.2.2.1 h.2.2.2 h.1
structure ZA (W:World) (σ:Sg) (w:World) (bz oz:Nat) (vz:Int) (zp:Option Addr) (zl zc:Nat):Prop where
  cell0:w.cell? ⟨bz,oz,none⟩=some (.bool (decide (vz<0)))
  cell1:w.cell? ⟨bz,oz+1,none⟩=some (.slice zp zl zc)
  nt:Nt w zp zl zc vz.natAbs
  new:∀ a,zp=some a→W.heap.size≤a.block
  fz0:w.frozen? ⟨bz,oz,none⟩=false
  fz1:w.frozen? ⟨bz,oz+1,none⟩=false
  row:∃ N T,Row w bz N T
  apart:∀ bx ox vx,Num σ bx ox vx→∀ xp xl xc,w.cell? ⟨bx,ox+1,none⟩=some (.slice xp xl xc)→(bx=bz∧xp=zp)∨(bx≠bz∧(∀ a a',xp=some a→zp=some a'→a.block≠a'.block))
  put : ∀ x p len cap w1 v, NatAt w zp x p len cap w1 → x = Int.natAbs v →
        (∀ b ob,σ b=some ob→∀ o,w1.cell? ⟨b,o,none⟩=w.cell? ⟨b,o,none⟩∧w1.frozen? ⟨b,o,none⟩=w.frozen? ⟨b,o,none⟩) ∧
        St W (setN σ bz v) ((w1.setCell ⟨bz,oz+1,none⟩ (.slice p len cap)).setCell ⟨bz,oz,none⟩ (.bool (decide (v<0))))
theorem St.za {W:World}{σ:Sg}{w:World}{bz oz:Nat}{vz:Int}(h:St W σ w)(hz:Num σ bz oz vz):∃ zp zl zc,ZA W σ w bz oz vz zp zl zc:=by
 obtain ⟨zp,zl,zc,h1,h2,h3,h4,h5,h6,h7⟩:=h.put hz
 obtain ⟨_,_,_,k1,_⟩:=h.num hz
 refine ⟨zp,zl,zc,k1,h1,h2,h3,h4,h5,?_,h6,h7⟩
 obtain ⟨ab,h⟩:=h
 rcases hz with ⟨hb,rfl⟩ | ⟨f,n,e,hb,rfl⟩
 ·obtain ⟨_,_,⟨T,hT⟩,_⟩:=h.holds bz _ hb;exact ⟨_,T,hT⟩
 ·obtain ⟨_,_,⟨T,hT⟩,_⟩:=h.holds bz _ hb;exact ⟨_,T,hT⟩
theorem ZA.len_le {W:World}{σ:Sg}{w:World}{bz oz:Nat}{vz:Int}{zp:Option Addr}{zl zc:Nat}(h:ZA W σ w bz oz vz zp zl zc){n:Nat}(hv:vz.natAbs<BB^n):zl≤n:=h.nt.len_of_lt hv
theorem Ql (n:Nat):decide ((n:Int)<0)=false:=by simp
theorem Q43:∃ i,Tryz.prog.info? 67=some i∧i.size=2:=by
 have h:(Tryz.prog.info? 67).map (·.size)=some 2:=by kernel_rfl
 cases hc:Tryz.prog.info? 67 with
 | none=>rw [hc] at h;cases h
 | some i=>rw [hc] at h;exact ⟨i,rfl,by simpa using h⟩
theorem ZA.ptr_ne {W:World}{σ:Sg}{w:World}{bx ox by_ oy:Nat}{vx vy:Int}{xp yp:Option Addr}{xl xc yl yc:Nat}(hx:ZA W σ w bx ox vx xp xl xc)(hy:ZA W σ w by_ oy vy yp yl yc)(hne:bx≠by_){o o':Nat} :
  (binOp .eql 142 (.pointer (some ⟨bx,o,none⟩)) (.pointer (some ⟨by_,o',none⟩))).run Tryz.prog w=.ok (.bool false) w:=by
 obtain ⟨i,hi,hs⟩:=Q43
 obtain ⟨N,T,hR⟩:=hx.row
 obtain ⟨N',T',hR'⟩:=hy.row
 have:=Q19 Tryz.underlying142 hi (by rw [hs];omega) (a:=⟨bx,o,none⟩) (b:=⟨by_,o',none⟩) hR hR'
 rw [this]
 simp [hne]
theorem ZA.ptr_neq {W:World}{σ:Sg}{w:World}{bx ox by_ oy:Nat}{vx vy:Int}{xp yp:Option Addr}{xl xc yl yc:Nat}(hx:ZA W σ w bx ox vx xp xl xc)(hy:ZA W σ w by_ oy vy yp yl yc)(hne:bx≠by_){o o':Nat} :
  (binOp .neq 142 (.pointer (some ⟨bx,o,none⟩)) (.pointer (some ⟨by_,o',none⟩))).run Tryz.prog w=.ok (.bool true) w:=by
 obtain ⟨i,hi,hs⟩:=Q43
 obtain ⟨N,T,hR⟩:=hx.row
 obtain ⟨N',T',hR'⟩:=hy.row
 have:=Q18 Tryz.underlying142 hi (by rw [hs];omega) (a:=⟨bx,o,none⟩) (b:=⟨by_,o',none⟩) hR hR'
 rw [this]
 simp [hne]
theorem ZA.ptr_same {W:World}{σ:Sg}{w:World}{bx ox:Nat}{vx:Int}{xp:Option Addr}{xl xc:Nat}(hx:ZA W σ w bx ox vx xp xl xc){o:Nat} :
  (binOp .neq 142 (.pointer (some ⟨bx,o,none⟩)) (.pointer (some ⟨bx,o,none⟩))).run Tryz.prog w=.ok (.bool false) w:=by
 obtain ⟨i,hi,hs⟩:=Q43
 obtain ⟨N,T,hR⟩:=hx.row
 have:=Q18 Tryz.underlying142 hi (by rw [hs];omega) (a:=⟨bx,o,none⟩) (b:=⟨bx,o,none⟩) hR hR
 rw [this]
 simp
theorem StA.turn2 {W:World}{σ:Sg}{ab:Nat→Option Nat}{w w':World}(h:StA W σ ab w)(bz br:Nat)(oz or:Ob)(az ar:Option Nat)(hne:bz≠br)(hz:σ bz≠none)(hr:σ br≠none)
  (hf:Fr (fun k=>k=bz∨k=br∨ab bz=some k∨ab br=some k) w w') (hoz:Holds w' bz oz az) (hor:Holds w' br or ar)
  (haz:∀ k,az=some k→k<w'.heap.size∧(ab bz=some k∨ab br=some k∨w.heap.size≤k)) (har:∀ k,ar=some k→k<w'.heap.size∧(ab bz=some k∨ab br=some k∨w.heap.size≤k)) (hd:∀ k,az=some k→ar≠some k) :
  St W (upd (upd σ bz oz) br or) w':=by
 have hzs:∃ x,σ bz=some x:=by cases hc:σ bz with | none=>exact absurd hc hz | some x=>exact ⟨x,rfl⟩
 have hrs:∃ x,σ br=some x:=by cases hc:σ br with | none=>exact absurd hc hr | some x=>exact ⟨x,rfl⟩
 obtain ⟨xz,hzs⟩:=hzs
 obtain ⟨xr,hrs⟩:=hrs
 obtain ⟨g1,g2,_⟩:=h.holds bz xz hzs
 obtain ⟨g3,g4,_⟩:=h.holds br xr hrs
 have hsz:=hf.size
 have hbs:=h.below.size
 have hσ:∀ k,k≠bz→k≠br→upd (upd σ bz oz) br or k=σ k:=fun k e1 e2=>by rw [Qa _ _ e2,Qa _ _ e1]
 have nn:∀ k,(az=some k∨ar=some k)→W.heap.size≤k∧k<w'.heap.size∧upd (upd σ bz oz) br or k=none:=by
  intro k hk
  have hk':k<w'.heap.size∧(ab bz=some k∨ab br=some k∨w.heap.size≤k):=by
   rcases hk with e | e
   ·exact haz k e
   ·exact har k e
  obtain ⟨h1,h2⟩:=hk'
  have own:∀ b,ab b=some k→W.heap.size≤k∧σ k=none:=fun b e=>⟨(h.own b k e).1,(h.own b k e).2.2⟩
  have key:W.heap.size≤k∧σ k=none:=by
   rcases h2 with e | e | e
   ·exact own _ e
   ·exact own _ e
   ·refine ⟨by omega,?_⟩
    cases hc:σ k with
    | none=>rfl
    | some x=>have:=(h.holds k x hc).2.1;omega
  refine ⟨key.1,h1,?_⟩
  rw [hσ k (by rintro rfl;rw [hzs] at key;cases key.2) (by rintro rfl;rw [hrs] at key;cases key.2)]
  exact key.2
 have oldne:∀ b k,ab b=some k→b≠bz→b≠br→¬ (az=some k∨ar=some k):=by
  intro b k hk e1 e2 hk2
  have hk':ab bz=some k∨ab br=some k∨w.heap.size≤k:=by
   rcases hk2 with e | e
   ·exact (haz k e).2
   ·exact (har k e).2
  rcases hk' with e | e | e
  ·exact e1 (h.inj _ _ _ hk e)
  ·exact e2 (h.inj _ _ _ hk e)
  ·have:=(h.own b k hk).2.1;omega
 refine ⟨fun k=>if k=br then ar else if k=bz then az else ab k,h.below.trans ⟨hf.os,hf.tape,hf.output,hsz,?_⟩,?_,?_,?_,?_⟩
 ·intro k hk
  refine hf.block k (by omega) ?_
  rintro (e | e | e | e)
  ·omega
  ·omega
  ·have:=(h.own bz k e).1;omega
  ·have:=(h.own br k e).1;omega
 ·intro b hb
  by_cases e2:b=br
  ·subst e2;rw [Q1] at hb;cases hb
  ·by_cases e1:b=bz
   ·subst e1;rw [Qa _ _ e2,Q1] at hb;cases hb
   ·rw [hσ b e1 e2] at hb;simp only [if_neg e1,if_neg e2];exact h.dom b hb
 ·intro b x hb
  by_cases e2:b=br
  ·subst e2;rw [Q1] at hb;cases hb
   simp only [if_true]
   exact ⟨g3,by omega,hor⟩
  ·by_cases e1:b=bz
   ·subst e1;rw [Qa _ _ e2,Q1] at hb;cases hb
    simp only [if_neg e2,if_true]
    exact ⟨g1,by omega,hoz⟩
   ·rw [hσ b e1 e2] at hb
    simp only [if_neg e1,if_neg e2]
    obtain ⟨h1,h2,h3⟩:=h.holds b x hb
    have nb:∀ k,(ab bz=some k∨ab br=some k)→b≠k:=by
     rintro k (e | e) rfl
     ·have:=(h.own _ _ e).2.2;rw [hb] at this;cases this
     ·have:=(h.own _ _ e).2.2;rw [hb] at this;cases this
    refine ⟨h1,by omega,h3.congr (hf.block b h2 ?_) (fun k hk=>hf.block k (h.own b k hk).2.1 ?_)⟩
    ·rintro (e | e | e | e)
     ·exact e1 e
     ·exact e2 e
     ·exact nb _ (.inl e) rfl
     ·exact nb _ (.inr e) rfl
    ·have hk3:=(h.own b k hk).2.2
     rintro (e | e | e | e)
     ·rw [e,hzs] at hk3;cases hk3
     ·rw [e,hrs] at hk3;cases hk3
     ·exact e1 (h.inj _ _ _ hk e)
     ·exact e2 (h.inj _ _ _ hk e)
 ·intro b k hk
  by_cases e2:b=br
  ·simp only [if_pos e2] at hk;obtain ⟨q1,q2,q3⟩:=nn k (.inr hk);exact ⟨q1,q2,q3⟩
  ·by_cases e1:b=bz
   ·simp only [if_neg e2,if_pos e1] at hk;obtain ⟨q1,q2,q3⟩:=nn k (.inl hk);exact ⟨q1,q2,q3⟩
   ·simp only [if_neg e2,if_neg e1] at hk
    obtain ⟨q1,q2,q3⟩:=h.own b k hk
    refine ⟨q1,by omega,?_⟩
    rw [hσ k (by rintro rfl;rw [hzs] at q3;cases q3) (by rintro rfl;rw [hrs] at q3;cases q3)];exact q3
 ·intro b b' k hk hk'
  by_cases e2:b=br
  ·by_cases e2':b'=br
   ·rw [e2,e2']
   ·simp only [if_pos e2] at hk
    by_cases e1':b'=bz
    ·simp only [if_neg e2',if_pos e1'] at hk'
     exact absurd hk (hd k hk')
    ·simp only [if_neg e2',if_neg e1'] at hk'
     exact absurd (.inr hk) (oldne b' k hk' e1' e2')
  ·by_cases e1:b=bz
   ·simp only [if_neg e2,if_pos e1] at hk
    by_cases e2':b'=br
    ·simp only [if_pos e2'] at hk';exact absurd hk' (hd k hk)
    ·by_cases e1':b'=bz
     ·rw [e1,e1']
     ·simp only [if_neg e2',if_neg e1'] at hk'
      exact absurd (.inl hk) (oldne b' k hk' e1' e2')
   ·simp only [if_neg e2,if_neg e1] at hk
    by_cases e2':b'=br
    ·simp only [if_pos e2'] at hk';exact absurd (.inr hk') (oldne b k hk e1 e2)
    ·by_cases e1':b'=bz
     ·simp only [if_neg e2',if_pos e1'] at hk';exact absurd (.inl hk') (oldne b k hk e1 e2)
     ·simp only [if_neg e2',if_neg e1'] at hk'
      exact h.inj b b' k hk hk'
theorem St.put2 {W:World}{σ:Sg}{w:World}{bz oz br or:Nat}{vz vr:Int}{zp rp:Option Addr}{zl zc rl rc:Nat}(h:St W σ w)(hz:Num σ bz oz vz)(hr:Num σ br or vr)(hne:bz≠br)
  (cz:w.cell? ⟨bz,oz+1,none⟩=some (.slice zp zl zc)) (cr:w.cell? ⟨br,or+1,none⟩=some (.slice rp rl rc)) {q r:Nat} {p:Option Addr} {l c:Nat} {p2:Option Addr} {l2 c2:Nat} {w1:World} (hD:DivAt w zp rp q r p l c p2 l2 c2 w1) :
  (∀ b ob,σ b=some ob→∀ o,w1.cell? ⟨b,o,none⟩=w.cell? ⟨b,o,none⟩∧w1.frozen? ⟨b,o,none⟩=w.frozen? ⟨b,o,none⟩) ∧
  St W (setN (setN σ bz (q:Int)) br (r:Int)) ((((w1.setCell ⟨bz,oz+1,none⟩ (.slice p l c)).setCell ⟨br,or+1,none⟩ (.slice p2 l2 c2)).setCell ⟨bz,oz,none⟩ (.bool false)).setCell ⟨br,or,none⟩ (.bool false)):=by
 obtain ⟨ab,h⟩:=h
 obtain ⟨⟨zl',zc',z1,z2,z3⟩,hzlt⟩:=h.intC hz
 obtain ⟨⟨rl',rc',r1,r2,r3⟩,hrlt⟩:=h.intC hr
 rw [z2] at cz
 rw [r2] at cr
 simp only [Option.some.injEq,Value.slice.injEq] at cz cr
 obtain ⟨rfl,rfl,rfl⟩:=cz
 obtain ⟨rfl,rfl,rfl⟩:=cr
 obtain ⟨n1,n2,n3,n4,n5,n6⟩:=hD
 have toAk:∀ {a:Option Nat} {k:Nat},(∃ x,toA a=some x∧x.block=k)→a=some k:=by
  rintro a k ⟨x,hx,rfl⟩
  cases a with
  | none=>cases hx
  | some k'=>cases hx;rfl
 have hown:∀ b ob,σ b=some ob→¬ ((∃ x,toA (ab bz)=some x∧x.block=b)∨(∃ x,toA (ab br)=some x∧x.block=b)):=by
  rintro b ob hb (e | e)
  ·have:=(h.own bz b (toAk e)).2.2;rw [hb] at this;cases this
  ·have:=(h.own br b (toAk e)).2.2;rw [hb] at this;cases this
 have keep:∀ b ob,σ b=some ob→∀ o,w1.cell? ⟨b,o,none⟩=w.cell? ⟨b,o,none⟩∧w1.frozen? ⟨b,o,none⟩=w.frozen? ⟨b,o,none⟩:=by
  intro b ob hb o
  have hbl:=n6.block b (h.holds b ob hb).2.1 (hown b ob hb)
  exact ⟨World.cell?_of_block (w:=w) hbl,World.frozen?_of_block (w:=w) hbl⟩
 refine ⟨keep,?_⟩
 obtain ⟨xz,hzo⟩:=hz.some
 obtain ⟨xr,hro⟩:=hr.some
 have locA:∀ {q0:Option Addr} {a0:Option Nat},(q0=toA a0∨(∃ b,q0=some ⟨b,0,none⟩∧w.heap.size≤b)∨q0=none)→∃ a',q0=toA a'∧∀ k,a'=some k→a0=some k∨w.heap.size≤k:=by
  rintro q0 a0 (e | ⟨b,e,hb⟩ | e)
  ·exact ⟨a0,e,fun k hk=>.inl hk⟩
  ·exact ⟨some b,e,fun k hk=>by cases hk;exact .inr hb⟩
  ·exact ⟨none,e,fun k hk=>by cases hk⟩
 obtain ⟨az,rfl,haz⟩:=locA n3
 obtain ⟨ar,rfl,har⟩:=locA n4
 generalize hwf:((((w1.setCell ⟨bz,oz+1,none⟩ (.slice (toA az) l c)).setCell ⟨br,or+1,none⟩ (.slice (toA ar) l2 c2)).setCell ⟨bz,oz,none⟩ (.bool false)).setCell ⟨br,or,none⟩ (.bool false))=wf
 have hfr1:Fr (fun k=>k=bz∨k=br∨ab bz=some k∨ab br=some k) w w1:=n6.mono (fun k _ e=>by
  rcases e with e | e
  ·exact .inr (.inr (.inl (toAk e)))
  ·exact .inr (.inr (.inr (toAk e))))
 have hfr:Fr (fun k=>k=bz∨k=br∨ab bz=some k∨ab br=some k) w wf:=by
  rw [← hwf]
  exact Q0I (Q0I (Q0I (Q0I hfr1 (.inl rfl) _) (.inr (.inl rfl)) _) (.inl rfl) _) (.inr (.inl rfl)) _
 have hbl:∀ k,k≠bz→k≠br→wf.heap[k]?=w1.heap[k]?:=by
  intro k e1 e2
  rw [← hwf,Below.heap_setCell _ _ _ _ e2,Below.heap_setCell _ _ _ _ e1,Below.heap_setCell _ _ _ _ e2,Below.heap_setCell _ _ _ _ e1]
 have hsz:wf.heap.size=w1.heap.size:=by rw [← hwf];simp [World.setCell]
 have k1z:w1.cell? ⟨bz,oz,none⟩=some (.bool (decide (vz<0))):=((keep bz xz hzo oz).1).trans z1
 have k2z:=((keep bz xz hzo (oz+1)).1).trans z2
 have k1r:w1.cell? ⟨br,or,none⟩=some (.bool (decide (vr<0))):=((keep br xr hro or).1).trans r1
 have k2r:=((keep br xr hro (or+1)).1).trans r2
 have hzr:∀ o o':Nat,(⟨bz,o,none⟩:Addr)≠⟨br,o',none⟩:=fun o o' e=>hne (by cases e;rfl)
 have hoo:∀ b o:Nat,(⟨b,o+1,none⟩:Addr)≠⟨b,o,none⟩:=fun b o e=>by cases e
 have cz1:wf.cell? ⟨bz,oz+1,none⟩=some (.slice (toA az) l c):=by
  rw [← hwf,World.cell?_setCell_other _ _ _ _ (hzr _ _).symm,World.cell?_setCell_other _ _ _ _ (hoo _ _).symm,World.cell?_setCell_other _ _ _ _ (hzr _ _).symm]
  exact World.cell?_setCell_same _ _ _ k2z
 have cz0:wf.cell? ⟨bz,oz,none⟩=some (.bool false):=by
  rw [← hwf,World.cell?_setCell_other _ _ _ _ (hzr _ _).symm]
  refine World.cell?_setCell_same _ _ _ (?_:_=some (.bool (decide (vz<0))))
  rw [World.cell?_setCell_other _ _ _ _ (hzr _ _).symm,World.cell?_setCell_other _ _ _ _ (hoo _ _)];exact k1z
 have cr1:wf.cell? ⟨br,or+1,none⟩=some (.slice (toA ar) l2 c2):=by
  rw [← hwf,World.cell?_setCell_other _ _ _ _ (hoo _ _).symm,World.cell?_setCell_other _ _ _ _ (hzr _ _)]
  refine World.cell?_setCell_same _ _ _ (?_:_=some (.slice (toA (ab br)) rl' rc'))
  rw [World.cell?_setCell_other _ _ _ _ (hzr _ _)];exact k2r
 have cr0:wf.cell? ⟨br,or,none⟩=some (.bool false):=by
  rw [← hwf]
  refine World.cell?_setCell_same _ _ _ (?_:_=some (.bool (decide (vr<0))))
  rw [World.cell?_setCell_other _ _ _ _ (hzr _ _),World.cell?_setCell_other _ _ _ _ (hoo _ _),World.cell?_setCell_other _ _ _ _ (hzr _ _)];exact k1r
 have hsame:∀ b o,b=bz∨b=br→(b=bz→o≠oz∧o≠oz+1)→(b=br→o≠or∧o≠or+1)→wf.cell? ⟨b,o,none⟩=w.cell? ⟨b,o,none⟩:=by
  intro b o hb h1 h2
  have e:∀ b' o',(b'=bz∧(o'=oz∨o'=oz+1))∨(b'=br∧(o'=or∨o'=or+1))→(⟨b',o',none⟩:Addr)≠⟨b,o,none⟩:=by
   rintro b' o' (⟨rfl,e⟩ | ⟨rfl,e⟩) heq
   ·cases heq;have:=h1 rfl;omega
   ·cases heq;have:=h2 rfl;omega
  rw [← hwf,World.cell?_setCell_other _ _ _ _ (e _ _ (.inr ⟨rfl,.inl rfl⟩)),World.cell?_setCell_other _ _ _ _ (e _ _ (.inl ⟨rfl,.inl rfl⟩)),World.cell?_setCell_other _ _ _ _ (e _ _ (.inr ⟨rfl,.inr rfl⟩)),World.cell?_setCell_other _ _ _ _ (e _ _ (.inl ⟨rfl,.inr rfl⟩))]
  rcases hb with rfl | rfl
  ·exact (keep _ xz hzo o).1
  ·exact (keep _ xr hro o).1
 have nk:∀ {a0:Option Nat} {b0:Nat} {ln cp v:Nat},(∀ k,a0=some k→ab b0=some k∨w.heap.size≤k)→Nt w1 (toA a0) ln cp v→Nt wf (toA a0) ln cp v∧∀ k,a0=some k→k<wf.heap.size:=by
  intro a0 b0 ln cp v hk hN
  have hkn:∀ k,a0=some k→k≠bz∧k≠br:=by
   intro k hk0
   rcases hk k hk0 with e | e
   ·have h3:=(h.own _ _ e).2.2
    exact ⟨fun e2=>(by rw [e2,hzo] at h3;cases h3),fun e2=>(by rw [e2,hro] at h3;cases h3)⟩
   ·exact ⟨by omega,by omega⟩
  constructor
  ·refine hN.congr (fun ad had=>?_)
   cases a0 with
   | none=>cases had
   | some k=>cases had;exact hbl k (hkn k rfl).1 (hkn k rfl).2
  ·rintro k rfl
   rw [hsz]
   exact hN.1.2.2.2.2.2.lt
 have hNz:=nk haz n1
 have hNr:=nk har n2
 have Iz:IntC wf bz oz az (q:Int):=⟨l,c,by rw [Ql];exact cz0,cz1,by rw [Int.natAbs_natCast];exact hNz.1⟩
 have Ir:IntC wf br or ar (r:Int):=⟨l2,c2,by rw [Ql];exact cr0,cr1,by rw [Int.natAbs_natCast];exact hNr.1⟩
 have hd:∀ k,az=some k→ar≠some k:=by
  rintro k rfl rfl
  have:Go.Proofs.YtpebcmfpehdafaaGreatDoor.same (toA (some k)) (toA (some k))=true:=by simp [Go.Proofs.YtpebcmfpehdafaaGreatDoor.same,toA]
  rw [this] at n5;cases n5
 have mk:∀ oz' or':Ob,Holds wf bz oz' az→Holds wf br or' ar→St W (upd (upd σ bz oz') br or') wf:=fun oz' or' h1 h2 =>
  h.turn2 bz br oz' or' az ar hne (by rw [hzo];simp) (by rw [hro];simp) hfr h1 h2
   (fun k hk=>⟨hNz.2 k hk,(haz k hk).elim .inl (fun e=>.inr (.inr e))⟩) (fun k hk=>⟨hNr.2 k hk,(har k hk).elim (fun e=>.inr (.inl e)) (fun e=>.inr (.inr e))⟩) hd
 have holdz:∃ ob,Holds wf bz ob az∧∀ k,setN σ bz (q:Int) k=upd σ bz ob k:=by
  rcases hz with ⟨hb,rfl⟩ | ⟨f,n,e,hb,rfl⟩
  ·obtain ⟨_,_,⟨T,hT⟩,_⟩:=h.holds bz _ hb
   exact ⟨.big q,⟨⟨T,hfr.row hT⟩,Iz⟩,Q0r hb _⟩
  ·obtain ⟨_,_,⟨T,hT⟩,c1,c2',c3,_⟩:=h.holds bz _ hb
   exact ⟨.dec f n e q,⟨⟨T,hfr.row hT⟩,by rw [hsame _ _ (.inl rfl) (fun _=>⟨by omega,by omega⟩) (fun e=>absurd e hne)];exact c1,by rw [hsame _ _ (.inl rfl) (fun _=>⟨by omega,by omega⟩) (fun e=>absurd e hne)];exact c2',by rw [hsame _ _ (.inl rfl) (fun _=>⟨by omega,by omega⟩) (fun e=>absurd e hne)];exact c3,Iz⟩,Q0s hb _⟩
 have holdr:∃ ob,Holds wf br ob ar∧∀ k,setN (setN σ bz (q:Int)) br (r:Int) k=upd (setN σ bz (q:Int)) br ob k:=by
  rcases hr with ⟨hb,rfl⟩ | ⟨f,n,e,hb,rfl⟩
  ·obtain ⟨_,_,⟨T,hT⟩,_⟩:=h.holds br _ hb
   exact ⟨.big r,⟨⟨T,hfr.row hT⟩,Ir⟩,Q0r (by rw [Qh _ _ hne.symm];exact hb) _⟩
  ·obtain ⟨_,_,⟨T,hT⟩,c1,c2',c3,_⟩:=h.holds br _ hb
   exact ⟨.dec f n e r,⟨⟨T,hfr.row hT⟩,by rw [hsame _ _ (.inr rfl) (fun e=>absurd e.symm hne) (fun _=>⟨by omega,by omega⟩)];exact c1,by rw [hsame _ _ (.inr rfl) (fun e=>absurd e.symm hne) (fun _=>⟨by omega,by omega⟩)];exact c2',by rw [hsame _ _ (.inr rfl) (fun e=>absurd e.symm hne) (fun _=>⟨by omega,by omega⟩)];exact c3,Ir⟩,Q0s (by rw [Qh _ _ hne.symm];exact hb) _⟩
 obtain ⟨obz,hz1,hz2⟩:=holdz
 obtain ⟨obr,hr1,hr2⟩:=holdr
 refine (mk obz obr hz1 hr1).ext (fun k=>?_)
 rw [hr2 k]
 by_cases e:k=br
 ·rw [e,Q1,Q1]
 ·rw [Qa _ _ e,Qa _ _ e,hz2 k]
theorem SM.divAt {w w' w2:World}(h:SM w w'){zp rp:Option Addr}{q r:Nat}{p:Option Addr}{l c:Nat}{p2:Option Addr}{l2 c2:Nat}(hn:DivAt w' zp rp q r p l c p2 l2 c2 w2):DivAt w zp rp q r p l c p2 l2 c2 w2 :=
 ⟨hn.nq,hn.nr,by have:=hn.lq;rw [h.1] at this;exact this,by have:=hn.lr;rw [h.1] at this;exact this,hn.ne,h.fr hn.fr⟩
theorem DivAt.q {w w2:World}{zp:Option Addr}{q r:Nat}{p:Option Addr}{l c:Nat}{p2:Option Addr}{l2 c2:Nat}(h:DivAt w zp none q r p l c p2 l2 c2 w2):NatAt w zp q p l c w2 :=
 ⟨h.nq,h.lq,h.fr.mono (fun k _ e=>by rcases e with e | ⟨a,e,_⟩;exact e;cases e)⟩
theorem DivAt.r {w w2:World}{rp:Option Addr}{q r:Nat}{p:Option Addr}{l c:Nat}{p2:Option Addr}{l2 c2:Nat}(h:DivAt w none rp q r p l c p2 l2 c2 w2):NatAt w rp r p2 l2 c2 w2 :=
 ⟨h.nr,h.lr,h.fr.mono (fun k _ e=>by rcases e with ⟨a,e,_⟩ | e;cases e;exact e)⟩
def QRp (w:World)(bz oz br or:Nat)(zp rp:Option Addr)(q r:Nat)(wx:World):Prop :=
 ∃ p l c p2 l2 c2 w1,DivAt w zp rp q r p l c p2 l2 c2 w1∧wx=(w1.setCell ⟨bz,oz+1,none⟩ (.slice p l c)).setCell ⟨br,or+1,none⟩ (.slice p2 l2 c2)
structure AH (P:Program) (ops:Array Oper) (Q:Exit→Act→World→Prop) (S:World→Prop) (fuel:Nat) (listed:Array Bool) (a:Act) (w:World):Prop where
 out:wpAnyH P .any ops Q S fuel listed a w
section
variable {P : Program} {ops : Array Oper} {Q : Exit → Act → World → Prop} {S : World → Prop}
theorem AH.start {id:Nat}{a:Act}{w:World}(S:World→Prop)(hm:P.follows .mixedOrders=true)(h:AH P ops Q S ops.size (Array.replicate ops.size false) a w.drew):(Code.region id ops true).wp P Q a w :=
 wp_region_held hm h.out
theorem AH.yield {i:Nat}{oi:Oper}{v:Value}{fuel:Nat}{listed:Array Bool}{a:Act}{w:World}(hi:ops[i]?=some oi)(hs:Region.noSelect ops=true)(hf:Region.free .any ops listed i=true)(hr:(Region.ready .any ops listed).contains i=true)
  (hQ:∀ c a w,Q (.panic c) (a.put oi.dst v) w→Q (.panic c) a w) (hw:Region.wanted oi (yielded ops a.tmps)=true) (hS:S w) (hv:∀ w,S w→(execOp a.eval oi).run P w=.ok (.value v) w)
  (h:AH P ops Q S fuel (listed.setIfInBounds i true) (a.put oi.dst v) w):AH P ops Q S (fuel+1) listed a w :=
 ⟨wpAnyH_take hi hs hf hr hQ (Or.inl ⟨hw,hv⟩) hS h.out⟩
theorem AH.pass {i:Nat}{oi:Oper}{fuel:Nat}{listed:Array Bool}{a:Act}{w:World}(hi:ops[i]?=some oi)(hs:Region.noSelect ops=true)(hf:Region.free .any ops listed i=true)(hr:(Region.ready .any ops listed).contains i=true)
  (hQ:∀ c a w,Q (.panic c) (a.put oi.dst undef) w→Q (.panic c) a w) (hw:Region.wanted oi (yielded ops a.tmps)=false) (hS:S w)
  (h:AH P ops Q S fuel (listed.setIfInBounds i true) (a.put oi.dst undef) w):AH P ops Q S (fuel+1) listed a w :=
 ⟨wpAnyH_take hi hs hf hr hQ (Or.inr ⟨hw,rfl⟩) hS h.out⟩
theorem AH.one {i:Nat}{o:Oper}{fuel:Nat}{listed:Array Bool}{a:Act}{w:World}(hr:Region.ready .any ops listed=[i])(ho:ops[i]?=some o)(hw:Region.wanted o (yielded ops a.tmps)=true)
  (h:∀ K:Act→World→Prop,(∀ a w,S w→AH P ops Q S fuel (listed.setIfInBounds i true) a w→K a w)→Oper.wp P o a w K Q):AH P ops Q S (fuel+1) listed a w:=by
 refine ⟨wpAnyH_all hr (by simp) ?_⟩
 intro j hj
 have:j=i:=by simpa using hj
 subst this
 unfold wpOp
 simp only [ho,hw,if_true]
 refine .inl ?_
 exact h _ (fun a w hS ha=>⟨hS,ha.out⟩)
theorem AH.done {fuel:Nat}{listed:Array Bool}{a:Act}{w:World}(hr:Region.ready .any ops listed=[])(h:Q .normal a w):AH P ops Q S fuel listed a w:=⟨wpAnyH_done hr h fuel⟩
end
theorem Zp_ : (∀ {α : Type} {l : List α} {i : Nat} (h : i < l.toArray.size), l.toArray[i] = l[i]) ∧ (∀ {α : Type} {a : α} {l : List α} (h : 0 < (a :: l).length), (a :: l)[0] = a) ∧ (∀ {α : Type} {a : α} {l : List α} {i : Nat} (h : i + 1 < (a :: l).length), (a :: l)[i + 1] = l[i]'(Nat.lt_of_succ_lt_succ h)) ∧ (∀ {α : Type} {l : List α} {i : Nat} {a : α}, l.toArray.setIfInBounds i a = (l.set i a).toArray) ∧ (∀ {α : Type} {x a : α} {l : List α}, (x :: l).set 0 a = a :: l) ∧ (∀ {α : Type} {x a : α} {l : List α} {n : Nat}, (x :: l).set (n + 1) a = x :: l.set n a) :=
 ⟨fun h => List.getElem_toArray h, fun _ => rfl, fun _ => rfl, List.setIfInBounds_toArray _ _ _, List.set_cons_zero, List.set_cons_succ⟩
section
variable {P : Program} {ops : Array Oper} {Q : Exit → Act → World → Prop} {S : World → Prop}
theorem AH.y {i:Nat}{oi:Oper}{v:Value}{fuel:Nat}{listed:Array Bool}{a:Act}{w:World}(hi:ops[i]?=some oi)(hk:(Region.noSelect ops && Region.free .any ops listed i && (Region.ready .any ops listed).contains i && Region.wanted oi (yielded ops a.tmps))=true)
  (hQ:∀ c a w,Q (.panic c) (a.put oi.dst v) w→Q (.panic c) a w) (hS:S w) (hv:∀ w,S w→(execOp a.eval oi).run P w=.ok (.value v) w)
  (h:AH P ops Q S fuel (listed.setIfInBounds i true) (a.put oi.dst v) w):AH P ops Q S (fuel+1) listed a w:=by
 simp only [Bool.and_eq_true] at hk
 exact AH.yield hi hk.1.1.1 hk.1.1.2 hk.1.2 hQ hk.2 hS hv h
theorem AH.z (i:Nat){oi:Oper}{v:Value}{fuel:Nat}{listed:Array Bool}{a a':Act}{w:World}(hS:S w)
  (h:AH P ops Q S fuel (listed.setIfInBounds i true) a' w) (hi:ops[i]?=some oi:=by rfl) (hk:(Region.noSelect ops && Region.free .any ops listed i && (Region.ready .any ops listed).contains i && Region.wanted oi (yielded ops a.tmps))=true:=by kernel_rfl)
  (hQ:∀ c a w,Q (.panic c) (a.put oi.dst v) w→Q (.panic c) a w:=by exact fun _ _ _ h=>h)
  (hv:∀ w,S w→(execOp a.eval oi).run P w=.ok (.value v) w:=by (intro wy hy;(try dsimp only at hy);(repeat (obtain ⟨_,hy⟩:_∧_:=hy));go_simp;try with_reducible rfl))
  (hp:a.put oi.dst v=a':=by (conv=>lhs;simp only [Act.put,Zp_])):AH P ops Q S (fuel+1) listed a w :=
 AH.y hi hk hQ hS hv (by rw [hp];exact h)
theorem AH.o (i:Nat){o:Oper}{fuel:Nat}{listed:Array Bool}{a:Act}{w:World}
  (h:∀ K:Act→World→Prop,(∀ a w,S w→AH P ops Q S fuel (listed.setIfInBounds i true) a w→K a w)→Oper.wp P o a w K Q)
  (hr:Region.ready .any ops listed=[i]:=by kernel_rfl) (ho:ops[i]?=some o:=by rfl) (hw:Region.wanted o (yielded ops a.tmps)=true:=by kernel_rfl):AH P ops Q S (fuel+1) listed a w :=
 AH.one hr ho hw h
theorem AH.two {i j:Nat}{o u:Oper}{fuel:Nat}{listed:Array Bool}{a:Act}{w:World}(hr:Region.ready .any ops listed=[i,j])(ho:ops[i]?=some o)(hu:ops[j]?=some u)(hw:Region.wanted o (yielded ops a.tmps)=true)(hv:Region.wanted u (yielded ops a.tmps)=true)
  (h:∀ K:Act→World→Prop,(∀ a w,S w→AH P ops Q S fuel (listed.setIfInBounds i true) a w→K a w)→Oper.wp P o a w K Q)
  (h':∀ K:Act→World→Prop,(∀ a w,S w→AH P ops Q S fuel (listed.setIfInBounds j true) a w→K a w)→Oper.wp P u a w K Q):AH P ops Q S (fuel+1) listed a w:=by
 refine ⟨wpAnyH_all hr (by simp) ?_⟩
 intro k hk
 rcases (show k=i∨k=j by simpa using hk) with rfl | rfl
 ·unfold wpOp
  simp only [ho,hw,if_true]
  exact .inl (h _ (fun a w hS ha=>⟨hS,ha.out⟩))
 ·unfold wpOp
  simp only [hu,hv,if_true]
  exact .inl (h' _ (fun a w hS ha=>⟨hS,ha.out⟩))
theorem AH.three {i j k:Nat}{o u x:Oper}{fuel:Nat}{listed:Array Bool}{a:Act}{w:World}(hr:Region.ready .any ops listed=[i,j,k])(ho:ops[i]?=some o)(hu:ops[j]?=some u)(hx:ops[k]?=some x)(hw:Region.wanted o (yielded ops a.tmps)=true)(hv:Region.wanted u (yielded ops a.tmps)=true)(hy:Region.wanted x (yielded ops a.tmps)=true)
  (h:∀ K:Act→World→Prop,(∀ a w,S w→AH P ops Q S fuel (listed.setIfInBounds i true) a w→K a w)→Oper.wp P o a w K Q)
  (h':∀ K:Act→World→Prop,(∀ a w,S w→AH P ops Q S fuel (listed.setIfInBounds j true) a w→K a w)→Oper.wp P u a w K Q)
  (h'':∀ K:Act→World→Prop,(∀ a w,S w→AH P ops Q S fuel (listed.setIfInBounds k true) a w→K a w)→Oper.wp P x a w K Q):AH P ops Q S (fuel+1) listed a w:=by
 refine ⟨wpAnyH_all hr (by simp) ?_⟩
 intro l hl
 rcases (show l=i∨l=j∨l=k by simpa using hl) with rfl | rfl | rfl
 ·unfold wpOp
  simp only [ho,hw,if_true]
  exact .inl (h _ (fun a w hS ha=>⟨hS,ha.out⟩))
 ·unfold wpOp
  simp only [hu,hv,if_true]
  exact .inl (h' _ (fun a w hS ha=>⟨hS,ha.out⟩))
 ·unfold wpOp
  simp only [hx,hy,if_true]
  exact .inl (h'' _ (fun a w hS ha=>⟨hS,ha.out⟩))
theorem AH.t (i j:Nat){o u:Oper}{fuel:Nat}{listed:Array Bool}{a:Act}{w:World}
  (h:∀ K:Act→World→Prop,(∀ a w,S w→AH P ops Q S fuel (listed.setIfInBounds i true) a w→K a w)→Oper.wp P o a w K Q)
  (h':∀ K:Act→World→Prop,(∀ a w,S w→AH P ops Q S fuel (listed.setIfInBounds j true) a w→K a w)→Oper.wp P u a w K Q)
  (hr:Region.ready .any ops listed=[i,j]:=by kernel_rfl) (ho:ops[i]?=some o:=by rfl) (hu:ops[j]?=some u:=by rfl) (hw:Region.wanted o (yielded ops a.tmps)=true:=by kernel_rfl) (hv:Region.wanted u (yielded ops a.tmps)=true:=by kernel_rfl):AH P ops Q S (fuel+1) listed a w :=
 AH.two hr ho hu hw hv h h'
theorem AH.p (i:Nat){oi:Oper}{fuel:Nat}{listed:Array Bool}{a a':Act}{w:World}(hS:S w)(h:AH P ops Q S fuel (listed.setIfInBounds i true) a' w)
  (hi:ops[i]?=some oi:=by rfl) (hs:Region.noSelect ops=true:=by kernel_rfl) (hf:Region.free .any ops listed i=true:=by kernel_rfl) (hr:(Region.ready .any ops listed).contains i=true:=by kernel_rfl)
  (hQ:∀ c a w,Q (.panic c) (a.put oi.dst undef) w→Q (.panic c) a w:=by exact fun _ _ _ h=>h) (hw:Region.wanted oi (yielded ops a.tmps)=false:=by kernel_rfl)
  (hp:a.put oi.dst undef=a':=by (conv=>lhs;simp only [Act.put,Zp_])):AH P ops Q S (fuel+1) listed a w :=
 AH.pass hi hs hf hr hQ hw hS (by rw [hp];exact h)
end
def signI (v:Int):Int:=if v=0 then 0 else if v<0 then -1 else 1
theorem Q0Z {W:World}{σ:Sg}{w:World}(h:St W σ w){bx ox:Nat}{vx:Int}(hx:Num σ bx ox vx) :
  Calls Tryz.prog 142 #[.pointer (some ⟨bx,ox,none⟩)] w fun e w'=>e=.returned (.int .i64 (signI vx))∧w'=w:=by
 obtain ⟨xp,xl,xc,hX⟩:=h.za hx
 have hx0:=hX.cell0;have hx1:=hX.cell1
 have hzi:=hX.nt.zero_iff
 unfold signI
 by_cases h0:vx=0
 ·have:xl=0:=hzi.2 (by omega)
  subst this
  rw [if_pos h0]
  clear hX hzi h hx h0
  go_enter Tryz.func142, Tryz.ntmps142
  go_wp2
  go_ret
  exact ⟨rfl,rfl⟩
 ·have hl:((xl:Int) == 0)=false:=by
   have:xl≠0:=fun e=>by have:=hzi.1 e;omega
   simp;omega
  rw [if_neg h0]
  by_cases hn:vx<0
  ·have hd:decide (vx<0)=true:=by simpa using hn
   rw [hd] at hx0
   rw [if_pos hn]
   clear hX hzi h hx h0 hn hd
   go_enter Tryz.func142, Tryz.ntmps142
   go_wp2
   go_ret
   exact ⟨rfl,rfl⟩
  ·have hd:decide (vx<0)=false:=by simpa using hn
   rw [hd] at hx0
   rw [if_neg hn]
   clear hX hzi h hx h0 hn hd
   go_enter Tryz.func142, Tryz.ntmps142
   go_wp2
   go_ret
   exact ⟨rfl,rfl⟩
theorem Q3G {W:World}{σ:Sg}{w:World}(h:St W σ w){bx ox:Nat}{vx:Int}(hx:Num σ bx ox vx) :
  Calls Tryz.prog 168 #[.pointer (some ⟨bx,ox,none⟩)] w fun e w'=>e=.returned (.int .i64 ((bits2 vx.natAbs:Nat):Int))∧w'=w:=by
 obtain ⟨xp,xl,xc,hX⟩:=h.za hx
 have hx1:=hX.cell1
 have HB:=Lh (Q2Q xp xl xc vx.natAbs w hX.nt)
 clear hX h hx
 go_enter Tryz.func168, Tryz.ntmps168
 go_wp2_with (go_at_call 188;refine HB.out.mono ?_;rintro e w' ⟨rfl,hw⟩;subst hw)
 go_ret
 exact ⟨rfl,rfl⟩
theorem Q25 {W:World}{σ:Sg}{w:World}(h:St W σ w){bx ox bu ou:Nat}{x u:Nat}(hx:Num σ bx ox (x:Int))(hu:Num σ bu ou (u:Int))(hne:bx≠bu) :
  Calls Tryz.prog 139 #[.pointer (some ⟨bx,ox,none⟩),.pointer (some ⟨bu,ou,none⟩)] w fun e w'=>e=.returned (.int .i64 (cmpI x u))∧∃ q,w'=w.drewN q:=by
 obtain ⟨xp,xl,xc,hX⟩:=h.za hx
 obtain ⟨up,ul,uc,hY⟩:=h.za hu
 have hx0:=hX.cell0;have hx1:=hX.cell1
 have hu0:=hY.cell0;have hu1:=hY.cell1
 rw [Ql] at hx0 hu0
 have hpe:=hX.ptr_ne hY hne (o:=ox) (o':=ou)
 have HC:Hid (∀ a n,Calls Tryz.prog 170 #[.slice xp xl xc,.slice up ul uc] (w.drewN (a+n)) fun e w'=>e=.returned (.int .i64 (cmpI x u))∧∃ q',w'=w.drewN (a+q')):=fun a n=>by
  have h1:=Q3W xp up xl xc ul uc x u (w.drewN (a+n)) (hX.nt.drewN _) (hY.nt.drewN _)
  exact h1.mono fun e w' ⟨he,q,hw⟩=>⟨he,n+q,by rw [hw,World.drewN_drewN,Nat.add_assoc]⟩
 clear hX hY h hx hu
 go_enter Tryz.func139, Tryz.ntmps139
 go_wp2_with fail
 go_quiet (fail)
 go_wp2_with fail
 go_quiet ((go_at_call 170;exact HC.out _ _))
 go_wp2_with fail
 go_ret
 exact ⟨rfl,_,rfl⟩
theorem QS {W:World}{σ:Sg}{w:World}(h:St W σ w){bz oz bx ox:Nat}{vz vx:Int}(hz:Num σ bz oz vz)(hx:Num σ bx ox vx)(nex:bz≠bx)(lx:vx.natAbs<BB^100) :
  Calls Tryz.prog 161 #[.pointer (some ⟨bz,oz,none⟩),.pointer (some ⟨bx,ox,none⟩)] w fun e w'=>e=.returned (.pointer (some ⟨bz,oz,none⟩))∧St W (setN σ bz vx) w':=by
 obtain ⟨zp,zl,zc,hZz⟩:=h.za hz
 have hz0:=hZz.cell0;have hz1:=hZz.cell1
 obtain ⟨xp,xl,xc,hZx⟩:=h.za hx
 have hx0:=hZx.cell0;have hx1:=hZx.cell1
 have hxl:=hZx.len_le (n:=100) lx
 have hpe:=hZz.ptr_neq hZx nex (o:=oz) (o':=ox)
 have HA:Hid (∀ w',SM w w'→Calls Tryz.prog 183 #[.slice zp zl zc,.slice xp xl xc] w' (NatRes w' zp vx.natAbs)):=fun w' hw=>Q0T zp zl zc xp xl xc vx.natAbs w' (hw.nt hZz.nt).1 (hw.nt hZx.nt) (by unfold CAP;omega)
 obtain ⟨qz,hqz⟩:=hz.some
 have HOz:=Lh hqz;clear hqz
 have HZz:=Lh hZz;clear hZz hz
 obtain ⟨qx,hqx⟩:=hx.some
 have HOx:=Lh hqx;clear hqx
 have HZx:=Lh hZx;clear hZx hx
 clear h lx hxl
 go_enter Tryz.func161, Tryz.ntmps161
 go_wp2_with fail
 obtain ⟨w0,hw0⟩:∃ w0,w0=w:=⟨_,rfl⟩
 have HM:Hid (SM w w0):=by rw [hw0];exact SM.refl w
 rw [← hw0]
 clear hw0
 have k1z:=(HM.out.cell bz (oz+1)).trans hz1
 have k1x:=(HM.out.cell bx (ox+1)).trans hx1
 refine AH.start (fun x=>x.cell? ⟨bx,ox+1,none⟩=some (.slice xp xl xc)) (by kernel_rfl) ?_
 refine AH.z 0 k1x ?_
 refine AH.z 1 k1x ?_
 refine AH.z 2 k1x ?_
 refine AH.z 3 k1x ?_
 refine AH.z 5 k1x ?_
 refine AH.z 6 k1x ?_
 refine AH.z 7 k1x ?_
 refine AH.z 8 k1x ?_
 refine AH.o 4 (fun K hK=>?_)
 go_simp
 refine hK _ _ k1x ?_
 clear hK K
 try simp only [Act.put,Zp_]
 all_goals
  refine AH.o 9 (fun K hK=>?_)
  go_simp
  refine (HA.out _ HM.out.drew).mono ?_
  rintro e w1 ⟨p,l,c,rfl,hR⟩
  have HP:=Lh (HZz.out.put _ p l c w1 vx (HM.out.drew.natAt hR) rfl)
  clear hR
  have hzf1:=HZz.out.fz1
  have hzf0:=HZz.out.fz0
  have kz1:=(HP.out.1 bz qz HOz.out (oz+1)).1.trans hz1
  have kf1:=(HP.out.1 bz qz HOz.out (oz+1)).2.trans hzf1
  have kf0:=(HP.out.1 bz qz HOz.out oz).2.trans hzf0
  have kz0:=(HP.out.1 bz qz HOz.out oz).1.trans hz0
  clear hzf1 hzf0
  have k2x:=(HP.out.1 bx qx HOx.out (ox+1)).1.trans hx1
  have k3x:=(World.cell?_setCell_far w1 ⟨bz,oz+1,none⟩ ⟨bx,ox+1,none⟩ (.slice p l c) nex).trans k2x
  have n2x:=(HP.out.1 bx qx HOx.out ox).1.trans hx0
  refine hK _ _ k2x ?_
  clear hK K
  try simp only [Act.put,Zp_]
  refine AH.z 10 k2x ?_
  refine AH.z 11 k2x ?_
  refine AH.o 12 (fun K hK=>?_)
  go_simp
  refine hK _ _ k3x ?_
  clear hK K
  try simp only [Act.put,Zp_]
  refine AH.done (by kernel_rfl) ?_
 all_goals
  have hcz:=World.cell?_setCell_same w1 ⟨bz,oz+1,none⟩ (.slice p l c) kz1
  have hzz:=(World.cell?_setCell_other w1 ⟨bz,oz+1,none⟩ ⟨bz,oz,none⟩ (.slice p l c) (by intro e;cases e)).trans kz0
  have hff:(w1.setCell ⟨bz,oz+1,none⟩ (.slice p l c)).frozen? ⟨bz,oz,none⟩=false:=by rw [World.frozen?_setCell];exact kf0
  have hnx:=(World.cell?_setCell_far w1 ⟨bz,oz+1,none⟩ ⟨bx,ox,none⟩ (.slice p l c) nex).trans n2x
  have hSt:=HP.out.2
  generalize w1.setCell ⟨bz,oz+1,none⟩ (.slice p l c)=w2 at hcz hzz hff hSt hnx ⊢
  have HSt:=Lh hSt
  clear hSt kz1 kz0 kf1 kf0 HP k2x k3x n2x
  go_wp2_with fail
  go_ret
  exact ⟨rfl,by have:=HSt.out;first | exact this | exact this.drew⟩
theorem Q2e {W:World}{σ:Sg}{w:World}(h:St W σ w){bz oz:Nat}{vz:Int}(hz:Num σ bz oz vz) :
  Calls Tryz.prog 161 #[.pointer (some ⟨bz,oz,none⟩),.pointer (some ⟨bz,oz,none⟩)] w fun e w'=>e=.returned (.pointer (some ⟨bz,oz,none⟩))∧w'=w:=by
 obtain ⟨zp,zl,zc,hZz⟩:=h.za hz
 have hpe:=hZz.ptr_same (o:=oz)
 clear hZz h hz
 go_enter Tryz.func161, Tryz.ntmps161
 go_wp2_with fail
 go_ret
 exact ⟨rfl,rfl⟩
theorem Q1E {W:World}{σ:Sg}{w:World}(h:St W σ w){bz oz bx ox:Nat}{vz vx:Int}(hz:Num σ bz oz vz)(hx:Num σ bx ox vx)(nex:bz≠bx)(lx:vx.natAbs<BB^100) :
  Calls Tryz.prog 136 #[.pointer (some ⟨bz,oz,none⟩),.pointer (some ⟨bx,ox,none⟩)] w fun e w'=>e=.returned (.pointer (some ⟨bz,oz,none⟩))∧St W (setN σ bz (vx.natAbs:Int)) w':=by
 have HS:=Lh (QS h hz hx nex lx)
 have HN:=Lh hz
 clear h hx lx hz
 go_enter Tryz.func136, Tryz.ntmps136
 go_wp2_with (go_at_call 161;refine HS.out.mono ?_;rintro e w1 ⟨rfl,hS⟩;have hN:=HN.out.set vx;obtain ⟨_,_,_,hZ⟩:=hS.za hN;have hz0:=hZ.cell0;have hf0:=hZ.fz0;have HR:=Lh (hS.sign hN (vx.natAbs:Int) (Int.natAbs_natCast _));clear hS hN hZ)
 go_ret
 refine ⟨rfl,?_⟩
 have:=HR.out
 rw [Ql] at this
 refine this.ext (fun k=>?_)
 unfold setN
 by_cases e:k=bz
 ·subst e;simp only [if_true];cases σ k with
  | none=>rfl
  | some ob=>cases ob <;> rfl
 ·simp only [if_neg e]
theorem Q2f {W:World}{σ:Sg}{w:World}(h:St W σ w){bz oz:Nat}{vz:Int}(hz:Num σ bz oz vz) :
  Calls Tryz.prog 136 #[.pointer (some ⟨bz,oz,none⟩),.pointer (some ⟨bz,oz,none⟩)] w fun e w'=>e=.returned (.pointer (some ⟨bz,oz,none⟩))∧St W (setN σ bz (vz.natAbs:Int)) w':=by
 have HS:=Lh (Q2e h hz)
 obtain ⟨_,_,_,hZ⟩:=h.za hz
 have hz0:=hZ.cell0;have hf0:=hZ.fz0
 have HR:=Lh (h.sign hz (vz.natAbs:Int) (Int.natAbs_natCast _))
 clear h hz hZ
 go_enter Tryz.func136, Tryz.ntmps136
 go_wp2_with (go_at_call 161;refine HS.out.mono ?_;rintro e w1 ⟨rfl,hw⟩;subst hw)
 go_ret
 refine ⟨rfl,?_⟩
 have:=HR.out
 rw [Ql] at this
 exact this
theorem Q0j {W:World}{σ:Sg}{w:World}(h:St W σ w){bz oz:Nat}{vz v:Int}(hz:Num σ bz oz vz)(hv:v.natAbs<2^62) :
  Calls Tryz.prog 178 #[.pointer (some ⟨bz,oz,none⟩),.int .i64 v] w fun e w'=>e=.returned (.pointer (some ⟨bz,oz,none⟩))∧St W (setN σ bz v) w':=by
 obtain ⟨zp,zl,zc,hZz⟩:=h.za hz
 have hz0:=hZz.cell0;have hz1:=hZz.cell1
 have hlt:v.natAbs<BB:=by unfold BB;omega
 have HA:=Lh (Q1v zp zl zc v.natAbs hlt w hZz.nt.1)
 obtain ⟨qz,hqz⟩:=hz.some
 have HOz:=Lh hqz;clear hqz
 have HZz:=Lh hZz;clear hZz hz
 clear h hlt
 by_cases hn:v<0
 ·obtain ⟨m,hm⟩:∃ m:Nat,v.natAbs=m:=⟨_,rfl⟩
  obtain rfl:v = -(m:Int):=by omega
  have hd:decide (-(m:Int)<0)=true:=by simpa using hn
  have e1:wrap64 (m:Int)=(m:Int):=by unfold wrap64;omega
  have e2:IntKind.u64.wrap (m:Int)=(m:Int):=Qg m (by unfold BB;omega)
  rw [hm] at HA
  have HD:=Lh hd;clear hd
  have HM:=Lh hm;clear hm
  clear hv
  go_enter Tryz.func178, Tryz.ntmps178
  go_wp2_with (go_at_call 182;refine HA.out.mono ?_;rintro e w1 ⟨p,l,c,rfl,hR⟩;have HP:=Lh (HZz.out.put _ p l c w1 (-(m:Int)) hR HM.out.symm);clear hR;have hzf1:=HZz.out.fz1;have hzf0:=HZz.out.fz0;have kz1:=(HP.out.1 bz qz HOz.out (oz+1)).1.trans hz1;have kf1:=(HP.out.1 bz qz HOz.out (oz+1)).2.trans hzf1;have kf0:=(HP.out.1 bz qz HOz.out oz).2.trans hzf0;have kz0:=(HP.out.1 bz qz HOz.out oz).1.trans hz0;clear hzf1 hzf0)
  go_ret
  refine ⟨rfl,?_⟩
  have:=HP.out.2
  rw [HD.out] at this
  exact this
 ·obtain ⟨m,hm⟩:∃ m:Nat,v.natAbs=m:=⟨_,rfl⟩
  obtain rfl:v=(m:Int):=by omega
  have e2:IntKind.u64.wrap (m:Int)=(m:Int):=Qg m (by unfold BB;omega)
  have hn':¬ ((m:Int)<0):=hn
  rw [hm] at HA
  have HM:=Lh hm;clear hm
  clear hv
  go_enter Tryz.func178, Tryz.ntmps178
  go_wp2_with (go_at_call 182;refine HA.out.mono ?_;rintro e w1 ⟨p,l,c,rfl,hR⟩;have HP:=Lh (HZz.out.put _ p l c w1 (m:Int) hR HM.out.symm);clear hR;have hzf1:=HZz.out.fz1;have hzf0:=HZz.out.fz0;have kz1:=(HP.out.1 bz qz HOz.out (oz+1)).1.trans hz1;have kf1:=(HP.out.1 bz qz HOz.out (oz+1)).2.trans hzf1;have kf0:=(HP.out.1 bz qz HOz.out oz).2.trans hzf0;have kz0:=(HP.out.1 bz qz HOz.out oz).1.trans hz0;clear hzf1 hzf0)
  go_ret
  refine ⟨rfl,?_⟩
  have:=HP.out.2
  rw [Ql] at this
  exact this
theorem Q9d {W:World}{σ:Sg}{w:World}(h:St W σ w){bx ox:Nat}{x:Nat}(hx:Num σ bx ox (x:Int)) :
  Calls Tryz.prog 195 #[.pointer (some ⟨bx,ox,none⟩),.int .i64 0] w fun e w'=>e=.returned (.int .u64 ((x % 2:Nat):Int))∧w'=w:=by
 obtain ⟨xp,xl,xc,hX⟩:=h.za hx
 have hx1:=hX.cell1
 have hnt:=hX.nt
 rw [Int.natAbs_natCast] at hnt
 rcases hnt.cases with ⟨rfl,rfl,rfl,rfl⟩ | ⟨b,rfl,h1,h2,h3,h4,h5,h6,h7⟩
 ·clear hX hnt h hx
  go_enter Tryz.func195, Tryz.ntmps195
  go_wp2_with fail
  go_ret
  exact ⟨rfl,rfl⟩
 ·rcases Nat.eq_zero_or_pos xl with hl0 | hl0
  ·subst hl0
   have hx00:=hX.nt.zero_iff.1 rfl
   obtain rfl:x=0:=by omega
   clear hX hnt h hx h6 h7
   go_enter Tryz.func195, Tryz.ntmps195
   go_wp2_with fail
   go_ret
   exact ⟨rfl,rfl⟩
  ·have hl1:(0:Int)<(xl:Int):=by omega
   have hc:=h5.get 0 hl0
   have hm:x % 2=rd w b 0 % 2:=by
    rw [← h6]
    obtain ⟨l',rfl⟩:∃ l',xl=l'+1:=⟨xl - 1,by omega⟩
    rw [Q0p];unfold BB;omega
   have hlt:=h5.lt 0 hl0
   rw [Nat.add_zero] at hc hlt
   rw [hm]
   generalize rd w b 0=r at hc hlt hm ⊢
   clear hX hnt h hx h5 h6 h7 h3 h4
   go_enter Tryz.func195, Tryz.ntmps195
   go_wp2_with fail
   go_ret
   refine ⟨?_,rfl⟩
   have hb:bits .and .u64 (r:Int) 1=((r % 2:Nat):Int):=by
    rw [show (1:Int)=((1:Nat):Int) from rfl,u64_and_nat r 1 hlt (by omega),Nat.and_one_is_mod]
   show Ending.returned (Value.int .u64 (bits .and .u64 (r:Int) 1))=_
   rw [hb]
theorem Q6X {W:World}{σ:Sg}{w:World}(hW:GW W)(h:St W σ w){bz oz bx ox bu ou:Nat}{vz:Int}{X Y:Nat}(hz:Num σ bz oz vz)(hx:Num σ bx ox (X:Int))(nex:bz≠bx)(hu:Num σ bu ou (Y:Int))(neu:bz≠bu)(hX:2≤X)(hXB:X<BB)(hYB:Y<BB)(hsz:X^Y<BB^22) :
  Calls Tryz.prog 225 #[.pointer (some ⟨bz,oz,none⟩),.pointer (some ⟨bx,ox,none⟩),.pointer (some ⟨bu,ou,none⟩),.pointer none,.bool false] w fun e w'=>e=.returned (.pointer (some ⟨bz,oz,none⟩))∧St W (setN σ bz ((X^Y:Nat):Int)) w':=by
 obtain ⟨zp,zl,zc,hZz⟩:=h.za hz
 have hz0:=hZz.cell0;have hz1:=hZz.cell1
 obtain ⟨xp,xl,xc,hZx⟩:=h.za hx
 have hx0:=hZx.cell0;have hx1:=hZx.cell1
 rw [Ql] at hx0
 obtain ⟨up,ul,uc,hZu⟩:=h.za hu
 have hu0:=hZu.cell0;have hu1:=hZu.cell1
 rw [Ql] at hu0
 have hxn:=hZx.nt
 rw [Int.natAbs_natCast] at hxn
 have hun:=hZu.nt
 rw [Int.natAbs_natCast] at hun
 have hxl:xl≤1:=hxn.len_of_lt (by rw [Nat.pow_one];exact hXB)
 obtain ⟨xb,rfl,rfl⟩:∃ xb,xp=some ⟨xb,0,none⟩∧xl=1:=by
  rcases hxn.cases with ⟨rfl,rfl,rfl,rfl⟩ | ⟨b,rfl,h1,h2,h3,h4,h5,h6,h7⟩
  ·omega
  ·refine ⟨b,rfl,?_⟩
   rcases Nat.eq_zero_or_pos xl with e | e
   ·subst e;have:=hxn.zero_iff.1 rfl;omega
   ·omega
 have hzx:Go.Proofs.YtpebcmfpehdafaaGreatDoor.same zp (some ⟨xb,0,none⟩)=false:=by
  rcases hZz.apart bx ox _ hx _ _ _ hx1 with ⟨e,_⟩ | ⟨_,e⟩
  ·exact absurd e.symm nex
  ·cases zp with
   | none=>rfl
   | some a=>simp [Go.Proofs.YtpebcmfpehdafaaGreatDoor.same,Ne.symm (e _ a rfl rfl)]
 have hzu:Go.Proofs.YtpebcmfpehdafaaGreatDoor.same zp up=false:=by
  rcases hZz.apart bu ou _ hu _ _ _ hu1 with ⟨e,_⟩ | ⟨_,e⟩
  ·exact absurd e.symm neu
  ·cases zp with
   | none=>rfl
   | some a=>cases up with
    | none=>rfl
    | some a'=>simp [Go.Proofs.YtpebcmfpehdafaaGreatDoor.same,Ne.symm (e a' a rfl rfl)]
 have HA:=Lh (Q6B zp zl zc xb xc X up ul uc Y false w hZz.nt.1 hX hXB hYB hsz hxn hun (h.gk hW) (fun k ⟨a,ha,e⟩=>by have:=hZz.new a ha;have:=hW.le;omega) hzx hzu)
 have HV:Hid (X^Y=(((X^Y:Nat):Int):Int).natAbs):=(Int.natAbs_natCast _).symm
 obtain ⟨qz,hqz⟩:=hz.some
 have HOz:=Lh hqz;clear hqz
 obtain ⟨qx,hqx⟩:=hx.some
 have HOx:=Lh hqx;clear hqx
 have HZz:=Lh hZz;clear hZz hz
 clear h hW hx hu hxn hun hZx hZu hsz hzx hzu hxl hX hXB hYB
 go_enter Tryz.func225, Tryz.ntmps225
 go_wp2_with fail
 refine HA.out.mono ?_
 rintro e w1 ⟨p,l,c,rfl,hR⟩
 have HP:=Lh (HZz.out.put _ p l c w1 ((X^Y:Nat):Int) hR HV.out)
 have HL:=Lh hR.1;clear hR
 have kz1:=(HP.out.1 bz qz HOz.out (oz+1)).1.trans hz1
 have kf1:=(HP.out.1 bz qz HOz.out (oz+1)).2.trans HZz.out.fz1
 have kf0:=(HP.out.1 bz qz HOz.out oz).2.trans HZz.out.fz0
 have kz0:=(HP.out.1 bz qz HOz.out oz).1.trans hz0
 have n2x:=(HP.out.1 bx qx HOx.out ox).1.trans hx0
 have hcz:=World.cell?_setCell_same w1 ⟨bz,oz+1,none⟩ (.slice p l c) kz1
 have hzz:=(World.cell?_setCell_other w1 ⟨bz,oz+1,none⟩ ⟨bz,oz,none⟩ (.slice p l c) (by intro e;cases e)).trans kz0
 have hff:(w1.setCell ⟨bz,oz+1,none⟩ (.slice p l c)).frozen? ⟨bz,oz,none⟩=false:=by rw [World.frozen?_setCell];exact kf0
 have hnx:=(World.cell?_setCell_far w1 ⟨bz,oz+1,none⟩ ⟨bx,ox,none⟩ (.slice p l c) nex).trans n2x
 have HSt:=Lh HP.out.2
 have HE:Hid (decide (((X^Y:Nat):Int)<0)=false):=Ql _
 clear HP kf0 kz0 n2x
 rcases Nat.eq_zero_or_pos l with hl0 | hl0
 ·subst hl0
  go_wp2_with fail
  go_ret
  exact ⟨rfl,by have:=HSt.out;rw [HE.out] at this;exact this⟩
 ·have hl1:(0:Int)<(l:Int):=by omega
  go_wp2_with fail
  go_ret
  exact ⟨rfl,by have:=HSt.out;rw [HE.out] at this;exact this⟩
theorem Q9J {W:World}{σ:Sg}{w:World}(hW:GW W)(h:St W σ w){bz oz bx ox bu ou:Nat}{vz:Int}{X Y:Nat}(hz:Num σ bz oz vz)(hx:Num σ bx ox (X:Int))(nex:bz≠bx)(hu:Num σ bu ou (Y:Int))(neu:bz≠bu)(hX:2≤X)(hXB:X<BB)(hYB:Y<BB)(hsz:X^Y<BB^22) :
  Calls Tryz.prog 189 #[.pointer (some ⟨bz,oz,none⟩),.pointer (some ⟨bx,ox,none⟩),.pointer (some ⟨bu,ou,none⟩),.pointer none] w fun e w'=>e=.returned (.pointer (some ⟨bz,oz,none⟩))∧St W (setN σ bz ((X^Y:Nat):Int)) w':=by
 have HE:=Lh (Q6X hW h hz hx nex hu neu hX hXB hYB hsz)
 clear h hW hx hu hz hsz hX hXB hYB
 go_enter Tryz.func189, Tryz.ntmps189
 go_wp2_with (go_at_call 225;refine HE.out.mono ?_;rintro e w1 ⟨rfl,hS⟩;have HS:=Lh hS;clear hS)
 go_ret
 exact ⟨rfl,HS.out⟩
theorem Q70 {W:World}{σ:Sg}{w:World}(hW:GW W)(h:St W σ w){bz oz bu ou:Nat}  {x y:Nat}(hz:Num σ bz oz (x:Int))(hu:Num σ bu ou (y:Int))(neu:bz≠bu)(nxy:bz≠bu)(lx:x<BB^39)(ly:y<BB^100) :
  Calls Tryz.prog 167 #[.pointer (some ⟨bz,oz,none⟩),.pointer none,.pointer (some ⟨bz,oz,none⟩),.pointer (some ⟨bu,ou,none⟩)] w fun e w'=>e=.returned (.tuple #[])∧St W (setN σ bz ((x*y:Nat):Int)) w':=by
 obtain ⟨zp,zl,zc,hZz⟩:=h.za hz
 have hz0:=hZz.cell0;have hz1:=hZz.cell1
 rw [Ql] at hz0
 obtain ⟨up,ul,uc,hZu⟩:=h.za hu
 have hu0:=hZu.cell0;have hu1:=hZu.cell1
 rw [Ql] at hu0
 have hxl:=hZz.len_le (n:=39) (by rw [Int.natAbs_natCast];exact lx)
 have hyl:=hZu.len_le (n:=100) (by rw [Int.natAbs_natCast];exact ly)
 have hpe:=hZz.ptr_ne hZu nxy (o:=oz) (o':=ou)
 have HA:Hid (∀ w',SM w w'→Calls Tryz.prog 187 #[.slice zp zl zc,.pointer none,.slice zp zl zc,.slice up ul uc] w' (NatRes w' zp (x*y))):=fun w' hw=>Q5Y zp zl zc zp zl zc x up ul uc y none w' (hw.nt hZz.nt).1 (by unfold CAP;omega) (by omega) (hw.nt hZz.nt) (hw.nt hZu.nt) (hw.gk (h.gk hW))
 have HV:Hid (x*y=(((x*y:Nat):Int):Int).natAbs):=(Int.natAbs_natCast _).symm
 obtain ⟨qz,hqz⟩:=hz.some
 have HOz:=Lh hqz;clear hqz
 have HZz:=Lh hZz;clear hZz hz
 obtain ⟨qu,hqu⟩:=hu.some
 have HOu:=Lh hqu;clear hqu
 have HZu:=Lh hZu;clear hZu hu
 clear h hW
 go_enter Tryz.func167, Tryz.ntmps167
 go_wp2_with fail
 obtain ⟨w0,hw0⟩:∃ w0,w0=w:=⟨_,rfl⟩
 have HM:Hid (SM w w0):=by rw [hw0];exact SM.refl w
 rw [← hw0]
 clear hw0
 have k1z:=(HM.out.cell bz (oz+1)).trans hz1
 have k1u:=(HM.out.cell bu (ou+1)).trans hu1
 refine AH.start (fun x=>x.cell? ⟨bu,ou+1,none⟩=some (.slice up ul uc)) (by kernel_rfl) ?_
 refine AH.z 0 k1u ?_
 refine AH.z 1 k1u ?_
 refine AH.z 2 k1u ?_
 refine AH.z 3 k1u ?_
 refine AH.z 5 k1u ?_
 refine AH.z 6 k1u ?_
 refine AH.z 7 k1u ?_
 refine AH.z 8 k1u ?_
 refine AH.z 10 k1u ?_
 refine AH.z 11 k1u ?_
 refine AH.z 12 k1u ?_
 refine AH.z 13 k1u ?_
 refine AH.t 4 9 (fun K hK=>?m1_4) (fun K hK=>?m1_9)
 case' m1_4 =>
  go_simp
  refine hK _ _ k1u ?_
  clear hK K
  try simp only [Act.put,Zp_]
  refine AH.o 9 (fun K hK=>?_)
  go_simp
  refine hK _ _ k1u ?_
  clear hK K
  try simp only [Act.put,Zp_]
 case' m1_9 =>
  go_simp
  refine hK _ _ k1u ?_
  clear hK K
  try simp only [Act.put,Zp_]
  refine AH.o 4 (fun K hK=>?_)
  go_simp
  refine hK _ _ k1u ?_
  clear hK K
  try simp only [Act.put,Zp_]
 all_goals
  refine AH.o 14 (fun K hK=>?_)
  go_simp
  refine (HA.out _ HM.out.drew).mono ?_
  rintro e w1 ⟨p,l,c,rfl,hR⟩
  have HP:=Lh (HZz.out.put _ p l c w1 ((x*y:Nat):Int) (HM.out.drew.natAt hR) HV.out)
  have HL:=Lh hR.1
  clear hR
  have hzf1:=HZz.out.fz1
  have hzf0:=HZz.out.fz0
  have kz1:=(HP.out.1 bz qz HOz.out (oz+1)).1.trans hz1
  have kf1:=(HP.out.1 bz qz HOz.out (oz+1)).2.trans hzf1
  have kf0:=(HP.out.1 bz qz HOz.out oz).2.trans hzf0
  have kz0:=(HP.out.1 bz qz HOz.out oz).1.trans hz0
  clear hzf1 hzf0
  have k2u:=(HP.out.1 bu qu HOu.out (ou+1)).1.trans hu1
  have k3u:=(World.cell?_setCell_far w1 ⟨bz,oz+1,none⟩ ⟨bu,ou+1,none⟩ (.slice p l c) neu).trans k2u
  have n2u:=(HP.out.1 bu qu HOu.out ou).1.trans hu0
  refine hK _ _ k2u ?_
  clear hK K
  try simp only [Act.put,Zp_]
  refine AH.z 15 k2u ?_
  refine AH.z 16 k2u ?_
  refine AH.o 17 (fun K hK=>?_)
  go_simp
  refine hK _ _ k3u ?_
  clear hK K
  try simp only [Act.put,Zp_]
  refine AH.done (by kernel_rfl) ?_
 all_goals
  have hcz:=World.cell?_setCell_same w1 ⟨bz,oz+1,none⟩ (.slice p l c) kz1
  have hzz:=(World.cell?_setCell_other w1 ⟨bz,oz+1,none⟩ ⟨bz,oz,none⟩ (.slice p l c) (by intro e;cases e)).trans kz0
  have hff:(w1.setCell ⟨bz,oz+1,none⟩ (.slice p l c)).frozen? ⟨bz,oz,none⟩=false:=by rw [World.frozen?_setCell];exact kf0
  have hnu:=(World.cell?_setCell_far w1 ⟨bz,oz+1,none⟩ ⟨bu,ou,none⟩ (.slice p l c) neu).trans n2u
  have hSt:=HP.out.2
  generalize w1.setCell ⟨bz,oz+1,none⟩ (.slice p l c)=w2 at hcz hzz hff hSt hnu ⊢
  have HSt:=Lh hSt
  clear hSt kz1 kz0 kf1 kf0 HP k2u k3u n2u
  have HE:Hid (decide (((x*y:Nat):Int)<0)=false):=Ql _
  rcases Nat.eq_zero_or_pos l with hl0 | hl0
  ·subst hl0
   go_wp2_with fail
   refine WS.region 20 (by kernel_rfl) (by kernel_rfl) ?_
   simp only [List.take_succ_cons,List.take_zero,List.drop_succ_cons,List.drop_zero]
   iterate 8 (refine WS.want (by kernel_rfl) (fun K hK=>?_);go_simp;refine hK _ ?_;clear hK K)
   iterate 9 (refine WS.skip (by kernel_rfl) ?_;simp only [Act.put,List.setIfInBounds_toArray,List.set_cons_zero,List.set_cons_succ])
   iterate 3 (refine WS.want (by kernel_rfl) (fun K hK=>?_);go_simp;refine hK _ ?_;clear hK K)
   refine WS.nil ?_
   go_wp2_with fail
   go_returns
   exact ⟨rfl,by have:=HSt.out;rw [HE.out] at this;first | exact this | exact this.drew⟩
  ·have hl1:(0:Int)<(l:Int):=by omega
   go_wp2_with fail
   refine WS.region 20 (by kernel_rfl) (by kernel_rfl) ?_
   simp only [List.take_succ_cons,List.take_zero,List.drop_succ_cons,List.drop_zero]
   iterate 20 (refine WS.want (by kernel_rfl) (fun K hK=>?_);go_simp;refine hK _ ?_;clear hK K)
   refine WS.nil ?_
   go_wp2_with fail
   go_returns
   exact ⟨rfl,by have:=HSt.out;rw [HE.out] at this;first | exact this | exact this.drew⟩
theorem Q2Z {W:World}{σ:Sg}{w:World}(hW:GW W)(h:St W σ w){bz oz bu ou:Nat}{x y:Nat}(hz:Num σ bz oz (x:Int))(hu:Num σ bu ou (y:Int))(neu:bz≠bu)(lx:x<BB^39)(ly:y<BB^100) :
  Calls Tryz.prog 130 #[.pointer (some ⟨bz,oz,none⟩),.pointer (some ⟨bz,oz,none⟩),.pointer (some ⟨bu,ou,none⟩)] w fun e w'=>e=.returned (.pointer (some ⟨bz,oz,none⟩))∧St W (setN σ bz ((x*y:Nat):Int)) w':=by
 have HE:=Lh (Q70 hW h hz hu neu neu lx ly)
 generalize ((x*y:Nat):Int)=t at HE ⊢
 clear h hW hu hz lx ly
 go_enter Tryz.func130, Tryz.ntmps130
 go_wp2_with (go_at_call 167;refine HE.out.mono ?_;rintro e w1 ⟨rfl,hS⟩;have HS:=Lh hS;clear hS)
 go_ret
 exact ⟨rfl,HS.out⟩
theorem Q5x {W:World}{σ:Sg}{w:World}(hW:GW W)(h:St W σ w){bz oz bx ox bu ou:Nat}{vz:Int}{x y:Nat}(hz:Num σ bz oz vz)(hx:Num σ bx ox (x:Int))(nex:bz≠bx)(hu:Num σ bu ou (y:Int))(neu:bz≠bu)(y0:y≠0)(lx:x<BB^100)(ly:y<BB^39) :
  Calls Tryz.prog 196 #[.pointer (some ⟨bz,oz,none⟩),.pointer (some ⟨bx,ox,none⟩),.pointer (some ⟨bu,ou,none⟩)] w fun e w'=>e=.returned (.pointer (some ⟨bz,oz,none⟩))∧St W (setN σ bz ((x % y:Nat):Int)) w':=by
 obtain ⟨zp,zl,zc,hZz⟩:=h.za hz
 have hz0:=hZz.cell0;have hz1:=hZz.cell1
 obtain ⟨xp,xl,xc,hZx⟩:=h.za hx
 have hx0:=hZx.cell0;have hx1:=hZx.cell1
 rw [Ql] at hx0
 obtain ⟨up,ul,uc,hZu⟩:=h.za hu
 have hu0:=hZu.cell0;have hu1:=hZu.cell1
 rw [Ql] at hu0
 have hxl:=hZx.len_le (n:=100) (by rw [Int.natAbs_natCast];exact lx)
 have hyl:=hZu.len_le (n:=39) (by rw [Int.natAbs_natCast];exact ly)
 have hzx:Go.Proofs.YtpebcmfpehdafaaGreatDoor.same zp xp=false:=by
  rcases hZx.apart bz oz _ hz zp zl zc hz1 with ⟨e,_⟩ | ⟨_,e⟩
  ·exact absurd e nex
  ·cases zp with
   | none=>rfl
   | some a=>cases xp with
    | none=>rfl
    | some a'=>simp [Go.Proofs.YtpebcmfpehdafaaGreatDoor.same,e a a' rfl rfl]
 have HA:Hid (∀ w',SM w w'→Calls Tryz.prog 171 #[.slice none 0 0,.pointer none,.slice zp zl zc,.slice xp xl xc,.slice up ul uc] w' (DivRes w' none zp (x / y) (x % y))):=fun w' hw=>Q2B none 0 0 zp zl zc xp xl xc x up ul uc y w' ⟨rfl,rfl⟩ (hw.nt hZz.nt).1 rfl hzx (hw.nt hZx.nt) (by unfold CAP;omega) (hw.nt hZu.nt) y0 (by omega) (hw.gk (h.gk hW)) (by rw [hw.1];exact h.size hW) (fun a ha=>by cases ha) (fun a ha=>Nat.le_trans hW.le (hZz.new a ha))
 have HV:Hid (x % y=(((x % y:Nat):Int):Int).natAbs):=(Int.natAbs_natCast _).symm
 obtain ⟨qz,hqz⟩:=hz.some
 have HOz:=Lh hqz;clear hqz
 have HZz:=Lh hZz;clear hZz hz
 obtain ⟨qx,hqx⟩:=hx.some
 have HOx:=Lh hqx;clear hqx
 have HZx:=Lh hZx;clear hZx hx
 obtain ⟨qu,hqu⟩:=hu.some
 have HOu:=Lh hqu;clear hqu
 have HZu:=Lh hZu;clear hZu hu
 clear h hW
 go_enter Tryz.func196, Tryz.ntmps196
 go_wp2_with fail
 obtain ⟨w0,hw0⟩:∃ w0,w0=w:=⟨_,rfl⟩
 have HM:Hid (SM w w0):=by rw [hw0];exact SM.refl w
 rw [← hw0]
 clear hw0
 have k1z:=(HM.out.cell bz (oz+1)).trans hz1
 have k1x:=(HM.out.cell bx (ox+1)).trans hx1
 have k1u:=(HM.out.cell bu (ou+1)).trans hu1
 refine AH.start (fun x=>x.cell? ⟨bx,ox+1,none⟩=some (.slice xp xl xc)∧x.cell? ⟨bu,ou+1,none⟩=some (.slice up ul uc)) (by kernel_rfl) ?_
 refine AH.z 0 ⟨k1x,k1u⟩ ?_
 refine AH.z 1 ⟨k1x,k1u⟩ ?_
 refine AH.z 2 ⟨k1x,k1u⟩ ?_
 refine AH.z 3 ⟨k1x,k1u⟩ ?_
 refine AH.z 5 ⟨k1x,k1u⟩ ?_
 refine AH.z 6 ⟨k1x,k1u⟩ ?_
 refine AH.z 7 ⟨k1x,k1u⟩ ?_
 refine AH.z 8 ⟨k1x,k1u⟩ ?_
 refine AH.z 9 ⟨k1x,k1u⟩ ?_
 refine AH.z 10 ⟨k1x,k1u⟩ ?_
 refine AH.z 11 ⟨k1x,k1u⟩ ?_
 refine AH.z 12 ⟨k1x,k1u⟩ ?_
 refine AH.o 4 (fun K hK=>?_)
 go_simp
 refine hK _ _ ⟨k1x,k1u⟩ ?_
 clear hK K
 try simp only [Act.put,Zp_]
 all_goals
  refine AH.o 13 (fun K hK=>?_)
  go_simp
  refine (HA.out _ HM.out.drew).mono ?_
  rintro e w1 ⟨p2,l2,c2,p,l,c,rfl,hD'⟩
  have hR:=hD'.r
  have HP:=Lh (HZz.out.put _ p l c w1 ((x % y:Nat):Int) (HM.out.drew.natAt hR) HV.out)
  have HL:=Lh hR.1
  clear hR
  have hzf1:=HZz.out.fz1
  have hzf0:=HZz.out.fz0
  have kz1:=(HP.out.1 bz qz HOz.out (oz+1)).1.trans hz1
  have kf1:=(HP.out.1 bz qz HOz.out (oz+1)).2.trans hzf1
  have kf0:=(HP.out.1 bz qz HOz.out oz).2.trans hzf0
  have kz0:=(HP.out.1 bz qz HOz.out oz).1.trans hz0
  clear hzf1 hzf0
  have k2x:=(HP.out.1 bx qx HOx.out (ox+1)).1.trans hx1
  have k3x:=(World.cell?_setCell_far w1 ⟨bz,oz+1,none⟩ ⟨bx,ox+1,none⟩ (.slice p l c) nex).trans k2x
  have n2x:=(HP.out.1 bx qx HOx.out ox).1.trans hx0
  have k2u:=(HP.out.1 bu qu HOu.out (ou+1)).1.trans hu1
  have k3u:=(World.cell?_setCell_far w1 ⟨bz,oz+1,none⟩ ⟨bu,ou+1,none⟩ (.slice p l c) neu).trans k2u
  have n2u:=(HP.out.1 bu qu HOu.out ou).1.trans hu0
  refine hK _ _ ⟨k2x,k2u⟩ ?_
  clear hK K
  try simp only [Act.put,Zp_]
  refine AH.z 14 ⟨k2x,k2u⟩ ?_
  refine AH.z 15 ⟨k2x,k2u⟩ ?_
  refine AH.z 16 ⟨k2x,k2u⟩ ?_
  refine AH.z 17 ⟨k2x,k2u⟩ ?_
  refine AH.z 18 ⟨k2x,k2u⟩ ?_
  refine AH.o 19 (fun K hK=>?_)
  go_simp
  refine hK _ _ ⟨k3x,k3u⟩ ?_
  clear hK K
  try simp only [Act.put,Zp_]
  refine AH.done (by kernel_rfl) ?_
 all_goals
  have hcz:=World.cell?_setCell_same w1 ⟨bz,oz+1,none⟩ (.slice p l c) kz1
  have hzz:=(World.cell?_setCell_other w1 ⟨bz,oz+1,none⟩ ⟨bz,oz,none⟩ (.slice p l c) (by intro e;cases e)).trans kz0
  have hff:(w1.setCell ⟨bz,oz+1,none⟩ (.slice p l c)).frozen? ⟨bz,oz,none⟩=false:=by rw [World.frozen?_setCell];exact kf0
  have hnx:=(World.cell?_setCell_far w1 ⟨bz,oz+1,none⟩ ⟨bx,ox,none⟩ (.slice p l c) nex).trans n2x
  have hnu:=(World.cell?_setCell_far w1 ⟨bz,oz+1,none⟩ ⟨bu,ou,none⟩ (.slice p l c) neu).trans n2u
  have hSt:=HP.out.2
  generalize w1.setCell ⟨bz,oz+1,none⟩ (.slice p l c)=w2 at hcz hzz hff hSt hnx hnu ⊢
  have HSt:=Lh hSt
  clear hSt kz1 kz0 kf1 kf0 HP k2x k3x n2x k2u k3u n2u
  have HE:Hid (decide (((x % y:Nat):Int)<0)=false):=Ql _
  rcases Nat.eq_zero_or_pos l with hl0 | hl0
  ·subst hl0
   go_wp2_with fail
   go_ret
   exact ⟨rfl,by have:=HSt.out;rw [HE.out] at this;first | exact this | exact this.drew⟩
  ·have hl1:(0:Int)<(l:Int):=by omega
   go_wp2_with fail
   go_ret
   exact ⟨rfl,by have:=HSt.out;rw [HE.out] at this;first | exact this | exact this.drew⟩
theorem Q5A {W:World}{σ:Sg}{w:World}(hW:GW W)(h:St W σ w){bz oz bx ox bu ou:Nat}{vz:Int}{x y:Nat}(hz:Num σ bz oz vz)(hx:Num σ bx ox (x:Int))(nex:bz≠bx)(hu:Num σ bu ou (y:Int))(neu:bz≠bu)(lx:x<BB^100)(ly:y<BB^100) :
  Calls Tryz.prog 151 #[.pointer (some ⟨bz,oz,none⟩),.pointer (some ⟨bx,ox,none⟩),.pointer (some ⟨bu,ou,none⟩)] w fun e w'=>e=.returned (.pointer (some ⟨bz,oz,none⟩))∧St W (setN σ bz ((x+y:Nat):Int)) w':=by
 obtain ⟨zp,zl,zc,hZz⟩:=h.za hz
 have hz0:=hZz.cell0;have hz1:=hZz.cell1
 obtain ⟨xp,xl,xc,hZx⟩:=h.za hx
 have hx0:=hZx.cell0;have hx1:=hZx.cell1
 rw [Ql] at hx0
 obtain ⟨up,ul,uc,hZu⟩:=h.za hu
 have hu0:=hZu.cell0;have hu1:=hZu.cell1
 rw [Ql] at hu0
 have hxl:=hZx.len_le (n:=100) (by rw [Int.natAbs_natCast];exact lx)
 have hyl:=hZu.len_le (n:=100) (by rw [Int.natAbs_natCast];exact ly)
 have HA:Hid (∀ w',SM w w'→Calls Tryz.prog 175 #[.slice zp zl zc,.slice xp xl xc,.slice up ul uc] w' (NatRes w' zp (x+y))):=fun w' hw=>Q5X zp zl zc xp xl xc x up ul uc y w' (hw.nt hZz.nt).1 (by unfold CAP;omega) (by unfold CAP;omega) (hw.nt hZx.nt) (hw.nt hZu.nt)
 have HV:Hid (x+y=(((x+y:Nat):Int):Int).natAbs):=(Int.natAbs_natCast _).symm
 obtain ⟨qz,hqz⟩:=hz.some
 have HOz:=Lh hqz;clear hqz
 have HZz:=Lh hZz;clear hZz hz
 obtain ⟨qx,hqx⟩:=hx.some
 have HOx:=Lh hqx;clear hqx
 have HZx:=Lh hZx;clear hZx hx
 obtain ⟨qu,hqu⟩:=hu.some
 have HOu:=Lh hqu;clear hqu
 have HZu:=Lh hZu;clear hZu hu
 clear h hW
 go_enter Tryz.func151, Tryz.ntmps151
 go_wp2_with fail
 go_quiet (fail)
 go_wp2_with fail
 obtain ⟨w0,hw0⟩:∃ w0,w0=w.drewN nq:=⟨_,rfl⟩
 have HM:Hid (SM w w0):=by rw [hw0];exact (SM.refl w).drewN nq
 rw [← hw0]
 clear hw0
 have k1z:=(HM.out.cell bz (oz+1)).trans hz1
 have k1x:=(HM.out.cell bx (ox+1)).trans hx1
 have k1u:=(HM.out.cell bu (ou+1)).trans hu1
 refine AH.start (fun x=>x.cell? ⟨bx,ox+1,none⟩=some (.slice xp xl xc)∧x.cell? ⟨bu,ou+1,none⟩=some (.slice up ul uc)) (by kernel_rfl) ?_
 refine AH.z 0 ⟨k1x,k1u⟩ ?_
 refine AH.z 1 ⟨k1x,k1u⟩ ?_
 refine AH.z 2 ⟨k1x,k1u⟩ ?_
 refine AH.z 3 ⟨k1x,k1u⟩ ?_
 refine AH.z 5 ⟨k1x,k1u⟩ ?_
 refine AH.z 6 ⟨k1x,k1u⟩ ?_
 refine AH.z 7 ⟨k1x,k1u⟩ ?_
 refine AH.z 8 ⟨k1x,k1u⟩ ?_
 refine AH.z 9 ⟨k1x,k1u⟩ ?_
 refine AH.z 10 ⟨k1x,k1u⟩ ?_
 refine AH.z 11 ⟨k1x,k1u⟩ ?_
 refine AH.z 12 ⟨k1x,k1u⟩ ?_
 refine AH.o 4 (fun K hK=>?_)
 go_simp
 refine hK _ _ ⟨k1x,k1u⟩ ?_
 clear hK K
 try simp only [Act.put,Zp_]
 all_goals
  refine AH.o 13 (fun K hK=>?_)
  go_simp
  refine (HA.out _ HM.out.drew).mono ?_
  rintro e w1 ⟨p,l,c,rfl,hR⟩
  have HP:=Lh (HZz.out.put _ p l c w1 ((x+y:Nat):Int) (HM.out.drew.natAt hR) HV.out)
  have HL:=Lh hR.1
  clear hR
  have hzf1:=HZz.out.fz1
  have hzf0:=HZz.out.fz0
  have kz1:=(HP.out.1 bz qz HOz.out (oz+1)).1.trans hz1
  have kf1:=(HP.out.1 bz qz HOz.out (oz+1)).2.trans hzf1
  have kf0:=(HP.out.1 bz qz HOz.out oz).2.trans hzf0
  have kz0:=(HP.out.1 bz qz HOz.out oz).1.trans hz0
  clear hzf1 hzf0
  have k2x:=(HP.out.1 bx qx HOx.out (ox+1)).1.trans hx1
  have k3x:=(World.cell?_setCell_far w1 ⟨bz,oz+1,none⟩ ⟨bx,ox+1,none⟩ (.slice p l c) nex).trans k2x
  have n2x:=(HP.out.1 bx qx HOx.out ox).1.trans hx0
  have k2u:=(HP.out.1 bu qu HOu.out (ou+1)).1.trans hu1
  have k3u:=(World.cell?_setCell_far w1 ⟨bz,oz+1,none⟩ ⟨bu,ou+1,none⟩ (.slice p l c) neu).trans k2u
  have n2u:=(HP.out.1 bu qu HOu.out ou).1.trans hu0
  refine hK _ _ ⟨k2x,k2u⟩ ?_
  clear hK K
  try simp only [Act.put,Zp_]
  refine AH.z 14 ⟨k2x,k2u⟩ ?_
  refine AH.z 15 ⟨k2x,k2u⟩ ?_
  refine AH.o 16 (fun K hK=>?_)
  go_simp
  refine hK _ _ ⟨k3x,k3u⟩ ?_
  clear hK K
  try simp only [Act.put,Zp_]
  refine AH.done (by kernel_rfl) ?_
 all_goals
  have hcz:=World.cell?_setCell_same w1 ⟨bz,oz+1,none⟩ (.slice p l c) kz1
  have hzz:=(World.cell?_setCell_other w1 ⟨bz,oz+1,none⟩ ⟨bz,oz,none⟩ (.slice p l c) (by intro e;cases e)).trans kz0
  have hff:(w1.setCell ⟨bz,oz+1,none⟩ (.slice p l c)).frozen? ⟨bz,oz,none⟩=false:=by rw [World.frozen?_setCell];exact kf0
  have hnx:=(World.cell?_setCell_far w1 ⟨bz,oz+1,none⟩ ⟨bx,ox,none⟩ (.slice p l c) nex).trans n2x
  have hnu:=(World.cell?_setCell_far w1 ⟨bz,oz+1,none⟩ ⟨bu,ou,none⟩ (.slice p l c) neu).trans n2u
  have hSt:=HP.out.2
  generalize w1.setCell ⟨bz,oz+1,none⟩ (.slice p l c)=w2 at hcz hzz hff hSt hnx hnu ⊢
  have HSt:=Lh hSt
  clear hSt kz1 kz0 kf1 kf0 HP k2x k3x n2x k2u k3u n2u
  have HE:Hid (decide (((x+y:Nat):Int)<0)=false):=Ql _
  rcases Nat.eq_zero_or_pos l with hl0 | hl0
  ·subst hl0
   go_wp2_with fail
   go_ret
   exact ⟨rfl,by have:=HSt.out;rw [HE.out] at this;first | exact this | exact this.drew⟩
  ·have hl1:(0:Int)<(l:Int):=by omega
   go_wp2_with fail
   go_ret
   exact ⟨rfl,by have:=HSt.out;rw [HE.out] at this;first | exact this | exact this.drew⟩
theorem Q3L {W:World}{σ:Sg}{w:World}(hW:GW W)(h:St W σ w){bz oz bu ou:Nat}  {x y:Nat}(hz:Num σ bz oz (x:Int))(hu:Num σ bu ou (y:Int))(neu:bz≠bu)(lx:x<BB^100)(ly:y<BB^100) :
  Calls Tryz.prog 151 #[.pointer (some ⟨bz,oz,none⟩),.pointer (some ⟨bz,oz,none⟩),.pointer (some ⟨bu,ou,none⟩)] w fun e w'=>e=.returned (.pointer (some ⟨bz,oz,none⟩))∧St W (setN σ bz ((x+y:Nat):Int)) w':=by
 obtain ⟨zp,zl,zc,hZz⟩:=h.za hz
 have hz0:=hZz.cell0;have hz1:=hZz.cell1
 rw [Ql] at hz0
 obtain ⟨up,ul,uc,hZu⟩:=h.za hu
 have hu0:=hZu.cell0;have hu1:=hZu.cell1
 rw [Ql] at hu0
 have hxl:=hZz.len_le (n:=100) (by rw [Int.natAbs_natCast];exact lx)
 have hyl:=hZu.len_le (n:=100) (by rw [Int.natAbs_natCast];exact ly)
 have HA:Hid (∀ w',SM w w'→Calls Tryz.prog 175 #[.slice zp zl zc,.slice zp zl zc,.slice up ul uc] w' (NatRes w' zp (x+y))):=fun w' hw=>Q5X zp zl zc zp zl zc x up ul uc y w' (hw.nt hZz.nt).1 (by unfold CAP;omega) (by unfold CAP;omega) (hw.nt hZz.nt) (hw.nt hZu.nt)
 have HV:Hid (x+y=(((x+y:Nat):Int):Int).natAbs):=(Int.natAbs_natCast _).symm
 obtain ⟨qz,hqz⟩:=hz.some
 have HOz:=Lh hqz;clear hqz
 have HZz:=Lh hZz;clear hZz hz
 obtain ⟨qu,hqu⟩:=hu.some
 have HOu:=Lh hqu;clear hqu
 have HZu:=Lh hZu;clear hZu hu
 clear h hW
 go_enter Tryz.func151, Tryz.ntmps151
 go_wp2_with fail
 go_quiet (fail)
 go_wp2_with fail
 obtain ⟨w0,hw0⟩:∃ w0,w0=w.drewN nq:=⟨_,rfl⟩
 have HM:Hid (SM w w0):=by rw [hw0];exact (SM.refl w).drewN nq
 rw [← hw0]
 clear hw0
 have k1z:=(HM.out.cell bz (oz+1)).trans hz1
 have k1u:=(HM.out.cell bu (ou+1)).trans hu1
 refine AH.start (fun x=>x.cell? ⟨bu,ou+1,none⟩=some (.slice up ul uc)) (by kernel_rfl) ?_
 refine AH.z 0 k1u ?_
 refine AH.z 1 k1u ?_
 refine AH.z 2 k1u ?_
 refine AH.z 3 k1u ?_
 refine AH.z 5 k1u ?_
 refine AH.z 6 k1u ?_
 refine AH.z 7 k1u ?_
 refine AH.z 9 k1u ?_
 refine AH.z 10 k1u ?_
 refine AH.z 11 k1u ?_
 refine AH.z 12 k1u ?_
 refine AH.t 4 8 (fun K hK=>?m1_4) (fun K hK=>?m1_8)
 case' m1_4 =>
  go_simp
  refine hK _ _ k1u ?_
  clear hK K
  try simp only [Act.put,Zp_]
  refine AH.o 8 (fun K hK=>?_)
  go_simp
  refine hK _ _ k1u ?_
  clear hK K
  try simp only [Act.put,Zp_]
 case' m1_8 =>
  go_simp
  refine hK _ _ k1u ?_
  clear hK K
  try simp only [Act.put,Zp_]
  refine AH.o 4 (fun K hK=>?_)
  go_simp
  refine hK _ _ k1u ?_
  clear hK K
  try simp only [Act.put,Zp_]
 all_goals
  refine AH.o 13 (fun K hK=>?_)
  go_simp
  refine (HA.out _ HM.out.drew).mono ?_
  rintro e w1 ⟨p,l,c,rfl,hR⟩
  have HP:=Lh (HZz.out.put _ p l c w1 ((x+y:Nat):Int) (HM.out.drew.natAt hR) HV.out)
  have HL:=Lh hR.1
  clear hR
  have hzf1:=HZz.out.fz1
  have hzf0:=HZz.out.fz0
  have kz1:=(HP.out.1 bz qz HOz.out (oz+1)).1.trans hz1
  have kf1:=(HP.out.1 bz qz HOz.out (oz+1)).2.trans hzf1
  have kf0:=(HP.out.1 bz qz HOz.out oz).2.trans hzf0
  have kz0:=(HP.out.1 bz qz HOz.out oz).1.trans hz0
  clear hzf1 hzf0
  have k2u:=(HP.out.1 bu qu HOu.out (ou+1)).1.trans hu1
  have k3u:=(World.cell?_setCell_far w1 ⟨bz,oz+1,none⟩ ⟨bu,ou+1,none⟩ (.slice p l c) neu).trans k2u
  have n2u:=(HP.out.1 bu qu HOu.out ou).1.trans hu0
  refine hK _ _ k2u ?_
  clear hK K
  try simp only [Act.put,Zp_]
  refine AH.z 14 k2u ?_
  refine AH.z 15 k2u ?_
  refine AH.o 16 (fun K hK=>?_)
  go_simp
  refine hK _ _ k3u ?_
  clear hK K
  try simp only [Act.put,Zp_]
  refine AH.done (by kernel_rfl) ?_
 all_goals
  have hcz:=World.cell?_setCell_same w1 ⟨bz,oz+1,none⟩ (.slice p l c) kz1
  have hzz:=(World.cell?_setCell_other w1 ⟨bz,oz+1,none⟩ ⟨bz,oz,none⟩ (.slice p l c) (by intro e;cases e)).trans kz0
  have hff:(w1.setCell ⟨bz,oz+1,none⟩ (.slice p l c)).frozen? ⟨bz,oz,none⟩=false:=by rw [World.frozen?_setCell];exact kf0
  have hnu:=(World.cell?_setCell_far w1 ⟨bz,oz+1,none⟩ ⟨bu,ou,none⟩ (.slice p l c) neu).trans n2u
  have hSt:=HP.out.2
  generalize w1.setCell ⟨bz,oz+1,none⟩ (.slice p l c)=w2 at hcz hzz hff hSt hnu ⊢
  have HSt:=Lh hSt
  clear hSt kz1 kz0 kf1 kf0 HP k2u k3u n2u
  have HE:Hid (decide (((x+y:Nat):Int)<0)=false):=Ql _
  rcases Nat.eq_zero_or_pos l with hl0 | hl0
  ·subst hl0
   go_wp2_with fail
   go_ret
   exact ⟨rfl,by have:=HSt.out;rw [HE.out] at this;first | exact this | exact this.drew⟩
  ·have hl1:(0:Int)<(l:Int):=by omega
   go_wp2_with fail
   go_ret
   exact ⟨rfl,by have:=HSt.out;rw [HE.out] at this;first | exact this | exact this.drew⟩
end Go.Proofs.YtpebcmfpehdafaaGreatDoor
