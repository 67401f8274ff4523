/- a part of the proof -/
import Derived.WalkKit
import Derived.Lib.Hide
import Derived.Deep.QuietTactic
import Derived.BigQuiet
import Derived.LaidEqlPtr
import Derived.Test.YtpebcmfpehdafaaGreatDoorShelf
import Derived.Shelf.Spec.BitsCarry
import Derived.StillTailTactics
import Derived.Deep.RegionWith
import Derived.Defers
set_option linter.all false
set_option maxRecDepth 100000
set_option maxHeartbeats 16000000
namespace Go.Proofs.YtpebcmfpehdafaaGreatDoor
open Go Go.RowKit
theorem Lh {p : Prop} (h : p) : Hid p := h
section
open Go Go.RowKit Go.Lib
def BB:Nat:=18446744073709551616
theorem Qx:0<BB:=by unfold BB;omega
def rd (w:World)(b o:Nat):Nat:=match w.cell? ⟨b,o,none⟩ with | some (.int _ z)=>z.toNat | _=>0
def IsW (w:World)(b o n:Nat):Prop:=∀ i,i<n→w.cell? ⟨b,o+i,none⟩=some (.int .u64 ((rd w b (o+i):Nat):Int))∧rd w b (o+i)<BB
def MV (w:World)(b o:Nat):Nat→Nat
 | 0=>0
 | n+1=>MV w b o n+rd w b (o+n)*BB^n
theorem Q0h {w:World}{b o:Nat}{z:Nat}(h:w.cell? ⟨b,o,none⟩=some (.int .u64 (z:Int))):rd w b o=z:=by
 unfold rd;rw [h];simp
theorem QN {w w':World}{b o b' o':Nat}(h:w'.cell? ⟨b',o',none⟩=w.cell? ⟨b,o,none⟩):rd w' b' o'=rd w b o:=by
 unfold rd;rw [h]
theorem IsW.get {w:World}{b o n:Nat}(h:IsW w b o n)(i:Nat)(hi:i<n):w.cell? ⟨b,o+i,none⟩=some (.int .u64 ((rd w b (o+i):Nat):Int)):=(h i hi).1
theorem IsW.lt {w:World}{b o n:Nat}(h:IsW w b o n)(i:Nat)(hi:i<n):rd w b (o+i)<BB:=(h i hi).2
theorem IsW.mono {w:World}{b o n m:Nat}(h:IsW w b o n)(hm:m≤n):IsW w b o m:=fun i hi=>h i (by omega)
theorem IsW.sub {w:World}{b o n:Nat}(h:IsW w b o n)(k m:Nat)(hm:k+m≤n):IsW w b (o+k) m:=fun i hi=>by
 have:=h (k+i) (by omega)
 rw [show o+k+i=o+(k+i) by omega];exact this
theorem IsW.congr {w w':World}{b o n:Nat}(h:IsW w b o n)(he:∀ i,i<n→w'.cell? ⟨b,o+i,none⟩=w.cell? ⟨b,o+i,none⟩):IsW w' b o n:=fun i hi=>by
 rw [QN (he i hi),he i hi];exact h i hi
theorem IsW.zero (w:World)(b o:Nat):IsW w b o 0:=fun i hi=>by omega
theorem Q1H {w w':World}{b o b' o':Nat}(n:Nat)(h:∀ i,i<n→rd w' b' (o'+i)=rd w b (o+i)):MV w' b' o' n=MV w b o n:=by
 induction n with
 | zero=>rfl
 | succ n ih=>simp only [MV];rw [ih fun i hi=>h i (by omega),h n (by omega)]
theorem Q05 {w w':World}{b o:Nat}(n:Nat)(h:∀ i,i<n→w'.cell? ⟨b,o+i,none⟩=w.cell? ⟨b,o+i,none⟩):MV w' b o n=MV w b o n :=
 Q1H n fun i hi=>QN (h i hi)
theorem QF (w:World)(b o m n:Nat):MV w b o (m+n)=MV w b o m+BB^m*MV w b (o+m) n:=by
 induction n with
 | zero=>simp [MV]
 | succ n ih =>
  rw [show m+(n+1)=(m+n)+1 by omega]
  simp only [MV]
  rw [ih,Nat.mul_add,Nat.pow_add,show o+(m+n)=o+m+n by omega]
  have:rd w b (o+m+n)*(BB^m*BB^n)=BB^m*(rd w b (o+m+n)*BB^n):=by grind
  omega
theorem Q15 {w:World}{b o n:Nat}(h:IsW w b o n):MV w b o n<BB^n:=by
 induction n with
 | zero=>simp [MV]
 | succ n ih =>
  have h1:=ih (h.mono (by omega))
  have h2:=h.lt n (by omega)
  simp only [MV,Nat.pow_succ]
  have h3:rd w b (o+n)*BB^n≤(BB - 1)*BB^n:=Nat.mul_le_mul_right _ (by omega)
  have h4:(BB - 1)*BB^n+BB^n=BB^n*BB:=by
   have:=Qx
   rw [Nat.sub_mul,Nat.one_mul,Nat.mul_comm (BB^n) BB]
   have:BB^n≤BB*BB^n:=Nat.le_mul_of_pos_left _ this
   omega
  omega
theorem QX (w:World)(b o:Nat):MV w b o 1=rd w b o:=by simp [MV]
theorem Q0p (w:World)(b o n:Nat):MV w b o (n+1)=rd w b o+BB*MV w b (o+1) n:=by
 have:=QF w b o 1 n
 rw [Nat.add_comm 1 n,QX,Nat.pow_one] at this
 exact this
theorem Q5R {w:World}{b o n:Nat}(h:∀ i,i<n→rd w b (o+i)=0):MV w b o n=0:=by
 induction n with
 | zero=>rfl
 | succ n ih=>simp only [MV];rw [ih fun i hi=>h i (by omega),h n (by omega)];simp
theorem Q3v {w:World}{b o n:Nat}(hn:0<n)(h:rd w b (o+n - 1)≠0):BB^(n - 1)≤MV w b o n:=by
 obtain ⟨m,rfl⟩:∃ m,n=m+1:=⟨n - 1,by omega⟩
 simp only [MV,Nat.add_sub_cancel]
 rw [show o+(m+1) - 1=o+m by omega] at h
 have:1*BB^m≤rd w b (o+m)*BB^m:=Nat.mul_le_mul_right _ (by omega)
 omega
def hdr:Obj→Option (Nat × TypeId × (Nat × Nat))
 | .cells c t m=>some (c.size,t,m)
 | _=>none
def hd (w:World)(b:Nat):Option (Option (Nat × TypeId × (Nat × Nat))):=(w.heap[b]?).map hdr
def Row (w:World)(b N:Nat)(T:TypeId):Prop:=hd w b=some (some (N,T,(0,0)))
theorem Row.block {w:World}{b N:Nat}{T:TypeId}(h:Row w b N T):∃ C:Array Value,w.heap[b]?=some (.cells C T (0,0))∧C.size=N:=by
 unfold Row hd at h
 cases hh:w.heap[b]? with
 | none=>rw [hh] at h;simp at h
 | some x =>
  rw [hh] at h
  cases x <;> simp [hdr] at h
  obtain ⟨rfl,rfl,rfl⟩:=h
  exact ⟨_,rfl,rfl⟩
theorem Row.of_block {w:World}{b:Nat}{T:TypeId}{C:Array Value}(h:w.heap[b]?=some (.cells C T (0,0))):Row w b C.size T:=by unfold Row hd;rw [h];rfl
theorem Row.lt {w:World}{b N:Nat}{T:TypeId}(h:Row w b N T):b<w.heap.size:=by
 obtain ⟨C,hC,_⟩:=h.block
 exact (Array.getElem?_eq_some_iff.1 hC).1
theorem Row.cell {w:World}{b N:Nat}{T:TypeId}(h:Row w b N T)(o:Nat)(ho:o<N):∃ v,w.cell? ⟨b,o,none⟩=some v:=by
 obtain ⟨C,hC,rfl⟩:=h.block
 unfold World.cell?
 rw [hC];simp [ho]
theorem Row.free {w:World}{b N:Nat}{T:TypeId}(h:Row w b N T)(o:Nat):w.frozen? ⟨b,o,none⟩=false:=by
 obtain ⟨C,hC,rfl⟩:=h.block
 unfold World.frozen?
 rw [hC];simp
def Wr (w:World)(b o n:Nat):Prop:=∃ N T,Row w b N T∧o+n≤N
theorem Wr.cell {w:World}{b o n:Nat}(h:Wr w b o n)(i:Nat)(hi:i<n):∃ v,w.cell? ⟨b,o+i,none⟩=some v:=by
 obtain ⟨N,T,hs,hc⟩:=h
 exact hs.cell _ (by omega)
theorem Wr.free {w:World}{b o n:Nat}(h:Wr w b o n)(i:Nat)(_hi:i<n):w.frozen? ⟨b,o+i,none⟩=false:=by
 obtain ⟨N,T,hs,hc⟩:=h
 exact hs.free _
theorem Wr.sub {w:World}{b o n:Nat}(h:Wr w b o n)(k m:Nat)(hm:k+m≤n):Wr w b (o+k) m:=by
 obtain ⟨N,T,hs,hc⟩:=h
 exact ⟨N,T,hs,by omega⟩
structure Chg (b lo hi:Nat) (w w':World):Prop where
 os:w'.os=w.os
 tape:w'.tape=w.tape
 output:w'.output=w.output
 size:w'.heap.size=w.heap.size
 block:∀ k,k≠b→w'.heap[k]?=w.heap[k]?
 cell:∀ o,o<lo∨hi≤o→w'.cell? ⟨b,o,none⟩=w.cell? ⟨b,o,none⟩
 hdrs:∀ r,hd w' r=hd w r
theorem Chg.refl (b lo hi:Nat)(w:World):Chg b lo hi w w:=⟨rfl,rfl,rfl,rfl,fun _ _=>rfl,fun _ _=>rfl,fun _=>rfl⟩
theorem Chg.trans {b lo hi:Nat}{w w' w'':World}(h:Chg b lo hi w w')(k:Chg b lo hi w' w''):Chg b lo hi w w'' :=
 ⟨k.os.trans h.os,k.tape.trans h.tape,k.output.trans h.output,k.size.trans h.size,fun i hi=>(k.block i hi).trans (h.block i hi),fun o ho=>(k.cell o ho).trans (h.cell o ho),fun r=>(k.hdrs r).trans (h.hdrs r)⟩
theorem Chg.mono {b lo hi lo' hi':Nat}{w w':World}(h:Chg b lo hi w w')(h1:lo'≤lo)(h2:hi≤hi'):Chg b lo' hi' w w' :=
 ⟨h.os,h.tape,h.output,h.size,h.block,fun o ho=>h.cell o (by omega),h.hdrs⟩
theorem Chg.drew {b lo hi:Nat}{w w':World}(h:Chg b lo hi w w'):Chg b lo hi w w'.drew:=⟨h.os,h.tape,h.output,h.size,h.block,h.cell,h.hdrs⟩
theorem Chg.drewN {b lo hi:Nat}{w w':World}(h:Chg b lo hi w w')(n:Nat):Chg b lo hi w (w'.drewN n):=⟨h.os,h.tape,h.output,h.size,h.block,h.cell,h.hdrs⟩
theorem Q2J (w:World)(a:Addr)(v:Value)(r:Nat):hd (w.setCell a v) r=hd w r:=by
 simp only [World.setCell,hd,Array.getElem?_modify]
 by_cases hb:a.block=r
 ·subst hb
  simp only [if_true]
  cases hh:w.heap[a.block]? with
  | none=>simp
  | some x=>cases x <;> simp [hdr] <;> split <;> simp
 ·simp [hb]
theorem Chg.set (w:World)(b o:Nat)(v:Value):Chg b o (o+1) w (w.setCell ⟨b,o,none⟩ v) :=
 ⟨rfl,rfl,rfl,by simp,fun k hk=>Below.heap_setCell _ _ _ _ hk,fun p hp=>World.cell?_setCell_other _ _ _ _ (by intro h;cases h;omega),fun r=>Q2J _ _ _ _⟩
theorem Chg.cell_other {b lo hi:Nat}{w w':World}(h:Chg b lo hi w w'){b' o:Nat}(hb:b'≠b∨o<lo∨hi≤o):w'.cell? ⟨b',o,none⟩=w.cell? ⟨b',o,none⟩:=by
 by_cases e:b'=b
 ·subst e;exact h.cell o (by omega)
 ·exact World.cell?_of_block (w:=w) (h.block b' e)
theorem Chg.rd_other {b lo hi:Nat}{w w':World}(h:Chg b lo hi w w'){b' o:Nat}(hb:b'≠b∨o<lo∨hi≤o):rd w' b' o=rd w b' o:=QN (h.cell_other hb)
theorem Chg.isW {b lo hi:Nat}{w w':World}(h:Chg b lo hi w w'){b' o n:Nat}(hw:IsW w b' o n)(hb:b'≠b∨o+n≤lo∨hi≤o):IsW w' b' o n :=
 hw.congr fun i hi=>h.cell_other (by omega)
theorem Chg.mv {b lo hi:Nat}{w w':World}(h:Chg b lo hi w w'){b' o n:Nat}(hb:b'≠b∨o+n≤lo∨hi≤o):MV w' b' o n=MV w b' o n :=
 Q05 n fun i hi=>h.cell_other (by omega)
theorem Chg.row {b lo hi:Nat}{w w':World}(h:Chg b lo hi w w'){r N:Nat}{T:TypeId}(hr:Row w r N T):Row w' r N T:=(h.hdrs r).trans hr
theorem Chg.wr {b lo hi:Nat}{w w':World}(h:Chg b lo hi w w'){b' o n:Nat}(hw:Wr w b' o n):Wr w' b' o n:=by
 obtain ⟨N,T,hs,hc⟩:=hw
 exact ⟨N,T,h.row hs,hc⟩
theorem QJ {w wr:World}{b o k z:Nat}(hW:IsW wr b o k)(hcell:∃ v,wr.cell? ⟨b,o+k,none⟩=some v)(hz:z<BB)(hc:Chg b o (o+k) w wr) :
  IsW (wr.setCell ⟨b,o+k,none⟩ (.int .u64 (z:Int))) b o (k+1)∧MV (wr.setCell ⟨b,o+k,none⟩ (.int .u64 (z:Int))) b o (k+1)=MV wr b o k+z*BB^k ∧
  Chg b o (o+(k+1)) w (wr.setCell ⟨b,o+k,none⟩ (.int .u64 (z:Int))):=by
 obtain ⟨v,hv⟩:=hcell
 have hs:=World.cell?_setCell_same wr ⟨b,o+k,none⟩ (.int .u64 (z:Int)) hv
 have hr:rd (wr.setCell ⟨b,o+k,none⟩ (.int .u64 (z:Int))) b (o+k)=z:=Q0h hs
 have hC:=Chg.set wr b (o+k) (.int .u64 (z:Int))
 refine ⟨?_,?_,(hc.mono (by omega) (by omega)).trans (hC.mono (by omega) (by omega))⟩
 ·intro i hi
  by_cases e:i=k
  ·subst e;rw [hr];exact ⟨hs,hz⟩
  ·exact (hC.isW hW (by omega)) i (by omega)
 ·simp only [MV]
  rw [hr,hC.mv (by omega)]
theorem Qy (w:World)(q b o n:Nat):MV (w.drewN q) b o n=MV w b o n:=Q05 n fun _ _=>rfl
theorem Q02 (w:World)(b o n:Nat):MV w.drew b o n=MV w b o n:=Q05 n fun _ _=>rfl
theorem Q2K {w wr:World}{b o k z:Nat}(q:Nat)(hW:IsW wr b o k)(hcell:∃ v,wr.cell? ⟨b,o+k,none⟩=some v)(hz:z<BB)(hc:Chg b o (o+k) w wr) :
  IsW ((wr.drewN q).setCell ⟨b,o+k,none⟩ (.int .u64 (z:Int))) b o (k+1)∧MV ((wr.drewN q).setCell ⟨b,o+k,none⟩ (.int .u64 (z:Int))) b o (k+1)=MV wr b o k+z*BB^k ∧
  Chg b o (o+(k+1)) w ((wr.drewN q).setCell ⟨b,o+k,none⟩ (.int .u64 (z:Int))):=by
 have h:=QJ (w:=w) (wr:=wr.drewN q) (z:=z) hW hcell hz (hc.drewN q)
 rw [Qy] at h
 exact h
theorem Qf {n:Int}(h0:0≤n)(h:n<(BB:Int)):IntKind.u64.wrap n=n:=by
 unfold BB at h
 have:IntKind.u64.wrap n=n % 18446744073709551616:=rfl
 rw [this];omega
theorem Q7o {k k':IntKind}{a b a' b':Int}(h:a=a')(h':b=b'):Ending.returned (.tuple #[.int k a,.int k' b])=Ending.returned (.tuple #[.int k a',.int k' b']):=by rw [h,h']
theorem Q1I {k:IntKind}{a b:Int}(h:a=b):Ending.returned (.int k a)=.returned (.int k b):=by rw [h]
def adds (x y c:Nat):Nat:=(x+y+c) % BB
def addc (x y c:Nat):Nat:=(x+y+c) / BB
def subs (x y c:Nat):Nat:=(x+BB - y - c) % BB
def subb (x y c:Nat):Nat:=if x<y+c then 1 else 0
def mulh (x y:Nat):Nat:=x*y / BB
def mull (x y:Nat):Nat:=x*y % BB
def mah (x y c:Nat):Nat:=(x*y+c) / BB
def mal (x y c:Nat):Nat:=(x*y+c) % BB
theorem Q1j (x y c:Nat):addc x y c*BB+adds x y c=x+y+c:=by unfold adds addc BB;omega
theorem Q1J (x y c:Nat):adds x y c<BB:=by unfold adds BB;omega
theorem Q2q {x y c:Nat}(hx:x<BB)(hy:y<BB)(hc:c≤1):addc x y c≤1:=by unfold addc BB at *;omega
theorem Q3P {x y c:Nat}(hx:x<BB)(hy:y<BB)(hc:c≤1):subs x y c+y+c=x+subb x y c*BB:=by unfold subs subb BB at *;split <;> omega
theorem Q3Q (x y c:Nat):subs x y c<BB:=by unfold subs BB;omega
theorem Q1K (x y c:Nat):subb x y c≤1:=by unfold subb;split <;> omega
theorem Q59 (x y:Nat):mulh x y*BB+mull x y=x*y:=by unfold mulh mull BB;omega
theorem Q2r (x y:Nat):mull x y<BB:=by unfold mull BB;omega
theorem Q2s {x y:Nat}(hx:x<BB)(hy:y<BB):x*y≤(BB - 1)*(BB - 1):=Nat.mul_le_mul (by omega) (by omega)
theorem Q3R {x y:Nat}(hx:x<BB)(hy:y<BB):mulh x y<BB - 1:=by
 have:=Q2s hx hy;unfold mulh BB at *;omega
theorem Q5a (x y c:Nat):mah x y c*BB+mal x y c=x*y+c:=by unfold mah mal BB;omega
theorem Q7p (x y c:Nat):mal x y c<BB:=by unfold mal BB;omega
theorem Q5b {x y c:Nat}(hx:x<BB)(hy:y<BB)(hc:c<BB):mah x y c<BB:=by
 have:=Q2s hx hy;unfold mah BB at *;omega
theorem Q5S {x y c:Nat}:mulh x y+addc (mull x y) c 0=mah x y c:=by unfold mulh addc mull mah BB;omega
theorem Q8G {x y c:Nat}:adds (mull x y) c 0=mal x y c:=by unfold adds mull mal BB;omega
theorem Q1L {B Z Z' X X' c h l x y r P:Nat}(hI:Z+c*P=X*y+r)(hm:h*B+l=x*y+c)(hZ:Z'=Z+l*P)(hX:X'=X+x*P) :
  Z'+h*(P*B)=X'*y+r:=by
 subst hZ hX
 have h1:(h*B+l)*P=(x*y+c)*P:=by rw [hm]
 simp only [Nat.add_mul] at *
 rw [show h*(P*B)=h*B*P by rw [Nat.mul_comm P B,Nat.mul_assoc],show x*P*y=x*y*P by rw [Nat.mul_assoc,Nat.mul_comm P y,Nat.mul_assoc]]
 omega
theorem Q6q {B Z Z' X X' Y Y' c h l x y P:Nat}(hI:Z+c*P=X+Y)(hm:h*B+l=x+y+c)(hZ:Z'=Z+l*P)(hX:X'=X+x*P)(hY:Y'=Y+y*P) :
  Z'+h*(P*B)=X'+Y':=by
 subst hZ hX hY
 have h1:(h*B+l)*P=(x+y+c)*P:=by rw [hm]
 simp only [Nat.add_mul] at *
 rw [show h*(P*B)=h*B*P by rw [Nat.mul_comm P B,Nat.mul_assoc]]
 omega
theorem Q6r {B Z Z' X X' Y Y' c h l x y P:Nat}(hI:Z+Y=X+c*P)(hm:l+y+c=x+h*B)(hZ:Z'=Z+l*P)(hX:X'=X+x*P)(hY:Y'=Y+y*P) :
  Z'+Y'=X'+h*(P*B):=by
 subst hZ hX hY
 have h1:(l+y+c)*P=(x+h*B)*P:=by rw [hm]
 simp only [Nat.add_mul] at *
 rw [show h*(P*B)=h*B*P by rw [Nat.mul_comm P B,Nat.mul_assoc]]
 omega
theorem Q3S {B Z Z' X X' Y Y' c h l x y m a P:Nat}(hI:Z+c*P=X+Y*m+a)(hm:h*B+l=x+y*m+c)(hZ:Z'=Z+l*P)(hX:X'=X+x*P)(hY:Y'=Y+y*P) :
  Z'+h*(P*B)=X'+Y'*m+a:=by
 subst hZ hX hY
 have h1:(h*B+l)*P=(x+y*m+c)*P:=by rw [hm]
 simp only [Nat.add_mul] at *
 rw [show h*(P*B)=h*B*P by rw [Nat.mul_comm P B,Nat.mul_assoc],show y*P*m=y*m*P by rw [Nat.mul_assoc,Nat.mul_comm P m,Nat.mul_assoc]]
 omega
theorem Q5c {x y m c:Nat}(hy:y<BB)(hm:m<BB)(hx:x<BB)(hc:c<BB) :
  (addc (mal y m x) c 0+mah y m x)*BB+adds (mal y m x) c 0=x+y*m+c∧addc (mal y m x) c 0+mah y m x<BB:=by
 have h1:=Q5a y m x
 have h2:=Q1j (mal y m x) c 0
 have h3:=Q1J (mal y m x) c 0
 have h4:=Q2s hy hm
 have e:(addc (mal y m x) c 0+mah y m x)*BB+adds (mal y m x) c 0=x+y*m+c:=by rw [Nat.add_mul];omega
 refine ⟨e,?_⟩
 unfold BB at *
 omega
theorem Row.drewN {w:World}{b N:Nat}{T:TypeId}(h:Row w b N T)(q:Nat):Row (w.drewN q) b N T:=h
theorem Row.setCell {w:World}{b N:Nat}{T:TypeId}(h:Row w b N T)(a:Addr)(v:Value):Row (w.setCell a v) b N T:=(Q2J _ _ _ _).trans h
theorem Q18 {P:Program}{w:World}{tp te:TypeId}{i:TypeInfo}{a b:Addr}{Na Nb:Nat}{Ta Tb:TypeId}(hp:P.underlying tp=some (.pointer te))(hte:P.info? te=some i)(hsz:i.size≠0)
  (ha:Row w a.block Na Ta) (hb:Row w b.block Nb Tb):(binOp .neq tp (.pointer (some a)) (.pointer (some b))).run P w=.ok (.bool (decide (a≠b))) w:=by
 obtain ⟨Ca,ha,_⟩:=ha.block
 obtain ⟨Cb,hb,_⟩:=hb.block
 by_cases e:a=b
 ·subst e
  have h:∀ d:Nat,(Op.equalIn (d+1) tp (.pointer (some a)) (.pointer (some a))).run P w=.ok true w:=fun d=>by
   simp [Op.equalIn,run_underlying hp,sizeOf,typeInfo,hte,run_sameAddr_same]
  simp only [binOp]
  simp [Op.equal,Op.maxDepth,h 9999]
 ·have h:∀ d:Nat,(Op.equalIn (d+1) tp (.pointer (some a)) (.pointer (some b))).run P w=.ok false w:=fun d=>by
   simp [Op.equalIn,run_underlying hp,sizeOf,typeInfo,hte,hsz,run_sameAddr_other w e ha hb]
  simp only [binOp]
  simp [Op.equal,Op.maxDepth,h 9999,e]
theorem Q19 {P:Program}{w:World}{tp te:TypeId}{i:TypeInfo}{a b:Addr}{Na Nb:Nat}{Ta Tb:TypeId}(hp:P.underlying tp=some (.pointer te))(hte:P.info? te=some i)(hsz:i.size≠0)
  (ha:Row w a.block Na Ta) (hb:Row w b.block Nb Tb):(binOp .eql tp (.pointer (some a)) (.pointer (some b))).run P w=.ok (.bool (decide (a=b))) w:=by
 obtain ⟨Ca,ha,_⟩:=ha.block
 obtain ⟨Cb,hb,_⟩:=hb.block
 by_cases e:a=b
 ·subst e
  rw [run_eql_ptr_same w a hp hte];simp
 ·rw [run_eql_ptr_other w hp hte hsz e ha hb];simp [e]
def wordsOf (w:World)(b o n:Nat):List Value:=(List.range n).map fun i=>.int .u64 ((rd w b (o+i):Nat):Int)
theorem QA (w:World)(b o n:Nat):(wordsOf w b o n).length=n:=by simp [wordsOf]
theorem Q4t (w:World)(b o n i:Nat)(hi:i<n):(wordsOf w b o n)[i]?=some (.int .u64 ((rd w b (o+i):Nat):Int)):=by simp [wordsOf,hi]
def cpW (w:World)(bz oz bx ox n:Nat):World:=w.setCells bz oz (wordsOf w bx ox n)
theorem Chg.setCells (b:Nat):∀ (vs:List Value) (o:Nat) (w:World),Chg b o (o+vs.length) w (w.setCells b o vs)
 | [],o,w=>Chg.refl _ _ _ _
 | v :: r,o,w=>by
  have h:=Chg.setCells b r (o+1) (w.setCell ⟨b,o,none⟩ v)
  have h2:=Chg.set w b o v
  simp only [List.length_cons]
  exact (h2.mono (by omega) (by omega)).trans (h.mono (by omega) (by omega))
theorem Q2t (w:World)(bz oz bx ox n:Nat):Chg bz oz (oz+n) w (cpW w bz oz bx ox n):=by
 have:=Chg.setCells bz (wordsOf w bx ox n) oz w
 rw [QA] at this
 exact this
theorem Q2L {w:World}{bz oz bx ox n:Nat}(hZ:Wr w bz oz n)(i:Nat)(hi:i<n):(cpW w bz oz bx ox n).cell? ⟨bz,oz+i,none⟩=some (.int .u64 ((rd w bx (ox+i):Nat):Int)):=by
 unfold cpW
 rw [World.cell?_setCells_in bz (wordsOf w bx ox n) oz w (fun j hj=>by rw [QA] at hj;obtain ⟨v,hv⟩:=hZ.cell j hj;rw [hv];rfl) i (by rw [QA];exact hi)]
 simp [wordsOf]
theorem Q2u {w:World}{bz oz bx ox n:Nat}(hX:IsW w bx ox n)(hZ:Wr w bz oz n):IsW (cpW w bz oz bx ox n) bz oz n:=fun i hi=>by
 have h:=Q2L (bx:=bx) (ox:=ox) hZ i hi
 rw [Q0h h]
 exact ⟨h,hX.lt i hi⟩
theorem Q3T {w:World}{bz oz bx ox n:Nat}(hZ:Wr w bz oz n):MV (cpW w bz oz bx ox n) bz oz n=MV w bx ox n :=
 Q1H n fun i hi=>Q0h (Q2L hZ i hi)
theorem Q2v {P:Program}(w:World)(dT sT ty elem:TypeId)(dp sp:Option Addr)(bz oz n cz bx ox m cx k:Nat)(hu:P.underlying dT=some (.slice elem))(hs:(P.info? elem).map (·.size)=some 1)
  (hk:Nat.min m n=k) (hp:0<k→dp=some ⟨bz,oz,none⟩∧sp=some ⟨bx,ox,none⟩) (hX:IsW w bx ox k) (hZ:Wr w bz oz k) :
  (Builtin.copy_ #[dT,sT] ty #[.slice dp n cz,.slice sp m cx]).run P w=.ok (goInt k) (cpW w bz oz bx ox k):=by
 by_cases h0:k=0
 ·subst h0
  exact run_copy_none (P:=P) w dT sT ty elem dp sp n cz m cx hu hs hk
 obtain ⟨rfl,rfl⟩:=hp (by omega)
 have h:=run_copy_cells (P:=P) w dT sT ty elem bz oz n cz ⟨bx,ox,none⟩ m cx (wordsOf w bx ox k) hu hs (by rw [QA,hk]) ?_ ?_ ?_ ?_
 ·rw [QA] at h;exact h
 ·intro j v hj
  have hjk:j<k:=by have:=(List.getElem?_eq_some_iff.1 hj).1;rw [QA] at this;exact this
  rw [Q4t _ _ _ _ _ hjk] at hj
  cases hj
  have:=hX.get j hjk
  by_cases h0:j=0
  ·subst h0;simpa [Addr.add] using this
  ·simpa [Addr.add,h0] using this
 ·intro j hj;rw [QA] at hj;obtain ⟨v,hv⟩:=hZ.cell j hj;rw [hv];rfl
 ·intro j hj;rw [QA] at hj;exact hZ.free j hj
 ·intro v hv;simp [wordsOf] at hv;obtain ⟨i,_,rfl⟩:=hv;rfl
theorem Q0C (w:World)(b o k n:Nat)(h:k≤n):MV w b o n=MV w b o k+BB^k*MV w b (o+k) (n - k):=by
 have:=QF w b o k (n - k)
 rwa [show k+(n - k)=n by omega] at this
theorem Q2a {Z Z' X x y P:Nat}(hV:Z+P=X+y)(hZ:Z'=Z+0*P)(hx:x=BB - 1):Z'+P*BB=X+x*P+y:=by
 subst hx hZ
 have h:(BB - 1)*P+P=P*BB:=by
  have:=Qx
  rw [Nat.sub_mul,Nat.one_mul,Nat.mul_comm P BB]
  have:P≤BB*P:=Nat.le_mul_of_pos_left _ this
  omega
 omega
theorem Q3w {Z X x y P:Nat}(hV:Z+P=X+y):Z+(x+1)*P=X+x*P+y:=by
 rw [Nat.add_mul,Nat.one_mul];omega
theorem Q2w {w wk:World}{bz oz bx ox k n:Nat}(hkn:k≤n)(hX:IsW w bx ox n)(hZ:Wr w bz oz n)(hal:bx≠bz)(hW:IsW wk bz oz k)(hC:Chg bz oz (oz+k) w wk) :
  IsW wk bx (ox+k) (n - k)∧Wr wk bz (oz+k) (n - k)∧IsW (cpW wk bz (oz+k) bx (ox+k) (n - k)) bz oz n ∧
  MV (cpW wk bz (oz+k) bx (ox+k) (n - k)) bz oz n=MV wk bz oz k+BB^k*MV w bx (ox+k) (n - k)∧Chg bz oz (oz+n) w (cpW wk bz (oz+k) bx (ox+k) (n - k)):=by
 have h1:IsW wk bx (ox+k) (n - k):=hC.isW (hX.sub k (n - k) (by omega)) (by omega)
 have h2:Wr wk bz (oz+k) (n - k):=hC.wr (hZ.sub k (n - k) (by omega))
 have h3:=Q2t wk bz (oz+k) bx (ox+k) (n - k)
 have h4:=Q2u h1 h2
 have h5:IsW (cpW wk bz (oz+k) bx (ox+k) (n - k)) bz oz k:=h3.isW hW (by omega)
 refine ⟨h1,h2,?_,?_,(hC.mono (by omega) (by omega)).trans (h3.mono (by omega) (by omega))⟩
 ·intro i hi
  by_cases e:i<k
  ·exact h5 i e
  ·have:=h4 (i - k) (by omega)
   rw [show oz+k+(i - k)=oz+i by omega] at this
   exact this
 ·rw [Q0C _ bz oz k n hkn,h3.mv (b':=bz) (o:=oz) (n:=k) (by omega),Q3T h2,hC.mv (b':=bx) (o:=ox+k) (n:=n - k) (by omega)]
theorem Q4u {w wk:World}{b o k n:Nat}(hkn:k≤n)(hX:IsW w b o n)(hW:IsW wk b o k)(hC:Chg b o (o+k) w wk) :
  IsW wk b o n∧MV wk b o n=MV wk b o k+BB^k*MV w b (o+k) (n - k)∧Chg b o (o+n) w wk:=by
 refine ⟨?_,?_,hC.mono (by omega) (by omega)⟩
 ·intro i hi
  by_cases e:i<k
  ·exact hW i e
  ·have:=hC.isW (hX.sub k (n - k) (by omega)) (by omega) (i - k) (by omega)
   rw [show o+k+(i - k)=o+i by omega] at this
   exact this
 ·rw [Q0C _ b o k n hkn,hC.mv (b':=b) (o:=o+k) (n:=n - k) (by omega)]
def shlW (x s:Nat):Nat:=x*2^s % BB
def shrW (x t:Nat):Nat:=x / 2^t
theorem Q1y {s t:Nat}(h:s+t=64):BB=2^s*2^t:=by rw [← Nat.pow_add,h];rfl
theorem Q2x {s t x:Nat}(h:s+t=64):x*2^s=shrW x t*BB+shlW x s:=by
 have e:x*2^s / BB=x / 2^t:=by rw [Q1y h,Nat.mul_comm x,Nat.mul_div_mul_left _ _ (Nat.two_pow_pos s)]
 unfold shlW shrW
 rw [← e,Nat.mul_comm (x*2^s / BB)]
 exact (Nat.div_add_mod _ _).symm
theorem Q2y (x s:Nat):shlW x s<BB:=Nat.mod_lt _ Qx
theorem Q1k {s t x:Nat}(h:s+t=64)(hx:x<BB):shrW x t<2^s:=by
 unfold shrW
 rw [Nat.div_lt_iff_lt_mul (Nat.two_pow_pos t),← Q1y h]
 exact hx
theorem Q4v {s t x:Nat}(h:s+t=64):∃ q,shlW x s=q*2^s∧q<2^t:=by
 refine ⟨x % 2^t,?_,Nat.mod_lt _ (Nat.two_pow_pos t)⟩
 unfold shlW
 rw [Q1y h,Nat.mul_comm x,Nat.mul_mod_mul_left,Nat.mul_comm]
theorem Q4w {s t a b:Nat}(h:s+t=64)(hb:b<BB):shlW a s ||| shrW b t=shlW a s+shrW b t:=by
 obtain ⟨q,hq,_⟩:=Q4v (x:=a) h
 rw [hq,Nat.mul_comm,← Nat.two_pow_add_eq_or_of_lt (Q1k h hb)]
theorem Q2b {s t a b:Nat}(h:s+t=64)(hb:b<BB):shlW a s+shrW b t<BB:=by
 obtain ⟨q,hq,hq2⟩:=Q4v (x:=a) h
 have h1:=Q1k h hb
 rw [hq,Q1y h]
 have h2:(q+1)*2^s≤2^t*2^s:=Nat.mul_le_mul_right _ hq2
 rw [Nat.add_mul,Nat.one_mul] at h2
 rw [Nat.mul_comm (2^s)]
 omega
theorem Q0R (x t:Nat):(x:Int) / 2^t=((shrW x t:Nat):Int):=by unfold shrW;simp
theorem Q0S (x s:Nat):IntKind.u64.wrap ((x:Int)*2^s)=((shlW x s:Nat):Int):=by
 unfold shlW BB
 have:∀ n:Int,IntKind.u64.wrap n=n % 18446744073709551616:=fun _=>rfl
 rw [this];simp
theorem Q5T {s:Nat}(hs:s<64):bits .and .u64 (s:Int) 63=s:=by
 rw [show (63:Int)=((63:Nat):Int) from rfl,u64_and_nat s 63 (by omega) (by omega)]
 rw [show (63:Nat)=2^6 - 1 from rfl,Nat.and_two_pow_sub_one_eq_mod,Nat.mod_eq_of_lt (by omega)]
theorem Q7q {s t a b:Nat}(h:s+t=64)(hb:b<BB):bits .or .u64 ((shlW a s:Nat):Int) ((shrW b t:Nat):Int)=((shlW a s+shrW b t:Nat):Int):=by
 have h1:=Q2y a s
 have h2:=Q1k h hb
 have h3:(2:Nat)^s≤BB:=by rw [Q1y h];exact Nat.le_mul_of_pos_right _ (Nat.two_pow_pos t)
 rw [u64_or_nat _ _ (by unfold BB at *;omega) (by unfold BB at *;omega),Q4w h hb]
theorem Q8H {s t a b:Nat}(h:s+t=64)(hb:b<BB):bits .or .u64 ((shrW b t:Nat):Int) ((shlW a s:Nat):Int)=((shlW a s+shrW b t:Nat):Int):=by
 have h1:=Q2y a s
 have h2:=Q1k h hb
 have h3:(2:Nat)^s≤BB:=by rw [Q1y h];exact Nat.le_mul_of_pos_right _ (Nat.two_pow_pos t)
 rw [u64_or_nat _ _ (by unfold BB at *;omega) (by unfold BB at *;omega),Nat.or_comm,Q4w h hb]
theorem Q6s {H M c P x1 lx l1 s1 S:Nat}(hI:H*S=c*P+M*BB+lx)(hx:x1*S=s1*BB+l1) :
  (x1+BB*H)*S=c*(P*BB)+(lx+s1+BB*M)*BB+l1:=by
 have e:BB*H*S=BB*(c*P+M*BB+lx):=by rw [Nat.mul_assoc,hI]
 have e1:BB*(c*P)=c*(P*BB):=by rw [Nat.mul_comm,Nat.mul_assoc]
 have e2:BB*(M*BB)=BB*M*BB:=by rw [Nat.mul_assoc]
 simp only [Nat.add_mul,Nat.mul_add] at *
 rw [Nat.mul_comm BB lx] at e
 omega
theorem Q21 {w wr:World}{b o k n z:Nat}(hW:IsW wr b (o+k+1) n)(hcell:∃ v,wr.cell? ⟨b,o+k,none⟩=some v)(hz:z<BB)(hc:Chg b (o+k+1) (o+k+1+n) w wr) :
  IsW (wr.setCell ⟨b,o+k,none⟩ (.int .u64 (z:Int))) b (o+k) (n+1)∧MV (wr.setCell ⟨b,o+k,none⟩ (.int .u64 (z:Int))) b (o+k) (n+1)=z+BB*MV wr b (o+k+1) n ∧
  Chg b (o+k) (o+k+(n+1)) w (wr.setCell ⟨b,o+k,none⟩ (.int .u64 (z:Int))):=by
 obtain ⟨v,hv⟩:=hcell
 have hs:=World.cell?_setCell_same wr ⟨b,o+k,none⟩ (.int .u64 (z:Int)) hv
 have hr:rd (wr.setCell ⟨b,o+k,none⟩ (.int .u64 (z:Int))) b (o+k)=z:=Q0h hs
 have hC:=Chg.set wr b (o+k) (.int .u64 (z:Int))
 refine ⟨?_,?_,(hc.mono (by omega) (by omega)).trans (hC.mono (by omega) (by omega))⟩
 ·intro i hi
  by_cases e:i=0
  ·subst e;rw [Nat.add_zero,hr];exact ⟨hs,hz⟩
  ·have:=(hC.isW hW (by omega)) (i - 1) (by omega)
   rw [show o+k+1+(i - 1)=o+k+i by omega] at this
   exact this
 ·rw [Q0p,hr,hC.mv (by omega)]
end
theorem Q7r (x y c:Nat)(hc:c≤1)(w:World) :
  (callFunc 269 #[.int .u64 x,.int .u64 y,.int .u64 c]).run Tryz.prog w=.ok (.value (.tuple #[.int .u64 (adds x y c:Nat),.int .u64 (addc x y c:Nat)])) w:=by
 rw [run_callFunc_extern Tryz.func269 (by kernel_rfl) (by kernel_rfl) (by kernel_rfl) (e:=add64Entry) (by kernel_rfl),Go.run_add64 x y c (by omega) (by omega) (by omega) (by omega)]
 simp only [Result.andThen,adds,addc,BB]
 congr 5 <;> omega
theorem Q7s (x y b:Nat)(hb:b≤1)(w:World) :
  (callFunc 271 #[.int .u64 x,.int .u64 y,.int .u64 b]).run Tryz.prog w=.ok (.value (.tuple #[.int .u64 (subs x y b:Nat),.int .u64 (subb x y b:Nat)])) w:=by
 rw [run_callFunc_extern Tryz.func271 (by kernel_rfl) (by kernel_rfl) (by kernel_rfl) (e:=sub64Entry) (by kernel_rfl),run_sub64 x y b hb]
 rfl
theorem Q0q (x y c:Nat)(hc:c≤1)(w:World) :
  Calls Tryz.prog 236 #[.int .u64 x,.int .u64 y,.int .u64 c] w fun e w'=>e=.returned (.tuple #[.int .u64 (adds x y c:Nat),.int .u64 (addc x y c:Nat)])∧w'=w:=by
 have h:=Q7r x y c hc
 go_enter Tryz.func236, Tryz.ntmps236
 go_wp2
 go_ret2
 exact ⟨rfl,rfl⟩
theorem Q3U (x y c:Nat)(hc:c≤1)(w:World) :
  Calls Tryz.prog 238 #[.int .u64 x,.int .u64 y,.int .u64 c] w fun e w'=>e=.returned (.tuple #[.int .u64 (subs x y c:Nat),.int .u64 (subb x y c:Nat)])∧w'=w:=by
 have h:=Q7s x y c hc
 go_enter Tryz.func238, Tryz.ntmps238
 go_wp2
 go_ret2
 exact ⟨rfl,rfl⟩
theorem Q2z (x y:Nat)(hx:x<BB)(hy:y<BB)(w:World) :
  Calls Tryz.prog 250 #[.int .u64 x,.int .u64 y] w fun e w'=>e=.returned (.tuple #[.int .u64 (mulh x y:Nat),.int .u64 (mull x y:Nat)])∧w'=w :=
 Tryz.bits_Mul x y hx hy w
theorem Q9D (x y:Nat)(hx:x<BB)(hy:y<BB)(w:World) :
  Calls Tryz.prog 213 #[.int .u64 x,.int .u64 y] w fun e w'=>e=.returned (.tuple #[.int .u64 (mulh x y:Nat),.int .u64 (mull x y:Nat)])∧w'=w:=by
 go_enter Tryz.func213, Tryz.ntmps213
 go_wp2_with (go_at_call 250;refine (Q2z x y hx hy _).mono ?_;rintro e w' ⟨rfl,rfl⟩)
 go_ret2
 exact ⟨rfl,rfl⟩
theorem Q22 (x y c:Nat)(hx:x<BB)(hy:y<BB)(hc:c<BB)(w:World) :
  Calls Tryz.prog 295 #[.int .u64 x,.int .u64 y,.int .u64 c] w fun e w'=>e=.returned (.tuple #[.int .u64 (mah x y c:Nat),.int .u64 (mal x y c:Nat)])∧w'=w:=by
 have H:=Lh (Q5b hx hy hc)
 go_enter Tryz.func295, Tryz.ntmps295
 go_wp2_with (first | (go_at_call 250;refine (Q2z x y hx hy _).mono ?_;rintro e w' ⟨rfl,rfl⟩) | (go_at_call 236;refine (Q0q _ _ 0 (by omega) _).mono ?_;rintro e w' ⟨rfl,rfl⟩))
 go_ret2
 have h1:mulh x y+addc (mull x y) c 0=mah x y c:=Q5S
 have h2:=H.out
 refine ⟨Q7o ?_ (by rw [Q8G]),rfl⟩
 rw [Qf (by omega) (by omega)]
 omega
theorem Q4x (bz oz cz bx ox cx n:Nat)(y r:Nat)(hn2:n≤maxLen)(hy:y<BB)(hr:r<BB)(w:World)(hX:IsW w bx ox n)(hZ:Wr w bz oz n)(hal:bx≠bz∨oz≤ox) :
  Calls Tryz.prog 277 #[.slice (some ⟨bz,oz,none⟩) n cz,.slice (some ⟨bx,ox,none⟩) n cx,.int .u64 y,.int .u64 r] w fun e w' =>
   ∃ c:Nat,e=.returned (.int .u64 c)∧c<BB∧IsW w' bz oz n∧MV w' bz oz n+c*BB^n=MV w bx ox n*y+r∧Chg bz oz (oz+n) w w':=by
 unfold maxLen at hn2
 have HX:=Lh hX;clear hX
 have HZ:=Lh hZ;clear hZ
 have HA:=Lh hal;clear hal
 go_enter Tryz.func277, Tryz.ntmps277
 go_wp2
 go_loopw [8,19] (fun c i wr=>∃ (k cc:Nat),k≤n∧i=.int .i64 k∧c=.int .u64 cc∧cc<BB∧IsW wr bz oz k∧MV wr bz oz k+cc*BB^k=MV w bx ox k*y+r∧Chg bz oz (oz+k) w wr) (fun _ i _=>n - (intOf i).toNat)
 case atStart=>exact ⟨0,r,Nat.zero_le _,rfl,rfl,hr,IsW.zero _ _ _,by simp [MV],Chg.refl _ _ _ _⟩
 case round =>
  obtain ⟨k,cc,hk,rfl,rfl,hcc,hW,hV,hC⟩:=hrel
  by_cases hlt:k<n
  ·have hx:wr.cell? ⟨bx,ox+k,none⟩=some (.int .u64 ((rd w bx (ox+k):Nat):Int)):=by
    have:=HA.out;rw [hC.cell_other (by omega)];exact HX.out.get k hlt
   have hxk:=HX.out.lt k hlt
   have hz:=(hC.wr HZ.out).cell k hlt
   have hzf:=(hC.wr HZ.out).free k hlt
   have HS:=fun z hz'=>QJ (z:=z) hW hz hz' hC
   have HR:=Q7p (rd w bx (ox+k)) y cc
   have HM:=Q5b hxk hy hcc
   have HS1:=Lh (HS _ HR);clear HS HR
   have HV:=Lh hV;clear hV hW hC
   obtain ⟨v0,hz⟩:=hz
   go_wp2_with (go_at_call 295;refine (Q22 (rd w bx (ox+k)) y cc hxk hy hcc _).mono ?_;rintro e w' ⟨rfl,rfl⟩)
   go_roundw
   case rel=>exact ⟨k+1,_,by omega,by go_num,rfl,HM,HS1.out.1,Q1L HV.out (Q5a _ _ _) HS1.out.2.1 rfl,HS1.out.2.2⟩
   case measure=>simp [intOf];omega
  ·obtain rfl:k=n:=by omega
   have HV:=Lh hV;clear hV
   go_wp2
   go_ret
   exact ⟨cc,rfl,hcc,hW,HV.out,hC⟩
theorem Q8I (bz oz cz bx ox cx by_ oy cy n:Nat)(hn2:n≤maxLen)(w:World)(hX:IsW w bx ox n)(hY:IsW w by_ oy n)(hZ:Wr w bz oz n)(hal:bx≠bz∨oz≤ox)(hal2:by_≠bz∨oz≤oy) :
  Calls Tryz.prog 235 #[.slice (some ⟨bz,oz,none⟩) n cz,.slice (some ⟨bx,ox,none⟩) n cx,.slice (some ⟨by_,oy,none⟩) n cy] w fun e w' =>
   ∃ c:Nat,e=.returned (.int .u64 c)∧c≤1∧IsW w' bz oz n∧MV w' bz oz n+c*BB^n=MV w bx ox n+MV w by_ oy n∧Chg bz oz (oz+n) w w':=by
 unfold maxLen at hn2
 have HX:=Lh hX;clear hX
 have HY:=Lh hY;clear hY
 have HZ:=Lh hZ;clear hZ
 have HA:=Lh (And.intro hal hal2);clear hal hal2
 go_enter Tryz.func235, Tryz.ntmps235
 go_wp2
 go_loopw [6,25] (fun c i wr=>∃ (k cc:Nat),k≤n∧i=.int .i64 k∧c=.int .u64 cc∧cc≤1∧IsW wr bz oz k∧MV wr bz oz k+cc*BB^k=MV w bx ox k+MV w by_ oy k∧Chg bz oz (oz+k) w wr) (fun _ i _=>n - (intOf i).toNat)
 case atStart=>exact ⟨0,0,Nat.zero_le _,rfl,rfl,by omega,IsW.zero _ _ _,by simp [MV],Chg.refl _ _ _ _⟩
 case round =>
  obtain ⟨k,cc,hk,rfl,rfl,hcc,hW,hV,hC⟩:=hrel
  by_cases hlt:k<n
  ·have hx:wr.cell? ⟨bx,ox+k,none⟩=some (.int .u64 ((rd w bx (ox+k):Nat):Int)):=by
    have:=HA.out;rw [hC.cell_other (by omega)];exact HX.out.get k hlt
   have hy:wr.cell? ⟨by_,oy+k,none⟩=some (.int .u64 ((rd w by_ (oy+k):Nat):Int)):=by
    have:=HA.out;rw [hC.cell_other (by omega)];exact HY.out.get k hlt
   have hxk:=HX.out.lt k hlt
   have hyk:=HY.out.lt k hlt
   have hz:=(hC.wr HZ.out).cell k hlt
   have hzf:=(hC.wr HZ.out).free k hlt
   have HS:=fun q z hz'=>Q2K (z:=z) q hW hz hz' hC
   have HS1:=Lh HS;clear HS
   have HV:=Lh hV;clear hV hW hC
   obtain ⟨v0,hz⟩:=hz
   go_wp2
   go_quiet ((go_at_call 236;exact Calls.quiet_of_same (Q0q _ _ _ hcc _)))
   go_wp2
   go_roundw
   case rel =>
    have h1:=HS1.out nq _ (Q1J (rd w bx (ox+k)) (rd w by_ (oy+k)) cc)
    exact ⟨k+1,_,by omega,by go_num,rfl,Q2q hxk hyk hcc,h1.1,Q6q HV.out (Q1j _ _ _) h1.2.1 rfl rfl,h1.2.2⟩
   case measure=>simp [intOf];omega
  ·obtain rfl:k=n:=by omega
   have HV:=Lh hV;clear hV
   go_wp2
   go_ret
   exact ⟨cc,rfl,hcc,hW,HV.out,hC⟩
theorem Q8J (bz oz cz bx ox cx by_ oy cy n:Nat)(hn2:n≤maxLen)(w:World)(hX:IsW w bx ox n)(hY:IsW w by_ oy n)(hZ:Wr w bz oz n)(hal:bx≠bz∨oz≤ox)(hal2:by_≠bz∨oz≤oy) :
  Calls Tryz.prog 237 #[.slice (some ⟨bz,oz,none⟩) n cz,.slice (some ⟨bx,ox,none⟩) n cx,.slice (some ⟨by_,oy,none⟩) n cy] w fun e w' =>
   ∃ c:Nat,e=.returned (.int .u64 c)∧c≤1∧IsW w' bz oz n∧MV w' bz oz n+MV w by_ oy n=MV w bx ox n+c*BB^n∧Chg bz oz (oz+n) w w':=by
 unfold maxLen at hn2
 have HX:=Lh hX;clear hX
 have HY:=Lh hY;clear hY
 have HZ:=Lh hZ;clear hZ
 have HA:=Lh (And.intro hal hal2);clear hal hal2
 go_enter Tryz.func237, Tryz.ntmps237
 go_wp2
 go_loopw [6,25] (fun c i wr=>∃ (k cc:Nat),k≤n∧i=.int .i64 k∧c=.int .u64 cc∧cc≤1∧IsW wr bz oz k∧MV wr bz oz k+MV w by_ oy k=MV w bx ox k+cc*BB^k∧Chg bz oz (oz+k) w wr) (fun _ i _=>n - (intOf i).toNat)
 case atStart=>exact ⟨0,0,Nat.zero_le _,rfl,rfl,by omega,IsW.zero _ _ _,by simp [MV],Chg.refl _ _ _ _⟩
 case round =>
  obtain ⟨k,cc,hk,rfl,rfl,hcc,hW,hV,hC⟩:=hrel
  by_cases hlt:k<n
  ·have hx:wr.cell? ⟨bx,ox+k,none⟩=some (.int .u64 ((rd w bx (ox+k):Nat):Int)):=by
    have:=HA.out;rw [hC.cell_other (by omega)];exact HX.out.get k hlt
   have hy:wr.cell? ⟨by_,oy+k,none⟩=some (.int .u64 ((rd w by_ (oy+k):Nat):Int)):=by
    have:=HA.out;rw [hC.cell_other (by omega)];exact HY.out.get k hlt
   have hxk:=HX.out.lt k hlt
   have hyk:=HY.out.lt k hlt
   have hz:=(hC.wr HZ.out).cell k hlt
   have hzf:=(hC.wr HZ.out).free k hlt
   have HS:=fun q z hz'=>Q2K (z:=z) q hW hz hz' hC
   have HS1:=Lh HS;clear HS
   have HV:=Lh hV;clear hV hW hC
   obtain ⟨v0,hz⟩:=hz
   go_wp2
   go_quiet ((go_at_call 238;exact Calls.quiet_of_same (Q3U _ _ _ hcc _)))
   go_wp2
   go_roundw
   case rel =>
    have h1:=HS1.out nq _ (Q3Q (rd w bx (ox+k)) (rd w by_ (oy+k)) cc)
    exact ⟨k+1,_,by omega,by go_num,rfl,Q1K _ _ _,h1.1,Q6r HV.out (Q3P hxk hyk hcc) h1.2.1 rfl rfl,h1.2.2⟩
   case measure=>simp [intOf];omega
  ·obtain rfl:k=n:=by omega
   have HV:=Lh hV;clear hV
   go_wp2
   go_ret
   exact ⟨cc,rfl,hcc,hW,HV.out,hC⟩
theorem Q3V (bz oz cz bx ox cx by_ oy cy n m a:Nat)(hn2:n≤maxLen)(hm:m<BB)(ha:a<BB)(w:World)(hX:IsW w bx ox n)(hY:IsW w by_ oy n)(hZ:Wr w bz oz n)(hal:bx≠bz∨oz≤ox)(hal2:by_≠bz∨oz≤oy) :
  Calls Tryz.prog 280 #[.slice (some ⟨bz,oz,none⟩) n cz,.slice (some ⟨bx,ox,none⟩) n cx,.slice (some ⟨by_,oy,none⟩) n cy,.int .u64 m,.int .u64 a] w fun e w' =>
   ∃ c:Nat,e=.returned (.int .u64 c)∧c<BB∧IsW w' bz oz n∧MV w' bz oz n+c*BB^n=MV w bx ox n+MV w by_ oy n*m+a∧Chg bz oz (oz+n) w w':=by
 unfold maxLen at hn2
 have HX:=Lh hX;clear hX
 have HY:=Lh hY;clear hY
 have HZ:=Lh hZ;clear hZ
 have HA:=Lh (And.intro hal hal2);clear hal hal2
 go_enter Tryz.func280, Tryz.ntmps280
 go_wp2
 go_loopw [10,32] (fun c i wr=>∃ (k cc:Nat),k≤n∧i=.int .i64 k∧c=.int .u64 cc∧cc<BB∧IsW wr bz oz k∧MV wr bz oz k+cc*BB^k=MV w bx ox k+MV w by_ oy k*m+a∧Chg bz oz (oz+k) w wr) (fun _ i _=>n - (intOf i).toNat)
 case atStart=>exact ⟨0,a,Nat.zero_le _,rfl,rfl,ha,IsW.zero _ _ _,by simp [MV],Chg.refl _ _ _ _⟩
 case round =>
  obtain ⟨k,cc,hk,rfl,rfl,hcc,hW,hV,hC⟩:=hrel
  by_cases hlt:k<n
  ·have hx:wr.cell? ⟨bx,ox+k,none⟩=some (.int .u64 ((rd w bx (ox+k):Nat):Int)):=by
    have:=HA.out;rw [hC.cell_other (by omega)];exact HX.out.get k hlt
   have hy:wr.cell? ⟨by_,oy+k,none⟩=some (.int .u64 ((rd w by_ (oy+k):Nat):Int)):=by
    have:=HA.out;rw [hC.cell_other (by omega)];exact HY.out.get k hlt
   have hxk:=HX.out.lt k hlt
   have hyk:=HY.out.lt k hlt
   have hz:=(hC.wr HZ.out).cell k hlt
   have hzf:=(hC.wr HZ.out).free k hlt
   have HS:=fun q z hz'=>Q2K (z:=z) q hW hz hz' hC
   have HS1:=Lh HS;clear HS
   have HV:=Lh hV;clear hV hW hC
   obtain ⟨v0,hz⟩:=hz
   go_wp2
   go_quiet ((go_at_call 295;exact Calls.quiet_of_same (Q22 _ _ _ hyk hm hxk _)))
   go_wp2_with (go_at_call 236;refine (Q0q _ _ 0 (by omega) _).mono ?_;rintro e w' ⟨rfl,rfl⟩)
   go_roundw
   case rel =>
    have h1:=HS1.out nq _ (Q1J (mal (rd w by_ (oy+k)) m (rd w bx (ox+k))) cc 0)
    have h2:=Q5c hyk hm hxk hcc
    refine ⟨k+1,addc (mal (rd w by_ (oy+k)) m (rd w bx (ox+k))) cc 0+mah (rd w by_ (oy+k)) m (rd w bx (ox+k)),by omega,by go_num,?_,h2.2,h1.1,Q3S HV.out h2.1 h1.2.1 rfl rfl,h1.2.2⟩
    rw [Qf (by omega) (by omega)];simp
   case measure=>simp [intOf];omega
  ·obtain rfl:k=n:=by omega
   have HV:=Lh hV;clear hV
   go_wp2
   go_ret
   exact ⟨cc,rfl,hcc,hW,HV.out,hC⟩
theorem Q1a:(Tryz.prog.info? 203).map (fun i=>(i.zero,i.size,i.bytes))=some (some (.int .u64 0),1,8):=by kernel_rfl
theorem Q1b:(Tryz.prog.info? 203).map (·.size)=some 1:=by kernel_rfl
theorem Q5U {w:World}{a b:Addr}{Na Nb:Nat}{Ta Tb:TypeId}(ha:Row w a.block Na Ta)(hb:Row w b.block Nb Tb):(binOp .neq 247 (.pointer (some a)) (.pointer (some b))).run Tryz.prog w=.ok (.bool (decide (a≠b))) w:=by
 obtain ⟨i0,hi,hz0,hz1,hz2⟩:=info_parts Q1a
 exact Q18 Tryz.underlying247 hi (by rw [hz1];omega) ha hb
theorem Q8K {w:World}{a b:Addr}{Na Nb:Nat}{Ta Tb:TypeId}(ha:Row w a.block Na Ta)(hb:Row w b.block Nb Tb):(binOp .eql 247 (.pointer (some a)) (.pointer (some b))).run Tryz.prog w=.ok (.bool (decide (a=b))) w:=by
 obtain ⟨i0,hi,hz0,hz1,hz2⟩:=info_parts Q1a
 exact Q19 Tryz.underlying247 hi (by rw [hz1];omega) ha hb
theorem Q7t {w:World}{b o b' o':Nat}{Na Nb:Nat}{Ta Tb:TypeId}(h:b'≠b)(ha:Row w b Na Ta)(hb:Row w b' Nb Tb):(binOp .neq 247 (.pointer (some ⟨b,o,none⟩)) (.pointer (some ⟨b',o',none⟩))).run Tryz.prog w=.ok (.bool true) w:=by
 have e:(⟨b,o,none⟩:Addr)≠⟨b',o',none⟩:=fun e=>h (by cases e;rfl)
 have e2:=Q5U (a:=⟨b,o,none⟩) (b:=⟨b',o',none⟩) ha hb
 simpa only [ne_eq,e,not_false_eq_true,decide_true] using e2
theorem Q5V {w:World}{b o:Nat}{Na:Nat}{Ta:TypeId}(ha:Row w b Na Ta):(binOp .neq 247 (.pointer (some ⟨b,o,none⟩)) (.pointer (some ⟨b,o,none⟩))).run Tryz.prog w=.ok (.bool false) w:=by
 rw [Q5U (a:=⟨b,o,none⟩) (b:=⟨b,o,none⟩) ha ha];simp
theorem Q7u {w:World}(ty:TypeId)(dp sp:Option Addr)(bz oz n cz bx ox m cx k:Nat)
  (hk:Nat.min m n=k) (hp:0<k→dp=some ⟨bz,oz,none⟩∧sp=some ⟨bx,ox,none⟩) (hX:IsW w bx ox k) (hZ:Wr w bz oz k) :
  (Builtin.copy_ #[64,64] ty #[.slice dp n cz,.slice sp m cx]).run Tryz.prog w=.ok (goInt k) (cpW w bz oz bx ox k) :=
 Q2v w _ _ ty _ dp sp bz oz n cz bx ox m cx k Tryz.underlying64 Q1b hk hp hX hZ
def AddVW (w:World)(bz oz bx ox n y:Nat)(e:Ending)(w':World):Prop :=
 ∃ c:Nat,e=.returned (.int .u64 c)∧c≤1∧IsW w' bz oz n∧MV w' bz oz n+c*BB^n=MV w bx ox n+y∧Chg bz oz (oz+n) w w'
theorem AddVW.far {w wk:World}{bz oz bx ox k n y:Nat}(hkn:k≤n)(hX:IsW w bx ox n)(hZ:Wr w bz oz n)(hal:bx≠bz)(hW:IsW wk bz oz k)(hC:Chg bz oz (oz+k) w wk)(hV:MV wk bz oz k=MV w bx ox k+y) :
  AddVW w bz oz bx ox n y (.returned (.int .u64 0)) (cpW wk bz (oz+k) bx (ox+k) (n - k)):=by
 obtain ⟨_,_,h3,h4,h5⟩:=Q2w hkn hX hZ hal hW hC
 exact ⟨0,rfl,by omega,h3,by rw [h4,hV,Q0C w bx ox k n hkn];omega,h5⟩
theorem AddVW.near {w wk:World}{b o k n y:Nat}(hkn:k≤n)(hX:IsW w b o n)(hW:IsW wk b o k)(hC:Chg b o (o+k) w wk)(hV:MV wk b o k=MV w b o k+y) :
  AddVW w b o b o n y (.returned (.int .u64 0)) wk:=by
 obtain ⟨h3,h4,h5⟩:=Q4u hkn hX hW hC
 exact ⟨0,rfl,by omega,h3,by rw [h4,hV,Q0C w b o k n hkn];omega,h5⟩
theorem Q6t (bz oz cz bx ox cx n y:Nat)(hn0:0<n)(hn2:n≤maxLen)(hy:y<BB)(w:World)(hX:IsW w bx ox n)(hZ:Wr w bz oz n)(hal:bx≠bz)(Nx Tx:Nat)(hRx:Row w bx Nx Tx)(hcz:n≤cz)(hcx:n≤cx) :
  Calls Tryz.prog 199 #[.slice (some ⟨bz,oz,none⟩) n cz,.slice (some ⟨bx,ox,none⟩) n cx,.int .u64 y] w (AddVW w bz oz bx ox n y):=by
 unfold maxLen at hn2
 have hx0:=hX.get 0 hn0
 have hxl:=hX.lt 0 hn0
 obtain ⟨v0,hz0⟩:=hZ.cell 0 hn0
 have hf0:=hZ.free 0 hn0
 have hup:=QJ (k:=0) (z:=adds (rd w bx ox) y 0) (IsW.zero w bz oz) ⟨v0,hz0⟩ (Q1J _ _ _) (Chg.refl _ _ _ _)
 simp only [Nat.add_zero,Nat.zero_add,Nat.pow_zero,Nat.mul_one,show MV w bz oz 0=0 from rfl] at hx0 hxl hz0 hf0 hup
 have HU:=Lh hup;clear hup
 obtain ⟨Nz,Tz,hRz,hNz⟩:=Lh hZ
 have HX:=Lh hX;clear hX
 have HZ:=Lh hZ;clear hZ
 have HR:=Lh (And.intro hRz hRx);clear hRz hRx
 have HL:=Lh hxl;clear hxl
 have HA:=Lh hal;clear hal
 have HCC:=Lh (And.intro hcz hcx);clear hcz hcx
 by_cases hc:addc (rd w bx ox) y 0=0
 ·go_enter Tryz.func199, Tryz.ntmps199
  go_wp2_with (go_at_call 236;refine (Q0q _ _ 0 (by omega) _).mono ?_;rintro e w' ⟨rfl,hw⟩;subst w')
  have hV:adds (rd w bx ox) y 0=rd w bx ox+y:=by have:=Q1j (rd w bx ox) y 0;rw [hc] at this;omega
  have HV:=Lh hV;clear hV
  have hU:=HU.out
  generalize w.setCell ⟨bz,oz,none⟩ (.int .u64 (adds (rd w bx ox) y 0:Nat))=w2 at hU
  have hneq:=fun q=>Q7t (w:=w2.drewN q) (o:=oz) (o':=ox) HA.out (hU.2.2.row HR.out.1) (hU.2.2.row HR.out.2)
  have HU2:=Lh hU;clear hU
  go_quiet (fail)
  go_wp2
  clear hneq
  have HC:=Lh (HU2.out.2.2.drewN nq)
  have HW:Hid (IsW (w2.drewN nq) bz oz 1):=HU2.out.1
  have HM:Hid (MV (w2.drewN nq) bz oz 1=MV w bx ox 1+y):=by rw [Qy];exact HU2.out.2.1.trans (by rw [QX];exact HV.out)
  generalize w2.drewN nq=w3 at HC HW HM
  have hF:=Q2w (by omega) HX.out HZ.out HA.out HW.out HC.out
  have hrun:=Q7u (w:=w3.drew) 3 (if cz=1 then some ⟨bz,oz,none⟩ else some ⟨bz,oz+1,none⟩) (if cx=1 then some ⟨bx,ox,none⟩ else some ⟨bx,ox+1,none⟩) bz (oz+1) (n - 1) (cz - 1) bx (ox+1) (n - 1) (cx - 1) (n - 1) (by simp) (fun h=>⟨if_neg (by have:=HCC.out;omega),if_neg (by have:=HCC.out;omega)⟩) hF.1 hF.2.1
  clear hF
  have hn1:(1:Int)≤(n:Int):=by omega
  go_region
  clear hrun
  go_wp2
  all_goals go_ret
  all_goals exact AddVW.far (wk:=w3.drew) (by omega) HX.out HZ.out HA.out HW.out HC.out.drew ((Q02 _ _ _ _).trans HM.out)
 ·have hc1:addc (rd w bx ox) y 0=1:=by have:=Q2q HL.out hy (Nat.zero_le 1);omega
  go_enter Tryz.func199, Tryz.ntmps199
  go_wp2_with (go_at_call 236;refine (Q0q _ _ 0 (by omega) _).mono ?_;rintro e w' ⟨rfl,hw⟩;subst w')
  have hV:adds (rd w bx ox) y 0+BB=rd w bx ox+y:=by have:=Q1j (rd w bx ox) y 0;rw [hc1] at this;omega
  have HV:=Lh hV;clear hV
  have hU:=HU.out
  generalize w.setCell ⟨bz,oz,none⟩ (.int .u64 (adds (rd w bx ox) y 0:Nat))=w2 at hU
  have HU2:=Lh hU;clear hU
  go_loopw [9] (fun i wr=>∃ k:Nat,1≤k∧k≤n∧i=.int .i64 k∧IsW wr bz oz k∧MV wr bz oz k+BB^k=MV w bx ox k+y∧Chg bz oz (oz+k) w wr) (fun i _=>n - (intOf i).toNat)
  case atStart=>exact ⟨1,by omega,by omega,rfl,HU2.out.1,by rw [HU2.out.2.1,QX,Nat.pow_one];exact HV.out,HU2.out.2.2⟩
  case round =>
   obtain ⟨k,hk1,hk,rfl,hW,hV,hC⟩:=hrel
   by_cases hlt:k<n
   ·have hx:wr.cell? ⟨bx,ox+k,none⟩=some (.int .u64 ((rd w bx (ox+k):Nat):Int)):=by
     have:=HA.out;rw [hC.cell_other (by omega)];exact HX.out.get k hlt
    have hxk:=HX.out.lt k hlt
    have hz:=(hC.wr HZ.out).cell k hlt
    have hzf:=(hC.wr HZ.out).free k hlt
    have HS:=Lh (fun z hz'=>QJ (z:=z) hW hz hz' hC)
    have HV:=Lh hV;clear hV hW hC
    obtain ⟨v1,hz⟩:=hz
    by_cases hm:rd w bx (ox+k)=BB - 1
    ·have hm2:((rd w bx (ox+k):Nat):Int)=18446744073709551615:=by rw [hm];rfl
     have HM:=Lh hm;clear hm
     go_wp2
     go_roundw
     case rel =>
      have h1:=HS.out 0 Qx
      refine ⟨k+1,by omega,by omega,by go_num,h1.1,?_,h1.2.2⟩
      have h2:=h1.2.1
      have h3:=Q2a HV.out h2 HM.out
      exact h3
     case measure=>simp [intOf];omega
    ·have hm2:(((rd w bx (ox+k):Nat):Int) != 18446744073709551615)=true:=by
      have:BB - 1=18446744073709551615:=rfl
      simp;omega
     have hw1:IntKind.u64.wrap (((rd w bx (ox+k):Nat):Int)+1)=((rd w bx (ox+k)+1:Nat):Int):=by rw [Qf (by omega) (by omega)];simp
     have HM:=Lh hm;clear hm
     go_wp2
     have h1:=HS.out (rd w bx (ox+k)+1) (by have:=HM.out;omega)
     have HM2:Hid (MV (wr.setCell ⟨bz,oz+k,none⟩ (.int .u64 ((rd w bx (ox+k)+1:Nat):Int))) bz oz (k+1)=MV w bx ox (k+1)+y):=h1.2.1.trans (Q3w HV.out)
     have hx':Value.int .u64 (((rd w bx (ox+k):Nat):Int)+1)=.int .u64 ((rd w bx (ox+k)+1:Nat):Int):=rfl
     rw [hx']
     clear hx'
     generalize wr.setCell ⟨bz,oz+k,none⟩ (.int .u64 ((rd w bx (ox+k)+1:Nat):Int))=w2 at h1 HM2
     have hneq:=fun q=>Q7t (w:=w2.drewN q) (o:=oz) (o':=ox) HA.out (h1.2.2.row HR.out.1) (h1.2.2.row HR.out.2)
     have HU2:=Lh h1;clear h1
     go_quiet (fail)
     go_wp2
     clear hneq
     have HC:=Lh (HU2.out.2.2.drewN nq)
     have HW:Hid (IsW (w2.drewN nq) bz oz (k+1)):=HU2.out.1
     have HM:Hid (MV (w2.drewN nq) bz oz (k+1)=MV w bx ox (k+1)+y):=by rw [Qy];exact HM2.out
     clear HU2 HM2 HS hx hz hzf hm2 hw1 hxk
     generalize w2.drewN nq=w3 at HC HW HM
     have hF:=Q2w (by omega) HX.out HZ.out HA.out HW.out HC.out
     have hrun:=Q7u (w:=w3.drew) 3 (if cz=k+1 then some ⟨bz,oz,none⟩ else some ⟨bz,oz+(k+1),none⟩) (if cx=k+1 then some ⟨bx,ox,none⟩ else some ⟨bx,ox+(k+1),none⟩) bz (oz+(k+1)) (n - (k+1)) (cz - (k+1)) bx (ox+(k+1)) (n - (k+1)) (cx - (k+1)) (n - (k+1)) (by simp) (fun h=>⟨if_neg (by have:=HCC.out;omega),if_neg (by have:=HCC.out;omega)⟩) hF.1 hF.2.1
     clear hF
     go_region
     clear hrun
     go_wp2
     all_goals go_ret
     all_goals exact AddVW.far (wk:=w3.drew) (by omega) HX.out HZ.out HA.out HW.out HC.out.drew ((Q02 _ _ _ _).trans HM.out)
   ·obtain rfl:k=n:=by omega
    have HV:=Lh hV;clear hV
    go_wp2
    go_ret
    exact ⟨1,rfl,by omega,hW,by rw [Nat.one_mul];exact HV.out,hC⟩
theorem Q5d (b o cz cx n y:Nat)(hn0:0<n)(hn2:n≤maxLen)(hy:y<BB)(w:World)(hX:IsW w b o n)(hZ:Wr w b o n) :
  Calls Tryz.prog 199 #[.slice (some ⟨b,o,none⟩) n cz,.slice (some ⟨b,o,none⟩) n cx,.int .u64 y] w (AddVW w b o b o n y):=by
 unfold maxLen at hn2
 have hx0:=hX.get 0 hn0
 have hxl:=hX.lt 0 hn0
 obtain ⟨v0,hz0⟩:=hZ.cell 0 hn0
 have hf0:=hZ.free 0 hn0
 have hup:=QJ (k:=0) (z:=adds (rd w b o) y 0) (IsW.zero w b o) ⟨v0,hz0⟩ (Q1J _ _ _) (Chg.refl _ _ _ _)
 simp only [Nat.add_zero,Nat.zero_add,Nat.pow_zero,Nat.mul_one,show MV w b o 0=0 from rfl] at hx0 hxl hz0 hf0 hup
 have HU:=Lh hup;clear hup
 obtain ⟨Nz,Tz,hRz,hNz⟩:=Lh hZ
 have HX:=Lh hX;clear hX
 have HZ:=Lh hZ;clear hZ
 have HR:=Lh hRz;clear hRz
 have HL:=Lh hxl;clear hxl
 by_cases hc:addc (rd w b o) y 0=0
 ·go_enter Tryz.func199, Tryz.ntmps199
  go_wp2_with (go_at_call 236;refine (Q0q _ _ 0 (by omega) _).mono ?_;rintro e w' ⟨rfl,hw⟩;subst w')
  have hV:adds (rd w b o) y 0=rd w b o+y:=by have:=Q1j (rd w b o) y 0;rw [hc] at this;omega
  have HV:=Lh hV;clear hV
  have hU:=HU.out
  generalize w.setCell ⟨b,o,none⟩ (.int .u64 (adds (rd w b o) y 0:Nat))=w2 at hU
  have hneq:=fun q=>Q5V (w:=w2.drewN q) (o:=o) (hU.2.2.row HR.out)
  have HU2:=Lh hU;clear hU
  go_quiet (fail)
  go_wp2
  clear hneq
  have HC:=Lh (HU2.out.2.2.drewN nq)
  have HW:Hid (IsW (w2.drewN nq) b o 1):=HU2.out.1
  have HM:Hid (MV (w2.drewN nq) b o 1=MV w b o 1+y):=by rw [Qy];exact HU2.out.2.1.trans (by rw [QX];exact HV.out)
  generalize w2.drewN nq=w3 at HC HW HM
  go_ret
  exact AddVW.near (by omega) HX.out HW.out HC.out HM.out
 ·have hc1:addc (rd w b o) y 0=1:=by have:=Q2q HL.out hy (Nat.zero_le 1);omega
  go_enter Tryz.func199, Tryz.ntmps199
  go_wp2_with (go_at_call 236;refine (Q0q _ _ 0 (by omega) _).mono ?_;rintro e w' ⟨rfl,hw⟩;subst w')
  have hV:adds (rd w b o) y 0+BB=rd w b o+y:=by have:=Q1j (rd w b o) y 0;rw [hc1] at this;omega
  have HV:=Lh hV;clear hV
  have hU:=HU.out
  generalize w.setCell ⟨b,o,none⟩ (.int .u64 (adds (rd w b o) y 0:Nat))=w2 at hU
  have HU2:=Lh hU;clear hU
  go_loopw [9] (fun i wr=>∃ k:Nat,1≤k∧k≤n∧i=.int .i64 k∧IsW wr b o k∧MV wr b o k+BB^k=MV w b o k+y∧Chg b o (o+k) w wr) (fun i _=>n - (intOf i).toNat)
  case atStart=>exact ⟨1,by omega,by omega,rfl,HU2.out.1,by rw [HU2.out.2.1,QX,Nat.pow_one];exact HV.out,HU2.out.2.2⟩
  case round =>
   obtain ⟨k,hk1,hk,rfl,hW,hV,hC⟩:=hrel
   by_cases hlt:k<n
   ·have hx:wr.cell? ⟨b,o+k,none⟩=some (.int .u64 ((rd w b (o+k):Nat):Int)):=by
     rw [hC.cell_other (by omega)];exact HX.out.get k hlt
    have hxk:=HX.out.lt k hlt
    have hz:=(hC.wr HZ.out).cell k hlt
    have hzf:=(hC.wr HZ.out).free k hlt
    have HS:=Lh (fun z hz'=>QJ (z:=z) hW hz hz' hC)
    have HV:=Lh hV;clear hV hW hC
    obtain ⟨v1,hz⟩:=hz
    by_cases hm:rd w b (o+k)=BB - 1
    ·have hm2:((rd w b (o+k):Nat):Int)=18446744073709551615:=by rw [hm];rfl
     have HM:=Lh hm;clear hm
     go_wp2
     go_roundw
     case rel =>
      have h1:=HS.out 0 Qx
      refine ⟨k+1,by omega,by omega,by go_num,h1.1,?_,h1.2.2⟩
      have h2:=h1.2.1
      have h3:=Q2a HV.out h2 HM.out
      exact h3
     case measure=>simp [intOf];omega
    ·have hm2:(((rd w b (o+k):Nat):Int) != 18446744073709551615)=true:=by
      have:BB - 1=18446744073709551615:=rfl
      simp;omega
     have hw1:IntKind.u64.wrap (((rd w b (o+k):Nat):Int)+1)=((rd w b (o+k)+1:Nat):Int):=by rw [Qf (by omega) (by omega)];simp
     have HM:=Lh hm;clear hm
     go_wp2
     have h1:=HS.out (rd w b (o+k)+1) (by have:=HM.out;omega)
     have HM2:Hid (MV (wr.setCell ⟨b,o+k,none⟩ (.int .u64 ((rd w b (o+k)+1:Nat):Int))) b o (k+1)=MV w b o (k+1)+y):=h1.2.1.trans (Q3w HV.out)
     have hx':Value.int .u64 (((rd w b (o+k):Nat):Int)+1)=.int .u64 ((rd w b (o+k)+1:Nat):Int):=rfl
     rw [hx']
     clear hx'
     generalize wr.setCell ⟨b,o+k,none⟩ (.int .u64 ((rd w b (o+k)+1:Nat):Int))=w2 at h1 HM2
     have hneq:=fun q=>Q5V (w:=w2.drewN q) (o:=o) (h1.2.2.row HR.out)
     have HU2:=Lh h1;clear h1
     go_quiet (fail)
     go_wp2
     clear hneq
     have HC:=Lh (HU2.out.2.2.drewN nq)
     have HW:Hid (IsW (w2.drewN nq) b o (k+1)):=HU2.out.1
     have HM:Hid (MV (w2.drewN nq) b o (k+1)=MV w b o (k+1)+y):=by rw [Qy];exact HM2.out
     clear HU2 HM2 HS hx hz hzf hm2 hw1 hxk
     generalize w2.drewN nq=w3 at HC HW HM
     go_ret
     exact AddVW.near (by omega) HX.out HW.out HC.out HM.out
   ·obtain rfl:k=n:=by omega
    have HV:=Lh hV;clear hV
    go_wp2
    go_ret
    exact ⟨1,rfl,by omega,hW,by rw [Nat.one_mul];exact HV.out,hC⟩
def SubVW (w:World)(bz oz bx ox n y:Nat)(e:Ending)(w':World):Prop :=
 ∃ c:Nat,e=.returned (.int .u64 c)∧c≤1∧IsW w' bz oz n∧MV w' bz oz n+y=MV w bx ox n+c*BB^n∧Chg bz oz (oz+n) w w'
theorem SubVW.far {w wk:World}{bz oz bx ox k n y:Nat}(hkn:k≤n)(hX:IsW w bx ox n)(hZ:Wr w bz oz n)(hal:bx≠bz)(hW:IsW wk bz oz k)(hC:Chg bz oz (oz+k) w wk)(hV:MV wk bz oz k+y=MV w bx ox k) :
  SubVW w bz oz bx ox n y (.returned (.int .u64 0)) (cpW wk bz (oz+k) bx (ox+k) (n - k)):=by
 obtain ⟨_,_,h3,h4,h5⟩:=Q2w hkn hX hZ hal hW hC
 exact ⟨0,rfl,by omega,h3,by rw [h4,Q0C w bx ox k n hkn];omega,h5⟩
theorem SubVW.near {w wk:World}{b o k n y:Nat}(hkn:k≤n)(hX:IsW w b o n)(hW:IsW wk b o k)(hC:Chg b o (o+k) w wk)(hV:MV wk b o k+y=MV w b o k) :
  SubVW w b o b o n y (.returned (.int .u64 0)) wk:=by
 obtain ⟨h3,h4,h5⟩:=Q4u hkn hX hW hC
 exact ⟨0,rfl,by omega,h3,by rw [h4,Q0C w b o k n hkn];omega,h5⟩
def CAP:Nat:=4096
def Buf (w:World)(p:Option Addr)(len cap:Nat):Prop :=
 match p with
 | none=>len=0∧cap=0
 | some a=>a.off=0∧a.spot=none∧0<cap∧cap≤CAP∧len≤cap∧Row w a.block cap 203
def Nt (w:World)(p:Option Addr)(len cap x:Nat):Prop :=
 Buf w p len cap ∧
 match p with
 | none=>x=0
 | some a=>IsW w a.block 0 len∧MV w a.block 0 len=x∧(0<len→rd w a.block (len - 1)≠0)
structure Fr (S:Nat→Prop) (w w':World):Prop where
 os:w'.os=w.os
 tape:w'.tape=w.tape
 output:w'.output=w.output
 size:w.heap.size≤w'.heap.size
 block:∀ k,k<w.heap.size→¬ S k→w'.heap[k]?=w.heap[k]?
 hdrs:∀ k,k<w.heap.size→hd w' k=hd w k
theorem Fr.refl (S:Nat→Prop)(w:World):Fr S w w:=⟨rfl,rfl,rfl,Nat.le_refl _,fun _ _ _=>rfl,fun _ _=>rfl⟩
theorem Fr.trans {S:Nat→Prop}{a b c:World}(h:Fr S a b)(k:Fr S b c):Fr S a c :=
 ⟨k.os.trans h.os,k.tape.trans h.tape,k.output.trans h.output,Nat.le_trans h.size k.size,fun i hi hS=>(k.block i (by have:=h.size;omega) hS).trans (h.block i hi hS),fun i hi=>(k.hdrs i (by have:=h.size;omega)).trans (h.hdrs i hi)⟩
theorem Fr.trans' {S T:Nat→Prop}{a b c:World}(h:Fr S a b)(k:Fr T b c)(hT:∀ i,i<a.heap.size→T i→S i):Fr S a c :=
 ⟨k.os.trans h.os,k.tape.trans h.tape,k.output.trans h.output,Nat.le_trans h.size k.size,fun i hi hS=>(k.block i (by have:=h.size;omega) (fun ht=>hS (hT i hi ht))).trans (h.block i hi hS),fun i hi=>(k.hdrs i (by have:=h.size;omega)).trans (h.hdrs i hi)⟩
theorem Fr.mono {S T:Nat→Prop}{a b:World}(h:Fr S a b)(hS:∀ i,i<a.heap.size→S i→T i):Fr T a b :=
 ⟨h.os,h.tape,h.output,h.size,fun i hi ht=>h.block i hi (fun hs=>ht (hS i hi hs)),h.hdrs⟩
theorem Fr.drew {S:Nat→Prop}{a b:World}(h:Fr S a b):Fr S a b.drew:=⟨h.os,h.tape,h.output,h.size,h.block,h.hdrs⟩
theorem Fr.drewN {S:Nat→Prop}{a b:World}(h:Fr S a b)(q:Nat):Fr S a (b.drewN q):=⟨h.os,h.tape,h.output,h.size,h.block,h.hdrs⟩
theorem Fr.alloc (S:Nat→Prop)(w:World)(o:Obj):Fr S w (w.alloc o) :=
 ⟨rfl,rfl,rfl,by simp,fun k hk _=>Below.heap_alloc _ _ _ hk,fun k hk=>by unfold hd;rw [Below.heap_alloc _ _ _ hk]⟩
theorem Chg.fr {b lo hi:Nat}{w w':World}(h:Chg b lo hi w w'){S:Nat→Prop}(hS:b<w.heap.size→S b):Fr S w w' :=
 ⟨h.os,h.tape,h.output,by rw [h.size];omega,fun k hk hn=>h.block k (fun e=>hn (e ▸ hS (e ▸ hk))),fun k _=>h.hdrs k⟩
theorem Fr.cell {S:Nat→Prop}{w w':World}(h:Fr S w w'){b o:Nat}(hb:b<w.heap.size)(hS:¬ S b):w'.cell? ⟨b,o,none⟩=w.cell? ⟨b,o,none⟩:=World.cell?_of_block (w:=w) (h.block b hb hS)
theorem Fr.frozen {S:Nat→Prop}{w w':World}(h:Fr S w w'){b o:Nat}(hb:b<w.heap.size)(hS:¬ S b):w'.frozen? ⟨b,o,none⟩=w.frozen? ⟨b,o,none⟩:=World.frozen?_of_block (w:=w) (h.block b hb hS)
theorem Fr.row {S:Nat→Prop}{w w':World}(h:Fr S w w'){b N:Nat}{T:TypeId}(hr:Row w b N T):Row w' b N T:=(h.hdrs b hr.lt).trans hr
theorem Fr.buf {S:Nat→Prop}{w w':World}(h:Fr S w w'){p:Option Addr}{len cap:Nat}(hr:Buf w p len cap):Buf w' p len cap:=by
 cases p with
 | none=>exact hr
 | some a=>obtain ⟨h1,h2,h3,h4,h5,h6⟩:=hr;exact ⟨h1,h2,h3,h4,h5,h.row h6⟩
theorem Fr.rd {S:Nat→Prop}{w w':World}(h:Fr S w w'){b o:Nat}(hb:b<w.heap.size)(hS:¬ S b):rd w' b o=rd w b o:=QN (h.cell hb hS)
theorem Fr.isW {S:Nat→Prop}{w w':World}(h:Fr S w w'){b o n:Nat}(hb:b<w.heap.size)(hS:¬ S b)(hw:IsW w b o n):IsW w' b o n:=hw.congr fun _ _=>h.cell hb hS
theorem Fr.mv {S:Nat→Prop}{w w':World}(h:Fr S w w'){b o n:Nat}(hb:b<w.heap.size)(hS:¬ S b):MV w' b o n=MV w b o n:=Q05 n fun _ _=>h.cell hb hS
theorem Fr.nt {S:Nat→Prop}{w w':World}(h:Fr S w w'){p:Option Addr}{len cap x:Nat}(hn:Nt w p len cap x)(hS:∀ a,p=some a→¬ S a.block):Nt w' p len cap x:=by
 obtain ⟨hb,hx⟩:=hn
 refine ⟨h.buf hb,?_⟩
 cases p with
 | none=>exact hx
 | some a =>
  obtain ⟨h1,h2,h3⟩:=hx
  have hlt:=hb.2.2.2.2.2.lt
  have hs:=hS a rfl
  exact ⟨h.isW hlt hs h1,(h.mv hlt hs).trans h2,fun h0=>by rw [h.rd hlt hs];exact h3 h0⟩
theorem Buf.some {w:World}{a:Addr}{len cap:Nat}(h:Buf w (some a) len cap):∃ b,a=⟨b,0,none⟩∧0<cap∧cap≤CAP∧len≤cap∧Row w b cap 203:=by
 obtain ⟨h1,h2,h3,h4,h5,h6⟩:=h
 cases a with
 | mk b o s=>simp only at h1 h2;subst h1 h2;exact ⟨b,rfl,h3,h4,h5,h6⟩
theorem Nt.cases {w:World}{p:Option Addr}{len cap x:Nat}(h:Nt w p len cap x) :
  (p=none∧len=0∧cap=0∧x=0)∨(∃ b,p=Option.some ⟨b,0,none⟩∧0<cap∧cap≤CAP∧len≤cap∧Row w b cap 203∧IsW w b 0 len∧MV w b 0 len=x∧(0<len→rd w b (len - 1)≠0)):=by
 obtain ⟨hb,hx⟩:=h
 cases p with
 | none=>exact .inl ⟨rfl,hb.1,hb.2,hx⟩
 | some a=>obtain ⟨b,rfl,h1,h2,h3,h4⟩:=hb.some;exact .inr ⟨b,rfl,h1,h2,h3,h4,hx.1,hx.2.1,hx.2.2⟩
theorem Nt.mk {w:World}{b len cap x:Nat}(h1:0<cap)(h2:cap≤CAP)(h3:len≤cap)(h4:Row w b cap 203)(h5:IsW w b 0 len)(h6:MV w b 0 len=x)(h7:0<len→rd w b (len - 1)≠0) :
  Nt w (Option.some ⟨b,0,none⟩) len cap x:=⟨⟨rfl,rfl,h1,h2,h3,h4⟩,h5,h6,h7⟩
theorem Nt.len_le {w:World}{p:Option Addr}{len cap x:Nat}(h:Nt w p len cap x):len≤CAP:=by
 rcases h.cases with ⟨_,h,_⟩ | ⟨b,_,_,h1,h2,_⟩ <;> omega
theorem Nt.zero_iff {w:World}{p:Option Addr}{len cap x:Nat}(h:Nt w p len cap x):len=0 ↔ x=0:=by
 rcases h.cases with ⟨_,h1,_,h2⟩ | ⟨b,_,_,_,_,_,_,h6,h7⟩
 ·omega
 ·constructor
  ·rintro rfl;exact h6.symm
  ·intro hx
   rcases Nat.eq_zero_or_pos len with h | h
   ·exact h
   ·have:=Q3v (w:=w) (b:=b) (o:=0) h (by rw [Nat.zero_add];exact h7 h)
    have:0<BB^(len - 1):=Nat.pow_pos Qx
    omega
theorem Nt.lt {w:World}{p:Option Addr}{len cap x:Nat}(h:Nt w p len cap x):x<BB^len:=by
 rcases h.cases with ⟨_,h1,_,h2⟩ | ⟨b,_,_,_,_,_,h5,h6,_⟩
 ·subst h1 h2;simp
 ·rw [← h6];exact Q15 h5
theorem Nt.ge {w:World}{p:Option Addr}{len cap x:Nat}(h:Nt w p len cap x)(h0:0<len):BB^(len - 1)≤x:=by
 rcases h.cases with ⟨_,h1,_,h2⟩ | ⟨b,_,_,_,_,_,_,h6,h7⟩
 ·omega
 ·rw [← h6];exact Q3v h0 (by rw [Nat.zero_add];exact h7 h0)
theorem Nt.len_of_lt {w:World}{p:Option Addr}{len cap x n:Nat}(h:Nt w p len cap x)(hx:x<BB^n):len≤n:=by
 rcases Nat.lt_or_ge n len with hl | hl
 ·have h1:=h.ge (by omega)
  have h2:BB^n≤BB^(len - 1):=Nat.pow_le_pow_right Qx (by omega)
  omega
 ·exact hl
def NatRes (w:World)(zp:Option Addr)(x:Nat)(e:Ending)(w':World):Prop :=
 ∃ p len cap,e=.returned (.slice p len cap)∧Nt w' p len cap x∧(p=zp∨(∃ b,p=some ⟨b,0,none⟩∧w.heap.size≤b)∨p=none)∧Fr (fun k=>∃ a,zp=some a∧a.block=k) w w'
theorem NatRes.any {w:World}{zp:Option Addr}{x:Nat}{e:Ending}{w':World}(h:NatRes w none x e w'):NatRes w zp x e w':=by
 obtain ⟨p,len,cap,he,hn,hp,hf⟩:=h
 refine ⟨p,len,cap,he,hn,?_,hf.mono (fun i _ ⟨a,ha,_⟩=>by cases ha)⟩
 rcases hp with h | h | h
 ·exact .inr (.inr h)
 ·exact .inr (.inl h)
 ·exact .inr (.inr h)
theorem NatRes.drewN {w:World}{zp:Option Addr}{x:Nat}{e:Ending}{w':World}(q:Nat)(h:NatRes (w.drewN q) zp x e w'):NatRes w zp x e w':=by
 obtain ⟨p,len,cap,he,hn,hp,hf⟩:=h
 exact ⟨p,len,cap,he,hn,hp,⟨hf.os,hf.tape,hf.output,hf.size,hf.block,hf.hdrs⟩⟩
theorem Buf.drewN {w:World}{p:Option Addr}{len cap:Nat}(h:Buf w p len cap)(q:Nat):Buf (w.drewN q) p len cap:=by
 cases p with
 | none=>exact h
 | some a=>exact h
theorem Nt.drewN {w:World}{p:Option Addr}{len cap x:Nat}(h:Nt w p len cap x)(q:Nat):Nt (w.drewN q) p len cap x:=by
 rcases h.cases with ⟨rfl,rfl,rfl,rfl⟩ | ⟨b,rfl,h1,h2,h3,h4,h5,h6,h7⟩
 ·exact ⟨⟨rfl,rfl⟩,rfl⟩
 ·exact Nt.mk h1 h2 h3 h4 h5 ((Qy _ _ _ _ _).trans h6) h7
theorem QO (b o cap n:Nat)(hn:n≤maxLen)(hc:n≤cap)(w:World)(hX:IsW w b o n) :
  Calls Tryz.prog 200 #[.slice (some ⟨b,o,none⟩) n cap] w fun e w'=>∃ i,e=.returned (.slice (some ⟨b,o,none⟩) i cap)∧w'=w∧i≤n∧MV w b o i=MV w b o n∧(0<i→rd w b (o+i - 1)≠0):=by
 unfold maxLen at hn
 have HX:=Lh hX;clear hX
 go_enter Tryz.func200, Tryz.ntmps200
 go_wp2
 go_loop [3] (fun i=>∃ k:Nat,k≤n∧i=.int .i64 k∧MV w b o k=MV w b o n) (fun i=>(intOf i).toNat)
 case atStart=>exact ⟨n,Nat.le_refl _,rfl,rfl⟩
 case round =>
  obtain ⟨k,hk,rfl,hV⟩:=hrel
  have HV:=Lh hV;clear hV
  by_cases h0:0<k
  ·have hx:=HX.out.get (k - 1) (by omega)
   have hb0:(0:Int)<(k:Int):=by omega
   by_cases hz:rd w b (o+(k - 1))=0
   ·have hz2:(((rd w b (o+(k - 1)):Nat):Int) == 0)=true:=by rw [hz];rfl
    have HZ:=Lh hz;clear hz
    go_wp2
    go_round
    case rel =>
     refine ⟨k - 1,by omega,by congr 1;omega,?_⟩
     rw [← HV.out]
     obtain ⟨m,rfl⟩:∃ m,k=m+1:=⟨k - 1,by omega⟩
     have:=HZ.out
     simp only [Nat.add_sub_cancel] at *
     simp [MV,this]
    case measure=>simp [intOf];omega
   ·have hz2:(((rd w b (o+(k - 1)):Nat):Int) == 0)=false:=by simp;omega
    have HZ:=Lh hz;clear hz
    go_wp2
    go_ret
    exact ⟨k,rfl,rfl,hk,HV.out,fun _=>by rw [show o+k - 1=o+(k - 1) by omega];exact HZ.out⟩
  ·obtain rfl:k=0:=by omega
   go_wp2
   go_ret
   exact ⟨0,rfl,rfl,hk,HV.out,fun h=>by omega⟩
theorem Q7v (w:World):Calls Tryz.prog 200 #[.slice none 0 0] w fun e w'=>e=.returned (.slice none 0 0)∧w'=w:=by
 go_enter Tryz.func200, Tryz.ntmps200
 go_wp2
 go_loop [3] (fun i=>i=.int .i64 0) (fun i=>(intOf i).toNat)
 case atStart=>rfl
 case round =>
  obtain rfl:=hrel
  go_wp2
  go_ret
  exact ⟨rfl,rfl⟩
theorem Q4y (p:Option Addr)(len cap n:Nat)(h:n≤cap)(_hc:cap≤CAP)(w:World) :
  Calls Tryz.prog 197 #[.slice p len cap,.int .i64 n] w fun e w'=>e=.returned (.slice p n cap)∧w'=w:=by
 go_enter Tryz.func197, Tryz.ntmps197
 go_wp2
 go_ret
 exact ⟨rfl,rfl⟩
def zeros (n:Nat):Obj:=.cells (madeCells #[.int .u64 0] n) 203
theorem Q7w (p:Option Addr)(len cap n:Nat)(h:cap<n)(hn:n+4≤CAP)(w:World) :
  Calls Tryz.prog 197 #[.slice p len cap,.int .i64 n] w fun e w'=>e=.returned (.slice (some ⟨w.heap.size,0,none⟩) n (if n=1 then 1 else n+4))∧w'=w.alloc (zeros (if n=1 then 1 else n+4)):=by
 unfold CAP at hn
 obtain ⟨i0,hi,hz0,hz1,hz2⟩:=info_parts Q1a
 have hrun:=fun w=>run_makeSlice (P:=Tryz.prog) w 65 203 i0 (.int .u64 0) Tryz.underlying65 hi hz0 .i64 .i64 n ((n:Int)+4) (by omega) (by omega) (by rw [hz1];omega) (by rw [hz2];omega) (by omega)
 have hrun1:=fun w=>run_makeSlice (P:=Tryz.prog) w 65 203 i0 (.int .u64 0) Tryz.underlying65 hi hz0 .i64 .i64 1 1 (by omega) (by omega) (by rw [hz1];omega) (by rw [hz2];omega) (by omega)
 have HI:=Lh hz1
 clear hi hz0 hz1 hz2
 by_cases h1:n=1
 ·subst h1
  go_enter Tryz.func197, Tryz.ntmps197
  go_wp2
  go_ret
  refine ⟨rfl,?_⟩
  rw [HI.out];rfl
 ·go_enter Tryz.func197, Tryz.ntmps197
  go_wp2
  go_ret
  refine ⟨rfl,?_⟩
  rw [HI.out,Nat.mul_one];rfl
theorem Q6u (w:World)(n:Nat):Row (w.alloc (zeros n)) w.heap.size n 203:=by
 have h:(w.alloc (zeros n)).heap[w.heap.size]?=some (.cells (madeCells #[.int .u64 0] n) 203 (0,0)):=by show (w.heap.push (zeros n))[w.heap.size]?=_;simp [zeros]
 have:=Row.of_block h
 rwa [size_madeCells] at this
theorem Q2M (w:World)(n i:Nat)(hi:i<n):(w.alloc (zeros n)).cell? ⟨w.heap.size,i,none⟩=some (.int .u64 0):=by
 have h:(w.alloc (zeros n)).heap[w.heap.size]?=some (.cells (madeCells #[.int .u64 0] n) 203 (0,0)):=by show (w.heap.push (zeros n))[w.heap.size]?=_;simp [zeros]
 unfold World.cell?
 rw [h]
 simp only [Option.isSome_none,Bool.false_eq_true,if_false]
 rw [← Array.getElem?_toList,toList_madeCells_one,List.getElem?_replicate,if_pos hi]
theorem Q3x (w:World)(n:Nat):IsW (w.alloc (zeros n)) w.heap.size 0 n∧∀ i,i<n→rd (w.alloc (zeros n)) w.heap.size i=0:=by
 have hr:∀ i,i<n→rd (w.alloc (zeros n)) w.heap.size i=0:=fun i hi=>Q0h (Q2M w n i hi)
 refine ⟨fun i hi=>?_,hr⟩
 rw [Nat.zero_add,hr i hi]
 exact ⟨Q2M w n i hi,Qx⟩
def Made (w:World)(p:Option Addr)(cap n:Nat)(w':World)(p':Option Addr)(cap':Nat):Prop :=
 ∃ b,p'=some ⟨b,0,none⟩∧0<cap'∧cap'≤CAP∧n≤cap'∧Row w' b cap' 203∧Fr (fun _=>False) w w' ∧
  ((p'=p∧w'=w∧cap'=cap)∨(b=w.heap.size∧IsW w' b 0 cap'∧∀ i,i<cap'→rd w' b i=0))
theorem QP (p:Option Addr)(len cap n:Nat)(h0:0<n)(hn:n+4≤CAP)(w:World)(hb:Buf w p len cap) :
  Calls Tryz.prog 197 #[.slice p len cap,.int .i64 n] w fun e w'=>∃ p' cap',e=.returned (.slice p' n cap')∧Made w p cap n w' p' cap':=by
 by_cases h:n≤cap
 ·cases p with
  | none=>exact absurd hb.2 (by omega)
  | some a =>
   obtain ⟨b,rfl,h1,h2,h3,h4⟩:=hb.some
   exact (Q4y _ len cap n h h2 w).mono fun e w' ⟨he,hw⟩=>⟨_,_,he,b,rfl,h1,h2,h,hw ▸ h4,hw ▸ Fr.refl _ _,.inl ⟨rfl,hw,rfl⟩⟩
 ·refine (Q7w p len cap n (by omega) hn w).mono fun e w' ⟨he,hw⟩=>⟨_,_,he,w.heap.size,rfl,by split <;> omega,by unfold CAP at *;split <;> omega,by split <;> omega,?_,?_,.inr ⟨rfl,?_,?_⟩⟩
  ·rw [hw];exact Q6u _ _
  ·rw [hw];exact Fr.alloc _ _ _
  ·rw [hw];exact (Q3x _ _).1
  ·rw [hw];exact (Q3x _ _).2
theorem Nt.zero_of {w:World}{p:Option Addr}{len cap:Nat}(h:Buf w p len cap):Nt w p 0 cap 0:=by
 cases p with
 | none=>exact ⟨⟨rfl,h.2⟩,rfl⟩
 | some a =>
  obtain ⟨b,rfl,h1,h2,h3,h4⟩:=h.some
  exact Nt.mk h1 h2 (by omega) h4 (IsW.zero _ _ _) rfl (fun h=>by omega)
theorem Q0T (zp:Option Addr)(zl zc:Nat)(xp:Option Addr)(xl xc x:Nat)(w:World)(hz:Buf w zp zl zc)(hx:Nt w xp xl xc x)(hl:xl+4≤CAP) :
  Calls Tryz.prog 183 #[.slice zp zl zc,.slice xp xl xc] w (NatRes w zp x):=by
 by_cases h0:xl=0
 ·subst h0
  have hx0:x=0:=hx.zero_iff.1 rfl
  subst hx0
  have hcp:=fun ty=>run_copy_none (P:=Tryz.prog) w 65 65 ty 203 zp xp 0 zc 0 xc Tryz.underlying65 Q1b rfl
  have HR:=Nt.zero_of hz
  have hzc:zc≤CAP:=by
   cases zp with
   | none=>rw [hz.2];unfold CAP;omega
   | some a=>obtain ⟨b,_,_,h,_⟩:=hz.some;exact h
  have H1:=Lh hz;clear hz
  have H2:=Lh hx;clear hx
  have H3:=Lh HR;clear HR
  go_enter Tryz.func183, Tryz.ntmps183
  go_wp2_with (go_at_call 197;refine (Q4y zp zl zc 0 (by omega) hzc _).mono ?_;rintro e w' ⟨rfl,hw⟩;subst w')
  go_ret
  exact ⟨zp,0,zc,rfl,H3.out,.inl rfl,Fr.refl _ _⟩
 ·rcases hx.cases with ⟨rfl,h,_⟩ | ⟨bx,rfl,h1,h2,h3,h4,h5,h6,h7⟩
  ·exact absurd h h0
  have H1:=Lh hz;clear hz
  have H2:=Lh hx;clear hx
  have H3:=Lh (And.intro h4 (And.intro h5 (And.intro h6 h7)));clear h4 h5 h6 h7
  have H4:=Lh (And.intro h1 (And.intro h2 (And.intro h3 hl)));clear h1 h2 h3 hl
  go_enter Tryz.func183, Tryz.ntmps183
  go_wp2_with fail
  refine (QP zp zl zc xl (by omega) (by have:=H4.out;omega) _ H1.out).mono ?_
  rintro e w' ⟨p',cap',rfl,b,rfl,hm⟩
  have HM:=Lh hm;clear hm
  have hX:IsW w' bx 0 xl∧MV w' bx 0 xl=x∧(0<xl→rd w' bx (xl - 1)≠0):=by
   obtain ⟨_,_,_,_,hF,_⟩:=HM.out
   have hlt:=H3.out.1.lt
   exact ⟨hF.isW hlt (fun h=>h) H3.out.2.1,(hF.mv hlt (fun h=>h)).trans H3.out.2.2.1,fun h=>by rw [hF.rd hlt (fun h=>h)];exact H3.out.2.2.2 h⟩
  have HX:=Lh hX;clear hX
  have hZ:Wr w' b 0 xl:=⟨cap',_,HM.out.2.2.2.1,by have:=HM.out.2.2.1;omega⟩
  have hcp:=fun ty=>Q2v (P:=Tryz.prog) w' 65 65 ty 203 (some ⟨b,0,none⟩) (some ⟨bx,0,none⟩) b 0 xl cap' bx 0 xl xc xl Tryz.underlying65 Q1b (by simp) (fun _=>⟨rfl,rfl⟩) HX.out.1 hZ
  have HZ:=Lh hZ;clear hZ
  go_wp2
  go_ret
  have hC:=Q2t w' b 0 bx 0 xl
  obtain ⟨m1,m2,m3,m4,m5,m6⟩:=HM.out
  refine ⟨_,xl,cap',rfl,Nt.mk m1 m2 m3 (hC.row m4) (Q2u HX.out.1 HZ.out) ((Q3T HZ.out).trans HX.out.2.1) ?_,?_,?_⟩
  ·intro h
   have:=Q2L (bx:=bx) (ox:=0) HZ.out (xl - 1) (by omega)
   rw [Nat.zero_add] at this
   rw [Q0h this]
   exact HX.out.2.2 h
  ·rcases m6 with ⟨h,_⟩ | ⟨h,_⟩
   ·exact .inl h
   ·exact .inr (.inl ⟨b,rfl,by omega⟩)
  ·refine (m5.mono (fun _ _ h=>h.elim)).trans' (hC.fr (S:=fun k=>k=b) (fun _=>rfl)) (fun i hi h=>?_)
   subst h
   rcases m6 with ⟨h,_⟩ | ⟨h,_⟩
   ·exact ⟨_,h.symm,rfl⟩
   ·omega
theorem QY {w w' w2:World}{p p':Option Addr}{cap cap' n b x len:Nat}(hM:Made w p cap n w' p' cap')(hp:p'=some ⟨b,0,none⟩)(hC:Chg b 0 cap' w' w2)(hN:Nt w2 p' len cap' x) :
  NatRes w p x (.returned (.slice p' len cap')) w2:=by
 obtain ⟨b',rfl,m1,m2,m3,m4,m5,m6⟩:=hM
 cases hp
 refine ⟨_,len,cap',rfl,hN,?_,?_⟩
 ·rcases m6 with ⟨h,_⟩ | ⟨h,_⟩
  ·exact .inl h
  ·exact .inr (.inl ⟨b,rfl,by omega⟩)
 ·refine (m5.mono (fun _ _ h=>h.elim)).trans' (hC.fr (S:=fun k=>k=b) (fun _=>rfl)) (fun i hi h=>?_)
  subst h
  rcases m6 with ⟨h,_⟩ | ⟨h,_⟩
  ·exact ⟨_,h.symm,rfl⟩
  ·omega
theorem Q0U {w:World}{p:Option Addr}{len cap:Nat}(h:Buf w p len cap):cap≤CAP:=by
 cases p with
 | none=>rw [h.2];unfold CAP;omega
 | some a=>obtain ⟨b,_,_,h,_⟩:=h.some;exact h
theorem Q0D (zp:Option Addr)(zl zc x:Nat)(hx:x<BB)(w:World)(hz:Buf w zp zl zc) :
  Calls Tryz.prog 191 #[.slice zp zl zc,.int .u64 x] w (NatRes w zp x):=by
 by_cases h0:x=0
 ·subst h0
  have hzc:=Q0U hz
  have HR:=Nt.zero_of hz
  have H1:=Lh hz;clear hz
  have H3:=Lh HR;clear HR
  unfold CAP at hzc
  go_enter Tryz.func191, Tryz.ntmps191
  go_wp2
  go_ret
  exact ⟨zp,0,zc,rfl,H3.out,.inl rfl,Fr.refl _ _⟩
 ·have hx2:((x:Int) == 0)=false:=by simp;omega
  have H1:=Lh hz;clear hz
  have H0:=Lh h0;clear h0
  go_enter Tryz.func191, Tryz.ntmps191
  go_wp2_with fail
  refine (QP zp zl zc 1 (by omega) (by unfold CAP;omega) _ H1.out).mono ?_
  rintro e w' ⟨p',cap',rfl,hM⟩
  have HM:=Lh hM
  obtain ⟨b,rfl,m1,m2,m3,m4,m5,m6⟩:=hM
  obtain ⟨v0,hv0⟩:=m4.cell 0 m1
  have hf0:=m4.free 0
  have HS:=Lh (QJ (k:=0) (z:=x) (o:=0) (IsW.zero w' b 0) ⟨v0,hv0⟩ hx (Chg.refl _ _ _ w'))
  have H4:=Lh m4
  clear m4 m5 m6
  unfold CAP at m2
  go_wp2
  go_ret
  have h1:=HS.out
  simp only [Nat.add_zero,Nat.zero_add,Nat.pow_zero,Nat.mul_one,show MV w' b 0 0=0 from rfl] at h1
  have hr:rd (w'.setCell ⟨b,0,none⟩ (.int .u64 (x:Int))) b 0=x:=by have:=h1.2.1;rw [QX] at this;exact this
  exact QY HM.out rfl (h1.2.2.mono (by omega) (by omega)) (Nt.mk m1 (by unfold CAP;omega) m3 (h1.2.2.row H4.out) h1.1 h1.2.1 (fun _=>by rw [Nat.sub_self,hr];exact H0.out))
theorem Qg (x:Nat)(hx:x<BB):IntKind.u64.wrap (x:Int)=x:=Qf (by omega) (by omega)
theorem Q1v (zp:Option Addr)(zl zc x:Nat)(hx:x<BB)(w:World)(hz:Buf w zp zl zc) :
  Calls Tryz.prog 182 #[.slice zp zl zc,.int .u64 x] w (NatRes w zp x):=by
 have hw:=Qg x hx
 have H1:=Lh hz;clear hz
 go_enter Tryz.func182, Tryz.ntmps182
 go_wp2_with fail
 refine (Q0D zp zl zc x hx _ H1.out).mono ?_
 rintro e w' hR
 obtain ⟨p,len,cap,rfl,hR⟩:=hR
 have HR:=Lh hR;clear hR
 go_wp2
 go_ret
 exact ⟨p,len,cap,rfl,HR.out⟩
def cmpI (x y:Nat):Int:=if x<y then -1 else if y<x then 1 else 0
theorem Q1l {x y:Nat}(h:x<y):cmpI x y = -1:=if_pos h
theorem Q1m {x y:Nat}(h:y<x):cmpI x y=1:=by unfold cmpI;rw [if_neg (by omega),if_pos h]
theorem Q1M {x y:Nat}(h:x=y):cmpI x y=0:=by unfold cmpI;rw [if_neg (by omega),if_neg (by omega)]
theorem Nt.lt_of_len {w:World}{p q:Option Addr}{m cx n cy x y:Nat}(hx:Nt w p m cx x)(hy:Nt w q n cy y)(h:m<n):x<y:=by
 have h1:=hx.lt
 have h2:=hy.ge (by omega)
 have h3:BB^m≤BB^(n - 1):=Nat.pow_le_pow_right Qx (by omega)
 omega
theorem Q5W {w:World}{a b o q n i:Nat}(hi:i<n)(hX:IsW w a o n)(hs:∀ j,i<j→j<n→rd w a (o+j)=rd w b (q+j))(hlt:rd w a (o+i)<rd w b (q+i)):MV w a o n<MV w b q n:=by
 obtain ⟨d,rfl⟩:∃ d,n=i+1+d:=⟨n - (i+1),by omega⟩
 rw [QF w a o (i+1) d,QF w b q (i+1) d,show MV w a o (i+1)=MV w a o i+rd w a (o+i)*BB^i from rfl,show MV w b q (i+1)=MV w b q i+rd w b (q+i)*BB^i from rfl]
 have e:MV w a (o+(i+1)) d=MV w b (q+(i+1)) d:=Q1H d fun j hj=>by
  have:=hs (i+1+j) (by omega) (by omega)
  rw [show o+(i+1)+j=o+(i+1+j) by omega,show q+(i+1)+j=q+(i+1+j) by omega]
  exact this
 rw [e]
 have h1:=Q15 (hX.mono (show i≤i+1+d by omega))
 have h2:(rd w a (o+i)+1)*BB^i≤rd w b (q+i)*BB^i:=Nat.mul_le_mul_right _ hlt
 rw [Nat.add_mul,Nat.one_mul] at h2
 omega
theorem Q8L {w:World}{a b o q n:Nat}(hs:∀ j,j<n→rd w a (o+j)=rd w b (q+j)):MV w a o n=MV w b q n:=Q1H n hs
theorem Q8M (xp yp:Option Addr)(m cx n cy x y:Nat)(w:World)(hx:Nt w xp m cx x)(hy:Nt w yp n cy y)(h:m≠n∨m=0) :
  Calls Tryz.prog 170 #[.slice xp m cx,.slice yp n cy] w fun e w'=>e=.returned (.int .i64 (cmpI x y))∧w'=w:=by
 have hm:=hx.len_le
 have hn:=hy.len_le
 unfold CAP at hm hn
 rcases Nat.lt_trichotomy m n with hl | hl | hl
 ·have HC:=Lh (Q1l (hx.lt_of_len hy hl))
  have h1:((m:Int) != (n:Int))=true:=by simp;omega
  clear hx hy h
  go_enter Tryz.func170, Tryz.ntmps170
  go_wp2
  go_ret
  exact ⟨Q1I HC.out.symm,rfl⟩
 ·subst hl
  have hm0:m=0:=by omega
  subst hm0
  have HC:=Lh (Q1M ((hx.zero_iff.1 rfl).trans (hy.zero_iff.1 rfl).symm))
  clear hx hy h
  go_enter Tryz.func170, Tryz.ntmps170
  go_wp2
  go_ret
  exact ⟨Q1I HC.out.symm,rfl⟩
 ·have HC:=Lh (Q1m (hy.lt_of_len hx hl))
  have h1:((m:Int) != (n:Int))=true:=by simp;omega
  clear hx hy h
  go_enter Tryz.func170, Tryz.ntmps170
  go_wp2
  go_ret
  exact ⟨Q1I HC.out.symm,rfl⟩
theorem dr3 (w:World)(a b c:Nat):∃ p,((w.drewN a).drewN b).drewN c=w.drewN p:=⟨a+(b+c),by rw [World.drewN_drewN,World.drewN_drewN]⟩
theorem dr4 (w:World)(a b c d:Nat):∃ p,(((w.drewN a).drewN b).drewN c).drewN d=w.drewN p:=⟨a+(b+(c+d)),by rw [World.drewN_drewN,World.drewN_drewN,World.drewN_drewN]⟩
theorem Q7x (bx by_ m cx cy:Nat)(w:World)(h0:0<m)(hm:m≤CAP)(hX:IsW w bx 0 m)(hY:IsW w by_ 0 m) :
  Calls Tryz.prog 170 #[.slice (some ⟨bx,0,none⟩) m cx,.slice (some ⟨by_,0,none⟩) m cy] w fun e w'=>e=.returned (.int .i64 (cmpI (MV w bx 0 m) (MV w by_ 0 m)))∧∃ q,w'=w.drewN q:=by
 unfold CAP at hm
 have HX:=Lh hX;clear hX
 have HY:=Lh hY;clear hY
 have hm0:((m:Int) == 0)=false:=by simp;omega
 go_enter Tryz.func170, Tryz.ntmps170
 go_wp2
 go_loopw [7] (fun i wr=>∃ (k q:Nat),k<m∧i=.int .i64 k∧wr=w.drewN q∧∀ j,k<j→j<m→rd w bx j=rd w by_ j) (fun i _=>(intOf i).toNat)
 case atStart=>exact ⟨m - 1,0,by omega,by congr 1;omega,rfl,fun j h1 h2=>by omega⟩
 case round =>
  obtain ⟨k,q,hk,rfl,rfl,hs⟩:=hrel
  have hx:=HX.out.get k hk
  have hy:=HY.out.get k hk
  rw [Nat.zero_add] at hx hy
  have HS:=Lh hs;clear hs
  by_cases hgo:0<k∧rd w bx k=rd w by_ k
  ·obtain ⟨hk0,he⟩:=hgo
   have he2:(((rd w bx k:Nat):Int) == ((rd w by_ k:Nat):Int))=true:=by rw [he];simp
   have HE:=Lh he;clear he
   have hk1:decide ((0:Int)<(k:Int))=true:=by simpa using hk0
   go_wp2
   go_quiet (fail)
   go_wp2
   go_roundw
   case rel=>exact ⟨k - 1,q+nq,by omega,by congr 1;omega,rfl,fun j h1 h2=>by
     by_cases h:j=k
     ·subst h;exact HE.out
     ·exact HS.out j (by omega) h2⟩
   case measure=>simp [intOf];omega
  ·have HG:=Lh hgo;clear hgo
   have HC:Hid (cmpI (MV w bx 0 m) (MV w by_ 0 m)=cmpI (rd w bx k) (rd w by_ k)):=by
    have hs:∀ j,k<j→j<m→rd w bx (0+j)=rd w by_ (0+j):=fun j h1 h2=>by rw [Nat.zero_add];exact HS.out j h1 h2
    rcases Nat.lt_trichotomy (rd w bx k) (rd w by_ k) with h | h | h
    ·exact (Q1l (Q5W hk HX.out hs (by rw [Nat.zero_add];exact h))).trans (Q1l h).symm
    ·have hk0:k=0:=by
      rcases Nat.eq_zero_or_pos k with h1 | h1
      ·exact h1
      ·exact absurd ⟨h1,h⟩ HG.out
     subst hk0
     refine (Q1M (Q8L fun j hj=>?_)).trans (Q1M h).symm
     by_cases h2:j=0
     ·subst h2;rw [Nat.add_zero];exact h
     ·exact hs j (by omega) hj
    ·exact (Q1m (Q5W hk HY.out (fun j h1 h2=>(hs j h1 h2).symm) (by rw [Nat.zero_add];exact h))).trans (Q1m h).symm
   have fin:∀ (r:Int) (p:Nat),r=cmpI (rd w bx k) (rd w by_ k)→(Ending.returned (.int .i64 r)=.returned (.int .i64 (cmpI (MV w bx 0 m) (MV w by_ 0 m)))∧∃ q,(w.drewN p)=w.drewN q):=by
    intro r p h;rw [HC.out,h];exact ⟨rfl,p,rfl⟩
   have H3:=Lh fin;clear fin
   have hg:∃ g1 g2:Bool,decide ((0:Int)<(k:Int))=g1∧(((rd w bx k:Nat):Int) == ((rd w by_ k:Nat):Int))=g2∧decide (0<k)=g1∧(g1=true→g2=false):=by
    refine ⟨_,_,rfl,rfl,by simp,fun h=>?_⟩
    have h1:0<k:=by simpa using h
    have:¬ rd w bx k=rd w by_ k:=fun h=>HG.out ⟨h1,h⟩
    simp;omega
   obtain ⟨g1,g2,hg1,hg2,hg4,hg3⟩:=hg
   have hl:∃ l1 l2:Bool,decide (((rd w bx k:Nat):Int)<((rd w by_ k:Nat):Int))=l1∧decide (((rd w by_ k:Nat):Int)<((rd w bx k:Nat):Int))=l2∧decide (rd w bx k<rd w by_ k)=l1∧decide (rd w by_ k<rd w bx k)=l2∧((l1=true∧cmpI (rd w bx k) (rd w by_ k) = -1)∨(l1=false∧l2=true∧cmpI (rd w bx k) (rd w by_ k)=1)∨(l1=false∧l2=false∧cmpI (rd w bx k) (rd w by_ k)=0)):=by
    refine ⟨_,_,rfl,rfl,by simp,by simp,?_⟩
    rcases Nat.lt_trichotomy (rd w bx k) (rd w by_ k) with h | h | h
    ·exact .inl ⟨by simpa using h,Q1l h⟩
    ·exact .inr (.inr ⟨by simp;omega,by simp;omega,Q1M h⟩)
    ·exact .inr (.inl ⟨by simp;omega,by simpa using h,Q1m h⟩)
   obtain ⟨l1,l2,hl1,hl2,hl4,hl5,hl3⟩:=hl
   clear HC HG
   cases g1
   all_goals (try obtain rfl:=hg3 rfl)
   all_goals clear hg3
   all_goals rcases hl3 with ⟨rfl,hc⟩ | ⟨rfl,rfl,hc⟩ | ⟨rfl,rfl,hc⟩
   all_goals (have HC:=Lh hc;clear hc)
   all_goals (go_wp2;go_quiet (fail);go_wp2;go_quiet (fail);go_wp2;try (go_quiet (fail);go_wp2))
   all_goals go_ret
   all_goals refine ⟨(H3.out _ 0 HC.out.symm).1,?_⟩
   all_goals first | exact dr3 _ _ _ _ | exact dr4 _ _ _ _ _
theorem Q3W (xp yp:Option Addr)(m cx n cy x y:Nat)(w:World)(hx:Nt w xp m cx x)(hy:Nt w yp n cy y) :
  Calls Tryz.prog 170 #[.slice xp m cx,.slice yp n cy] w fun e w'=>e=.returned (.int .i64 (cmpI x y))∧∃ q,w'=w.drewN q:=by
 by_cases h:m≠n∨m=0
 ·exact (Q8M xp yp m cx n cy x y w hx hy h).mono fun e w' ⟨he,hw⟩=>⟨he,0,hw⟩
 ·obtain ⟨rfl,h0⟩:m=n∧0<m:=by omega
  rcases hx.cases with ⟨_,h1,_⟩ | ⟨b,rfl,_,_,_,_,hX,rfl,_⟩
  ·omega
  rcases hy.cases with ⟨_,h1,_⟩ | ⟨b',rfl,_,_,_,_,hY,rfl,_⟩
  ·omega
  exact Q7x b b' m cx cy w h0 hx.len_le hX hY
theorem Q3y (bz oz cz bx ox cx by_ oy cy n:Nat)(hn2:n≤maxLen)(w:World)(hX:IsW w bx ox n)(hY:IsW w by_ oy n)(hZ:Wr w bz oz n)(hal:bx≠bz∨oz≤ox)(hal2:by_≠bz∨oz≤oy) :
  Calls Tryz.prog 198 #[.slice (some ⟨bz,oz,none⟩) n cz,.slice (some ⟨bx,ox,none⟩) n cx,.slice (some ⟨by_,oy,none⟩) n cy] w fun e w' =>
   ∃ c:Nat,e=.returned (.int .u64 c)∧c≤1∧IsW w' bz oz n∧MV w' bz oz n+c*BB^n=MV w bx ox n+MV w by_ oy n∧Chg bz oz (oz+n) w w':=by
 have H:=Lh (Q8I bz oz cz bx ox cx by_ oy cy n hn2 w hX hY hZ hal hal2)
 clear hX hY hZ hal hal2
 go_enter Tryz.func198, Tryz.ntmps198
 go_wp2_with (go_at_call 235;refine H.out.mono ?_;rintro e w' ⟨c,rfl,hR⟩;have HR:=Lh hR;clear hR)
 go_ret
 exact ⟨c,rfl,HR.out⟩
theorem Q3z (bz oz cz bx ox cx by_ oy cy n:Nat)(hn2:n≤maxLen)(w:World)(hX:IsW w bx ox n)(hY:IsW w by_ oy n)(hZ:Wr w bz oz n)(hal:bx≠bz∨oz≤ox)(hal2:by_≠bz∨oz≤oy) :
  Calls Tryz.prog 201 #[.slice (some ⟨bz,oz,none⟩) n cz,.slice (some ⟨bx,ox,none⟩) n cx,.slice (some ⟨by_,oy,none⟩) n cy] w fun e w' =>
   ∃ c:Nat,e=.returned (.int .u64 c)∧c≤1∧IsW w' bz oz n∧MV w' bz oz n+MV w by_ oy n=MV w bx ox n+c*BB^n∧Chg bz oz (oz+n) w w':=by
 have H:=Lh (Q8J bz oz cz bx ox cx by_ oy cy n hn2 w hX hY hZ hal hal2)
 clear hX hY hZ hal hal2
 go_enter Tryz.func201, Tryz.ntmps201
 go_wp2_with (go_at_call 237;refine H.out.mono ?_;rintro e w' ⟨c,rfl,hR⟩;have HR:=Lh hR;clear hR)
 go_ret
 exact ⟨c,rfl,HR.out⟩
theorem Q6v (bz oz cz bx ox cx n y:Nat)(hn0:0<n)(hn2:n≤maxLen)(hy:y<BB)(w:World)(hX:IsW w bx ox n)(hZ:Wr w bz oz n)(hal:bx≠bz∨ox=oz)(Nx Tx:Nat)(hRx:Row w bx Nx Tx)(hcz:n≤cz)(hcx:n≤cx) :
  Calls Tryz.prog 199 #[.slice (some ⟨bz,oz,none⟩) n cz,.slice (some ⟨bx,ox,none⟩) n cx,.int .u64 y] w (AddVW w bz oz bx ox n y):=by
 by_cases h:bx=bz
 ·obtain rfl:ox=oz:=by omega
  subst h
  exact Q5d bx ox cz cx n y hn0 hn2 hy w hX hZ
 ·exact Q6t bz oz cz bx ox cx n y hn0 hn2 hy w hX hZ h Nx Tx hRx hcz hcx
theorem Q7y {A B c c2 X X1 Y n m:Nat}(hnm:n≤m)(e1:A+c*BB^n=X+Y)(e2:B+c2*BB^(m - n)=X1+c):A+BB^n*B+c2*BB^m=X+BB^n*X1+Y:=by
 have hp:BB^m=BB^n*BB^(m - n):=by rw [← Nat.pow_add];congr 1;omega
 have h:BB^n*(B+c2*BB^(m - n))=BB^n*(X1+c):=by rw [e2]
 rw [Nat.mul_add,Nat.mul_add] at h
 rw [hp,show c2*(BB^n*BB^(m - n))=BB^n*(c2*BB^(m - n)) by rw [Nat.mul_left_comm]]
 rw [Nat.mul_comm c] at e1
 omega
theorem Q8N (zp:Option Addr)(zl zc bx m cx by_ n cy:Nat)(w:World)(hz:Buf w zp zl zc)(hm:m+5≤CAP)(hn0:0<n)(hnm:n≤m)(hmc:m≤cx)(hnc:n≤cy)(hRx:Row w bx cx 203)(hRy:Row w by_ cy 203)(hX:IsW w bx 0 m)(hY:IsW w by_ 0 n) :
  Calls Tryz.prog 175 #[.slice zp zl zc,.slice (some ⟨bx,0,none⟩) m cx,.slice (some ⟨by_,0,none⟩) n cy] w (NatRes w zp (MV w bx 0 m+MV w by_ 0 n)):=by
 have H1:=Lh hz;clear hz
 have HX:=Lh (And.intro hRx (And.intro hRy (And.intro hX hY)));clear hRx hRy hX hY
 have hmm:=Lh hm
 unfold CAP at hm
 have hg1:((m:Int) == 0)=false:=by simp;omega
 have hg2:((n:Int) == 0)=false:=by simp;omega
 go_enter Tryz.func175, Tryz.ntmps175
 go_wp2_with fail
 refine (QP zp zl zc (m+1) (by omega) (by have:=hmm.out;omega) _ H1.out).mono ?_
 rintro e w' ⟨p',cap',rfl,hM⟩
 have HM:=Lh hM
 obtain ⟨b,rfl,m1,m2,m3,m4,m5,m6⟩:=hM
 have HF:=Lh (And.intro m4 m5)
 clear m4 m5 m6
 unfold CAP at m2
 have hcn:¬ cap'=n:=by omega
 have hb1:n≤cap':=by omega
 have hb2:n≤cx:=by omega
 go_wp2_with fail
 go_still_tail 9,(by kernel_rfl)
 have hf1:=HF.out.2
 have hX1:=hf1.isW HX.out.1.lt (fun h=>h) HX.out.2.2.1
 have hY1:=hf1.isW HX.out.2.1.lt (fun h=>h) HX.out.2.2.2
 have hMV:=And.intro (hf1.mv (o:=0) (n:=m) HX.out.1.lt (fun h=>h)) (hf1.mv (o:=0) (n:=n) HX.out.2.1.lt (fun h=>h))
 have hRX:=hf1.row HX.out.1
 have H2:=Lh (And.intro hX1 (And.intro hY1 (And.intro hMV hRX)))
 clear hf1 hX1 hY1 hMV hRX
 change wpList _ _ _ _ _ w'.drew
 generalize hw2:w'.drew=w2
 have H3:Hid (IsW w2 bx 0 m∧IsW w2 by_ 0 n∧MV w2 bx 0 m=MV w bx 0 m∧MV w2 by_ 0 n=MV w by_ 0 n∧Row w2 bx cx 203∧Row w2 b cap' 203∧Chg b 0 0 w' w2):=by
  subst hw2
  exact ⟨H2.out.1,H2.out.2.1,(Q02 _ _ _ _).trans H2.out.2.2.1.1,(Q02 _ _ _ _).trans H2.out.2.2.1.2,H2.out.2.2.2,HF.out.1,(Chg.refl _ _ _ _).drew⟩
 clear hw2 H2
 go_wp2_with fail
 refine (Q3y b 0 cap' bx 0 cx by_ 0 cy n (by unfold maxLen;omega) w2 (H3.out.1.mono hnm) H3.out.2.1 ⟨cap',_,H3.out.2.2.2.2.2.1,by omega⟩ (by omega) (by omega)).mono ?_
 rintro e w3 ⟨c,rfl,hR⟩
 have HR:=Lh hR;clear hR
 have HT:∀ (w4:World) (c2:Nat),MV w4 b 0 m+c2*BB^m=MV w bx 0 m+MV w by_ 0 n→IsW w4 b 0 m→Chg b 0 (0+m) w2 w4→IsW w4 b 0 m∧MV w4 b 0 m+c2*BB^m=MV w bx 0 m+MV w by_ 0 n∧Row w4 b cap' 203∧Chg b 0 (0+m) w2 w4 :=
  fun w4 c2 h1 h2 h3=>⟨h2,h1,h3.row H3.out.2.2.2.2.2.1,h3⟩
 have HT2:=Lh HT;clear HT
 by_cases hlt:n<m
 ·have hcn2:¬ cx=n:=by omega
  have hc1:c<BB:=by have:=HR.out.1;unfold BB;omega
  have hcc:m≤cap':=by omega
  go_wp2_with fail
  go_still_tail 8,(by kernel_rfl)
  change wpList _ _ _ _ _ w3.drew
  have hx3:IsW w3 bx n (m - n):=by
   have:=HR.out.2.2.2.isW (b':=bx) (o:=n) (n:=m - n) (by have:=H3.out.1.sub n (m - n) (by omega);rwa [Nat.zero_add] at this) (by omega)
   exact this
  have hm3:MV w3 bx n (m - n)=MV w2 bx n (m - n):=HR.out.2.2.2.mv (by omega)
  have H4:=Lh (And.intro hx3 (And.intro hm3 (And.intro (HR.out.2.2.2.row H3.out.2.2.2.2.1) (HR.out.2.2.2.row H3.out.2.2.2.2.2.1))))
  clear hx3 hm3
  go_wp2_with fail
  refine (Q6v b n (cap' - n) bx n (cx - n) (m - n) c (by omega) (by unfold maxLen;omega) hc1 w3.drew H4.out.1 ⟨cap',_,H4.out.2.2.2,by omega⟩ (by omega) cx _ H4.out.2.2.1 (by omega) (by omega)).mono ?_
  rintro e w4 ⟨c2,rfl,hc2,hR2⟩
  have HM4:=HT2.out w4 c2 (by
    have e1:=HR.out.2.2.1
    have e2:=hR2.2.1
    have e3:=Q0C w4 b 0 n m hnm
    have e4:=Q0C w2 bx 0 n m hnm
    have e5:MV w4 b 0 n=MV w3 b 0 n:=(hR2.2.2.mv (b':=b) (o:=0) (n:=n) (by omega)).trans (Q02 _ _ _ _)
    rw [Q02,H4.out.2.1] at e2
    rw [Nat.zero_add] at e3 e4
    rw [← H3.out.2.2.1,← H3.out.2.2.2.1,e3,e4,e5]
    exact Q7y hnm e1 e2) (by
    have h5:IsW w4 b 0 n:=hR2.2.2.isW (b':=b) (o:=0) (n:=n) HR.out.2.1 (by omega)
    intro i hi
    by_cases e:i<n
    ·exact h5 i e
    ·have:=hR2.1 (i - n) (by omega)
     rw [show n+(i - n)=0+i by omega] at this
     exact this) ((HR.out.2.2.2.mono (by omega) (by omega)).trans (Chg.trans (Chg.refl _ _ _ _).drew (hR2.2.2.mono (by omega) (by omega))))
  have hc2:c2<BB:=by unfold BB;omega
  clear hR2
  ·clear HR
   have H6:=Lh HM4
   obtain ⟨v5,hv5⟩:=(HM4.2.2.1).cell m (by omega)
   have hf5:=(HM4.2.2.1).free m
   have HS:=Lh (QJ (o:=0) HM4.1 (by rw [Nat.zero_add];exact ⟨v5,hv5⟩) hc2 HM4.2.2.2)
   clear HM4
   have hm1:m<cap':=by omega
   go_wp2_with fail
   have HS2:=HS.out
   rw [Nat.zero_add] at HS2
   generalize w4.setCell ⟨b,m,none⟩ (.int .u64 (c2:Int))=w5 at HS2
   have HS3:=Lh HS2;clear HS2 HS hv5 hf5
   go_wp2_with (go_at_call 200;refine (QO b 0 cap' (m+1) (by unfold maxLen;omega) (by omega) w5 HS3.out.1).mono ?_;rintro e w6 ⟨i,rfl,hw,hi⟩;subst hw;have HI:=Lh hi;clear hi)
   go_ret
   have h1:=HS3.out
   have h2:=HI.out
   refine QY HM.out rfl ((H3.out.2.2.2.2.2.2.mono (by omega) (by omega)).trans (h1.2.2.mono (by omega) (by omega))) (Nt.mk m1 (by unfold CAP;omega) (by omega) (h1.2.2.row H3.out.2.2.2.2.2.1) (h1.1.mono h2.1) ?_ (fun h=>by have:=h2.2.2 h;rwa [Nat.zero_add] at this))
   rw [h2.2.1,h1.2.1]
   exact H6.out.2.1
 ·obtain rfl:m=n:=by omega
  have HM4:=HT2.out w3 c (by rw [← H3.out.2.2.1,← H3.out.2.2.2.1];exact HR.out.2.2.1) HR.out.2.1 HR.out.2.2.2
  have hc:c<BB:=by have:=HR.out.1;unfold BB;omega
  ·clear HR
   have H6:=Lh HM4
   obtain ⟨v5,hv5⟩:=(HM4.2.2.1).cell m (by omega)
   have hf5:=(HM4.2.2.1).free m
   have HS:=Lh (QJ (o:=0) HM4.1 (by rw [Nat.zero_add];exact ⟨v5,hv5⟩) hc HM4.2.2.2)
   clear HM4
   have hm1:m<cap':=by omega
   go_wp2_with fail
   have HS2:=HS.out
   rw [Nat.zero_add] at HS2
   generalize w3.setCell ⟨b,m,none⟩ (.int .u64 (c:Int))=w5 at HS2
   have HS3:=Lh HS2;clear HS2 HS hv5 hf5
   go_wp2_with (go_at_call 200;refine (QO b 0 cap' (m+1) (by unfold maxLen;omega) (by omega) w5 HS3.out.1).mono ?_;rintro e w6 ⟨i,rfl,hw,hi⟩;subst hw;have HI:=Lh hi;clear hi)
   go_ret
   have h1:=HS3.out
   have h2:=HI.out
   refine QY HM.out rfl ((H3.out.2.2.2.2.2.2.mono (by omega) (by omega)).trans (h1.2.2.mono (by omega) (by omega))) (Nt.mk m1 (by unfold CAP;omega) (by omega) (h1.2.2.row H3.out.2.2.2.2.2.1) (h1.1.mono h2.1) ?_ (fun h=>by have:=h2.2.2 h;rwa [Nat.zero_add] at this))
   rw [h2.2.1,h1.2.1]
   exact H6.out.2.1
theorem Nt.pos_form {w:World}{p:Option Addr}{len cap x:Nat}(h:Nt w p len cap x)(h0:0<len) :
  ∃ b,p=some ⟨b,0,none⟩∧0<cap∧cap≤CAP∧len≤cap∧Row w b cap 203∧IsW w b 0 len∧MV w b 0 len=x∧(0<len→rd w b (len - 1)≠0):=by
 rcases h.cases with ⟨_,h1,_⟩ | h
 ·omega
 ·exact h
theorem Q4z {w:World}{p:Option Addr}{len cap:Nat}(h:Buf w p len cap):NatRes w p 0 (.returned (.slice p 0 cap)) w:=⟨p,0,cap,rfl,Nt.zero_of h,.inl rfl,Fr.refl _ _⟩
theorem Q7z (zp:Option Addr)(zl zc:Nat)(xp:Option Addr)(m cx x:Nat)(yp:Option Addr)(n cy y:Nat)(w:World)(hz:Buf w zp zl zc)(hm:m+5≤CAP)(hnm:n≤m)(hx:Nt w xp m cx x)(hy:Nt w yp n cy y) :
  Calls Tryz.prog 175 #[.slice zp zl zc,.slice xp m cx,.slice yp n cy] w (NatRes w zp (x+y)):=by
 by_cases hn0:0<n
 ·obtain ⟨b,rfl,h1,h2,h3,h4,h5,rfl,h7⟩:=hx.pos_form (by omega)
  obtain ⟨b',rfl,g1,g2,g3,g4,g5,rfl,g7⟩:=hy.pos_form hn0
  exact Q8N zp zl zc b m cx b' n cy w hz hm hn0 hnm h3 g3 h4 g4 h5 g5
 ·obtain rfl:n=0:=by omega
  have hy0:y=0:=hy.zero_iff.1 rfl
  subst hy0
  rw [Nat.add_zero]
  have hzc:=Q0U hz
  by_cases hm0:m=0
  ·subst hm0
   have hx0:x=0:=hx.zero_iff.1 rfl
   subst hx0
   have HR:=Lh (Q4z hz)
   clear hx hy hz hm
   unfold CAP at hzc
   go_enter Tryz.func175, Tryz.ntmps175
   go_wp2
   go_ret
   exact HR.out
  ·have hg1:((m:Int) == 0)=false:=by simp;omega
   have HS:=Lh (Q0T zp zl zc xp m cx x w hz hx (by omega))
   have hmc:=hx.len_le
   clear hx hy hz
   unfold CAP at hzc hm hmc
   go_enter Tryz.func175, Tryz.ntmps175
   go_wp2_with (go_at_call 183;refine HS.out.mono ?_;rintro e w' ⟨p,len,cap,rfl,hR⟩;have HR:=Lh hR;clear hR)
   go_ret
   exact ⟨p,len,cap,rfl,HR.out⟩
theorem Q5X (zp:Option Addr)(zl zc:Nat)(xp:Option Addr)(m cx x:Nat)(yp:Option Addr)(n cy y:Nat)(w:World)(hz:Buf w zp zl zc)(hm:m+5≤CAP)(hn:n+5≤CAP)(hx:Nt w xp m cx x)(hy:Nt w yp n cy y) :
  Calls Tryz.prog 175 #[.slice zp zl zc,.slice xp m cx,.slice yp n cy] w (NatRes w zp (x+y)):=by
 by_cases h:n≤m
 ·exact Q7z zp zl zc xp m cx x yp n cy y w hz hm h hx hy
 ·have HS:=Lh (Q7z zp zl zc yp n cy y xp m cx x w hz hn (by omega) hy hx)
  have hlt:m<n:=by omega
  clear hx hy hz
  unfold CAP at hm hn
  go_enter Tryz.func175, Tryz.ntmps175
  go_wp2_with (go_at_call 175;refine HS.out.mono ?_;rintro e w' ⟨p,len,cap,rfl,hR⟩;have HR:=Lh hR;clear hR)
  go_ret
  exact ⟨p,len,cap,rfl,by rw [Nat.add_comm];exact HR.out⟩
def clW (w:World)(b o n:Nat):World:=w.setCells b o (List.replicate n (.int .u64 0))
theorem Q8O (w:World)(b o n:Nat):Chg b o (o+n) w (clW w b o n):=by
 have:=Chg.setCells b (List.replicate n (Value.int .u64 0)) o w
 rw [List.length_replicate] at this
 exact this
theorem Q1N {w:World}{b o n:Nat}(hZ:Wr w b o n)(i:Nat)(hi:i<n):(clW w b o n).cell? ⟨b,o+i,none⟩=some (.int .u64 ((0:Nat):Int)):=by
 unfold clW
 rw [World.cell?_setCells_in b _ o w (fun j hj=>by rw [List.length_replicate] at hj;obtain ⟨v,hv⟩:=hZ.cell j hj;rw [hv];rfl) i (by rw [List.length_replicate];exact hi)]
 simp
theorem Q8P {w:World}{b o n:Nat}(hZ:Wr w b o n):IsW (clW w b o n) b o n∧MV (clW w b o n) b o n=0 :=
 ⟨fun i hi=>by rw [Q0h (Q1N hZ i hi)];exact ⟨Q1N hZ i hi,Qx⟩,Q5R fun i hi=>Q0h (Q1N hZ i hi)⟩
theorem Q8Q (w:World)(ty:TypeId)(b o n c:Nat)(h0:0<n)(hZ:Wr w b o n) :
  (Builtin.clear_ #[65] ty #[.slice (some ⟨b,o,none⟩) n c]).run Tryz.prog w=.ok (.tuple #[]) (clW w b o n):=by
 obtain ⟨i0,hi,hz0,hz1,hz2⟩:=info_parts Q1a
 have hst:=run_storeCells_cells (P:=Tryz.prog) b o (List.replicate n (.int .u64 0)) 0 w (fun j hj=>by rw [List.length_replicate] at hj;obtain ⟨v,hv⟩:=hZ.cell j hj;rw [Nat.add_zero,hv];rfl) (fun j hj=>by rw [List.length_replicate] at hj;rw [Nat.add_zero];exact hZ.free j hj) (fun v hv=>by rw [List.mem_replicate] at hv;rw [hv.2];rfl)
 obtain ⟨m,rfl⟩:∃ m,n=m+1:=⟨n - 1,by omega⟩
 have hzz:(Builtin.zeroCells (Value.int .u64 0).cells (m+1)).toList=List.replicate (m+1) (.int .u64 0):=by
  rw [← toList_madeCells_one]
  show (Builtin.zeroCells #[Value.int .u64 0] (m+1)).toList=_
  simp [Builtin.zeroCells,madeCells]
 simp only [Builtin.clear_]
 simp [run_underlying Tryz.underlying65,zeroValue,typeInfo,hi,hz0,hzz]
 rw [hst]
 rfl
theorem Q3h (bz oz cz bx ox cx n:Nat)(y r:Nat)(hn2:n≤maxLen)(hy:y<BB)(hr:r<BB)(w:World)(hX:IsW w bx ox n)(hZ:Wr w bz oz n)(hal:bx≠bz∨oz≤ox) :
  Calls Tryz.prog 249 #[.slice (some ⟨bz,oz,none⟩) n cz,.slice (some ⟨bx,ox,none⟩) n cx,.int .u64 y,.int .u64 r] w fun e w' =>
   ∃ c:Nat,e=.returned (.int .u64 c)∧c<BB∧IsW w' bz oz n∧MV w' bz oz n+c*BB^n=MV w bx ox n*y+r∧Chg bz oz (oz+n) w w':=by
 have H:=Lh (Q4x bz oz cz bx ox cx n y r hn2 hy hr w hX hZ hal)
 clear hX hZ hal
 go_enter Tryz.func249, Tryz.ntmps249
 go_wp2_with (go_at_call 277;refine H.out.mono ?_;rintro e w' ⟨c,rfl,hR⟩;have HR:=Lh hR;clear hR)
 go_ret
 exact ⟨c,rfl,HR.out⟩
theorem Q2N (bz oz cz bx ox cx by_ oy cy n m a:Nat)(hn2:n≤maxLen)(hm:m<BB)(ha:a<BB)(w:World)(hX:IsW w bx ox n)(hY:IsW w by_ oy n)(hZ:Wr w bz oz n)(hal:bx≠bz∨oz≤ox)(hal2:by_≠bz∨oz≤oy) :
  Calls Tryz.prog 251 #[.slice (some ⟨bz,oz,none⟩) n cz,.slice (some ⟨bx,ox,none⟩) n cx,.slice (some ⟨by_,oy,none⟩) n cy,.int .u64 m,.int .u64 a] w fun e w' =>
   ∃ c:Nat,e=.returned (.int .u64 c)∧c<BB∧IsW w' bz oz n∧MV w' bz oz n+c*BB^n=MV w bx ox n+MV w by_ oy n*m+a∧Chg bz oz (oz+n) w w':=by
 have H:=Lh (Q3V bz oz cz bx ox cx by_ oy cy n m a hn2 hm ha w hX hY hZ hal hal2)
 clear hX hY hZ hal hal2
 go_enter Tryz.func251, Tryz.ntmps251
 go_wp2_with (go_at_call 280;refine H.out.mono ?_;rintro e w' ⟨c,rfl,hR⟩;have HR:=Lh hR;clear hR)
 go_ret
 exact ⟨c,rfl,HR.out⟩
theorem Q6w {Z0 Zk A X Y d c m k:Nat}(h1:X*Y=Z0+BB^k*Zk)(h2:A+c*BB^m=Zk+X*d):Z0+BB^k*A+c*BB^(m+k)=X*(Y+d*BB^k):=by
 have h:BB^k*(A+c*BB^m)=BB^k*(Zk+X*d):=by rw [h2]
 rw [Nat.mul_add,Nat.mul_add] at h
 rw [Nat.pow_add,show c*(BB^m*BB^k)=BB^k*(c*BB^m) by rw [Nat.mul_comm (BB^m),Nat.mul_left_comm],Nat.mul_add,show X*(d*BB^k)=BB^k*(X*d) by rw [← Nat.mul_assoc,Nat.mul_comm]]
 omega
theorem Q06 (bz cz bx m cx by_ n cy nz:Nat)(w:World)(hm0:0<m)(hn0:0<n)(hmn:m+n≤nz)(hnz:nz≤cz)(hcz:cz≤CAP)(hmc:m≤cx)(hnc:n≤cy)(hZ:Row w bz cz 203)(hX:IsW w bx 0 m)(hY:IsW w by_ 0 n)(hxz:bx≠bz)(hyz:by_≠bz) :
  Calls Tryz.prog 215 #[.slice (some ⟨bz,0,none⟩) nz cz,.slice (some ⟨bx,0,none⟩) m cx,.slice (some ⟨by_,0,none⟩) n cy] w fun e w' =>
   e=.returned (.tuple #[])∧IsW w' bz 0 (m+n)∧MV w' bz 0 (m+n)=MV w bx 0 m*MV w by_ 0 n∧Chg bz 0 (0+(m+n)) w w':=by
 have HZ:Hid (Wr w bz 0 (m+n)):=⟨cz,_,hZ,by omega⟩
 have HX:=Lh (And.intro hX (And.intro hY (And.intro hxz (And.intro hyz hZ))));clear hX hY hxz hyz hZ
 have hrun:=fun ty=>Q8Q w ty bz 0 (m+n) cz (by omega) HZ.out
 have hc1:m+n≤cz:=by omega
 unfold CAP at hcz
 have H0:Hid (IsW (clW w bz 0 (m+n)) bz 0 (m+n)∧(∀ j,j<m+n→rd (clW w bz 0 (m+n)) bz j=0)∧Chg bz 0 (0+(m+n)) w (clW w bz 0 (m+n))) :=
  ⟨(Q8P HZ.out).1,fun j hj=>by have:=Q1N HZ.out j hj;rw [Nat.zero_add] at this;exact Q0h this,Q8O _ _ _ _⟩
 go_enter Tryz.func215, Tryz.ntmps215
 go_wp2
 generalize clW w bz 0 (m+n)=w1 at H0
 clear hrun
 go_loopw [17] (fun i wr=>∃ k:Nat,k≤n∧i=.int .i64 k∧IsW wr bz 0 (m+n)∧(∀ j,m+k≤j→j<m+n→rd wr bz j=0)∧MV wr bz 0 (m+k)=MV w bx 0 m*MV w by_ 0 k∧Chg bz 0 (0+(m+n)) w wr) (fun i _=>n - (intOf i).toNat)
 case atStart =>
  refine ⟨0,Nat.zero_le _,rfl,H0.out.1,fun j _ h=>H0.out.2.1 j h,?_,H0.out.2.2⟩
  rw [Q5R fun i hi=>by rw [Nat.zero_add];exact H0.out.2.1 i (by omega)]
  simp [MV]
 case round =>
  obtain ⟨k,hk,rfl,hI⟩:=hrel
  by_cases hlt:k<n
  ·have hyk:wr.cell? ⟨by_,k,none⟩=some (.int .u64 ((rd w by_ k:Nat):Int)):=by
    have h1:=hI.2.2.2.cell_other (b':=by_) (o:=k) (.inl HX.out.2.2.2.1)
    have h2:=HX.out.2.1.get k hlt
    rw [Nat.zero_add] at h2
    rw [h1];exact h2
   have hyl:rd w by_ k<BB:=by have:=HX.out.2.1.lt k hlt;rwa [Nat.zero_add] at this
   have HI:=Lh hI;clear hI
   by_cases hd:rd w by_ k=0
   ·have hd2:(((rd w by_ k:Nat):Int) != 0)=false:=by rw [hd];rfl
    have HD:=Lh hd;clear hd
    go_wp2
    go_roundw
    case rel =>
     obtain ⟨i1,i2,i3,i4⟩:=HI.out
     refine ⟨k+1,by omega,by go_num,i1,fun j h1 h2=>i2 j (by omega) h2,?_,i4⟩
     rw [show m+(k+1)=m+k+1 by omega]
     simp only [MV]
     rw [i3,Nat.zero_add,i2 (m+k) (by omega) (by omega),Nat.zero_add,HD.out]
     simp
    case measure=>simp [intOf];omega
   ·have hd2:(((rd w by_ k:Nat):Int) != 0)=true:=by simp;omega
    have HD:=Lh hd;clear hd
    have h3:k≤k+m:=by omega
    have h4:k+m≤cz:=by omega
    have h5:¬ cz=k:=by omega
    have h6:m+k<nz:=by omega
    have h7:k+m - k=m:=by omega
    have g1:(k:Int)≤(k:Int)+(m:Int):=by omega
    have g2:(k:Int)+(m:Int)≤(cz:Int):=by omega
    have g3:(m:Int)+(k:Int)<(nz:Int):=by omega
    have e1:IntKind.i64.wrap ((k:Int)+(m:Int))=(k:Int)+(m:Int):=IntWalk.i64_in _ (by omega)
    have e2:IntKind.i64.wrap ((m:Int)+(k:Int))=(m:Int)+(k:Int):=IntWalk.i64_in _ (by omega)
    have g4:(0:Int)≤(k:Int)+(m:Int):=by omega
    have g5:((k:Int)+(m:Int)).toNat=k+m:=by omega
    have g6:((m:Int)+(k:Int)).toNat=m+k:=by omega
    have g7:(0:Int)≤(m:Int)+(k:Int):=by omega
    go_wp2_with fail
    have H1:Hid (IsW wr.drew bz k m∧IsW wr.drew bx 0 m∧Wr wr.drew bz k m∧MV wr.drew bz k m=MV wr bz k m∧MV wr.drew bx 0 m=MV w bx 0 m∧Row wr.drew bz cz 203):=by
     obtain ⟨i1,i2,i3,i4⟩:=HI.out
     have h1:=i1.sub k m (by omega)
     rw [Nat.zero_add] at h1
     exact ⟨h1,i4.isW HX.out.1 (.inl HX.out.2.2.1),⟨cz,_,i4.row HX.out.2.2.2.2,by omega⟩,Q02 _ _ _ _,(Q02 _ _ _ _).trans (i4.mv (.inl HX.out.2.2.1)),i4.row HX.out.2.2.2.2⟩
    have hmc2:m+k<cz:=by omega
    go_region_with (go_at_call 251;refine (Q2N bz k (cz - k) bz k (cz - k) bx 0 cx m (rd w by_ k) 0 (by unfold maxLen;omega) hyl Qx wr.drew H1.out.1 H1.out.2.1 H1.out.2.2.1 (.inr (Nat.le_refl _)) (.inl HX.out.2.2.1)).mono ?_;rintro e w2 ⟨c,rfl,hR⟩;obtain ⟨v2,hv2⟩:=(hR.2.2.2.row H1.out.2.2.2.2.2).cell (m+k) hmc2;have hf2:=(hR.2.2.2.row H1.out.2.2.2.2.2).free (m+k);have HR:=Lh hR;clear hR)
    go_wp2
    have HQ:Hid (IsW (w2.setCell ⟨bz,m+k,none⟩ (.int .u64 (c:Int))) bz 0 (m+n)∧(∀ j,m+(k+1)≤j→j<m+n→rd (w2.setCell ⟨bz,m+k,none⟩ (.int .u64 (c:Int))) bz j=0) ∧
      MV (w2.setCell ⟨bz,m+k,none⟩ (.int .u64 (c:Int))) bz 0 (m+(k+1))=MV w bx 0 m*MV w by_ 0 (k+1)∧Chg bz 0 (0+(m+n)) w (w2.setCell ⟨bz,m+k,none⟩ (.int .u64 (c:Int)))):=by
     obtain ⟨i1,i2,i3,i4⟩:=HI.out
     obtain ⟨r1,r2,r3,r4⟩:=HR.out
     have r5:Chg bz k (k+m) wr w2:=Chg.trans (Chg.refl _ _ _ _).drew r4
     have hs:=World.cell?_setCell_same w2 ⟨bz,m+k,none⟩ (.int .u64 (c:Int)) hv2
     have hC:=Chg.set w2 bz (m+k) (.int .u64 (c:Int))
     have hC2:Chg bz k (k+m+1) wr (w2.setCell ⟨bz,m+k,none⟩ (.int .u64 (c:Int))):=(r5.mono (by omega) (by omega)).trans (hC.mono (by omega) (by omega))
     refine ⟨?_,?_,?_,i4.trans (hC2.mono (by omega) (by omega))⟩
     ·intro i hi
      by_cases e:0+i=m+k
      ·rw [e,Q0h hs];exact ⟨hs,r1⟩
      ·by_cases e2:k≤i∧i<k+m
       ·have:=(hC.isW r2 (by omega)) (i - k) (by omega)
        rw [show k+(i - k)=0+i by omega] at this
        exact this
       ·have h1:=hC2.cell_other (b':=bz) (o:=0+i) (by omega)
        rw [h1,QN h1]
        exact i1 i hi
     ·intro j h1 h2
      rw [hC2.rd_other (by omega)]
      exact i2 j (by omega) h2
     ·have e1:MV (w2.setCell ⟨bz,m+k,none⟩ (.int .u64 (c:Int))) bz 0 (m+(k+1))=MV wr bz 0 k+BB^k*MV w2 bz k m+c*BB^(m+k):=by
       have hr:=Q0h hs
       generalize w2.setCell ⟨bz,m+k,none⟩ (.int .u64 (c:Int))=w3 at hr hC hC2
       rw [show m+(k+1)=k+m+1 by omega]
       simp only [MV]
       rw [Nat.zero_add,show k+m=m+k by omega,hr,show m+k=k+m by omega,QF w3 bz 0 k m,Nat.zero_add]
       rw [hC2.mv (b':=bz) (o:=0) (n:=k) (by omega),hC.mv (b':=bz) (o:=k) (n:=m) (by omega)]
      have e2:=QF wr bz 0 k m
      rw [Nat.zero_add,show k+m=m+k by omega,i3] at e2
      have e3:=r3
      rw [H1.out.2.2.2.1,H1.out.2.2.2.2.1,Nat.add_zero] at e3
      rw [e1]
      have e4:MV w by_ 0 (k+1)=MV w by_ 0 k+rd w by_ k*BB^k:=by show _+rd w by_ (0+k)*_=_;rw [Nat.zero_add]
      rw [e4]
      exact Q6w e2 e3
    go_roundw
    case rel=>exact ⟨k+1,by omega,by go_num,HQ.out⟩
    case measure=>simp [intOf];omega
  ·obtain rfl:k=n:=by omega
   have HI:=Lh hI;clear hI
   go_wp2
   go_end0
   exact ⟨rfl,HI.out.1,HI.out.2.2⟩
theorem Q4A (xl:Nat)(yp:Option Addr)(yl yc:Nat)(w:World) :
  Calls Tryz.prog 214 #[.slice none xl 0,.slice yp yl yc] w fun e w'=>e=.returned (.bool false)∧∃ q,w'=w.drewN q:=by
 go_enter Tryz.func214, Tryz.ntmps214
 go_wp2
 go_quiet (fail)
 go_wp2
 go_ret
 exact ⟨rfl,_,rfl⟩
theorem Q4B (xp:Option Addr)(xl xc yl:Nat)(h:0<xc)(w:World) :
  Calls Tryz.prog 214 #[.slice xp xl xc,.slice none yl 0] w fun e w'=>e=.returned (.bool false)∧∃ q,w'=w.drewN q:=by
 have h1:decide ((0:Int)<(xc:Int))=true:=by simpa using h
 go_enter Tryz.func214, Tryz.ntmps214
 go_wp2
 go_quiet (fail)
 go_wp2
 go_ret
 exact ⟨rfl,_,rfl⟩
theorem Q5e (b b' xl xc yl yc:Nat)(h:0<xc)(h':0<yc)(g:xc≤CAP)(g':yc≤CAP)(w:World)(hx:Row w b xc 203)(hy:Row w b' yc 203)(v:Bool)(hv:v=decide (b=b')) :
  Calls Tryz.prog 214 #[.slice (some ⟨b,0,none⟩) xl xc,.slice (some ⟨b',0,none⟩) yl yc] w fun e w'=>e=.returned (.bool v)∧∃ q,w'=w.drewN q:=by
 have h1:decide ((0:Int)<(xc:Int))=true:=by simpa using h
 have h2:decide ((0:Int)<(yc:Int))=true:=by simpa using h'
 have heq:=fun q=>Q8K (w:=w.drewN q) (a:=⟨b,xc - 1,none⟩) (b:=⟨b',yc - 1,none⟩) hx hy
 have hd:decide ((⟨b,xc - 1,none⟩:Addr)=⟨b',yc - 1,none⟩)=v:=by
  subst hv
  by_cases e:b=b'
  ·subst e
   have:xc=yc:=by
    have h1:hd w b=_:=hx
    have h2:hd w b=_:=hy
    rw [h1] at h2
    simpa using h2
   subst this
   simp
  ·simp [e]
 simp only [hd] at heq
 unfold CAP at g g'
 have e1:IntKind.i64.wrap ((xc:Int) - 1)=(xc:Int) - 1:=IntWalk.i64_in _ (by omega)
 have e2:IntKind.i64.wrap ((yc:Int) - 1)=(yc:Int) - 1:=IntWalk.i64_in _ (by omega)
 have e3:((xc:Int) - 1).toNat=xc - 1:=by omega
 have e4:((yc:Int) - 1).toNat=yc - 1:=by omega
 have e5:(1:Int)≤(xc:Int):=by omega
 have e6:(1:Int)≤(yc:Int):=by omega
 clear hx hy hd hv
 go_enter Tryz.func214, Tryz.ntmps214
 go_wp2
 go_quiet (fail)
 go_wp2
 go_ret
 exact ⟨rfl,_,rfl⟩
def same (p q:Option Addr):Bool:=match p,q with | some a,some b=>decide (a.block=b.block) | _,_=>false
theorem QU (xp:Option Addr)(xl xc:Nat)(yp:Option Addr)(yl yc:Nat)(w:World)(hx:Buf w xp xl xc)(hy:Buf w yp yl yc) :
  Calls Tryz.prog 214 #[.slice xp xl xc,.slice yp yl yc] w fun e w'=>e=.returned (.bool (same xp yp))∧∃ q,w'=w.drewN q:=by
 cases xp with
 | none=>obtain ⟨_,rfl⟩:=hx;exact Q4A xl yp yl yc w
 | some a =>
  obtain ⟨b,rfl,h1,h2,h3,h4⟩:=hx.some
  cases yp with
  | none=>obtain ⟨_,rfl⟩:=hy;exact Q4B _ xl xc yl h1 w
  | some a' =>
   obtain ⟨b',rfl,g1,g2,g3,g4⟩:=hy.some
   exact Q5e b b' xl xc yl yc h1 g1 h2 g2 w h4 g4 _ rfl
structure GK (w:World):Prop where
 kar:w.cell? ⟨3,0,none⟩=some (.int .i64 40)
 bsq:w.cell? ⟨1,0,none⟩=some (.int .i64 12)
 ksq:w.cell? ⟨2,0,none⟩=some (.int .i64 80)
 div:w.cell? ⟨4,0,none⟩=some (.int .i64 40)
 leaf:w.cell? ⟨8,0,none⟩=some (.int .i64 8)
theorem Fr.gk {S:Nat→Prop}{w w':World}(h:Fr S w w')(hg:GK w)(hS:∀ k,S k→12≤k):GK w':=by
 have key:∀ g v,g<12→w.cell? ⟨g,0,none⟩=some v→w'.cell? ⟨g,0,none⟩=some v:=fun g v hg hc=>by
  rw [h.cell (World.block_lt_of_cell? _ _ hc) (fun hs=>by have:=hS g hs;omega)];exact hc
 exact ⟨key _ _ (by omega) hg.kar,key _ _ (by omega) hg.bsq,key _ _ (by omega) hg.ksq,key _ _ (by omega) hg.div,key _ _ (by omega) hg.leaf⟩
theorem GK.drewN {w:World}(h:GK w)(q:Nat):GK (w.drewN q):=⟨h.kar,h.bsq,h.ksq,h.div,h.leaf⟩
theorem Q1O (zp:Option Addr)(zl zc:Nat)(xp:Option Addr)(m cx x y r:Nat)(w:World)(hz:Buf w zp zl zc)(hx:Nt w xp m cx x)(hm:m+5≤CAP)(hy:y<BB)(hr:r<BB) :
  Calls Tryz.prog 218 #[.slice zp zl zc,.slice xp m cx,.int .u64 y,.int .u64 r] w (NatRes w zp (x*y+r)):=by
 by_cases h0:m=0∨y=0
 ·have e:x*y+r=r:=by
   rcases h0 with h | h
   ·subst h;rw [hx.zero_iff.1 rfl];simp
   ·subst h;simp
  rw [e]
  have HS:=Lh (Q0D zp zl zc r hr w hz)
  have hxl:=hx.len_le
  clear hx hz
  unfold CAP at hm hxl
  rcases h0 with h | h
  ·subst h
   go_enter Tryz.func218, Tryz.ntmps218
   go_wp2_with (go_at_call 191;refine HS.out.mono ?_;rintro e w' ⟨p,len,cap,rfl,hR⟩;have HR:=Lh hR;clear hR)
   go_ret
   exact ⟨p,len,cap,rfl,HR.out⟩
  ·subst h
   by_cases hm0:m=0
   ·subst hm0
    go_enter Tryz.func218, Tryz.ntmps218
    go_wp2_with (go_at_call 191;refine HS.out.mono ?_;rintro e w' ⟨p,len,cap,rfl,hR⟩;have HR:=Lh hR;clear hR)
    go_ret
    exact ⟨p,len,cap,rfl,HR.out⟩
   ·have hg1:((m:Int) == 0)=false:=by simp;omega
    go_enter Tryz.func218, Tryz.ntmps218
    go_wp2_with (go_at_call 191;refine HS.out.mono ?_;rintro e w' ⟨p,len,cap,rfl,hR⟩;have HR:=Lh hR;clear hR)
    go_ret
    exact ⟨p,len,cap,rfl,HR.out⟩
 ·obtain ⟨bx,rfl,h1,h2,h3,h4,h5,rfl,h7⟩:=hx.pos_form (by omega)
  have HX:=Lh (And.intro h4 h5);clear h4 h5 h7 hx
  have H1:=Lh hz;clear hz
  have hg1:((m:Int) == 0)=false:=by simp;omega
  have hg2:((y:Int) == 0)=false:=by simp;omega
  have hmm:=Lh hm
  clear h0
  unfold CAP at hm
  go_enter Tryz.func218, Tryz.ntmps218
  go_wp2_with fail
  refine (QP zp zl zc (m+1) (by omega) (by have:=hmm.out;omega) _ H1.out).mono ?_
  rintro e w1 ⟨p',cap',rfl,hM⟩
  have HM:=Lh hM
  obtain ⟨b,rfl,m1,m2,m3,m4,m5,m6⟩:=hM
  have hlt:=HX.out.1.lt
  have H2:=Lh (And.intro m4 (And.intro (m5.isW hlt (fun h=>h) HX.out.2) (m5.mv (o:=0) (n:=m) hlt (fun h=>h))))
  clear m4 m5 m6 hlt
  unfold CAP at m2
  have hmc:m≤cap':=by omega
  go_wp2_with fail
  refine (Q3h b 0 cap' bx 0 cx m y r (by unfold maxLen;omega) hy hr w1 H2.out.2.1 ⟨cap',_,H2.out.1,by omega⟩ (.inr (Nat.le_refl _))).mono ?_
  rintro e w2 ⟨c,rfl,hR⟩
  have hrow:=hR.2.2.2.row H2.out.1
  obtain ⟨v5,hv5⟩:=hrow.cell m (by omega)
  have hf5:=hrow.free m
  have HS:=Lh (QJ (o:=0) hR.2.1 (by rw [Nat.zero_add];exact ⟨v5,hv5⟩) hR.1 hR.2.2.2)
  have HR:=Lh hR
  clear hR hrow
  go_wp2_with fail
  have HS2:=HS.out
  rw [Nat.zero_add] at HS2
  generalize w2.setCell ⟨b,m,none⟩ (.int .u64 (c:Int))=w5 at HS2
  have HS3:=Lh HS2;clear HS2 HS hv5 hf5
  go_wp2_with (go_at_call 200;refine (QO b 0 cap' (m+1) (by unfold maxLen;omega) (by omega) w5 HS3.out.1).mono ?_;rintro e w6 ⟨i,rfl,hw,hi⟩;subst hw;have HI:=Lh hi;clear hi)
  go_ret
  have h1:=HS3.out
  have h2:=HI.out
  refine QY HM.out rfl (h1.2.2.mono (by omega) (by omega)) (Nt.mk m1 (by unfold CAP;omega) (by omega) (h1.2.2.row H2.out.1) (h1.1.mono h2.1) ?_ (fun h=>by have:=h2.2.2 h;rwa [Nat.zero_add] at this))
  rw [h2.2.1,h1.2.1,HR.out.2.2.1,H2.out.2.2]
theorem Q8R (zp:Option Addr)(zl zc bx m cx by_ n cy:Nat)(sp:Option Addr)(w:World)(hz:Buf w zp zl zc)(hm:m+n+5≤CAP)(hn0:1<n)(hnm:n≤m)(hk:n<40)(hmc:m≤cx)(hnc:n≤cy)(h1:cx≤CAP)(h2:cy≤CAP)
  (hRx:Row w bx cx 203) (hRy:Row w by_ cy 203) (hX:IsW w bx 0 m) (hY:IsW w by_ 0 n) (hg:GK w) :
  Calls Tryz.prog 187 #[.slice zp zl zc,.pointer sp,.slice (some ⟨bx,0,none⟩) m cx,.slice (some ⟨by_,0,none⟩) n cy] w (NatRes w zp (MV w bx 0 m*MV w by_ 0 n)):=by
 have HX:=Lh (And.intro hRx (And.intro hRy (And.intro hX (And.intro hY hg))));clear hRx hRy hX hY hg
 have H1:=Lh hz;clear hz
 have hmm:=Lh hm
 have HC:=Lh (And.intro h1 h2);clear h1 h2
 unfold CAP at hm
 have hg1:((m:Int) == 0)=false:=by simp;omega
 have hg2:((n:Int) == 0)=false:=by simp;omega
 have hg3:((n:Int) == 1)=false:=by simp;omega
 have hbx:Hid (Buf w (some ⟨bx,0,none⟩) m cx):=⟨rfl,rfl,by omega,HC.out.1,hmc,HX.out.1⟩
 have hby:Hid (Buf w (some ⟨by_,0,none⟩) n cy):=⟨rfl,rfl,by omega,HC.out.2,hnc,HX.out.2.1⟩
 go_enter Tryz.func187, Tryz.ntmps187
 go_wp2_with fail
 refine (QU zp zl zc (some ⟨bx,0,none⟩) m cx w H1.out hbx.out).mono ?_
 rintro e w1 ⟨rfl,q1,rfl⟩
 obtain ⟨s1,hs1⟩:∃ s1,s1=same zp (some ⟨bx,0,none⟩):=⟨_,rfl⟩
 rw [← hs1]
 have HS1:=Lh hs1;clear hs1
 cases s1
 ·go_wp2_with fail
  refine (QU zp zl zc (some ⟨by_,0,none⟩) n cy (w.drewN q1) H1.out hby.out).mono ?_
  rintro e w1 ⟨rfl,q2,rfl⟩
  obtain ⟨s2,hs2⟩:∃ s2,s2=same zp (some ⟨by_,0,none⟩):=⟨_,rfl⟩
  rw [← hs2]
  have HS2:=Lh hs2;clear hs2
  cases s2
  ·go_wp2_with fail
   have HD:Hid (Buf (w.drewN (q1+q2)) zp zl zc∧same zp (some ⟨bx,0,none⟩)=false∧same zp (some ⟨by_,0,none⟩)=false):=⟨H1.out.drewN _,HS1.out.symm,HS2.out.symm⟩
   have HY:Hid (Row (w.drewN (q1+q2)) bx cx 203∧Row (w.drewN (q1+q2)) by_ cy 203∧IsW (w.drewN (q1+q2)) bx 0 m∧IsW (w.drewN (q1+q2)) by_ 0 n∧GK (w.drewN (q1+q2))∧MV (w.drewN (q1+q2)) bx 0 m=MV w bx 0 m∧MV (w.drewN (q1+q2)) by_ 0 n=MV w by_ 0 n) :=
    ⟨HX.out.1,HX.out.2.1,HX.out.2.2.1,HX.out.2.2.2.1,HX.out.2.2.2.2.drewN _,Qy _ _ _ _ _,Qy _ _ _ _ _⟩
   have HN:Hid (∀ x e w',NatRes (w.drewN (q1+q2)) zp x e w'→NatRes w zp x e w'):=fun x e w' h=>NatRes.drewN _ h
   generalize w.drewN (q1+q2)=w0 at HD HY HN
   refine (QP zp zl zc (m+n) (by omega) (by have:=hmm.out;omega) w0 HD.out.1).mono ?_
   rintro e w1 ⟨p',cap',rfl,hM⟩
   have HM:=Lh hM
   obtain ⟨b,rfl,m1,m2,m3,m4,m5,m6⟩:=hM
   have H2:Hid (Row w1 b cap' 203∧IsW w1 bx 0 m∧IsW w1 by_ 0 n∧MV w1 bx 0 m=MV w bx 0 m∧MV w1 by_ 0 n=MV w by_ 0 n∧bx≠b∧by_≠b):=by
    have l1:=HY.out.1.lt
    have l2:=HY.out.2.1.lt
    refine ⟨m4,m5.isW l1 (fun h=>h) HY.out.2.2.1,m5.isW l2 (fun h=>h) HY.out.2.2.2.1,(m5.mv l1 (fun h=>h)).trans HY.out.2.2.2.2.2.1,(m5.mv l2 (fun h=>h)).trans HY.out.2.2.2.2.2.2,?_,?_⟩
    ·rintro rfl
     rcases m6 with ⟨h,_⟩ | ⟨h,_⟩
     ·have:=HD.out.2.1;rw [← h] at this;simp [same] at this
     ·omega
    ·rintro rfl
     rcases m6 with ⟨h,_⟩ | ⟨h,_⟩
     ·have:=HD.out.2.2;rw [← h] at this;simp [same] at this
     ·omega
   have hkar:=(m5.gk HY.out.2.2.2.2.1 (fun _ h=>h.elim)).kar
   clear m4 m5 m6
   unfold CAP at m2
   go_wp2_with fail
   refine (Q06 b cap' bx m cx by_ n cy (m+n) w1 (by omega) (by omega) (Nat.le_refl _) m3 (by unfold CAP;omega) hmc hnc H2.out.1 H2.out.2.1 H2.out.2.2.1 H2.out.2.2.2.2.2.1 H2.out.2.2.2.2.2.2).mono ?_
   rintro e w2 ⟨rfl,hR⟩
   have HR:=Lh hR;clear hR
   go_wp2_with (go_at_call 200;refine (QO b 0 cap' (m+n) (by unfold maxLen;omega) (by omega) w2 HR.out.1).mono ?_;rintro e w6 ⟨i,rfl,hw,hi⟩;subst hw;have HI:=Lh hi;clear hi)
   go_ret
   have h2:=HI.out
   refine HN.out _ _ _ (QY HM.out rfl (HR.out.2.2.mono (by omega) (by omega)) (Nt.mk m1 (by unfold CAP;omega) (by omega) (HR.out.2.2.row H2.out.1) (HR.out.1.mono h2.1) ?_ (fun h=>by have:=h2.2.2 h;rwa [Nat.zero_add] at this)))
   rw [h2.2.1,HR.out.2.1,H2.out.2.2.2.1,H2.out.2.2.2.2.1]
  ·go_wp2_with fail
   have HD:Hid (Buf (w.drewN (q1+q2)) none 0 0∧same none (some ⟨bx,0,none⟩)=false∧same none (some ⟨by_,0,none⟩)=false):=⟨⟨rfl,rfl⟩,rfl,rfl⟩
   have HY:Hid (Row (w.drewN (q1+q2)) bx cx 203∧Row (w.drewN (q1+q2)) by_ cy 203∧IsW (w.drewN (q1+q2)) bx 0 m∧IsW (w.drewN (q1+q2)) by_ 0 n∧GK (w.drewN (q1+q2))∧MV (w.drewN (q1+q2)) bx 0 m=MV w bx 0 m∧MV (w.drewN (q1+q2)) by_ 0 n=MV w by_ 0 n) :=
    ⟨HX.out.1,HX.out.2.1,HX.out.2.2.1,HX.out.2.2.2.1,HX.out.2.2.2.2.drewN _,Qy _ _ _ _ _,Qy _ _ _ _ _⟩
   have HN:Hid (∀ x e w',NatRes (w.drewN (q1+q2)) none x e w'→NatRes w zp x e w'):=fun x e w' h=>NatRes.any (NatRes.drewN _ h)
   generalize w.drewN (q1+q2)=w0 at HD HY HN
   refine (QP none 0 0 (m+n) (by omega) (by have:=hmm.out;omega) w0 HD.out.1).mono ?_
   rintro e w1 ⟨p',cap',rfl,hM⟩
   have HM:=Lh hM
   obtain ⟨b,rfl,m1,m2,m3,m4,m5,m6⟩:=hM
   have H2:Hid (Row w1 b cap' 203∧IsW w1 bx 0 m∧IsW w1 by_ 0 n∧MV w1 bx 0 m=MV w bx 0 m∧MV w1 by_ 0 n=MV w by_ 0 n∧bx≠b∧by_≠b):=by
    have l1:=HY.out.1.lt
    have l2:=HY.out.2.1.lt
    refine ⟨m4,m5.isW l1 (fun h=>h) HY.out.2.2.1,m5.isW l2 (fun h=>h) HY.out.2.2.2.1,(m5.mv l1 (fun h=>h)).trans HY.out.2.2.2.2.2.1,(m5.mv l2 (fun h=>h)).trans HY.out.2.2.2.2.2.2,?_,?_⟩
    ·rintro rfl
     rcases m6 with ⟨h,_⟩ | ⟨h,_⟩
     ·have:=HD.out.2.1;rw [← h] at this;simp [same] at this
     ·omega
    ·rintro rfl
     rcases m6 with ⟨h,_⟩ | ⟨h,_⟩
     ·have:=HD.out.2.2;rw [← h] at this;simp [same] at this
     ·omega
   have hkar:=(m5.gk HY.out.2.2.2.2.1 (fun _ h=>h.elim)).kar
   clear m4 m5 m6
   unfold CAP at m2
   go_wp2_with fail
   refine (Q06 b cap' bx m cx by_ n cy (m+n) w1 (by omega) (by omega) (Nat.le_refl _) m3 (by unfold CAP;omega) hmc hnc H2.out.1 H2.out.2.1 H2.out.2.2.1 H2.out.2.2.2.2.2.1 H2.out.2.2.2.2.2.2).mono ?_
   rintro e w2 ⟨rfl,hR⟩
   have HR:=Lh hR;clear hR
   go_wp2_with (go_at_call 200;refine (QO b 0 cap' (m+n) (by unfold maxLen;omega) (by omega) w2 HR.out.1).mono ?_;rintro e w6 ⟨i,rfl,hw,hi⟩;subst hw;have HI:=Lh hi;clear hi)
   go_ret
   have h2:=HI.out
   refine HN.out _ _ _ (QY HM.out rfl (HR.out.2.2.mono (by omega) (by omega)) (Nt.mk m1 (by unfold CAP;omega) (by omega) (HR.out.2.2.row H2.out.1) (HR.out.1.mono h2.1) ?_ (fun h=>by have:=h2.2.2 h;rwa [Nat.zero_add] at this)))
   rw [h2.2.1,HR.out.2.1,H2.out.2.2.2.1,H2.out.2.2.2.2.1]
 ·go_wp2_with fail
  have HD:Hid (Buf (w.drewN (q1)) none 0 0∧same none (some ⟨bx,0,none⟩)=false∧same none (some ⟨by_,0,none⟩)=false):=⟨⟨rfl,rfl⟩,rfl,rfl⟩
  have HY:Hid (Row (w.drewN (q1)) bx cx 203∧Row (w.drewN (q1)) by_ cy 203∧IsW (w.drewN (q1)) bx 0 m∧IsW (w.drewN (q1)) by_ 0 n∧GK (w.drewN (q1))∧MV (w.drewN (q1)) bx 0 m=MV w bx 0 m∧MV (w.drewN (q1)) by_ 0 n=MV w by_ 0 n) :=
   ⟨HX.out.1,HX.out.2.1,HX.out.2.2.1,HX.out.2.2.2.1,HX.out.2.2.2.2.drewN _,Qy _ _ _ _ _,Qy _ _ _ _ _⟩
  have HN:Hid (∀ x e w',NatRes (w.drewN (q1)) none x e w'→NatRes w zp x e w'):=fun x e w' h=>NatRes.any (NatRes.drewN _ h)
  generalize w.drewN (q1)=w0 at HD HY HN
  refine (QP none 0 0 (m+n) (by omega) (by have:=hmm.out;omega) w0 HD.out.1).mono ?_
  rintro e w1 ⟨p',cap',rfl,hM⟩
  have HM:=Lh hM
  obtain ⟨b,rfl,m1,m2,m3,m4,m5,m6⟩:=hM
  have H2:Hid (Row w1 b cap' 203∧IsW w1 bx 0 m∧IsW w1 by_ 0 n∧MV w1 bx 0 m=MV w bx 0 m∧MV w1 by_ 0 n=MV w by_ 0 n∧bx≠b∧by_≠b):=by
   have l1:=HY.out.1.lt
   have l2:=HY.out.2.1.lt
   refine ⟨m4,m5.isW l1 (fun h=>h) HY.out.2.2.1,m5.isW l2 (fun h=>h) HY.out.2.2.2.1,(m5.mv l1 (fun h=>h)).trans HY.out.2.2.2.2.2.1,(m5.mv l2 (fun h=>h)).trans HY.out.2.2.2.2.2.2,?_,?_⟩
   ·rintro rfl
    rcases m6 with ⟨h,_⟩ | ⟨h,_⟩
    ·have:=HD.out.2.1;rw [← h] at this;simp [same] at this
    ·omega
   ·rintro rfl
    rcases m6 with ⟨h,_⟩ | ⟨h,_⟩
    ·have:=HD.out.2.2;rw [← h] at this;simp [same] at this
    ·omega
  have hkar:=(m5.gk HY.out.2.2.2.2.1 (fun _ h=>h.elim)).kar
  clear m4 m5 m6
  unfold CAP at m2
  go_wp2_with fail
  refine (Q06 b cap' bx m cx by_ n cy (m+n) w1 (by omega) (by omega) (Nat.le_refl _) m3 (by unfold CAP;omega) hmc hnc H2.out.1 H2.out.2.1 H2.out.2.2.1 H2.out.2.2.2.2.2.1 H2.out.2.2.2.2.2.2).mono ?_
  rintro e w2 ⟨rfl,hR⟩
  have HR:=Lh hR;clear hR
  go_wp2_with (go_at_call 200;refine (QO b 0 cap' (m+n) (by unfold maxLen;omega) (by omega) w2 HR.out.1).mono ?_;rintro e w6 ⟨i,rfl,hw,hi⟩;subst hw;have HI:=Lh hi;clear hi)
  go_ret
  have h2:=HI.out
  refine HN.out _ _ _ (QY HM.out rfl (HR.out.2.2.mono (by omega) (by omega)) (Nt.mk m1 (by unfold CAP;omega) (by omega) (HR.out.2.2.row H2.out.1) (HR.out.1.mono h2.1) ?_ (fun h=>by have:=h2.2.2 h;rwa [Nat.zero_add] at this)))
  rw [h2.2.1,HR.out.2.1,H2.out.2.2.2.1,H2.out.2.2.2.2.1]
theorem Q7A (zp:Option Addr)(zl zc:Nat)(xp:Option Addr)(m cx x:Nat)(yp:Option Addr)(n cy y:Nat)(sp:Option Addr)(w:World)(hz:Buf w zp zl zc)(hm:m+n+5≤CAP)(hnm:n≤m)(hk:n<40)(hx:Nt w xp m cx x)(hy:Nt w yp n cy y)(hg:GK w) :
  Calls Tryz.prog 187 #[.slice zp zl zc,.pointer sp,.slice xp m cx,.slice yp n cy] w (NatRes w zp (x*y)):=by
 by_cases h2:1<n
 ·obtain ⟨b,rfl,h1,h2',h3,h4,h5,rfl,h7⟩:=hx.pos_form (by omega)
  obtain ⟨b',rfl,g1,g2,g3,g4,g5,rfl,g7⟩:=hy.pos_form (by omega)
  exact Q8R zp zl zc b m cx b' n cy sp w hz hm h2 hnm hk h3 g3 h2' g2 h4 g4 h5 g5 hg
 ·by_cases h1:n=1
  ·subst h1
   obtain ⟨b',rfl,g1,g2,g3,g4,g5,g6,g7⟩:=hy.pos_form (by omega)
   have hyv:=g5.get 0 (by omega)
   have hyl:=g5.lt 0 (by omega)
   rw [QX] at g6
   rw [Nat.add_zero,g6] at hyv hyl
   have HS:=Lh (Q1O zp zl zc xp m cx x y 0 w hz hx (by omega) hyl Qx)
   have hg1:((m:Int) == 0)=false:=by simp;omega
   have hxl:=hx.len_le
   clear hx hy hz hg g5 g6 g7 g4
   unfold CAP at hm hxl g2
   go_enter Tryz.func187, Tryz.ntmps187
   go_wp2_with (go_at_call 218;refine HS.out.mono ?_;rintro e w' ⟨p,len,cap,rfl,hR⟩;have HR:=Lh hR;clear hR)
   go_ret
   exact ⟨p,len,cap,rfl,HR.out⟩
  ·obtain rfl:n=0:=by omega
   have hy0:y=0:=hy.zero_iff.1 rfl
   subst hy0
   rw [Nat.mul_zero]
   have hzc:=Q0U hz
   have HR:=Lh (Q4z hz)
   have hxl:=hx.len_le
   clear hx hy hz hg
   unfold CAP at hzc hm hxl
   by_cases hm0:m=0
   ·subst hm0
    go_enter Tryz.func187, Tryz.ntmps187
    go_wp2
    go_ret
    exact HR.out
   ·have hg1:((m:Int) == 0)=false:=by simp;omega
    go_enter Tryz.func187, Tryz.ntmps187
    go_wp2
    go_ret
    exact HR.out
theorem Q5Y (zp:Option Addr)(zl zc:Nat)(xp:Option Addr)(m cx x:Nat)(yp:Option Addr)(n cy y:Nat)(sp:Option Addr)(w:World)(hz:Buf w zp zl zc)(hm:m+n+5≤CAP)(hk:m<40∨n<40)(hx:Nt w xp m cx x)(hy:Nt w yp n cy y)(hg:GK w) :
  Calls Tryz.prog 187 #[.slice zp zl zc,.pointer sp,.slice xp m cx,.slice yp n cy] w (NatRes w zp (x*y)):=by
 by_cases h:n≤m
 ·exact Q7A zp zl zc xp m cx x yp n cy y sp w hz hm h (by omega) hx hy hg
 ·have HS:=Lh (Q7A zp zl zc yp n cy y xp m cx x sp w hz (by omega) (by omega) (by omega) hy hx hg)
  have hlt:m<n:=by omega
  clear hx hy hz hg
  unfold CAP at hm
  go_enter Tryz.func187, Tryz.ntmps187
  go_wp2_with (go_at_call 187;refine HS.out.mono ?_;rintro e w' ⟨p,len,cap,rfl,hR⟩;have HR:=Lh hR;clear hR)
  go_ret
  exact ⟨p,len,cap,rfl,by rw [Nat.mul_comm];exact HR.out⟩
theorem Q8S (zp:Option Addr)(zl zc bx m cx:Nat)(sp:Option Addr)(w:World)(hz:Buf w zp zl zc)(hm:m+m+5≤CAP)(hn0:1<m)(hk:m<12)(hmc:m≤cx)(h1:cx≤CAP)
  (hRx:Row w bx cx 203) (hX:IsW w bx 0 m) (hg:GK w) :
  Calls Tryz.prog 186 #[.slice zp zl zc,.pointer sp,.slice (some ⟨bx,0,none⟩) m cx] w (NatRes w zp (MV w bx 0 m*MV w bx 0 m)):=by
 have HX:=Lh (And.intro hRx (And.intro hX hg));clear hRx hX hg
 have H1:=Lh hz;clear hz
 have hmm:=Lh hm
 have hbx:Hid (Buf w (some ⟨bx,0,none⟩) m cx):=⟨rfl,rfl,by omega,h1,hmc,HX.out.1⟩
 unfold CAP at hm
 clear h1
 have hg1:((m:Int) == 0)=false:=by simp;omega
 have hg2:((m:Int) == 1)=false:=by simp;omega
 go_enter Tryz.func186, Tryz.ntmps186
 go_wp2_with fail
 refine (QU zp zl zc (some ⟨bx,0,none⟩) m cx w H1.out hbx.out).mono ?_
 rintro e w1 ⟨rfl,q1,rfl⟩
 obtain ⟨s1,hs1⟩:∃ s1,s1=same zp (some ⟨bx,0,none⟩):=⟨_,rfl⟩
 rw [← hs1]
 have HS1:=Lh hs1;clear hs1
 cases s1
 ·go_wp2_with fail
  have HD:Hid (Buf (w.drewN q1) zp zl zc∧same zp (some ⟨bx,0,none⟩)=false):=⟨H1.out.drewN _,HS1.out.symm⟩
  have HY:Hid (Row (w.drewN q1) bx cx 203∧IsW (w.drewN q1) bx 0 m∧GK (w.drewN q1)∧MV (w.drewN q1) bx 0 m=MV w bx 0 m) :=
   ⟨HX.out.1,HX.out.2.1,HX.out.2.2.drewN _,Qy _ _ _ _ _⟩
  have HN:Hid (∀ x e w',NatRes (w.drewN q1) zp x e w'→NatRes w zp x e w'):=fun x e w' h=>NatRes.drewN _ h
  generalize w.drewN q1=w0 at HD HY HN
  rw [show (2:Int)*(m:Int)=((m+m:Nat):Int) by omega]
  refine (QP zp zl zc (m+m) (by omega) (by have:=hmm.out;omega) w0 HD.out.1).mono ?_
  rintro e w1 ⟨p',cap',rfl,hM⟩
  have HM:=Lh hM
  obtain ⟨b,rfl,m1,m2,m3,m4,m5,m6⟩:=hM
  have H2:Hid (Row w1 b cap' 203∧IsW w1 bx 0 m∧MV w1 bx 0 m=MV w bx 0 m∧bx≠b):=by
   have l1:=HY.out.1.lt
   refine ⟨m4,m5.isW l1 (fun h=>h) HY.out.2.1,(m5.mv l1 (fun h=>h)).trans HY.out.2.2.2,?_⟩
   rintro rfl
   rcases m6 with ⟨h,_⟩ | ⟨h,_⟩
   ·have:=HD.out.2;rw [← h] at this;simp [same] at this
   ·omega
  have hgk:=m5.gk HY.out.2.2.1 (fun _ h=>h.elim)
  have hb:=hgk.bsq
  have hc:=hgk.ksq
  have hd1:decide ((m:Int)<12)=true:=by simp;omega
  have hd2:decide ((m:Int)<80)=true:=by simp;omega
  clear m4 m5 m6 hgk
  unfold CAP at m2
  go_wp2_with fail
  refine (Q06 b cap' bx m cx bx m cx (m+m) w1 (by omega) (by omega) (Nat.le_refl _) m3 (by unfold CAP;omega) hmc hmc H2.out.1 H2.out.2.1 H2.out.2.1 H2.out.2.2.2 H2.out.2.2.2).mono ?_
  rintro e w2 ⟨rfl,hR⟩
  have HR:=Lh hR;clear hR
  go_wp2_with (go_at_call 200;refine (QO b 0 cap' (m+m) (by unfold maxLen;omega) (by omega) w2 HR.out.1).mono ?_;rintro e w6 ⟨i,rfl,hw,hi⟩;subst hw;have HI:=Lh hi;clear hi)
  go_ret
  have h2:=HI.out
  refine HN.out _ _ _ (QY HM.out rfl (HR.out.2.2.mono (by omega) (by omega)) (Nt.mk m1 (by unfold CAP;omega) (by omega) (HR.out.2.2.row H2.out.1) (HR.out.1.mono h2.1) ?_ (fun h=>by have:=h2.2.2 h;rwa [Nat.zero_add] at this)))
  rw [h2.2.1,HR.out.2.1,H2.out.2.2.1]
 ·go_wp2_with fail
  have HD:Hid (Buf (w.drewN q1) none 0 0∧same none (some ⟨bx,0,none⟩)=false):=⟨⟨rfl,rfl⟩,rfl⟩
  have HY:Hid (Row (w.drewN q1) bx cx 203∧IsW (w.drewN q1) bx 0 m∧GK (w.drewN q1)∧MV (w.drewN q1) bx 0 m=MV w bx 0 m) :=
   ⟨HX.out.1,HX.out.2.1,HX.out.2.2.drewN _,Qy _ _ _ _ _⟩
  have HN:Hid (∀ x e w',NatRes (w.drewN q1) none x e w'→NatRes w zp x e w'):=fun x e w' h=>NatRes.any <| NatRes.drewN _ h
  generalize w.drewN q1=w0 at HD HY HN
  rw [show (2:Int)*(m:Int)=((m+m:Nat):Int) by omega]
  refine (QP none 0 0 (m+m) (by omega) (by have:=hmm.out;omega) w0 HD.out.1).mono ?_
  rintro e w1 ⟨p',cap',rfl,hM⟩
  have HM:=Lh hM
  obtain ⟨b,rfl,m1,m2,m3,m4,m5,m6⟩:=hM
  have H2:Hid (Row w1 b cap' 203∧IsW w1 bx 0 m∧MV w1 bx 0 m=MV w bx 0 m∧bx≠b):=by
   have l1:=HY.out.1.lt
   refine ⟨m4,m5.isW l1 (fun h=>h) HY.out.2.1,(m5.mv l1 (fun h=>h)).trans HY.out.2.2.2,?_⟩
   rintro rfl
   rcases m6 with ⟨h,_⟩ | ⟨h,_⟩
   ·have:=HD.out.2;rw [← h] at this;simp [same] at this
   ·omega
  have hgk:=m5.gk HY.out.2.2.1 (fun _ h=>h.elim)
  have hb:=hgk.bsq
  have hc:=hgk.ksq
  have hd1:decide ((m:Int)<12)=true:=by simp;omega
  have hd2:decide ((m:Int)<80)=true:=by simp;omega
  clear m4 m5 m6 hgk
  unfold CAP at m2
  go_wp2_with fail
  refine (Q06 b cap' bx m cx bx m cx (m+m) w1 (by omega) (by omega) (Nat.le_refl _) m3 (by unfold CAP;omega) hmc hmc H2.out.1 H2.out.2.1 H2.out.2.1 H2.out.2.2.2 H2.out.2.2.2).mono ?_
  rintro e w2 ⟨rfl,hR⟩
  have HR:=Lh hR;clear hR
  go_wp2_with (go_at_call 200;refine (QO b 0 cap' (m+m) (by unfold maxLen;omega) (by omega) w2 HR.out.1).mono ?_;rintro e w6 ⟨i,rfl,hw,hi⟩;subst hw;have HI:=Lh hi;clear hi)
  go_ret
  have h2:=HI.out
  refine HN.out _ _ _ (QY HM.out rfl (HR.out.2.2.mono (by omega) (by omega)) (Nt.mk m1 (by unfold CAP;omega) (by omega) (HR.out.2.2.row H2.out.1) (HR.out.1.mono h2.1) ?_ (fun h=>by have:=h2.2.2 h;rwa [Nat.zero_add] at this)))
  rw [h2.2.1,HR.out.2.1,H2.out.2.2.1]
theorem Q0i:∀ (f x:Nat),x<2^f→x<2^Lib.bitLenAux f x∧(x≠0→2^(Lib.bitLenAux f x - 1)≤x∧0<Lib.bitLenAux f x)∧Lib.bitLenAux f x≤f
 | 0,x,h=>by simp [Lib.bitLenAux] at *;omega
 | f+1,x,h=>by
  by_cases h0:x=0
  ·subst h0;simp [Lib.bitLenAux]
  ·have hx:x / 2<2^f:=by rw [Nat.pow_succ] at h;omega
   obtain ⟨h1,h2,h3⟩:=Q0i f (x / 2) hx
   simp only [Lib.bitLenAux,h0,if_false]
   refine ⟨by rw [Nat.add_comm,Nat.pow_succ];omega,fun _=>⟨?_,by omega⟩,by omega⟩
   by_cases h4:x / 2=0
   ·have:x=1:=by omega
    subst this
    have:Lib.bitLenAux f (1 / 2)=0:=by cases f <;> simp [Lib.bitLenAux]
    rw [this];simp
   ·obtain ⟨h5,h6⟩:=h2 h4
    rw [show 1+Lib.bitLenAux f (x / 2) - 1=Lib.bitLenAux f (x / 2) - 1+1 by omega,Nat.pow_succ]
    omega
theorem Q0v {x:Nat}(h:x<BB):x<2^Lib.bitLen x:=(Q0i 64 x h).1
theorem Q0M {x:Nat}(h:x<BB)(h0:x≠0):2^(Lib.bitLen x - 1)≤x:=((Q0i 64 x h).2.1 h0).1
theorem Q1z {x:Nat}(h:x<BB)(h0:x≠0):0<Lib.bitLen x:=((Q0i 64 x h).2.1 h0).2
theorem Q0N {x:Nat}(h:x<BB):Lib.bitLen x≤64:=(Q0i 64 x h).2.2
theorem Q5Z (x:Nat)(hx:x<BB)(w:World) :
  Calls Tryz.prog 228 #[.int .u64 x] w fun e w'=>e=.returned (.int .u64 ((64 - Lib.bitLen x:Nat):Int))∧w'=w:=by
 have hl:=Q0N hx
 have HS:=Lh (Tryz.bits_LeadingZeros (x:Int) w (by omega) (by unfold BB at hx;omega))
 have HE:Hid (IntKind.u64.wrap (64 - (Lib.bitLen x:Int))=((64 - Lib.bitLen x:Nat):Int)):=by
  show _=_
  rw [Qf (by omega) (by unfold BB;omega)];omega
 go_enter Tryz.func228, Tryz.ntmps228
 go_wp2_with (go_at_call 263;refine HS.out.mono ?_;rintro e w' ⟨rfl,hw⟩;subst w')
 go_ret
 exact ⟨Q1I (by omega),rfl⟩
def expV (y d:Nat):Nat:=y % 2^d*2^(64 - d)
theorem Q2A (y d:Nat)(h:d≤64):expV y d<BB:=by
 unfold expV
 have h1:y % 2^d<2^d:=Nat.mod_lt _ (Nat.two_pow_pos d)
 have h2:y % 2^d*2^(64 - d)<2^d*2^(64 - d):=Nat.mul_lt_mul_of_pos_right h1 (Nat.two_pow_pos _)
 rw [← Nat.pow_add,show d+(64 - d)=64 by omega] at h2
 exact h2
theorem Q1P (y d:Nat):y % 2^(d+1)=y / 2^d % 2*2^d+y % 2^d:=by
 rw [Nat.pow_succ,Nat.mod_mul,Nat.mul_comm (2^d),Nat.add_comm]
theorem Q6x (y d:Nat)(h:d<64):expV y (d+1)*2 % BB=expV y d:=by
 unfold expV
 rw [Q1P,show 64 - d=(64 - (d+1))+1 by omega,Nat.pow_succ]
 have e:(y / 2^d % 2*2^d+y % 2^d)*2^(64 - (d+1))*2=y / 2^d % 2*BB+y % 2^d*(2^(64 - (d+1))*2):=by
  have hb:BB=2^d*(2^(64 - (d+1))*2):=by
   rw [← Nat.pow_succ,← Nat.pow_add,show d+(64 - (d+1)+1)=64 by omega];rfl
  rw [hb,Nat.add_mul,Nat.add_mul]
  simp only [Nat.mul_assoc]
 rw [e,Nat.mul_comm _ BB,Nat.mul_add_mod,Nat.mod_eq_of_lt]
 have:=Q2A y d (by omega)
 unfold expV at this
 rwa [show 64 - d=(64 - (d+1))+1 by omega,Nat.pow_succ] at this
theorem Q4C (y d:Nat)(h:d<64):9223372036854775808≤expV y (d+1) ↔ y / 2^d % 2=1:=by
 unfold expV
 rw [Q1P]
 have hb:(9223372036854775808:Nat)=2^d*2^(64 - (d+1)):=by rw [← Nat.pow_add,show d+(64 - (d+1))=63 by omega]
 have h1:y % 2^d<2^d:=Nat.mod_lt _ (Nat.two_pow_pos d)
 have h2:y % 2^d*2^(64 - (d+1))<2^d*2^(64 - (d+1)):=Nat.mul_lt_mul_of_pos_right h1 (Nat.two_pow_pos _)
 rw [hb,Nat.add_mul,Nat.mul_assoc]
 have h3:y / 2^d % 2=0∨y / 2^d % 2=1:=by omega
 rcases h3 with h3 | h3 <;> rw [h3] <;> constructor <;> intro h4 <;> omega
theorem Q1Q (y d:Nat):y / 2^d=2*(y / 2^(d+1))+y / 2^d % 2:=by
 rw [Nat.pow_succ,← Nat.div_div_eq_div_mul];omega
theorem Q60 (v:Nat)(hv:v<BB):bits .and .u64 (v:Int) 9223372036854775808=if 9223372036854775808≤v then 9223372036854775808 else 0:=by
 rw [show (9223372036854775808:Int)=((9223372036854775808:Nat):Int) from rfl,u64_and_nat v _ hv (by omega)]
 have h1:v &&& 9223372036854775808=if 9223372036854775808≤v then 9223372036854775808 else 0:=by
  have ht:v.testBit 63=decide (9223372036854775808≤v):=by
   rw [Nat.testBit_eq_decide_div_mod_eq]
   unfold BB at hv
   by_cases h:9223372036854775808≤v
   ·have:v / 2^63=1:=by omega
    simp [this,h]
   ·have:v / 2^63=0:=by omega
    simp [this,h]
  apply Nat.eq_of_testBit_eq
  intro i
  rw [Nat.testBit_and,show (9223372036854775808:Nat)=2^63 from rfl,Nat.testBit_two_pow]
  by_cases hi:63=i
  ·subst hi
   rw [ht]
   by_cases h:9223372036854775808≤v
   ·rw [if_pos h,Nat.testBit_two_pow];simp [h]
   ·rw [if_neg h];simp [h]
  ·by_cases h:2^63≤v
   ·rw [if_pos h,Nat.testBit_two_pow];simp [hi]
   ·rw [if_neg h];simp [hi]
 rw [h1]
 split <;> rfl
theorem Q8T (zp:Option Addr)(zl zc:Nat)(xp:Option Addr)(m cx x:Nat)(sp:Option Addr)(w:World)(hz:Buf w zp zl zc)(hk:m<12)(hx:Nt w xp m cx x)(hg:GK w)(h0:1<m) :
  Calls Tryz.prog 186 #[.slice zp zl zc,.pointer sp,.slice xp m cx] w (NatRes w zp (x*x)):=by
 obtain ⟨b,rfl,h1,h2,h3,h4,h5,rfl,h7⟩:=hx.pos_form (by omega)
 exact Q8S zp zl zc b m cx sp w hz (by unfold CAP;omega) h0 hk h3 h2 h4 h5 hg
theorem Q8U (zp:Option Addr)(zl zc bx cx x:Nat)(sp:Option Addr)(w:World)(hz:Buf w zp zl zc)(hx:w.cell? ⟨bx,0,none⟩=some (.int .u64 (x:Int)))(hxl:x<BB) :
  Calls Tryz.prog 186 #[.slice zp zl zc,.pointer sp,.slice (some ⟨bx,0,none⟩) 1 cx] w (NatRes w zp (x*x)):=by
 have H1:=Lh hz;clear hz
 go_enter Tryz.func186, Tryz.ntmps186
 go_wp2_with fail
 refine (QP zp zl zc 2 (by omega) (by unfold CAP;omega) w H1.out).mono ?_
 rintro e w1 ⟨p',cap',rfl,hM⟩
 have HM:=Lh hM
 obtain ⟨b,rfl,m1,m2,m3,m4,m5,m6⟩:=hM
 obtain ⟨v0,hv0⟩:=m4.cell 0 (by omega)
 obtain ⟨v1,hv1⟩:=m4.cell 1 (by omega)
 have hf0:=m4.free 0
 have hf1:=m4.free 1
 have H4:=Lh m4
 clear m4 m5 m6
 unfold CAP at m2
 go_wp2_with fail
 refine (Q9D x x hxl hxl w1).mono ?_
 rintro e w2 ⟨rfl,hw⟩
 subst w2
 go_wp2_with fail
 have HS:Hid (IsW ((w1.setCell ⟨b,1,none⟩ (.int .u64 (mulh x x:Nat))).setCell ⟨b,0,none⟩ (.int .u64 (mull x x:Nat))) b 0 2 ∧
   MV ((w1.setCell ⟨b,1,none⟩ (.int .u64 (mulh x x:Nat))).setCell ⟨b,0,none⟩ (.int .u64 (mull x x:Nat))) b 0 2=x*x ∧
   Chg b 0 2 w1 ((w1.setCell ⟨b,1,none⟩ (.int .u64 (mulh x x:Nat))).setCell ⟨b,0,none⟩ (.int .u64 (mull x x:Nat)))):=by
  have s1:=World.cell?_setCell_same w1 ⟨b,1,none⟩ (.int .u64 (mulh x x:Nat)) hv1
  have c1:=Chg.set w1 b 1 (.int .u64 (mulh x x:Nat))
  have hv0':(w1.setCell ⟨b,1,none⟩ (.int .u64 (mulh x x:Nat))).cell? ⟨b,0,none⟩=some v0:=(c1.cell 0 (by omega)).trans hv0
  have s2:=World.cell?_setCell_same _ ⟨b,0,none⟩ (.int .u64 (mull x x:Nat)) hv0'
  have c2:=Chg.set (w1.setCell ⟨b,1,none⟩ (.int .u64 (mulh x x:Nat))) b 0 (.int .u64 (mull x x:Nat))
  have s3:=(c2.cell 1 (by omega)).trans s1
  refine ⟨?_,?_,(c1.mono (by omega) (by omega)).trans (c2.mono (by omega) (by omega))⟩
  ·intro i hi
   have:i=0∨i=1:=by omega
   rcases this with rfl | rfl
   ·rw [Nat.add_zero,Q0h s2];exact ⟨s2,Q2r _ _⟩
   ·rw [show 0+1=1 from rfl,Q0h s3];exact ⟨s3,by have:=Q3R hxl hxl;omega⟩
  ·simp only [MV]
   rw [Nat.add_zero,show 0+1=1 from rfl,Q0h s2,Q0h s3]
   have:=Q59 x x
   simp;omega
 generalize (w1.setCell ⟨b,1,none⟩ (.int .u64 (mulh x x:Nat))).setCell ⟨b,0,none⟩ (.int .u64 (mull x x:Nat))=w3 at HS
 clear hv0 hv1 hf0 hf1
 go_wp2_with (go_at_call 200;refine (QO b 0 cap' 2 (by unfold maxLen;omega) (by omega) w3 HS.out.1).mono ?_;rintro e w6 ⟨i,rfl,hw,hi⟩;subst hw;have HI:=Lh hi;clear hi)
 go_ret
 have h2:=HI.out
 refine QY HM.out rfl (HS.out.2.2.mono (by omega) (by omega)) (Nt.mk m1 (by unfold CAP;omega) (by omega) (HS.out.2.2.row H4.out) (HS.out.1.mono h2.1) ?_ (fun h=>by have:=h2.2.2 h;rwa [Nat.zero_add] at this))
 rw [h2.2.1,HS.out.2.1]
theorem Q61 (zp:Option Addr)(zl zc:Nat)(xp:Option Addr)(m cx x:Nat)(sp:Option Addr)(w:World)(hz:Buf w zp zl zc)(hk:m<12)(hx:Nt w xp m cx x)(hg:GK w)(h0:0<m) :
  Calls Tryz.prog 186 #[.slice zp zl zc,.pointer sp,.slice xp m cx] w (NatRes w zp (x*x)):=by
 by_cases h1:1<m
 ·exact Q8T zp zl zc xp m cx x sp w hz hk hx hg h1
 ·obtain rfl:m=1:=by omega
  obtain ⟨b,rfl,h1,h2,h3,h4,h5,h6,h7⟩:=hx.pos_form (by omega)
  rw [QX] at h6
  have hc:=h5.get 0 (by omega)
  have hl:=h5.lt 0 (by omega)
  rw [Nat.add_zero,h6] at hc hl
  exact Q8U zp zl zc b cx x sp w hz hc hl
theorem Q3i (b:Nat)(u:FrameMode)(w:World)(hc:w.cell? ⟨b,0,none⟩=some (.pointer none)) :
  CallsD Tryz.prog 193 #[.pointer (some ⟨b,0,none⟩)] u w fun e u' w'=>u'=u∧(e=.returned (.tuple #[])∧w'=w):=by
 go_enter_d Tryz.func193,Tryz.ntmps193
 go_wp2
 go_end0
 exact ⟨rfl,rfl⟩
theorem Q8V (p:Option Addr)(l c x:Nat)(w:World)(h:Nt w p l c x) :
  Calls Tryz.prog 200 #[.slice p l c] w fun e w'=>∃ i,e=.returned (.slice p i c)∧w'=w∧Nt w p i c x:=by
 rcases h.cases with ⟨rfl,rfl,rfl,rfl⟩ | ⟨b,rfl,h1,h2,h3,h4,h5,h6,h7⟩
 ·exact (Q7v w).mono fun e w' ⟨he,hw⟩=>⟨0,he,hw,h⟩
 ·refine (QO b 0 c l (by unfold maxLen;unfold CAP at h2;omega) h3 w h5).mono fun e w' ⟨i,he,hw,hi⟩=>⟨i,he,hw,Nt.mk h1 h2 (by omega) h4 (h5.mono hi.1) (hi.2.1.trans h6) (fun h=>by have:=hi.2.2 h;rwa [Nat.zero_add] at this)⟩
def blkOf (p:Option Addr):Nat→Prop:=fun k=>∃ a,p=some a∧a.block=k
def Loc (w:World)(zp p:Option Addr):Prop:=p=zp∨(∃ b,p=some ⟨b,0,none⟩∧w.heap.size≤b)∨p=none
structure EI (w0:World) (zp:Option Addr) (sb:Nat) (p:Option Addr) (l c val:Nat) (q:Option Addr) (l' c':Nat) (wr:World):Prop where
 n:Nt wr p l c val
 b:Buf wr q l' c'
 lp:Loc w0 zp p
 lq:Loc w0 zp q
 ne:same p q=false
 fr:Fr (blkOf zp) w0 wr
 sr:Row wr sb 1 241
 sc:wr.cell? ⟨sb,0,none⟩=some (.pointer none)
theorem Q6y (p q:Option Addr):same p q=same q p:=by
 cases p <;> cases q <;> simp [same,eq_comm]
theorem Buf.ne_stack {w:World}{p:Option Addr}{l c sb:Nat}(h:Buf w p l c)(hs:Row w sb 1 241):¬ blkOf p sb:=by
 rintro ⟨a,rfl,rfl⟩
 have h1:=h.2.2.2.2.2
 unfold Row at h1 hs
 rw [h1] at hs
 simp at hs
theorem Q0O {w:World}{b c x:Nat}(h:Nt w (some ⟨b,0,none⟩) 1 c x):w.cell? ⟨b,0,none⟩=some (.int .u64 (x:Int)):=by
 have h1:=h.2.1.get 0 (by omega)
 have h2:=h.2.2.1
 simp only [QX,Nat.add_zero] at h1 h2
 rw [← h2];exact h1
theorem EI.step {w0:World}{zp:Option Addr}{sb:Nat}{p:Option Addr}{l c val:Nat}{q:Option Addr}{l' c':Nat}{wr:World}(h:EI w0 zp sb p l c val q l' c' wr){v':Nat}{e:Ending}{w':World}(hR:NatRes wr q v' e w') :
  ∃ p2 l2 c2,e=.returned (.slice p2 l2 c2)∧EI w0 zp sb p2 l2 c2 v' p l c w':=by
 obtain ⟨p2,l2,c2,he,hn,hp,hf⟩:=hR
 refine ⟨p2,l2,c2,he,hn,?_,?_,h.lp,?_,?_,hf.row h.sr,?_⟩
 ·exact hf.buf h.n.1
 ·rcases hp with rfl | ⟨b,rfl,hb⟩ | rfl
  ·exact h.lq
  ·exact .inr (.inl ⟨b,rfl,by have:=h.fr.size;omega⟩)
  ·exact .inr (.inr rfl)
 ·rcases hp with rfl | ⟨b,rfl,hb⟩ | rfl
  ·rw [Q6y];exact h.ne
  ·rcases h.n.cases with ⟨rfl,_⟩ | ⟨b',rfl,_,_,_,h4,_⟩
   ·rfl
   ·have:=h4.lt
    simp [same];omega
  ·rfl
 ·refine h.fr.trans' hf (fun i hi ⟨a,ha,hb⟩=>?_)
  rcases h.lq with h1 | ⟨b,h1,h2⟩ | h1
  ·exact ⟨a,h1 ▸ ha,hb⟩
  ·rw [h1] at ha;cases ha;simp at hb;omega
  ·rw [h1] at ha;cases ha
 ·rw [hf.cell h.sr.lt (h.b.ne_stack h.sr)];exact h.sc
theorem Fr.nt_of {S:Nat→Prop}{w w':World}(h:Fr S w w'){p:Option Addr}{l c x:Nat}(hn:Nt w p l c x)(hS:∀ k,S k→same p (some ⟨k,0,none⟩)=false):Nt w' p l c x :=
 h.nt hn (fun a ha hs=>by have:=hS _ hs;subst ha;simp [same] at this)
theorem Q7B {X a b:Nat}(h:2*a≤b)(hX:0<X){n:Nat}(hb:X^b<BB^(2*n)):X^a<BB^n:=by
 rcases Nat.lt_or_ge (X^a) (BB^n) with h1 | h1
 ·exact h1
 ·have h2:BB^n*BB^n≤X^a*X^a:=Nat.mul_le_mul h1 h1
  rw [← Nat.pow_add,← Nat.pow_add] at h2
  have h3:X^(a+a)≤X^b:=Nat.pow_le_pow_right hX (by omega)
  rw [show 2*n=n+n by omega] at hb
  omega
theorem Q0V (w:World):Calls Tryz.prog 192 #[] w fun e w'=>e=.returned (.pointer (some ⟨w.heap.size,0,none⟩))∧w'=w.alloc (.cells #[.pointer none] 241):=by
 go_enter Tryz.func192, Tryz.ntmps192
 go_wp2
 go_ret
 exact ⟨rfl,rfl⟩
theorem Q6z (zp:Option Addr)(zl zc bx cx X by_ cy Y:Nat)(slow:Bool)(w:World)(hz:Buf w zp zl zc)(hX:2≤X)(hXB:X<BB)(hY:2≤Y)(hYB:Y<BB)(hsz:X^Y<BB^22)(hx:Nt w (some ⟨bx,0,none⟩) 1 cx X)(hy:Nt w (some ⟨by_,0,none⟩) 1 cy Y)(hg:GK w)(hB:∀ k,blkOf zp k→12≤k)(ha1:same zp (some ⟨bx,0,none⟩)=false)(ha2:same zp (some ⟨by_,0,none⟩)=false) :
  Calls Tryz.prog 259 #[.slice zp zl zc,.pointer none,.slice (some ⟨bx,0,none⟩) 1 cx,.slice (some ⟨by_,0,none⟩) 1 cy,.slice none 0 0,.bool slow] w (NatRes w zp (X^Y)):=by
 have hxc:w.cell? ⟨bx,0,none⟩=some (.int .u64 (X:Int)):=by
  have h1:=hx.2.1.get 0 (by omega)
  have h2:=hx.2.2.1
  simp only [QX,Nat.add_zero] at h1 h2
  rw [← h2];exact h1
 have hyc:w.cell? ⟨by_,0,none⟩=some (.int .u64 (Y:Int)):=by
  have h1:=hy.2.1.get 0 (by omega)
  have h2:=hy.2.2.1
  simp only [QX,Nat.add_zero] at h1 h2
  rw [← h2];exact h1
 have HX:=Lh (And.intro hx (And.intro hy (And.intro hg hB)));clear hx hy hg hB
 have H1:=Lh hz;clear hz
 have HS:=Lh hsz;clear hsz
 have hx1:((X:Int) == 1)=false:=by simp;omega
 have hy1:((Y:Int) == 1)=false:=by simp;omega
 go_enter_defers Tryz.func259,Tryz.ntmps259
 go_wp2_with fail
 refine (QU zp zl zc (some ⟨bx,0,none⟩) 1 cx w H1.out HX.out.1.1).mono ?_
 rintro e w1 ⟨rfl,q1,rfl⟩
 rw [ha1]
 go_wp2_with fail
 refine (QU zp zl zc (some ⟨by_,0,none⟩) 1 cy (w.drewN q1) H1.out HX.out.2.1.1).mono ?_
 rintro e w1 ⟨rfl,q2,rfl⟩
 rw [ha2]
 have HS1:=Lh (And.intro ha1 ha2);clear ha1 ha2
 ·go_wp2_with fail
  have HD:Hid (Buf (w.drewN (q1+q2)) zp zl zc∧same zp (some ⟨bx,0,none⟩)=false∧same zp (some ⟨by_,0,none⟩)=false):=⟨H1.out.drewN _,HS1.out.1,HS1.out.2⟩
  have HY:Hid (Nt (w.drewN (q1+q2)) (some ⟨bx,0,none⟩) 1 cx X∧Nt (w.drewN (q1+q2)) (some ⟨by_,0,none⟩) 1 cy Y∧GK (w.drewN (q1+q2))∧(∀ k,blkOf zp k→12≤k)∧(w.drewN (q1+q2)).cell? ⟨by_,0,none⟩=some (.int .u64 (Y:Int))) :=
   ⟨HX.out.1.drewN _,HX.out.2.1.drewN _,HX.out.2.2.1.drewN _,HX.out.2.2.2,hyc⟩
  have HN:Hid (∀ x e w',NatRes (w.drewN (q1+q2)) zp x e w'→NatRes w zp x e w'):=fun x e w' h=>NatRes.drewN _ h
  clear hxc hyc
  generalize w.drewN (q1+q2)=w0 at HD HY HN
  refine (Q0V w0).mono ?_
  rintro e w1 ⟨rfl,hw1⟩
  have HA:Hid (Fr (blkOf zp) w0 w1∧Row w1 w0.heap.size 1 241∧w1.cell? ⟨w0.heap.size,0,none⟩=some (.pointer none)):=by
   subst hw1
   refine ⟨Fr.alloc _ _ _,?_,by simp⟩
   have:(w0.alloc (.cells #[.pointer none] 241)).heap[w0.heap.size]?=some (.cells #[.pointer none] 241 (0,0)):=by show (w0.heap.push _)[w0.heap.size]?=_;simp
   exact Row.of_block this
  clear hw1
  have hx1:Nt w1 (some ⟨bx,0,none⟩) 1 cx X:=HA.out.1.nt_of HY.out.1 (fun k ⟨a,ha,hb⟩=>by have:=HD.out.2.1;rw [ha] at this;subst hb;simpa [same,eq_comm] using this)
  have hy1:Nt w1 (some ⟨by_,0,none⟩) 1 cy Y:=HA.out.1.nt_of HY.out.2.1 (fun k ⟨a,ha,hb⟩=>by have:=HD.out.2.2;rw [ha] at this;subst hb;simpa [same,eq_comm] using this)
  have hyc:=Q0O hy1
  have HX1:=Lh hx1;clear hx1
  have HY1:=Lh hy1;clear hy1
  go_wp2_with fail
  refine (Q0T zp zl zc (some ⟨bx,0,none⟩) 1 cx X w1 (HA.out.1.buf HD.out.1) HX1.out (by unfold CAP;omega)).mono ?_
  rintro e w2 ⟨p2,l2,c2,rfl,hN2,hp2,hF2⟩
  have HE:Hid (Fr (blkOf zp) w1 w2∧EI w0 zp w0.heap.size p2 l2 c2 X none 0 0 w2∧Nt w2 (some ⟨bx,0,none⟩) 1 cx X∧Nt w2 (some ⟨by_,0,none⟩) 1 cy Y):=by
   have hsz:w0.heap.size<w1.heap.size:=HA.out.2.1.lt
   refine ⟨hF2,⟨hN2,⟨rfl,rfl⟩,?_,.inr (.inr rfl),?_,HA.out.1.trans hF2,hF2.row HA.out.2.1,?_⟩,hF2.nt_of HX1.out ?_,hF2.nt_of HY1.out ?_⟩
   ·rcases hp2 with h | ⟨b,h,hb⟩ | h
    ·exact .inl h
    ·exact .inr (.inl ⟨b,h,by omega⟩)
    ·exact .inr (.inr h)
   ·cases p2 <;> rfl
   ·rw [hF2.cell hsz ((HA.out.1.buf HD.out.1).ne_stack HA.out.2.1)];exact HA.out.2.2
   ·rintro k ⟨a,ha,hb⟩;have:=HD.out.2.1;rw [ha] at this;subst hb;simpa [same,eq_comm] using this
   ·rintro k ⟨a,ha,hb⟩;have:=HD.out.2.2;rw [ha] at this;subst hb;simpa [same,eq_comm] using this
  clear hN2 hp2 hF2 hyc
  have hyc:=Q0O HE.out.2.2.2
  obtain ⟨t,ht⟩:∃ t,t=64 - Lib.bitLen Y:=⟨_,rfl⟩
  have ht2:t≤62:=by
   have h1:=Q0v hYB
   rcases Nat.lt_or_ge 1 (Lib.bitLen Y) with h | h
   ·omega
   ·have h2:(2:Nat)^Lib.bitLen Y≤2^1:=Nat.pow_le_pow_right (by omega) h
    omega
  have HT:Hid (Y<2^(64 - t)∧2^(63 - t)≤Y):=by
   have h1:=Q0v hYB
   have h2:=Q0M hYB (by omega)
   have h3:=Q0N hYB
   rw [show 64 - t=Lib.bitLen Y by omega,show 63 - t=Lib.bitLen Y - 1 by omega]
   exact ⟨h1,h2⟩
  have HT0:=Lh ht;clear ht
  have hm:min (t+1) 64=t+1:=by omega
  have hsl:=fun x=>Q0S x (t+1)
  have hsv:shlW Y (t+1)=expV Y (63 - t):=by
   have h1:=HT.out
   unfold shlW expV
   have h2:Y=1*2^(63 - t)+Y % 2^(63 - t):=by
    have h3:Y / 2^(63 - t)=1:=by
     rw [show 64 - t=63 - t+1 by omega,Nat.pow_succ] at h1
     refine Nat.le_antisymm ?_ ((Nat.le_div_iff_mul_le (Nat.two_pow_pos _)).2 (by omega))
     exact Nat.lt_succ_iff.1 ((Nat.div_lt_iff_lt_mul (Nat.two_pow_pos _)).2 (by omega))
    have:=Nat.div_add_mod Y (2^(63 - t))
    rw [h3] at this
    omega
   rw [show 64 - (63 - t)=t+1 by omega]
   have hb:BB=2^(63 - t)*2^(t+1):=by rw [← Nat.pow_add,show 63 - t+(t+1)=64 by omega];rfl
   have h4:Y*2^(t+1)=BB*1+Y % 2^(63 - t)*2^(t+1):=by
    rw [hb,Nat.mul_one,← Nat.add_mul];congr 1;omega
   rw [h4,Nat.mul_add_mod,Nat.mod_eq_of_lt]
   rw [hb]
   exact Nat.mul_lt_mul_of_pos_right (Nat.mod_lt _ (Nat.two_pow_pos _)) (Nat.two_pow_pos _)
  have hcv:IntKind.i64.wrap ((t:Int)+1)=(t:Int)+1:=IntWalk.i64_in _ (by omega)
  have hcv2:IntKind.u64.wrap ((t:Int)+1)=(t:Int)+1:=Qf (by omega) (by unfold BB;omega)
  have hcv3:IntKind.i64.wrap (64 - ((t:Int)+1))=((63 - t:Nat):Int):=by rw [IntWalk.i64_in _ (by omega)];omega
  go_wp2_with (go_at_call 228;refine (Q5Z Y hYB w2).mono ?_;rw [← HT0.out];rintro e w3 ⟨rfl,hw⟩;subst w3)
  clear hyc
  go_loopw [0,15,19,21] (fun z v zz j wr=>∃ (d:Nat) (p:Option Addr) (l c:Nat) (q:Option Addr) (l' c':Nat),d≤63 - t∧j=.int .i64 ((63 - t - d:Nat):Int)∧v=.int .u64 (expV Y d:Nat)∧z=.slice p l c∧zz=.slice q l' c'∧EI w0 zp w0.heap.size p l c (X^(Y / 2^d)) q l' c' wr) (fun _ _ _ j _=>63 - t - (intOf j).toNat)
  case atStart =>
   refine ⟨63 - t,p2,l2,c2,none,0,0,Nat.le_refl _,by rw [Nat.sub_self];rfl,rfl,rfl,rfl,?_⟩
   have:Y / 2^(63 - t)=1:=by
    have h1:=HT.out.1
    have h2:=HT.out.2
    rw [show 64 - t=63 - t+1 by omega,Nat.pow_succ] at h1
    refine Nat.le_antisymm ?_ ((Nat.le_div_iff_mul_le (Nat.two_pow_pos _)).2 (by omega))
    exact Nat.lt_succ_iff.1 ((Nat.div_lt_iff_lt_mul (Nat.two_pow_pos _)).2 (by omega))
   rw [this,Nat.pow_one]
   exact HE.out.2.1
  case round =>
   obtain ⟨d,p,l,c,q,l',c',hd,rfl,rfl,rfl,rfl,hI⟩:=hrel
   have HI:=Lh hI;clear hI
   by_cases hd0:0<d
   ·obtain ⟨d',rfl⟩:∃ d',d=d'+1:=⟨d - 1,by omega⟩
    have hle:2*(Y / 2^(d'+1))≤Y:=by
     have h1:=Q1Q Y d'
     have h2:Y / 2^d'≤Y:=Nat.div_le_self _ _
     omega
    have hval:=Q7B hle (by omega) (n:=11) HS.out
    have hlen:=HI.out.n.len_of_lt hval
    have hpos:0<l:=by
     rcases Nat.eq_zero_or_pos l with h | h
     ·have:=HI.out.n.zero_iff.1 h
      have:0<X^(Y / 2^(d'+1)):=Nat.pow_pos (by omega)
      omega
     ·exact h
    have HV:=Lh (And.intro hlen hpos);clear hval hlen hpos hle
    have hv2:IntKind.u64.wrap (((expV Y (d'+1):Nat):Int)*2)=((expV Y d':Nat):Int):=by
     have h1:=Q6x Y d' (by omega)
     have h2:=Q2A Y (d'+1) (by omega)
     have:∀ n:Int,IntKind.u64.wrap n=n % 18446744073709551616:=fun _=>rfl
     rw [this,← h1]
     unfold BB
     simp
    have hj:IntKind.i64.wrap (((63 - t - (d'+1):Nat):Int)+1)=((63 - t - d':Nat):Int):=by rw [IntWalk.i64_in _ (by omega)];omega
    have hgk:=HI.out.fr.gk HY.out.2.2.1 HY.out.2.2.2.1
    have HG:=Lh hgk;clear hgk
    have hlt:((63 - t - (d'+1):Nat):Int)<((63 - t:Nat):Int):=by omega
    by_cases hbit:Y / 2^d' % 2=1
    ·have htop:bits .and .u64 ((expV Y (d'+1):Nat):Int) 9223372036854775808=9223372036854775808:=by
      rw [Q60 _ (Q2A _ _ (by omega)),if_pos ((Q4C Y d' (by omega)).2 hbit)]
     have HB:=Lh hbit;clear hbit
     go_wp2_with fail
     refine (Q61 q l' c' p l c _ (some ⟨w0.heap.size,0,none⟩) wr HI.out.b (by have:=HV.out.1;omega) HI.out.n HG.out HV.out.2).mono ?_
     rintro e w4 hR
     obtain ⟨p3,l3,c3,rfl,hE3⟩:=HI.out.step hR
     have HE3:=Lh hE3;clear hE3 hR
     go_wp2_with fail
     have hx4:Nt w4 (some ⟨bx,0,none⟩) 1 cx X:=HE3.out.fr.nt_of HY.out.1 (fun k ⟨a,ha,hb⟩=>by have:=HD.out.2.1;rw [ha] at this;subst hb;simpa [same,eq_comm] using this)
     have hg4:=HE3.out.fr.gk HY.out.2.2.1 HY.out.2.2.2.1
     have hl3:l3≤22:=HE3.out.n.len_of_lt (by
      have h1:=Q7B (X:=X) (a:=Y / 2^(d'+1)) (b:=Y) (by have h1:=Q1Q Y d';have h2:Y / 2^d'≤Y:=Nat.div_le_self _ _;omega) (by omega) (n:=11) HS.out
      have h2:BB^22=BB^11*BB^11:=by rw [← Nat.pow_add]
      rw [h2]
      exact Nat.mul_lt_mul_of_lt_of_lt h1 h1)
     have HX4:=Lh (And.intro hx4 (And.intro hg4 hl3));clear hx4 hg4 hl3
     refine (Q5Y p l c p3 l3 c3 _ (some ⟨bx,0,none⟩) 1 cx X (some ⟨w0.heap.size,0,none⟩) w4 HE3.out.b (by have:=HX4.out.2.2;unfold CAP;omega) (.inr (by omega)) HE3.out.n HX4.out.1 HX4.out.2.1).mono ?_
     rintro e w5 hR
     obtain ⟨p4,l4,c4,rfl,hE4⟩:=HE3.out.step hR
     have HE4:=Lh hE4;clear hE4 hR
     go_wp2
     go_roundw
     case rel =>
      refine ⟨d',p4,l4,c4,p3,l3,c3,by omega,rfl,rfl,rfl,rfl,?_⟩
      have h1:=Q1Q Y d'
      have h2:=HB.out
      have e:X^(Y / 2^(d'+1))*X^(Y / 2^(d'+1))*X=X^(Y / 2^d'):=by
       rw [← Nat.pow_add,← Nat.pow_succ];congr 1;omega
      rw [← e]
      exact HE4.out
     case measure=>simp [intOf];omega
    ·have htop:bits .and .u64 ((expV Y (d'+1):Nat):Int) 9223372036854775808=0:=by
      rw [Q60 _ (Q2A _ _ (by omega)),if_neg (fun h=>hbit ((Q4C Y d' (by omega)).1 h))]
     have HB:=Lh hbit;clear hbit
     go_wp2_with fail
     refine (Q61 q l' c' p l c _ (some ⟨w0.heap.size,0,none⟩) wr HI.out.b (by have:=HV.out.1;omega) HI.out.n HG.out HV.out.2).mono ?_
     rintro e w4 hR
     obtain ⟨p3,l3,c3,rfl,hE3⟩:=HI.out.step hR
     have HE3:=Lh hE3;clear hE3 hR
     go_wp2
     go_roundw
     case rel =>
      refine ⟨d',p3,l3,c3,p,l,c,by omega,rfl,rfl,rfl,rfl,?_⟩
      have h1:=Q1Q Y d'
      have h2:=HB.out
      have e:X^(Y / 2^(d'+1))*X^(Y / 2^(d'+1))=X^(Y / 2^d'):=by
       rw [← Nat.pow_add];congr 1;omega
      rw [← e]
      exact HE3.out
     case measure=>simp [intOf];omega
   ·obtain rfl:d=0:=by omega
    go_wp2
    go_loop [0,22] (fun z i=>z=.slice p l c∧i=.int .i64 (-1)) (fun _ _=>0)
    case atStart=>exact ⟨rfl,rfl⟩
    case round =>
     obtain ⟨rfl,rfl⟩:=hrel
     go_wp2_with fail
     refine (Q8V p l c _ wr HI.out.n).mono ?_
     rintro e w6 ⟨i,rfl,hw,hi⟩
     subst w6
     have HN2:=Lh hi;clear hi
     go_wp2_with fail
     refine leaves_cons (f:=193) (args:=#[.pointer (some ⟨w0.heap.size,0,none⟩)]) (by simp) (by simp [go_sem]) ?_
     refine (Q3i w0.heap.size .returning wr HI.out.sc).mono ?_
     rintro e u' w'' ⟨rfl,rfl,hw⟩
     subst w''
     refine ⟨_,results_tmp rfl _ _ _,HN.out _ _ _ ⟨p,i,c,rfl,?_,HI.out.lp,HI.out.fr⟩⟩
     have h1:=HN2.out
     rwa [Nat.pow_zero,Nat.div_one] at h1
theorem Q5f (zp:Option Addr)(zl zc bx cx X:Nat)(yp:Option Addr)(cy:Nat)(slow:Bool)(w:World)(hz:Buf w zp zl zc)(hx:Nt w (some ⟨bx,0,none⟩) 1 cx X)(hy:Nt w yp 0 cy 0)(ha1:same zp (some ⟨bx,0,none⟩)=false)(ha2:same zp yp=false) :
  Calls Tryz.prog 259 #[.slice zp zl zc,.pointer none,.slice (some ⟨bx,0,none⟩) 1 cx,.slice yp 0 cy,.slice none 0 0,.bool slow] w (NatRes w zp 1):=by
 have HX:=Lh (And.intro hx hy);clear hx hy
 have H1:=Lh hz;clear hz
 go_enter_defers Tryz.func259,Tryz.ntmps259
 go_wp2_with fail
 refine (QU zp zl zc (some ⟨bx,0,none⟩) 1 cx w H1.out HX.out.1.1).mono ?_
 rintro e w1 ⟨rfl,q1,rfl⟩
 rw [ha1]
 go_wp2_with fail
 refine (QU zp zl zc yp 0 cy (w.drewN q1) H1.out HX.out.2.1).mono ?_
 rintro e w1 ⟨rfl,q2,rfl⟩
 rw [ha2]
 go_wp2_with fail
 refine (Q0D zp zl zc 1 (by unfold BB;omega) _ (H1.out.drewN _)).mono ?_
 rintro e w2 ⟨p,l,c,rfl,hR⟩
 have HR:=Lh hR;clear hR
 go_wp2_with fail
 exact ⟨_,results_tmp rfl _ _ _,NatRes.drewN (q1+q2) ⟨p,l,c,rfl,HR.out⟩⟩
theorem Q6A (zp:Option Addr)(zl zc bx cx X by_ cy:Nat)(slow:Bool)(w:World)(hX:2≤X)(hz:Buf w zp zl zc)(hx:Nt w (some ⟨bx,0,none⟩) 1 cx X)(hy:Nt w (some ⟨by_,0,none⟩) 1 cy 1)(ha1:same zp (some ⟨bx,0,none⟩)=false)(ha2:same zp (some ⟨by_,0,none⟩)=false) :
  Calls Tryz.prog 259 #[.slice zp zl zc,.pointer none,.slice (some ⟨bx,0,none⟩) 1 cx,.slice (some ⟨by_,0,none⟩) 1 cy,.slice none 0 0,.bool slow] w (NatRes w zp X):=by
 have hxc:=Q0O hx
 have hyc:=Q0O hy
 have HX:=Lh (And.intro hx hy);clear hx hy
 have H1:=Lh hz;clear hz
 have hx1:((X:Int) == 1)=false:=by simp;omega
 go_enter_defers Tryz.func259,Tryz.ntmps259
 go_wp2_with fail
 refine (QU zp zl zc (some ⟨bx,0,none⟩) 1 cx w H1.out HX.out.1.1).mono ?_
 rintro e w1 ⟨rfl,q1,rfl⟩
 rw [ha1]
 go_wp2_with fail
 refine (QU zp zl zc (some ⟨by_,0,none⟩) 1 cy (w.drewN q1) H1.out HX.out.2.1).mono ?_
 rintro e w1 ⟨rfl,q2,rfl⟩
 rw [ha2]
 go_wp2_with fail
 refine (Q0T zp zl zc (some ⟨bx,0,none⟩) 1 cx X _ (H1.out.drewN _) (HX.out.1.drewN _) (by unfold CAP;omega)).mono ?_
 rintro e w2 ⟨p,l,c,rfl,hR⟩
 have HR:=Lh hR;clear hR
 go_wp2_with fail
 exact ⟨_,results_tmp rfl _ _ _,NatRes.drewN (q1+q2) ⟨p,l,c,rfl,HR.out⟩⟩
theorem Q6B (zp:Option Addr)(zl zc bx cx X:Nat)(yp:Option Addr)(yl cy Y:Nat)(slow:Bool)(w:World)(hz:Buf w zp zl zc)(hX:2≤X)(hXB:X<BB)(hYB:Y<BB)(hsz:X^Y<BB^22)(hx:Nt w (some ⟨bx,0,none⟩) 1 cx X)(hy:Nt w yp yl cy Y)(hg:GK w)(hB:∀ k,blkOf zp k→12≤k)
  (ha1:same zp (some ⟨bx,0,none⟩)=false) (ha2:same zp yp=false) :
  Calls Tryz.prog 259 #[.slice zp zl zc,.pointer none,.slice (some ⟨bx,0,none⟩) 1 cx,.slice yp yl cy,.slice none 0 0,.bool slow] w (NatRes w zp (X^Y)):=by
 have hyl:yl≤1:=hy.len_of_lt (by rw [Nat.pow_one];exact hYB)
 rcases Nat.eq_zero_or_pos yl with h0 | h0
 ·subst h0
  have hy0:Y=0:=hy.zero_iff.1 rfl
  subst hy0
  rw [Nat.pow_zero]
  exact Q5f zp zl zc bx cx X yp cy slow w hz hx hy ha1 ha2
 ·obtain rfl:yl=1:=by omega
  obtain ⟨b',rfl,_⟩:=hy.pos_form (by omega)
  have hy0:Y≠0:=fun h=>by have:=hy.zero_iff.2 h;omega
  by_cases h1:Y=1
  ·subst h1
   rw [Nat.pow_one]
   exact Q6A zp zl zc bx cx X b' cy slow w hX hz hx hy ha1 ha2
  ·exact Q6z zp zl zc bx cx X b' cy Y slow w hz hX hXB (by omega) hYB hsz hx hy hg hB ha1 ha2
theorem Q0H {x n:Nat}(h:x<BB)(h1:x<2^n)(h2:n≠0→2^(n - 1)≤x):Lib.bitLen x=n:=by
 by_cases h0:x=0
 ·subst h0
  rcases Nat.eq_zero_or_pos n with hn | hn
  ·subst hn;rfl
  ·have:=h2 (by omega)
   have:0<2^(n - 1):=Nat.two_pow_pos _
   omega
 ·have g1:=Q0v h
  have g2:=Q0M h h0
  have g3:=Q1z h h0
  rcases Nat.lt_trichotomy (Lib.bitLen x) n with hl | hl | hl
  ·have h3:=h2 (by omega)
   have:(2:Nat)^Lib.bitLen x≤2^(n - 1):=Nat.pow_le_pow_right (by omega) (by omega)
   omega
  ·exact hl
  ·have:(2:Nat)^n≤2^(Lib.bitLen x - 1):=Nat.pow_le_pow_right (by omega) (by omega)
   omega
theorem Q3A (x k:Nat)(h:x<BB):∃ y:Nat,bits .or .u64 (x:Int) ((x / 2^k:Nat):Int)=y∧y<BB∧Lib.bitLen y=Lib.bitLen x:=by
 have hk:x / 2^k<BB:=Nat.lt_of_le_of_lt (Nat.div_le_self _ _) h
 have hl:=Q0v h
 have h1:x ||| x / 2^k<2^Lib.bitLen x:=Nat.or_lt_two_pow hl (Nat.lt_of_le_of_lt (Nat.div_le_self _ _) hl)
 have h2:x≤x ||| x / 2^k:=Nat.left_le_or
 have h3:x ||| x / 2^k<BB:=Nat.lt_of_lt_of_le h1 (by have h4:(2:Nat)^Lib.bitLen x≤2^64:=Nat.pow_le_pow_right (by omega) (Q0N h);exact h4)
 refine ⟨x ||| x / 2^k,u64_or_nat _ _ (by unfold BB at h;omega) (by unfold BB at hk;omega),h3,Q0H h3 h1 (fun hn=>?_)⟩
 by_cases h0:x=0
 ·subst h0;exact absurd rfl hn
 ·have:=Q0M h h0;omega
theorem Q2O (b n c:Nat)(w:World)(hn0:0<n)(hn:n≤CAP)(hX:IsW w b 0 n) :
  Calls Tryz.prog 188 #[.slice (some ⟨b,0,none⟩) n c] w fun e w'=>e=.returned (.int .i64 (((n - 1)*64+Lib.bitLen (rd w b (n - 1)):Nat):Int))∧w'=w:=by
 unfold CAP at hn
 have hx:=hX.get (n - 1) (by omega)
 have hl:=hX.lt (n - 1) (by omega)
 rw [Nat.zero_add] at hx hl
 clear hX
 obtain ⟨x0,hx0⟩:∃ x0,x0=rd w b (n - 1):=⟨_,rfl⟩
 rw [← hx0] at hx hl ⊢
 obtain ⟨x1,e1,l1,b1⟩:=Q3A x0 1 hl
 obtain ⟨x2,e2,l2,b2⟩:=Q3A x1 2 l1
 obtain ⟨x3,e3,l3,b3⟩:=Q3A x2 4 l2
 obtain ⟨x4,e4,l4,b4⟩:=Q3A x3 8 l3
 obtain ⟨x5,e5,l5,b5⟩:=Q3A x4 16 l4
 obtain ⟨x6,e6,l6,b6⟩:=Q3A x5 32 l5
 have HB:Hid (Lib.bitLen x6=Lib.bitLen x0):=b6.trans (b5.trans (b4.trans (b3.trans (b2.trans b1))))
 have hd:((x5:Int) / 65536) / 65536=((x5 / 2^32:Nat):Int):=by omega
 rw [show ((x5 / 2^32:Nat):Int)=(x5:Int) / 65536 / 65536 from hd.symm] at e6
 have HL:=Q0N l6
 have HBL:=Lh (Tryz.bits_Len (x6:Int) w (by omega) (by unfold BB at l6;omega))
 have HLL:=Lh HL
 simp at e1 e2 e3 e4 e5
 clear b1 b2 b3 b4 b5 b6 hd l1 l2 l3 l4 l5 l6 hl hx0
 go_enter Tryz.func188, Tryz.ntmps188
 go_wp2_with (go_at_call 224;refine HBL.out.mono ?_;rintro e w' ⟨rfl,hw⟩;subst w')
 go_ret
 have h1:=HB.out
 exact ⟨Q1I (by omega),rfl⟩
theorem Q5g (p:Option Addr)(c:Nat)(w:World):Calls Tryz.prog 188 #[.slice p 0 c] w fun e w'=>e=.returned (.int .i64 0)∧w'=w:=by
 go_enter Tryz.func188, Tryz.ntmps188
 go_wp2
 go_ret
 exact ⟨rfl,rfl⟩
def bits2 (x:Nat):Nat:=if x=0 then 0 else x.log2+1
theorem Q3X {x n:Nat}(h1:x<2^n)(h2:n≠0→2^(n - 1)≤x):bits2 x=n:=by
 unfold bits2
 rcases Nat.eq_zero_or_pos n with h0 | h0
 ·subst h0;rw [if_pos (by omega)]
 ·have h3:=h2 (by omega)
  have:0<2^(n - 1):=Nat.two_pow_pos _
  rw [if_neg (by omega),(Nat.log2_eq_iff (by omega)).2 ⟨h3,by rw [show n - 1+1=n by omega];exact h1⟩]
  omega
theorem Q4D (x:Nat):x<2^bits2 x:=by
 unfold bits2
 split
 ·subst_vars;simp
 ·exact Nat.lt_log2_self
theorem Q2P {x:Nat}(h:x≠0):2^(bits2 x - 1)≤x∧0<bits2 x:=by
 unfold bits2
 rw [if_neg h]
 exact ⟨by simpa using Nat.log2_self_le h,by omega⟩
theorem Q2Q (p:Option Addr)(l c x:Nat)(w:World)(h:Nt w p l c x) :
  Calls Tryz.prog 188 #[.slice p l c] w fun e w'=>e=.returned (.int .i64 ((bits2 x:Nat):Int))∧w'=w:=by
 rcases Nat.eq_zero_or_pos l with h0 | h0
 ·subst h0
  rw [h.zero_iff.1 rfl]
  exact Q5g p c w
 ·obtain ⟨b,rfl,h1,h2,h3,h4,h5,h6,h7⟩:=h.pos_form h0
  refine (Q2O b l c w h0 (by omega) h5).mono fun e w' ⟨he,hw⟩=>⟨he.trans ?_,hw⟩
  have ht:=h5.lt (l - 1) (by omega)
  have ht2:=h7 h0
  rw [Nat.zero_add] at ht
  have e:bits2 x=(l - 1)*64+Lib.bitLen (rd w b (l - 1)):=by
   have g1:=Q0v ht
   have g2:=Q0M ht ht2
   have g3:=Q1z ht ht2
   have e1:x=MV w b 0 (l - 1)+rd w b (l - 1)*BB^(l - 1):=by
    rw [← h6]
    obtain ⟨m,rfl⟩:∃ m,l=m+1:=⟨l - 1,by omega⟩
    simp only [MV,Nat.add_sub_cancel,Nat.zero_add]
   have e2:=Q15 (h5.mono (show l - 1≤l by omega))
   have e3:BB^(l - 1)=2^((l - 1)*64):=by rw [show BB=2^64 from rfl,← Nat.pow_mul,Nat.mul_comm]
   rw [e3] at e1 e2
   refine Q3X ?_ (fun _=>?_)
   ·rw [Nat.pow_add,e1]
    have h8:(rd w b (l - 1)+1)*2^((l - 1)*64)≤2^Lib.bitLen (rd w b (l - 1))*2^((l - 1)*64):=Nat.mul_le_mul_right _ g1
    rw [Nat.add_mul,Nat.one_mul,Nat.mul_comm (2^Lib.bitLen _)] at h8
    omega
   ·rw [show (l - 1)*64+Lib.bitLen (rd w b (l - 1)) - 1=(l - 1)*64+(Lib.bitLen (rd w b (l - 1)) - 1) by omega,Nat.pow_add,e1]
    have h8:2^(Lib.bitLen (rd w b (l - 1)) - 1)*2^((l - 1)*64)≤rd w b (l - 1)*2^((l - 1)*64):=Nat.mul_le_mul_right _ g2
    rw [Nat.mul_comm]
    omega
  rw [e]
def HH:Nat:=4294967296
structure KI (un yn1 yn0 u1 q r:Nat):Prop where
 eq:q*yn1+r=un
 rlt:r<HH
 ge:(un*HH+u1) / (yn1*HH+yn0)≤q
structure KH (un yn1 yn0 u1:Nat):Prop where
 y1:2147483648≤yn1
 y1':yn1<HH
 y0:yn0<HH
 u:u1<HH
 lt:un<yn1*HH+yn0
theorem KH.q_lt {un yn1 yn0 u1:Nat}(h:KH un yn1 yn0 u1):(un*HH+u1) / (yn1*HH+yn0)<HH:=by
 obtain ⟨h1,h2,h3,h4,h5⟩:=h
 rw [Nat.div_lt_iff_lt_mul (by unfold HH;omega)]
 have:(un+1)*HH≤(yn1*HH+yn0)*HH:=Nat.mul_le_mul_right _ h5
 rw [Nat.mul_comm HH]
 rw [Nat.add_mul,Nat.one_mul] at this
 omega
theorem KI.start {un yn1 yn0 u1:Nat}(h:KH un yn1 yn0 u1):KI un yn1 yn0 u1 (un / yn1) (un - un / yn1*yn1):=by
 have h1:=h.y1
 have e:=Nat.div_add_mod un yn1
 have e2:un - un / yn1*yn1=un % yn1:=by rw [Nat.mul_comm];omega
 have hm:=Nat.mod_lt un (show 0<yn1 by omega)
 refine ⟨by rw [e2,Nat.mul_comm];exact e,by rw [e2];have:=h.y1';omega,?_⟩
 have hpos:0<yn1*HH+yn0:=by unfold HH;omega
 refine Nat.lt_succ_iff.1 ((Nat.div_lt_iff_lt_mul hpos).2 ?_)
 have h3:un<(un / yn1+1)*yn1:=by rw [Nat.add_mul,Nat.one_mul,Nat.mul_comm];omega
 have h4:(un+1)*HH≤(un / yn1+1)*yn1*HH:=Nat.mul_le_mul_right _ h3
 have h5:=h.u
 have h6:(un / yn1+1)*(yn1*HH+yn0)=(un / yn1+1)*yn1*HH+(un / yn1+1)*yn0:=by rw [Nat.mul_add,Nat.mul_assoc]
 show un*HH+u1<(un / yn1+1)*(yn1*HH+yn0)
 rw [h6]
 rw [Nat.add_mul,Nat.one_mul] at h4
 omega
theorem KI.mul_eq {un yn1 yn0 u1 q r:Nat}(h:KI un yn1 yn0 u1 q r):q*(yn1*HH+yn0)+r*HH=un*HH+q*yn0:=by
 have:=h.eq
 rw [Nat.mul_add,← Nat.mul_assoc,← this,Nat.add_mul]
 omega
theorem KI.done {un yn1 yn0 u1 q r:Nat}(h:KI un yn1 yn0 u1 q r)(hk:KH un yn1 yn0 u1)(h1:q*yn0≤HH*r+u1):q=(un*HH+u1) / (yn1*HH+yn0):=by
 have hpos:0<yn1*HH+yn0:=by have:=hk.y1;unfold HH;omega
 refine Nat.le_antisymm ?_ h.ge
 rw [Nat.le_div_iff_mul_le hpos]
 have:=h.mul_eq
 rw [Nat.mul_comm HH] at h1
 omega
theorem KI.less {un yn1 yn0 u1 q r:Nat}(h:KI un yn1 yn0 u1 q r)(hk:KH un yn1 yn0 u1)(h1:HH≤q∨HH*r+u1<q*yn0) :
  0<q∧(q - 1)*yn1+(r+yn1)=un∧(un*HH+u1) / (yn1*HH+yn0)≤q - 1:=by
 have hpos:0<yn1*HH+yn0:=by have:=hk.y1;unfold HH;omega
 have hq:(un*HH+u1) / (yn1*HH+yn0)<q:=by
  rcases h1 with h1 | h1
  ·have:=hk.q_lt;omega
  ·rw [Nat.div_lt_iff_lt_mul hpos]
   have:=h.mul_eq
   rw [Nat.mul_comm HH] at h1
   omega
 have hq0:0<q:=Nat.lt_of_le_of_lt (Nat.zero_le _) hq
 refine ⟨hq0,?_,Nat.le_sub_one_of_lt hq⟩
 have:=h.eq
 have e:(q - 1)*yn1+yn1=q*yn1:=by
  obtain ⟨m,rfl⟩:∃ m,q=m+1:=⟨q - 1,by omega⟩
  rw [Nat.add_sub_cancel,Nat.add_mul,Nat.one_mul]
 omega
theorem KI.broke {un yn1 yn0 u1 q r:Nat}(hk:KH un yn1 yn0 u1)(h1:q*yn1+r=un)(h2:(un*HH+u1) / (yn1*HH+yn0)≤q)(h3:HH≤r):q=(un*HH+u1) / (yn1*HH+yn0):=by
 have hpos:0<yn1*HH+yn0:=by have:=hk.y1;unfold HH;omega
 refine Nat.le_antisymm ?_ h2
 rw [Nat.le_div_iff_mul_le hpos]
 have hq:q<HH:=by
  have:=hk.lt
  have:=hk.y0
  rcases Nat.lt_or_ge q HH with h | h
  ·exact h
  ·have h4:HH*yn1≤q*yn1:=Nat.mul_le_mul_right _ h
   rw [Nat.mul_comm] at h4
   omega
 have h5:q*yn0≤HH*HH:=Nat.mul_le_mul (by omega) (by have:=hk.y0;omega)
 have h6:HH*HH≤r*HH:=Nat.mul_le_mul_right _ h3
 have e:q*(yn1*HH+yn0)+r*HH=un*HH+q*yn0:=by rw [Nat.mul_add,← Nat.mul_assoc,← h1,Nat.add_mul];omega
 omega
theorem KI.q_le {un yn1 yn0 u1 q r:Nat}(h:KI un yn1 yn0 u1 q r)(hk:KH un yn1 yn0 u1):q≤HH+1:=by
 have h1:=h.eq
 have h2:=hk.lt
 have h3:=hk.y0
 have h4:=hk.y1
 rcases Nat.lt_or_ge (HH+1) q with h | h
 ·have h5:(HH+2)*yn1≤q*yn1:=Nat.mul_le_mul_right _ h
  rw [Nat.add_mul,Nat.mul_comm HH] at h5
  unfold HH at *
  omega
 ·exact h
theorem Q1A {a c b d e:Int}{m:Nat}(h:a*c+b - d*e=(m:Int))(hm:m<BB) :
  IntKind.u64.wrap (IntKind.u64.wrap (IntKind.u64.wrap (a*c)+b) - IntKind.u64.wrap (d*e))=(m:Int):=by
 have hw:∀ n:Int,IntKind.u64.wrap n=n % 18446744073709551616:=fun _=>rfl
 rw [hw,hw,hw,hw]
 unfold BB at hm
 generalize a*c=p at *
 generalize d*e=q at *
 omega
theorem Q5h {hi lo y u1 u0 Q Rm Q0:Nat}(hy:0<y)(hl:u1*HH+u0=lo)(hQ:Q=(hi*HH+u1) / y)(hR:Rm=(hi*HH+u1) % y)(hQ0:Q0=(Rm*HH+u0) / y) :
  Q*HH+Q0=(hi*BB+lo) / y∧(Rm*HH+u0) % y=(hi*BB+lo) % y:=by
 have e1:=Nat.div_add_mod (hi*HH+u1) y
 rw [← hQ,← hR] at e1
 have hb:BB=HH*HH:=rfl
 have e2:hi*BB+lo=y*(Q*HH)+(Rm*HH+u0):=by
  rw [hb,← hl]
  have:(y*Q+Rm)*HH=(hi*HH+u1)*HH:=by rw [e1]
  rw [Nat.add_mul,Nat.add_mul,Nat.mul_assoc,Nat.mul_assoc] at this
  omega
 rw [e2,Nat.mul_add_div hy,Nat.mul_add_mod,hQ0]
 exact ⟨rfl,rfl⟩
theorem Q1c {hi lo y:Nat}(hlo:lo<BB)(hhi:hi<y):(hi*BB+lo) / y<BB:=by
 rw [Nat.div_lt_iff_lt_mul (by omega)]
 have:(hi+1)*BB≤y*BB:=Nat.mul_le_mul_right _ hhi
 rw [Nat.add_mul,Nat.one_mul,Nat.mul_comm y] at this
 omega
theorem QZ {a b a' b':Int}(ha:a=a')(hb:b=b'):Ending.returned (.tuple #[.int .u64 a,.int .u64 b])=.returned (.tuple #[.int .u64 a',.int .u64 b']):=by rw [ha,hb]
def FD (hi lo y Q Rm u0 Q0:Nat):Prop :=
 ((Q:Int)*4294967296+(Q0:Int)=(((hi*BB+lo) / y:Nat):Int)) ∧
 IntKind.u64.wrap (IntKind.u64.wrap ((Q:Int)*4294967296)+(Q0:Int))=(((hi*BB+lo) / y:Nat):Int) ∧
 IntKind.u64.wrap (IntKind.u64.wrap (IntKind.u64.wrap ((Rm:Int)*4294967296)+(u0:Int)) - IntKind.u64.wrap ((Q0:Int)*(y:Int)))=(((hi*BB+lo) % y:Nat):Int)
theorem Q0W {hi lo y u1 u0 Q Rm Q0:Nat}(hy:0<y)(hhi:hi<y)(hyB:y<BB)(hl:u1*HH+u0=lo)(hQ:Q=(hi*HH+u1) / y)(hR:Rm=(hi*HH+u1) % y)(hQ0:Q0=(Rm*HH+u0) / y)(hlo:lo<BB) :
  FD hi lo y Q Rm u0 Q0:=by
 obtain ⟨e1,e2⟩:=Q5h hy hl hQ hR hQ0
 have hw:∀ n:Int,IntKind.u64.wrap n=n % 18446744073709551616:=fun _=>rfl
 have hq:(hi*BB+lo) / y<BB:=by
  rw [Nat.div_lt_iff_lt_mul hy]
  have:(hi+1)*BB≤y*BB:=Nat.mul_le_mul_right _ hhi
  rw [Nat.add_mul,Nat.one_mul,Nat.mul_comm y] at this
  omega
 have e3:IntKind.u64.wrap (IntKind.u64.wrap ((Q:Int)*4294967296)+(Q0:Int))=(((hi*BB+lo) / y:Nat):Int):=by
  rw [← e1] at hq ⊢
  rw [hw,hw];unfold BB at hq;unfold HH at *;omega
 have e4:=Nat.div_add_mod (Rm*HH+u0) y
 rw [← hQ0,e2] at e4
 have e5:IntKind.u64.wrap (IntKind.u64.wrap (IntKind.u64.wrap ((Rm:Int)*4294967296)+(u0:Int)) - IntKind.u64.wrap ((Q0:Int)*(y:Int)))=(((hi*BB+lo) % y:Nat):Int):=by
  refine Q1A ?_ (by have:=Nat.mod_lt (hi*BB+lo) hy;omega)
  have e6:(Q0:Int)*(y:Int)=((y*Q0:Nat):Int):=by rw [Nat.mul_comm];simp
  rw [e6];unfold HH at e4;omega
 refine ⟨?_,e3,e5⟩
 rw [← e1];unfold HH;omega
theorem Q1d (n:Int):IntKind.u64.wrap n=n % 18446744073709551616:=rfl
theorem Q2R (hi lo y:Nat)(hy:9223372036854775808≤y)(hyB:y<BB)(hhi:hi<y)(h0:0<hi)(hlo:lo<BB)(w:World) :
  Calls Tryz.prog 290 #[.int .u64 hi,.int .u64 lo,.int .u64 y] w fun e w'=>e=.returned (.tuple #[.int .u64 (((hi*BB+lo) / y:Nat):Int),.int .u64 (((hi*BB+lo) % y:Nat):Int)])∧w'=w:=by
 obtain ⟨y1,hy1⟩:∃ y1,y1=y / HH:=⟨_,rfl⟩
 obtain ⟨y0,hy0⟩:∃ y0,y0=y % HH:=⟨_,rfl⟩
 obtain ⟨u1,hu1⟩:∃ u1,u1=lo / HH:=⟨_,rfl⟩
 obtain ⟨u0,hu0⟩:∃ u0,u0=lo % HH:=⟨_,rfl⟩
 have hlz:Lib.bitLen y=64:=Q0H hyB hyB (fun _=>hy)
 have HLZ:=Lh (Tryz.bits_LeadingZeros64 (y:Int) w (by omega) (by unfold BB at hyB;omega))
 have HL2:Hid ((64:Int) - (Lib.bitLen ((y:Int)).toNat:Int)=0):=by show _=_;rw [Int.toNat_natCast,hlz];rfl
 have a1:IntKind.u64.wrap (y:Int)=y:=Qg y hyB
 have b1:IntKind.u64.wrap (hi:Int)=hi:=Qg hi (by omega)
 have b2:IntKind.u64.wrap (lo:Int)=lo:=Qg lo hlo
 have b3:(lo:Int) / 18446744073709551616=0:=by unfold BB at hlo;omega
 have b4:bits .or .u64 (hi:Int) 0=hi:=by rw [show (0:Int)=((0:Nat):Int) from rfl,u64_or_nat hi 0 (by unfold BB at hyB;omega) (by omega),Nat.or_zero]
 have a2:(y:Int) / 4294967296=y1:=by rw [hy1];unfold HH;omega
 have a3:bits .and .u64 (y:Int) 4294967295=y0:=by rw [and_low32 _ (by omega) (by unfold BB at hyB;omega),hy0];unfold HH;omega
 have a4:(lo:Int) / 4294967296=u1:=by rw [hu1];unfold HH;omega
 have a5:bits .and .u64 (lo:Int) 4294967295=u0:=by rw [and_low32 _ (by omega) (by unfold BB at hlo;omega),hu0];unfold HH;omega
 have hg1:((y:Int) == 0)=false:=by simp;omega
 have hg2:((hi:Int) == 0)=false:=by simp;omega
 have HK:Hid (y1*HH+y0=y∧u1*HH+u0=lo∧KH hi y1 y0 u1):=by
  have e1:y1*HH+y0=y:=by rw [hy1,hy0];unfold HH;omega
  refine ⟨e1,by rw [hu1,hu0];unfold HH;omega,⟨by rw [hy1];unfold HH;omega,by rw [hy1];unfold HH;unfold BB at hyB;omega,by rw [hy0];unfold HH;omega,by rw [hu1];unfold HH;unfold BB at hlo;omega,by rw [e1];exact hhi⟩⟩
 have b5:((y1:Int) == 0)=false:=by have:=HK.out.2.2.y1;simp;omega
 have b6:¬ ((y1:Int)=0):=by have:=HK.out.2.2.y1;omega
 obtain ⟨q1,hq1⟩:∃ q1,q1=hi / y1:=⟨_,rfl⟩
 obtain ⟨p1,hp1⟩:∃ p1,p1=q1*y1:=⟨_,rfl⟩
 have hp1':p1≤hi:=by rw [hp1,hq1];exact Nat.div_mul_le_self _ _
 have b7:(hi:Int) / (y1:Int)=q1:=by rw [hq1];simp
 have b8:IntKind.u64.wrap ((q1:Int)*(y1:Int))=p1:=by rw [show (q1:Int)*(y1:Int)=(p1:Int) by rw [hp1];simp];exact Qg p1 (by omega)
 have b9:IntKind.u64.wrap ((hi:Int) - (p1:Int))=((hi - p1:Nat):Int):=by rw [Qf (by omega) (by omega)];omega
 have b10:IntKind.u64.wrap (q1:Int)=q1:=Qg q1 (by rw [hq1];have:=Nat.div_le_self hi y1;omega)
 have H1:Hid (KI hi y1 y0 u1 q1 (hi - p1)):=by have:=KI.start HK.out.2.2;rw [← hq1,← hp1] at this;exact this
 have HQ:=Lh (And.intro hq1 (And.intro hp1 hp1'));clear hq1 hp1 hp1'
 have hu0e:=Lh hu0
 clear hlz hy1 hy0 hu1 hu0
 go_enter Tryz.func290, Tryz.ntmps290
 go_wp2_with (go_at_call 303;refine HLZ.out.mono ?_;rw [HL2.out];rintro e w' ⟨rfl,hw⟩;subst w')
 go_loop [15,16] (fun a b=>∃ q r:Nat,a=.int .u64 q∧b=.int .u64 r∧KI hi y1 y0 u1 q r) (fun a _=>(intOf a).toNat)
 case atStart=>exact ⟨q1,hi - p1,rfl,by congr 1,H1.out⟩
 case round =>
  obtain ⟨q1',r,rfl,rfl,hI⟩:=hrel
  have HI:=Lh hI;clear hI
  have hqb:=HI.out.q_le HK.out.2.2
  have hrb:=HI.out.rlt
  have hkb:=And.intro HK.out.2.2.y1' (And.intro HK.out.2.2.y0 HK.out.2.2.u)
  unfold HH at hqb hrb hkb
  clear b7 b8 b9 b10 H1
  have c1:IntKind.u64.wrap (4294967296*(r:Int))=4294967296*(r:Int):=Qf (by omega) (by unfold BB;omega)
  have c2:IntKind.u64.wrap (4294967296*(r:Int)+(u1:Int))=4294967296*(r:Int)+(u1:Int):=Qf (by omega) (by unfold BB;omega)
  obtain ⟨P,hP⟩:∃ P,P=q1'*y0:=⟨_,rfl⟩
  have c4:IntKind.u64.wrap ((r:Int)+(y1:Int))=(r:Int)+(y1:Int):=Qf (by omega) (by unfold BB;omega)
  by_cases hyes:HH≤q1'∨HH*r+u1<q1'*y0
  ·have HL:=Lh (HI.out.less HK.out.2.2 hyes)
   have hq0:=HL.out.1
   have c3:IntKind.u64.wrap ((q1':Int) - 1)=((q1' - 1:Nat):Int):=by rw [Qf (by omega) (by unfold BB;omega)];omega
   have hcase:((4294967296:Int)≤(q1':Int))∨(¬ ((4294967296:Int)≤(q1':Int))∧IntKind.u64.wrap ((q1':Int)*(y0:Int))=(P:Int)∧4294967296*(r:Int)+(u1:Int)<(P:Int)):=by
    by_cases hq:HH≤q1'
    ·exact .inl (by unfold HH at hq;omega)
    ·refine .inr ⟨by unfold HH at hq;omega,?_,?_⟩
     ·rw [show (q1':Int)*(y0:Int)=((P:Nat):Int) by rw [hP];simp]
      refine Qg P ?_
      rw [hP]
      have h1:q1'*y0≤(HH - 1)*(HH - 1):=Nat.mul_le_mul (by omega) (by unfold HH;omega)
      unfold HH at h1;unfold BB;omega
     ·rcases hyes with h | h
      ·exact absurd h hq
      ·rw [← hP] at h;unfold HH at h;omega
   have HP:=Lh (And.intro hP hyes);clear hP hyes
   by_cases hb:HH≤r+y1
   ·have hb':(4294967296:Int)≤(r:Int)+(y1:Int):=by unfold HH at hb;omega
    have HB:=Lh hb;clear hb
    rcases hcase with hq' | ⟨hq',c5,hc'⟩
    all_goals
     have HQ1:Hid (q1' - 1=(hi*HH+u1) / (y1*HH+y0)):=KI.broke HK.out.2.2 HL.out.2.1 HL.out.2.2 HB.out
     obtain ⟨Rm,hRm⟩:∃ Rm,Rm=(hi*HH+u1) % y:=⟨_,rfl⟩
     have hRy:Rm<y:=by rw [hRm];exact Nat.mod_lt _ (by omega)
     have HR:=Lh hRm;clear hRm
     have HQ2:Hid (q1' - 1=(hi*HH+u1) / y):=by have:=HQ1.out;rw [HK.out.1] at this;exact this
     have HK2:Hid (KH Rm y1 y0 u0):=⟨HK.out.2.2.y1,HK.out.2.2.y1',HK.out.2.2.y0,by have:=HK.out.2.1;have:=HK.out.2.2.u;unfold BB at hlo;rw [hu0e.out];exact Nat.mod_lt _ (by unfold HH;omega),by rw [HK.out.1];exact hRy⟩
     have d1:IntKind.u64.wrap (IntKind.u64.wrap (IntKind.u64.wrap ((hi:Int)*4294967296)+(u1:Int)) - IntKind.u64.wrap (((q1' - 1:Nat):Int)*(y:Int)))=(Rm:Int):=by
      rw [show (((q1' - 1:Nat):Int):Int)=((q1' - 1:Nat):Int) from rfl]
      refine Q1A ?_ (by omega)
      have e1:=Nat.div_add_mod (hi*HH+u1) y
      rw [← HQ2.out,← HR.out] at e1
      have e2:((q1' - 1:Nat):Int)*(y:Int)=((y*(q1' - 1):Nat):Int):=by rw [Nat.mul_comm];simp
      rw [e2];unfold HH at e1;omega
     obtain ⟨q0,hq0⟩:∃ q0,q0=Rm / y1:=⟨_,rfl⟩
     obtain ⟨p0,hp0⟩:∃ p0,p0=q0*y1:=⟨_,rfl⟩
     have hp0':p0≤Rm:=by rw [hp0,hq0];exact Nat.div_mul_le_self _ _
     have d2:(Rm:Int) / (y1:Int)=q0:=by rw [hq0];simp
     have d3:IntKind.u64.wrap ((q0:Int)*(y1:Int))=p0:=by rw [show (q0:Int)*(y1:Int)=(p0:Int) by rw [hp0];simp];exact Qg p0 (by omega)
     have d4:IntKind.u64.wrap ((Rm:Int) - (p0:Int))=((Rm - p0:Nat):Int):=by rw [Qf (by omega) (by omega)];omega
     have d5:IntKind.u64.wrap (q0:Int)=q0:=Qg q0 (by rw [hq0];have:=Nat.div_le_self Rm y1;omega)
     have HI2:Hid (KI Rm y1 y0 u0 q0 (Rm - p0)):=by have:=KI.start HK2.out;rw [← hq0,← hp0] at this;exact this
     clear hq0 hp0
     go_wp2
     go_loop [18,16] (fun a b=>∃ q r:Nat,a=.int .u64 q∧b=.int .u64 r∧KI Rm y1 y0 u0 q r) (fun a _=>(intOf a).toNat)
     case atStart=>exact ⟨q0,Rm - p0,by congr 1,by congr 1,HI2.out⟩
     case round =>
      obtain ⟨q,r,rfl,rfl,hI⟩:=hrel
      have HI3:=Lh hI;clear hI
      have hqb:=HI3.out.q_le HK2.out
      have hrb:=HI3.out.rlt
      have hkb:=And.intro HK2.out.y1' (And.intro HK2.out.y0 HK2.out.u)
      unfold HH at hqb hrb hkb
      clear d1 d2 d3 d4 d5 HI2
      have c1:IntKind.u64.wrap (4294967296*(r:Int))=4294967296*(r:Int):=Qf (by omega) (by unfold BB;omega)
      have c2:IntKind.u64.wrap (4294967296*(r:Int)+(u0:Int))=4294967296*(r:Int)+(u0:Int):=Qf (by omega) (by unfold BB;omega)
      obtain ⟨P,hP⟩:∃ P,P=q*y0:=⟨_,rfl⟩
      have c4:IntKind.u64.wrap ((r:Int)+(y1:Int))=(r:Int)+(y1:Int):=Qf (by omega) (by unfold BB;omega)
      by_cases hyes:HH≤q∨HH*r+u0<q*y0
      ·have HL2:=Lh (HI3.out.less HK2.out hyes)
       have hq0:=HL2.out.1
       have c3:IntKind.u64.wrap ((q:Int) - 1)=((q - 1:Nat):Int):=by rw [Qf (by omega) (by unfold BB;omega)];omega
       have hcase:((4294967296:Int)≤(q:Int))∨(¬ ((4294967296:Int)≤(q:Int))∧IntKind.u64.wrap ((q:Int)*(y0:Int))=(P:Int)∧4294967296*(r:Int)+(u0:Int)<(P:Int)):=by
        by_cases hq:HH≤q
        ·exact .inl (by unfold HH at hq;omega)
        ·refine .inr ⟨by unfold HH at hq;omega,?_,?_⟩
         ·rw [show (q:Int)*(y0:Int)=((P:Nat):Int) by rw [hP];simp]
          refine Qg P ?_
          rw [hP]
          have h1:q*y0≤(HH - 1)*(HH - 1):=Nat.mul_le_mul (by omega) (by unfold HH;omega)
          unfold HH at h1;unfold BB;omega
         ·rcases hyes with h | h
          ·exact absurd h hq
          ·rw [← hP] at h;unfold HH at h;omega
       have HP2:=Lh (And.intro hP hyes);clear hP hyes
       by_cases hb:HH≤r+y1
       ·have hb':(4294967296:Int)≤(r:Int)+(y1:Int):=by unfold HH at hb;omega
        have HB2:=Lh hb;clear hb
        have HF:Hid (q - 1=(Rm*HH+u0) / (y1*HH+y0)):=KI.broke HK2.out HL2.out.2.1 HL2.out.2.2 HB2.out
        have HE2:Hid (FD hi lo y (q1' - 1) Rm u0 (q - 1)) :=
         Q0W (by omega) hhi hyB HK.out.2.1 HQ2.out HR.out (by have:=HF.out;rw [HK.out.1] at this;exact this) hlo
        rcases hcase with hq' | ⟨hq',c5,hc'⟩
        all_goals
         go_wp2
         go_ret2
         first | exact ⟨QZ HE2.out.2.1 HE2.out.2.2,rfl⟩ | exact ⟨QZ HE2.out.1 HE2.out.2.2,rfl⟩ | exact ⟨QZ ((congrArg IntKind.u64.wrap HE2.out.1).trans (Qg _ (Q1c hlo hhi))) HE2.out.2.2,rfl⟩
       ·have hb':¬ ((4294967296:Int)≤(r:Int)+(y1:Int)):=by unfold HH at hb;omega
        have HB2:=Lh hb;clear hb
        rcases hcase with hq' | ⟨hq',c5,hc'⟩
        all_goals
         go_wp2
         go_round
         case rel=>exact ⟨q - 1,r+y1,rfl,by go_num,HL2.out.2.1,Nat.lt_of_not_le HB2.out,HL2.out.2.2⟩
         case measure=>simp [intOf];omega
      ·have hq':¬ ((4294967296:Int)≤(q:Int)):=by
        have:¬ HH≤q:=fun h=>hyes (.inl h)
        unfold HH at this;omega
       have c5:IntKind.u64.wrap ((q:Int)*(y0:Int))=(P:Int):=by
        rw [show (q:Int)*(y0:Int)=((P:Nat):Int) by rw [hP];simp]
        refine Qg P ?_
        rw [hP]
        have h1:q*y0≤(HH - 1)*(HH - 1):=Nat.mul_le_mul (by unfold HH;omega) (by unfold HH;omega)
        unfold HH at h1;unfold BB;omega
       have hc':¬ (4294967296*(r:Int)+(u0:Int)<(P:Int)):=by
        have:¬ HH*r+u0<q*y0:=fun h=>hyes (.inr h)
        rw [← hP] at this;unfold HH at this;omega
       have HP2:=Lh (And.intro hP hyes);clear hP hyes
       have HF:Hid (q=(Rm*HH+u0) / (y1*HH+y0)):=HI3.out.done HK2.out (Nat.le_of_not_lt (fun h=>HP2.out.2 (.inr h)))
       have HE2:Hid (FD hi lo y (q1' - 1) Rm u0 q) :=
        Q0W (by omega) hhi hyB HK.out.2.1 HQ2.out HR.out (by have:=HF.out;rw [HK.out.1] at this;exact this) hlo
       go_wp2
       go_ret2
       first | exact ⟨QZ HE2.out.2.1 HE2.out.2.2,rfl⟩ | exact ⟨QZ HE2.out.1 HE2.out.2.2,rfl⟩ | exact ⟨QZ ((congrArg IntKind.u64.wrap HE2.out.1).trans (Qg _ (Q1c hlo hhi))) HE2.out.2.2,rfl⟩
   ·have hb':¬ ((4294967296:Int)≤(r:Int)+(y1:Int)):=by unfold HH at hb;omega
    have HB:=Lh hb;clear hb
    rcases hcase with hq' | ⟨hq',c5,hc'⟩
    all_goals
     go_wp2
     go_round
     case rel=>exact ⟨q1' - 1,r+y1,rfl,by go_num,HL.out.2.1,Nat.lt_of_not_le HB.out,HL.out.2.2⟩
     case measure=>simp [intOf];omega
  ·have hq':¬ ((4294967296:Int)≤(q1':Int)):=by
    have:¬ HH≤q1':=fun h=>hyes (.inl h)
    unfold HH at this;omega
   have c5:IntKind.u64.wrap ((q1':Int)*(y0:Int))=(P:Int):=by
    rw [show (q1':Int)*(y0:Int)=((P:Nat):Int) by rw [hP];simp]
    refine Qg P ?_
    rw [hP]
    have h1:q1'*y0≤(HH - 1)*(HH - 1):=Nat.mul_le_mul (by unfold HH;omega) (by unfold HH;omega)
    unfold HH at h1;unfold BB;omega
   have hc':¬ (4294967296*(r:Int)+(u1:Int)<(P:Int)):=by
    have:¬ HH*r+u1<q1'*y0:=fun h=>hyes (.inr h)
    rw [← hP] at this;unfold HH at this;omega
   have HP:=Lh (And.intro hP hyes);clear hP hyes
   ·have HQ1:Hid (q1'=(hi*HH+u1) / (y1*HH+y0)):=HI.out.done HK.out.2.2 (Nat.le_of_not_lt (fun h=>HP.out.2 (.inr h)))
    obtain ⟨Rm,hRm⟩:∃ Rm,Rm=(hi*HH+u1) % y:=⟨_,rfl⟩
    have hRy:Rm<y:=by rw [hRm];exact Nat.mod_lt _ (by omega)
    have HR:=Lh hRm;clear hRm
    have HQ2:Hid (q1'=(hi*HH+u1) / y):=by have:=HQ1.out;rw [HK.out.1] at this;exact this
    have HK2:Hid (KH Rm y1 y0 u0):=⟨HK.out.2.2.y1,HK.out.2.2.y1',HK.out.2.2.y0,by have:=HK.out.2.1;have:=HK.out.2.2.u;unfold BB at hlo;rw [hu0e.out];exact Nat.mod_lt _ (by unfold HH;omega),by rw [HK.out.1];exact hRy⟩
    have d1:IntKind.u64.wrap (IntKind.u64.wrap (IntKind.u64.wrap ((hi:Int)*4294967296)+(u1:Int)) - IntKind.u64.wrap ((q1':Int)*(y:Int)))=(Rm:Int):=by
     rw [show ((q1':Int):Int)=((q1':Nat):Int) from rfl]
     refine Q1A ?_ (by omega)
     have e1:=Nat.div_add_mod (hi*HH+u1) y
     rw [← HQ2.out,← HR.out] at e1
     have e2:((q1':Nat):Int)*(y:Int)=((y*(q1'):Nat):Int):=by rw [Nat.mul_comm];simp
     rw [e2];unfold HH at e1;omega
    obtain ⟨q0,hq0⟩:∃ q0,q0=Rm / y1:=⟨_,rfl⟩
    obtain ⟨p0,hp0⟩:∃ p0,p0=q0*y1:=⟨_,rfl⟩
    have hp0':p0≤Rm:=by rw [hp0,hq0];exact Nat.div_mul_le_self _ _
    have d2:(Rm:Int) / (y1:Int)=q0:=by rw [hq0];simp
    have d3:IntKind.u64.wrap ((q0:Int)*(y1:Int))=p0:=by rw [show (q0:Int)*(y1:Int)=(p0:Int) by rw [hp0];simp];exact Qg p0 (by omega)
    have d4:IntKind.u64.wrap ((Rm:Int) - (p0:Int))=((Rm - p0:Nat):Int):=by rw [Qf (by omega) (by omega)];omega
    have d5:IntKind.u64.wrap (q0:Int)=q0:=Qg q0 (by rw [hq0];have:=Nat.div_le_self Rm y1;omega)
    have HI2:Hid (KI Rm y1 y0 u0 q0 (Rm - p0)):=by have:=KI.start HK2.out;rw [← hq0,← hp0] at this;exact this
    clear hq0 hp0
    go_wp2
    go_loop [18,16] (fun a b=>∃ q r:Nat,a=.int .u64 q∧b=.int .u64 r∧KI Rm y1 y0 u0 q r) (fun a _=>(intOf a).toNat)
    case atStart=>exact ⟨q0,Rm - p0,by congr 1,by congr 1,HI2.out⟩
    case round =>
     obtain ⟨q,r,rfl,rfl,hI⟩:=hrel
     have HI3:=Lh hI;clear hI
     have hqb:=HI3.out.q_le HK2.out
     have hrb:=HI3.out.rlt
     have hkb:=And.intro HK2.out.y1' (And.intro HK2.out.y0 HK2.out.u)
     unfold HH at hqb hrb hkb
     clear d1 d2 d3 d4 d5 HI2
     have c1:IntKind.u64.wrap (4294967296*(r:Int))=4294967296*(r:Int):=Qf (by omega) (by unfold BB;omega)
     have c2:IntKind.u64.wrap (4294967296*(r:Int)+(u0:Int))=4294967296*(r:Int)+(u0:Int):=Qf (by omega) (by unfold BB;omega)
     obtain ⟨P,hP⟩:∃ P,P=q*y0:=⟨_,rfl⟩
     have c4:IntKind.u64.wrap ((r:Int)+(y1:Int))=(r:Int)+(y1:Int):=Qf (by omega) (by unfold BB;omega)
     by_cases hyes:HH≤q∨HH*r+u0<q*y0
     ·have HL2:=Lh (HI3.out.less HK2.out hyes)
      have hq0:=HL2.out.1
      have c3:IntKind.u64.wrap ((q:Int) - 1)=((q - 1:Nat):Int):=by rw [Qf (by omega) (by unfold BB;omega)];omega
      have hcase:((4294967296:Int)≤(q:Int))∨(¬ ((4294967296:Int)≤(q:Int))∧IntKind.u64.wrap ((q:Int)*(y0:Int))=(P:Int)∧4294967296*(r:Int)+(u0:Int)<(P:Int)):=by
       by_cases hq:HH≤q
       ·exact .inl (by unfold HH at hq;omega)
       ·refine .inr ⟨by unfold HH at hq;omega,?_,?_⟩
        ·rw [show (q:Int)*(y0:Int)=((P:Nat):Int) by rw [hP];simp]
         refine Qg P ?_
         rw [hP]
         have h1:q*y0≤(HH - 1)*(HH - 1):=Nat.mul_le_mul (by omega) (by unfold HH;omega)
         unfold HH at h1;unfold BB;omega
        ·rcases hyes with h | h
         ·exact absurd h hq
         ·rw [← hP] at h;unfold HH at h;omega
      have HP2:=Lh (And.intro hP hyes);clear hP hyes
      by_cases hb:HH≤r+y1
      ·have hb':(4294967296:Int)≤(r:Int)+(y1:Int):=by unfold HH at hb;omega
       have HB2:=Lh hb;clear hb
       have HF:Hid (q - 1=(Rm*HH+u0) / (y1*HH+y0)):=KI.broke HK2.out HL2.out.2.1 HL2.out.2.2 HB2.out
       have HE2:Hid (FD hi lo y q1' Rm u0 (q - 1)) :=
        Q0W (by omega) hhi hyB HK.out.2.1 HQ2.out HR.out (by have:=HF.out;rw [HK.out.1] at this;exact this) hlo
       rcases hcase with hq' | ⟨hq',c5,hc'⟩
       all_goals
        go_wp2
        go_ret2
        first | exact ⟨QZ HE2.out.2.1 HE2.out.2.2,rfl⟩ | exact ⟨QZ HE2.out.1 HE2.out.2.2,rfl⟩ | exact ⟨QZ ((congrArg IntKind.u64.wrap HE2.out.1).trans (Qg _ (Q1c hlo hhi))) HE2.out.2.2,rfl⟩
      ·have hb':¬ ((4294967296:Int)≤(r:Int)+(y1:Int)):=by unfold HH at hb;omega
       have HB2:=Lh hb;clear hb
       rcases hcase with hq' | ⟨hq',c5,hc'⟩
       all_goals
        go_wp2
        go_round
        case rel=>exact ⟨q - 1,r+y1,rfl,by go_num,HL2.out.2.1,Nat.lt_of_not_le HB2.out,HL2.out.2.2⟩
        case measure=>simp [intOf];omega
     ·have hq':¬ ((4294967296:Int)≤(q:Int)):=by
       have:¬ HH≤q:=fun h=>hyes (.inl h)
       unfold HH at this;omega
      have c5:IntKind.u64.wrap ((q:Int)*(y0:Int))=(P:Int):=by
       rw [show (q:Int)*(y0:Int)=((P:Nat):Int) by rw [hP];simp]
       refine Qg P ?_
       rw [hP]
       have h1:q*y0≤(HH - 1)*(HH - 1):=Nat.mul_le_mul (by unfold HH;omega) (by unfold HH;omega)
       unfold HH at h1;unfold BB;omega
      have hc':¬ (4294967296*(r:Int)+(u0:Int)<(P:Int)):=by
       have:¬ HH*r+u0<q*y0:=fun h=>hyes (.inr h)
       rw [← hP] at this;unfold HH at this;omega
      have HP2:=Lh (And.intro hP hyes);clear hP hyes
      have HF:Hid (q=(Rm*HH+u0) / (y1*HH+y0)):=HI3.out.done HK2.out (Nat.le_of_not_lt (fun h=>HP2.out.2 (.inr h)))
      have HE2:Hid (FD hi lo y q1' Rm u0 q) :=
       Q0W (by omega) hhi hyB HK.out.2.1 HQ2.out HR.out (by have:=HF.out;rw [HK.out.1] at this;exact this) hlo
      go_wp2
      go_ret2
      first | exact ⟨QZ HE2.out.2.1 HE2.out.2.2,rfl⟩ | exact ⟨QZ HE2.out.1 HE2.out.2.2,rfl⟩ | exact ⟨QZ ((congrArg IntKind.u64.wrap HE2.out.1).trans (Qg _ (Q1c hlo hhi))) HE2.out.2.2,rfl⟩
end Go.Proofs.YtpebcmfpehdafaaGreatDoor
