/- a part of the proof -/
import Derived.Recover
import Derived.Deep.CutBlock
import Derived.Test.YtpebcmfpehdafaaGreatDoorZ32
set_option linter.all false
set_option maxRecDepth 100000
set_option maxHeartbeats 16000000
namespace Go.Proofs.YtpebcmfpehdafaaGreatDoor
open Go Go.RowKit
theorem Q3e (p:Addr)(x:Bool)(w:World)(hc:w.cell? p=some (.bool x))(hz:w.frozen? p=false) :
  CallsD Tryz.prog 61 #[.pointer (some p)] .returning w fun e u' w'=>e=.returned (.tuple #[])∧u'=.returning∧w'=w.setCell p (.bool true):=by
 refine callsD_of_wpS Tryz.func61 rfl fun c₀ cs hu=>?_
 apply wpS_region
 simp [wpOpsS,go_sem,recoverD,hu,Tryz.ntmps61,Exit.thenS,hc,hz,bodyPostS,results,Tryz.results61]
 cases c₀
 simp_all
theorem Q9w {W:World}{σ:Sg}{w:World}(h:St W σ w)(caps:Array Value)(Q:Sg→Prop)
  (HC:∀ w1,St W (upd σ w.heap.size (.raw (.cells #[.bool false] 4))) w1→Calls Tryz.prog 35 caps w1 fun e w'=>e=.returned (.tuple #[])∧∃ τ,Q τ∧τ w.heap.size=some (.raw (.cells #[.bool false] 4))∧St W τ w') :
  Calls Tryz.prog 26 #[.func (.func 35) #[] caps] w fun e w'=>e=.returned (.bool true)∧∃ τ,Q τ∧τ w.heap.size=some (.raw (.cells #[.bool false] 4))∧St W (upd τ w.heap.size (.raw (.cells #[.bool true] 4))) w':=by
 have hmf:∀ (fn:Fn) (first cap:Array Value) (w:World),(Instr.makeFunc fn first cap).run Tryz.prog w=.ok (.func fn first cap) w:=fun _ _ _ _=>rfl
 have H1:=Lh (h.alloc (.cells #[.bool false] 4))
 have HC:=Lh HC
 go_enter_defers Tryz.func26,Tryz.ntmps26
 go_wp2_with fail
 refine (HC.out _ H1.out).mono ?_
 rintro e w1 ⟨rfl,τ,hQ,hτ,hS⟩
 have HQ:=Lh (And.intro hQ hτ)
 have hr:=hS.raw hτ
 have c0:w1.cell? ⟨w.heap.size,0,none⟩=some (.bool false):=by unfold World.cell?;rw [hr];rfl
 have f0:w1.frozen? ⟨w.heap.size,0,none⟩=false:=by unfold World.frozen?;rw [hr];rfl
 have h2:=hS.setRaw hτ 0 (.bool true)
 have h3:=h2.setRaw (Q1 _ _ _) 0 (.bool true)
 rw [Q04] at h3
 have hr2:=h2.raw (Q1 _ _ _)
 have d0:(w1.setCell ⟨w.heap.size,0,none⟩ (.bool true)).cell? ⟨w.heap.size,0,none⟩=some (.bool true):=by unfold World.cell?;rw [hr2];rfl
 have e0:(w1.setCell ⟨w.heap.size,0,none⟩ (.bool true)).frozen? ⟨w.heap.size,0,none⟩=false:=by unfold World.frozen?;rw [hr2];rfl
 have hr3:=h3.raw (Q1 _ _ _)
 have g0:((w1.setCell ⟨w.heap.size,0,none⟩ (.bool true)).setCell ⟨w.heap.size,0,none⟩ (.bool true)).cell? ⟨w.heap.size,0,none⟩=some (.bool true):=by unfold World.cell?;rw [hr3];rfl
 have H3:=Lh h3
 clear hQ hτ hS hr h2 h3 hr2 hr3
 go_wp2_with fail
 refine leaves_cons (f:=61) (args:=#[.pointer (some ⟨w.heap.size,0,none⟩)]) (by simp) (by simp [go_sem]) ?_
 refine (Q3e ⟨w.heap.size,0,none⟩ true _ d0 e0).mono ?_
 rintro e u' w'' ⟨rfl,rfl,rfl⟩
 refine ⟨.bool true,?_,rfl,τ,HQ.out.1,HQ.out.2,?_⟩
 ·simp [settle,results,Tryz.results26,go_sem,g0]
 ·exact H3.out
theorem Ext.none {σ τ:Sg}(h:Ext σ τ){b:Nat}(hb:τ b=Option.none):σ b=Option.none:=by
 cases hc:σ b with
 | none=>rfl
 | some o=>rw [h b o hc] at hb;cases hb
theorem St.rawCell {W:World}{σ:Sg}{w:World}(h:St W σ w){b:Nat}{C:Array Value}{T:TypeId}(hb:σ b=some (.raw (.cells C T (0,0))))(i:Nat){u:Value}(hu:C[i]?=some u):w.cell? ⟨b,i,none⟩=some u:=by
 have hr:=h.raw hb
 unfold World.cell?;rw [hr];simpa using hu
theorem St.rawOpen {W:World}{σ:Sg}{w:World}(h:St W σ w){b:Nat}{C:Array Value}{T:TypeId}(hb:σ b=some (.raw (.cells C T (0,0))))(i:Nat):w.frozen? ⟨b,i,none⟩=false:=by
 have hr:=h.raw hb
 unfold World.frozen?;rw [hr];rfl
structure DoB (σ:Sg) (C X Y:Array Value) (al op:Int) (bC bX bY bA bO bD bK bF:Nat):Prop where
 c:σ bC=some (.raw (.cells C 24))
 x:σ bX=some (.raw (.cells X 26))
 y:σ bY=some (.raw (.cells Y 26))
 a:σ bA=some (.raw (.cells #[.int .i64 al] 3))
 o:σ bO=some (.raw (.cells #[.int .i64 op] 3))
 d:σ bD=some (.raw (.cells #[.int .i64 0,.bool false,.int .i32 0,.string ⟨#[]⟩] 26))
 k:σ bK=some (.raw (.cells #[.int .u32 0] 22))
 f:σ bF=some (.raw (.cells #[.bool false] 4))
 ne:bD≠bK∧bD≠bF∧bK≠bF
theorem DoB.ext {σ τ:Sg}{C X Y:Array Value}{al op:Int}{bC bX bY bA bO bD bK bF:Nat}(h:DoB σ C X Y al op bC bX bY bA bO bD bK bF)(e:Ext σ τ):DoB τ C X Y al op bC bX bY bA bO bD bK bF :=
 ⟨e _ _ h.c,e _ _ h.x,e _ _ h.y,e _ _ h.a,e _ _ h.o,e _ _ h.d,e _ _ h.k,e _ _ h.f,h.ne⟩
def DoR (σ:Sg)(bD bK bF:Nat)(r:DR)(bad:Bool):Sg:=upd (upd (upd σ bD (.raw (.cells #[.int .i64 r.f,.bool r.n,.int .i32 r.e,.string (decS r.c)] 26))) bK (.raw (.cells #[.int .u32 (r.k:Int)] 22))) bF (.raw (.cells #[.bool bad] 4))
def RunOp (fid:FuncId)(args:Nat→Nat→Nat→Nat→Array Value)(W:World)(p:Nat)(mx mn:Int)(tr md al fx:Nat)(nx:Bool)(ex:Int)(cx fy:Nat)(ny:Bool)(ey:Int)(cy rf:Nat)(rn:Bool)(re:Int)(rc rk:Nat):Prop :=
 ∀ τ w1 bk bz bx bu f n e (c:Int),St W τ w1→Ctx τ bk p mx mn (tr:Int) md→τ bz=some (.dec f n e c)→τ bx=some (.dec (fx:Int) nx ex (cx:Int))→τ bu=some (.dec (fy:Int) ny ey (cy:Int))→(bx≠bu∧(al=0→f=0∧bz≠bx∧bz≠bu)) →
  Calls Tryz.prog fid (args bk bz bx bu) w1 fun r w'=>(∃ v,r=.returned (.tuple #[.int .u32 (rk:Int),v])∧ErrV (badK rk tr) v)∧St W (upd τ bz (.dec (rf:Int) rn re (rc:Int))) w'
theorem Q8s {W:World}{σ:Sg}{w:World}(hW:GW W)(h:St W σ w){Tv:TypeId}{av:Value}(hE:EOFv W Tv av)(op:Int)(p md tr:Nat)(mx mn:Int)(hmd:md<8)(htr:tr<4294967296)(hcx:p≤1000∧0≤mx∧mx≤90000∧mn≤0 ∧ -90000≤mn)(fx fy al:Nat)(hfx:fx<4)(hfy:fy<4)(nx ny:Bool)(ex ey:Int)(sx sy:ByteArray)(hsx:Digs sx)(hsy:Digs sy)(hal:al<3){bC bX bY bA bO bD bK bF:Nat}(B:DoB σ #[.int .u32 (p:Int),.int .i32 mx,.int .i32 mn,.int .u32 (tr:Int),.int .i64 (md:Int)] #[.int .i64 (fx:Int),.bool nx,.int .i32 ex,.string sx] #[.int .i64 (fy:Int),.bool ny,.int .i32 ey,.string sy] (al:Int) op bC bX bY bA bO bD bK bF)
  (rf:Nat) (rn:Bool) (re:Int) (rc rk:Nat) (hrf:rf<4) (hrc:rc<BB^8) (hrk:rk<4096)
  (HOP:(op=0∧RunOp 36 (fun bk bz bx bu=>#[.pointer (some ⟨bk,0,none⟩),.pointer (some ⟨bz,0,none⟩),.pointer (some ⟨bx,0,none⟩),.pointer (some ⟨bu,0,none⟩)]) W p mx mn (tr % 4096) md al fx nx ex (valS sx sx.size) fy ny ey (valS sy sy.size) rf rn re rc rk)∨(op=3∧RunOp 39 (fun bk bz bx bu=>#[.pointer (some ⟨bk,0,none⟩),.pointer (some ⟨bz,0,none⟩),.pointer (some ⟨bx,0,none⟩),.pointer (some ⟨bu,0,none⟩)]) W p mx mn (tr % 4096) md al fx nx ex (valS sx sx.size) fy ny ey (valS sy sy.size) rf rn re rc rk)∨(op=6∧RunOp 42 (fun bk bz bx bu=>#[.pointer (some ⟨bk,0,none⟩),.pointer (some ⟨bz,0,none⟩),.pointer (some ⟨bx,0,none⟩)]) W p mx mn (tr % 4096) md al fx nx ex (valS sx sx.size) fy ny ey (valS sy sy.size) rf rn re rc rk)∨(op=7∧RunOp 43 (fun bk bz bx bu=>#[.pointer (some ⟨bk,0,none⟩),.pointer (some ⟨bz,0,none⟩),.pointer (some ⟨bx,0,none⟩)]) W p mx mn (tr % 4096) md al fx nx ex (valS sx sx.size) fy ny ey (valS sy sy.size) rf rn re rc rk)∨(op=8∧RunOp 44 (fun bk bz bx bu=>#[.pointer (some ⟨bk,0,none⟩),.pointer (some ⟨bz,0,none⟩),.pointer (some ⟨bx,0,none⟩)]) W p mx mn (tr % 4096) md al fx nx ex (valS sx sx.size) fy ny ey (valS sy sy.size) rf rn re rc rk)∨(op=9∧RunOp 45 (fun bk bz bx bu=>#[.pointer (some ⟨bk,0,none⟩),.pointer (some ⟨bz,0,none⟩),.pointer (some ⟨bx,0,none⟩)]) W p mx mn (tr % 4096) md al fx nx ex (valS sx sx.size) fy ny ey (valS sy sy.size) rf rn re rc rk)∨(op=10∧RunOp 46 (fun bk bz bx bu=>#[.pointer (some ⟨bk,0,none⟩),.pointer (some ⟨bz,0,none⟩),.pointer (some ⟨bx,0,none⟩)]) W p mx mn (tr % 4096) md al fx nx ex (valS sx sx.size) fy ny ey (valS sy sy.size) rf rn re rc rk)∨(op=11∧RunOp 47 (fun bk bz bx bu=>#[.pointer (some ⟨bk,0,none⟩),.pointer (some ⟨bz,0,none⟩),.pointer (some ⟨bx,0,none⟩)]) W p mx mn (tr % 4096) md al fx nx ex (valS sx sx.size) fy ny ey (valS sy sy.size) rf rn re rc rk)∨(op=12∧RunOp 48 (fun bk bz bx bu=>#[.pointer (some ⟨bk,0,none⟩),.pointer (some ⟨bz,0,none⟩),.pointer (some ⟨bx,0,none⟩)]) W p mx mn (tr % 4096) md al fx nx ex (valS sx sx.size) fy ny ey (valS sy sy.size) rf rn re rc rk)∨(op=13∧RunOp 49 (fun bk bz bx bu=>#[.pointer (some ⟨bk,0,none⟩),.pointer (some ⟨bz,0,none⟩),.pointer (some ⟨bx,0,none⟩),.pointer (some ⟨bu,0,none⟩)]) W p mx mn (tr % 4096) md al fx nx ex (valS sx sx.size) fy ny ey (valS sy sy.size) rf rn re rc rk)∨(op=1∧RunOp 37 (fun bk bz bx bu=>#[.pointer (some ⟨bk,0,none⟩),.pointer (some ⟨bz,0,none⟩),.pointer (some ⟨bx,0,none⟩),.pointer (some ⟨bu,0,none⟩)]) W p mx mn (tr % 4096) md al fx nx ex (valS sx sx.size) fy ny ey (valS sy sy.size) rf rn re rc rk)∨(op=2∧RunOp 38 (fun bk bz bx bu=>#[.pointer (some ⟨bk,0,none⟩),.pointer (some ⟨bz,0,none⟩),.pointer (some ⟨bx,0,none⟩),.pointer (some ⟨bu,0,none⟩)]) W p mx mn (tr % 4096) md al fx nx ex (valS sx sx.size) fy ny ey (valS sy sy.size) rf rn re rc rk)∨(op=4∧RunOp 40 (fun bk bz bx bu=>#[.pointer (some ⟨bk,0,none⟩),.pointer (some ⟨bz,0,none⟩),.pointer (some ⟨bx,0,none⟩),.pointer (some ⟨bu,0,none⟩)]) W p mx mn (tr % 4096) md al fx nx ex (valS sx sx.size) fy ny ey (valS sy sy.size) rf rn re rc rk)∨(op=5∧RunOp 41 (fun bk bz bx bu=>#[.pointer (some ⟨bk,0,none⟩),.pointer (some ⟨bz,0,none⟩),.pointer (some ⟨bx,0,none⟩),.pointer (some ⟨bu,0,none⟩)]) W p mx mn (tr % 4096) md al fx nx ex (valS sx sx.size) fy ny ey (valS sy sy.size) rf rn re rc rk)) :
  Calls Tryz.prog 35 #[.pointer (some ⟨bC,0,none⟩),.pointer (some ⟨bX,0,none⟩),.pointer (some ⟨bY,0,none⟩),.pointer (some ⟨bA,0,none⟩),.pointer (some ⟨bO,0,none⟩),.pointer (some ⟨bD,0,none⟩),.pointer (some ⟨bK,0,none⟩),.pointer (some ⟨bF,0,none⟩)] w fun e w'=>e=.returned (.tuple #[])∧St W (DoR σ bD bK bF ⟨(rf:Int),rn,re,rc,rk⟩ (badK rk (tr % 4096))) w':=by
 have H:=Lh h
 have HB:=Lh B
 have HCX:Hid (Calls Tryz.prog 29 #[.agg #[.int .u32 (p:Int),.int .i32 mx,.int .i32 mn,.int .u32 (tr:Int),.int .i64 (md:Int)]] w fun r w'=>∃ b T,r=.returned (.pointer (some ⟨b,0,none⟩))∧σ b=none∧St W (upd σ b (.raw (.cells #[.int .u32 (p:Int),.int .i32 mx,.int .i32 mn,.int .u32 ((tr % 4096:Nat):Int),.string (rndS md)] T))) w'):=Lh (Q3d h p mx mn tr md hmd htr)
 have HDX:Hid (∀ τ w2,St W τ w2→Calls Tryz.prog 28 #[.agg #[.int .i64 (fx:Int),.bool nx,.int .i32 ex,.string sx]] w2 fun r w'=>∃ b,r=.returned (.pointer (some ⟨b,0,none⟩))∧τ b=none∧St W (upd τ b (.dec (fx:Int) nx ex (valS sx sx.size:Nat))) w'):=Lh (fun τ w2 q=>Q5P q hE fx hfx nx ex sx hsx)
 have HDY:Hid (∀ τ w2,St W τ w2→Calls Tryz.prog 28 #[.agg #[.int .i64 (fy:Int),.bool ny,.int .i32 ey,.string sy]] w2 fun r w'=>∃ b,r=.returned (.pointer (some ⟨b,0,none⟩))∧τ b=none∧St W (upd τ b (.dec (fy:Int) ny ey (valS sy sy.size:Nat))) w'):=Lh (fun τ w2 q=>Q5P q hE fy hfy ny ey sy hsy)
 have HPL:Hid (∀ τ w2 b,St W τ w2→τ b=some (.dec (rf:Int) rn re (rc:Int))→Calls Tryz.prog 31 #[.pointer (some ⟨b,0,none⟩)] w2 fun r w'=>r=.returned (.agg #[.int .i64 (rf:Int),.bool rn,.int .i32 re,.string (decS rc)])∧St W τ w'):=Lh (fun τ w2 b q hb=>Q53 hW q rf hrf hb hrc)
 have HTL:Hid (∀ w2,Calls Tryz.prog 32 #[.int .u32 (rk:Int)] w2 fun e w'=>e=.returned (.int .u32 (rk:Int))∧∃ o,w'=w2.alloc o):=Lh (fun w2=>Q6n rk hrk w2)
 have HOP:=Lh HOP
 have HCt:=Lh (And.intro hcx hmd)
 generalize valS sx sx.size=cx at HDX HOP
 generalize valS sy sy.size=cy at HDY HOP
 unfold DoR
 simp only []
 generalize decS rc=RS at HPL ⊢
 generalize hbd:badK rk (tr % 4096)=bad at ⊢
 generalize tr % 4096=tr' at HCX HOP hbd
 have HBD:=Lh hbd
 clear hbd
 obtain ⟨c0,c1,c2,c3,c4⟩:w.cell? ⟨bC,0,none⟩=some (.int .u32 (p:Int))∧w.cell? ⟨bC,1,none⟩=some (.int .i32 mx)∧w.cell? ⟨bC,2,none⟩=some (.int .i32 mn)∧w.cell? ⟨bC,3,none⟩=some (.int .u32 (tr:Int))∧w.cell? ⟨bC,4,none⟩=some (.int .i64 (md:Int)):=⟨h.rawCell B.c 0 rfl,h.rawCell B.c 1 rfl,h.rawCell B.c 2 rfl,h.rawCell B.c 3 rfl,h.rawCell B.c 4 rfl⟩
 clear h hE hmd htr hcx hfx hfy hsx hsy hrf hrc hrk B
 go_enter Tryz.func35, Tryz.ntmps35
 go_wp2_with fail
 refine HCX.out.mono ?_
 rintro r w1 ⟨bk,Tk,rfl,hnk,hS⟩
 have E1:=Ext.new hnk (.raw (.cells #[.int .u32 (p:Int),.int .i32 mx,.int .i32 mn,.int .u32 (tr':Int),.string (rndS md)] Tk))
 have hk1:=Q1 σ bk (.raw (.cells #[.int .u32 (p:Int),.int .i32 mx,.int .i32 mn,.int .u32 (tr':Int),.string (rndS md)] Tk))
 generalize upd σ bk (.raw (.cells #[.int .u32 (p:Int),.int .i32 mx,.int .i32 mn,.int .u32 (tr':Int),.string (rndS md)] Tk))=σ1 at hS E1 hk1
 have H1:=Lh hS;have HE1:=Lh E1;have HK1:Hid (Ctx σ1 bk p mx mn (tr':Int) md):=Lh ⟨Tk,hk1,HCt.out.1.1,HCt.out.1.2.1,HCt.out.1.2.2.1,HCt.out.1.2.2.2.1,HCt.out.1.2.2.2.2,HCt.out.2⟩
 clear hnk hS E1 hk1 c0 c1 c2 c3 c4 HCX
 go_wp2_with fail
 have HC:Hid (∀ τ w2,Ext σ τ→St W τ w2→w2.cell? ⟨bX,0,none⟩=some (.int .i64 (fx:Int))∧w2.cell? ⟨bX,1,none⟩=some (.bool nx)∧w2.cell? ⟨bX,2,none⟩=some (.int .i32 ex)∧w2.cell? ⟨bX,3,none⟩=some (.string sx)∧w2.cell? ⟨bY,0,none⟩=some (.int .i64 (fy:Int))∧w2.cell? ⟨bY,1,none⟩=some (.bool ny)∧w2.cell? ⟨bY,2,none⟩=some (.int .i32 ey)∧w2.cell? ⟨bY,3,none⟩=some (.string sy)):=Lh (fun τ w2 e q=>⟨q.rawCell (e _ _ HB.out.x) 0 rfl,q.rawCell (e _ _ HB.out.x) 1 rfl,q.rawCell (e _ _ HB.out.x) 2 rfl,q.rawCell (e _ _ HB.out.x) 3 rfl,q.rawCell (e _ _ HB.out.y) 0 rfl,q.rawCell (e _ _ HB.out.y) 1 rfl,q.rawCell (e _ _ HB.out.y) 2 rfl,q.rawCell (e _ _ HB.out.y) 3 rfl⟩)
 refine AH.start (fun x=>x.cell? ⟨bX,0,none⟩=some (.int .i64 (fx:Int))∧x.cell? ⟨bX,1,none⟩=some (.bool nx)∧x.cell? ⟨bX,2,none⟩=some (.int .i32 ex)∧x.cell? ⟨bX,3,none⟩=some (.string sx)∧x.cell? ⟨bY,0,none⟩=some (.int .i64 (fy:Int))∧x.cell? ⟨bY,1,none⟩=some (.bool ny)∧x.cell? ⟨bY,2,none⟩=some (.int .i32 ey)∧x.cell? ⟨bY,3,none⟩=some (.string sy)) (by kernel_rfl) ?_
 generalize hw0:w1.drew=w0
 have H0:Hid (St W σ1 w0):=by rw [← hw0];exact Lh H1.out.drew
 clear hw0 H1
 have s0:=HC.out _ _ HE1.out H0.out
 refine AH.z 0 s0 ?_
 refine AH.z 2 s0 ?_
 refine AH.o 1 (fun K hK=>?_)
 go_simp
 refine (HDX.out _ _ H0.out).mono ?_
 rintro r w2 ⟨ba,rfl,hna,hS⟩
 have E2:=HE1.out.trans (Ext.new hna (.dec (fx:Int) nx ex (cx:Int)))
 have ha2:=Q1 σ1 ba (.dec (fx:Int) nx ex (cx:Int))
 have HK2:=Lh (HK1.out.ext (Ext.new hna (.dec (fx:Int) nx ex (cx:Int))))
 have HNA:=Lh (HE1.out.none hna)
 generalize upd σ1 ba (.dec (fx:Int) nx ex (cx:Int))=σ2 at hS E2 ha2 HK2
 have H2:=Lh hS;have HE2:=Lh E2;have HA2:=Lh ha2
 have s2:=HC.out _ _ HE2.out H2.out
 refine hK _ _ s2 ?_
 clear hK K hna hS E2 ha2 H0 HE1 HK1 s0
 try simp only [Act.put,Zp_]
 refine AH.o 3 (fun K hK=>?_)
 go_simp
 refine (HDY.out _ _ H2.out).mono ?_
 rintro r w3 ⟨bb,rfl,hnb,hS⟩
 have E3:=HE2.out.trans (Ext.new hnb (.dec (fy:Int) ny ey (cy:Int)))
 have hb3:=Q1 σ2 bb (.dec (fy:Int) ny ey (cy:Int))
 have HK3:=Lh (HK2.out.ext (Ext.new hnb (.dec (fy:Int) ny ey (cy:Int))))
 have HA3:=Lh (Ext.new hnb (.dec (fy:Int) ny ey (cy:Int)) _ _ HA2.out)
 have HNB:=Lh (HE2.out.none hnb)
 have HAB:Hid (ba≠bb):=Lh (fun e=>(by have:=HA2.out;rw [e,hnb] at this;cases this))
 generalize upd σ2 bb (.dec (fy:Int) ny ey (cy:Int))=σ3 at hS E3 hb3 HK3 HA3
 have H3:=Lh hS;have HE3:=Lh E3;have HB3:=Lh hb3
 have s3:=HC.out _ _ HE3.out H3.out
 refine hK _ _ s3 ?_
 clear hK K hnb hS E3 hb3 H2 HE2 HK2 HA2 s2
 try simp only [Act.put,Zp_]
 refine AH.z 4 s3 ?_
 refine AH.z 5 s3 ?_
 clear s3
 refine AH.done (by kernel_rfl) ?_
 have hn4:=H3.out.none_new
 have hS4:=H3.out.alloc_dec 71 0 0 false
 have E4:=HE3.out.trans (Ext.new hn4 (.dec 0 false 0 0))
 have hz4:=Q1 σ3 w3.heap.size (.dec 0 false 0 0)
 have HK4:=Lh (HK3.out.ext (Ext.new hn4 (.dec 0 false 0 0)))
 have HA4:=Lh (Ext.new hn4 (.dec 0 false 0 0) _ _ HA3.out)
 have HB4:=Lh (Ext.new hn4 (.dec 0 false 0 0) _ _ HB3.out)
 have HNZ:=Lh (HE3.out.none hn4)
 generalize upd σ3 w3.heap.size (.dec 0 false 0 0)=σ4 at hS4 E4 hz4 HK4 HA4 HB4
 have H4:=Lh hS4;have HE4:=Lh E4;have HZ4:=Lh hz4
 clear hS4 E4 hz4
 have HNE4:Hid (w3.heap.size≠ba∧w3.heap.size≠bb):=Lh ⟨fun e=>(by have:=HA3.out;rw [← e,hn4] at this;cases this),fun e=>(by have:=HB3.out;rw [← e,hn4] at this;cases this)⟩
 clear hn4 HE3 HK3 HA3 HB3
 have a0:=H4.out.rawCell (HE4.out _ _ HB.out.a) 0 rfl
 have o0:=H4.out.rawCell (HE4.out _ _ HB.out.o) 0 rfl
 go_upto_block 0 with (fail)
 have HZ3:=Lh (show w3.heap.size=w3.heap.size from rfl)
 generalize hzb:w3.heap.size=bn at HZ4 HNZ HNE4 ⊢
 generalize hw4:w3.alloc (.cells #[.int .i8 0,.bool false,.int .i32 0,.bool false,.slice none 0 0] 71)=w4 at H4 a0 o0 ⊢
 clear hzb hw4 HZ3 H3
 go_cut [11] from 22 to 27 (fun z wx=>wx=w4∧∃ bz f n e c,z=.pointer (some ⟨bz,0,none⟩)∧σ4 bz=some (.dec f n e c)∧σ bz=none∧(al=0→f=0∧bz≠ba∧bz≠bb))
 case first =>
  rcases (show al=0∨al=1∨al=2 by omega) with rfl | rfl | rfl
  ·go_wp2_with fail
   go_meet
   exact ⟨rfl,bn,_,_,_,_,rfl,HZ4.out,HNZ.out,fun _=>⟨rfl,HNE4.out⟩⟩
  ·go_wp2_with fail
   go_meet
   exact ⟨rfl,ba,_,_,_,_,rfl,HA4.out,HNA.out,fun h=>by cases h⟩
  ·go_wp2_with fail
   go_meet
   exact ⟨rfl,bb,_,_,_,_,rfl,HB4.out,HNB.out,fun h=>by cases h⟩
 case rest =>
  obtain ⟨rfl,bz,f,n,e,c,rfl,hz,hnz,hne⟩:=hcut
  have HZ:=Lh hz;have HN:=Lh hnz;have HNE:=Lh hne
  clear hz hnz hne HZ4 HNZ HNB HNA HNE4 HDX HDY HC
  go_upto_block 1 with (fail)
  go_cut [12,13] from 29 to 161 (fun z1 z2 wx=>z1=.int .u32 (rk:Int)∧ErrV bad z2∧St W (upd σ4 bz (.dec (rf:Int) rn re (rc:Int))) wx)
  case first =>
   rcases HOP.out with ⟨rfl,hO⟩ | ⟨rfl,hO⟩ | ⟨rfl,hO⟩ | ⟨rfl,hO⟩ | ⟨rfl,hO⟩ | ⟨rfl,hO⟩ | ⟨rfl,hO⟩ | ⟨rfl,hO⟩ | ⟨rfl,hO⟩ | ⟨rfl,hO⟩ | ⟨rfl,hO⟩ | ⟨rfl,hO⟩ | ⟨rfl,hO⟩ | ⟨rfl,hO⟩
   all_goals
    have HO:=Lh (hO _ _ bk bz ba bb _ _ _ _ H4.out HK4.out HZ.out HA4.out HB4.out ⟨HAB.out,HNE.out⟩)
    clear hO HOP
    go_wp2_with fail
    refine HO.out.mono ?_
    rintro r w5 ⟨⟨v,rfl,hv⟩,hS⟩
    rw [HBD.out] at hv
    have HV:=Lh (And.intro hv hS)
    clear hv hS
    go_wp2_with fail
    go_meet
    exact ⟨rfl,HV.out.1,HV.out.2⟩
  case rest =>
   obtain ⟨rfl,hv,hS⟩:=hcut
   have hn5:=Q1 σ4 bz (.dec (rf:Int) rn re (rc:Int))
   have E5:=HE4.out.upd_skip HN.out (.dec (rf:Int) rn re (rc:Int))
   generalize upd σ4 bz (.dec (rf:Int) rn re (rc:Int))=σ5 at hS hn5 E5
   have H5:=Lh hS;have HN5:=Lh hn5;have HE5:=Lh E5
   have HNE:Hid (∀ w,(((eqGuard BinOp.neq 74 (Operand.tmp 166) (Operand.const Value.nilIface) u13 Value.nilIface).run Tryz.prog w).andThen fun a w'=>((binOp BinOp.neq 74 u13 Value.nilIface).run Tryz.prog w').andThen fun a w'=>Result.ok (Next.value a) w')=Result.ok (Next.value (.bool bad)) w):=Lh (by
    rcases hv with ⟨rfl,T,x,rfl⟩ | ⟨rfl,rfl⟩
    ·intro w;rfl
    ·intro w;kernel_rfl)
   clear hv hS hn5 E5 a0 o0 H4 HE4 HK4 HA4 HB4 HOP
   go_wp2_with fail
   refine AH.start (fun _=>True) (by kernel_rfl) ?_
   generalize hw6:wc.drew=w6
   have H6:Hid (St W σ5 w6):=by rw [← hw6];exact Lh H5.out.drew
   clear hw6 H5
   refine AH.z 0 trivial ?_
   refine AH.z 2 trivial ?_
   refine AH.z 4 trivial ?_
   refine AH.y (i:=5) (v:=?v8) rfl (by kernel_rfl) (fun _ _ _ h=>h) trivial ?a8 ?b8
   case a8=>(intro wy hy;go_simp;exact HNE.out _)
   try simp only [Act.put,Zp_]
   refine AH.o 1 (fun K hK=>?_)
   go_simp
   refine (HPL.out _ _ _ H6.out HN5.out).mono ?_
   rintro r w7 ⟨rfl,hS⟩
   have H7:=Lh hS
   refine hK _ _ trivial ?_
   clear hK K hS H6
   try simp only [Act.put,Zp_]
   refine AH.o 3 (fun K hK=>?_)
   go_simp
   refine (HTL.out _).mono ?_
   rintro r w8 ⟨rfl,o,hw⟩
   have H8:Hid (St W σ w8):=Lh (by rw [hw];exact (H7.out.alloc_any o).less HE5.out)
   refine hK _ _ trivial ?_
   clear hK K hw H7
   try simp only [Act.put,Zp_]
   have d0:=H8.out.rawCell HB.out.d 0 rfl;have d1:=H8.out.rawCell HB.out.d 1 rfl;have d2:=H8.out.rawCell HB.out.d 2 rfl;have d3:=H8.out.rawCell HB.out.d 3 rfl
   have e0:=H8.out.rawOpen HB.out.d 0;have e1:=H8.out.rawOpen HB.out.d 1;have e2:=H8.out.rawOpen HB.out.d 2;have e3:=H8.out.rawOpen HB.out.d 3
   refine AH.o 6 (fun K hK=>?_)
   go_simp
   refine hK _ _ trivial ?_
   clear hK K d0 d1 d2 d3 e0 e1 e2 e3
   try simp only [Act.put,Zp_]
   have H9:Hid (St W (upd σ bD (.raw (.cells #[.int .i64 (rf:Int),.bool rn,.int .i32 re,.string RS] 26))) ((((w8.setCell ⟨bD,0,none⟩ (.int .i64 (rf:Int))).setCell ⟨bD,1,none⟩ (.bool rn)).setCell ⟨bD,2,none⟩ (.int .i32 re)).setCell ⟨bD,3,none⟩ (.string RS))):=Lh (by
    have q1:=H8.out.setRaw HB.out.d 0 (.int .i64 (rf:Int))
    have q2:=q1.setRaw (Q1 _ _ _) 1 (.bool rn)
    rw [Q04] at q2
    have q3:=q2.setRaw (Q1 _ _ _) 2 (.int .i32 re)
    rw [Q04] at q3
    have q4:=q3.setRaw (Q1 _ _ _) 3 (.string RS)
    rw [Q04] at q4
    exact q4)
   generalize (((w8.setCell ⟨bD,0,none⟩ (.int .i64 (rf:Int))).setCell ⟨bD,1,none⟩ (.bool rn)).setCell ⟨bD,2,none⟩ (.int .i32 re)).setCell ⟨bD,3,none⟩ (.string RS)=w9 at H9 ⊢
   have HK9:=Lh ((Qa σ (.raw (.cells #[.int .i64 (rf:Int),.bool rn,.int .i32 re,.string RS] 26)) (Ne.symm HB.out.ne.1)).trans HB.out.k)
   have HF9:=Lh ((Qa σ (.raw (.cells #[.int .i64 (rf:Int),.bool rn,.int .i32 re,.string RS] 26)) (Ne.symm HB.out.ne.2.1)).trans HB.out.f)
   generalize hσ9:upd σ bD (.raw (.cells #[.int .i64 (rf:Int),.bool rn,.int .i32 re,.string RS] 26))=σ9 at H9 HK9 HF9
   have HS9:=Lh hσ9;clear hσ9
   have k0:=H9.out.rawCell HK9.out 0 rfl
   have k1:=H9.out.rawOpen HK9.out 0
   clear H8
   refine AH.o 7 (fun K hK=>?_)
   go_simp
   refine hK _ _ trivial ?_
   clear hK K k0 k1
   try simp only [Act.put,Zp_]
   have H10:Hid (St W (upd σ9 bK (.raw (.cells #[.int .u32 (rk:Int)] 22))) (w9.setCell ⟨bK,0,none⟩ (.int .u32 (rk:Int)))):=Lh (H9.out.setRaw HK9.out 0 (.int .u32 (rk:Int)))
   generalize w9.setCell ⟨bK,0,none⟩ (.int .u32 (rk:Int))=w10 at H10 ⊢
   have HF10:=Lh ((Qa σ9 (.raw (.cells #[.int .u32 (rk:Int)] 22)) (Ne.symm HB.out.ne.2.2)).trans HF9.out)
   generalize hσ10:upd σ9 bK (.raw (.cells #[.int .u32 (rk:Int)] 22))=σ10 at H10 HF10
   have HS10:=Lh hσ10;clear hσ10
   have k0:=H10.out.rawCell HF10.out 0 rfl
   have k1:=H10.out.rawOpen HF10.out 0
   clear H9 HK9 HF9
   refine AH.o 8 (fun K hK=>?_)
   go_simp
   refine hK _ _ trivial ?_
   clear hK K k0 k1
   try simp only [Act.put,Zp_]
   have H11:Hid (St W (upd σ10 bF (.raw (.cells #[.bool bad] 4))) (w10.setCell ⟨bF,0,none⟩ (.bool bad))):=Lh (H10.out.setRaw HF10.out 0 (.bool bad))
   generalize w10.setCell ⟨bF,0,none⟩ (.bool bad)=w11 at H11 ⊢
   generalize hσ11:upd σ10 bF (.raw (.cells #[.bool bad] 4))=σ11 at H11
   have HS11:=Lh hσ11;clear hσ11
   refine AH.done (by kernel_rfl) ?_
   go_wp2_with fail
   go_returns
   exact ⟨rfl,by rw [HS9.out,HS10.out,HS11.out];exact H11.out⟩
theorem GW.later {w w':World}(h:GW w)(hB:Below w.heap.size w w'):GW w':=⟨((St.E0 w).belowH hB).gk h,((St.E0 w).belowH hB).size h⟩
theorem EOFv.next {w w':World}{Tv:TypeId}{av:Value}(h:EOFv w Tv av)(hB:Below w.heap.size w w'):EOFv w' Tv av:=h.later ((St.E0 w).belowH hB)
theorem Qu {w:World}{b i:Nat}{v:Value}(h:w.cell? ⟨b,i,none⟩=some v):w.setCell ⟨b,i,none⟩ v=w:=by
 have hh:(w.setCell ⟨b,i,none⟩ v).heap=w.heap:=by
  apply Array.ext_getElem?
  intro k
  unfold World.cell? at h
  unfold World.setCell
  simp only [Array.getElem?_modify]
  by_cases hk:b=k
  ·subst hk
   rw [if_pos rfl]
   cases hc:w.heap[b]? with
   | none=>rfl
   | some o =>
    rw [hc] at h
    cases o with
    | cells cs t m =>
     simp only [Option.map_some]
     congr 2
     apply Array.ext_getElem?
     intro j
     by_cases hj:i=j
     ·subst hj
      have:cs[i]?=some v:=by simpa using h
      obtain ⟨hl,he⟩:=Array.getElem?_eq_some_iff.1 this
      rw [this];simp [Array.getElem?_setIfInBounds,hl]
     ·simp [Array.getElem?_setIfInBounds,hj]
    | _=>rfl
  ·rw [if_neg hk]
 show ({ w with heap:=_ }:World)=w
 have h2:(w.setCell ⟨b,i,none⟩ v)={ w with heap:=(w.setCell ⟨b,i,none⟩ v).heap }:=rfl
 rw [hh] at h2
 exact h2
theorem Q9E {w:World}(op al p mx mn tr md fx:Int)(nx:Bool)(ex:Int)(sx:ByteArray)(fy:Int)(ny:Bool)(ey:Int)(sy:ByteArray)(rf:Int)(rn:Bool)(re:Int)(rc rk:Nat)(bad:Bool)
  (HD:∀ σ w1 bC bX bY bA bO bD bK bF,St w σ w1→DoB σ #[.int .u32 p,.int .i32 mx,.int .i32 mn,.int .u32 tr,.int .i64 md] #[.int .i64 fx,.bool nx,.int .i32 ex,.string sx] #[.int .i64 fy,.bool ny,.int .i32 ey,.string sy] al op bC bX bY bA bO bD bK bF →
   Calls Tryz.prog 35 #[.pointer (some ⟨bC,0,none⟩),.pointer (some ⟨bX,0,none⟩),.pointer (some ⟨bY,0,none⟩),.pointer (some ⟨bA,0,none⟩),.pointer (some ⟨bO,0,none⟩),.pointer (some ⟨bD,0,none⟩),.pointer (some ⟨bK,0,none⟩),.pointer (some ⟨bF,0,none⟩)] w1 fun e w'=>e=.returned (.tuple #[])∧St w (DoR σ bD bK bF ⟨rf,rn,re,rc,rk⟩ bad) w') :
  Calls Tryz.prog 17 #[.int .i64 op,.agg #[.int .u32 p,.int .i32 mx,.int .i32 mn,.int .u32 tr,.int .i64 md],.agg #[.int .i64 fx,.bool nx,.int .i32 ex,.string sx],.agg #[.int .i64 fy,.bool ny,.int .i32 ey,.string sy],.int .i64 al] w fun e w'=>e=.returned (.tuple #[.agg #[.int .i64 rf,.bool rn,.int .i32 re,.string (decS rc)],.int .u32 (rk:Int),.bool bad])∧Below w.heap.size w w':=by
 have HDo:=Lh HD
 clear HD
 obtain ⟨w1,hw1⟩:∃ w1,w1=w.alloc (.cells #[.int .i64 op] 3):=⟨_,rfl⟩
 have h1:St w (upd E0 w.heap.size (.raw (.cells #[.int .i64 op] 3))) w1:=by rw [hw1];exact (St.E0 w).alloc _
 have s1:w1.heap.size=w.heap.size+1:=by rw [hw1];simp
 obtain ⟨w2,hw2⟩:∃ w2,w2=w1.alloc (.cells #[.int .u32 p,.int .i32 mx,.int .i32 mn,.int .u32 tr,.int .i64 md] 24):=⟨_,rfl⟩
 have h2:=h1.alloc (.cells #[.int .u32 p,.int .i32 mx,.int .i32 mn,.int .u32 tr,.int .i64 md] 24)
 rw [← hw2,s1] at h2
 have s2:w2.heap.size=w.heap.size+1+1:=by rw [hw2];simp [s1]
 obtain ⟨w3,hw3⟩:∃ w3,w3=w2.alloc (.cells #[.int .i64 fx,.bool nx,.int .i32 ex,.string sx] 26):=⟨_,rfl⟩
 have h3:=h2.alloc (.cells #[.int .i64 fx,.bool nx,.int .i32 ex,.string sx] 26)
 rw [← hw3,s2] at h3
 have s3:w3.heap.size=w.heap.size+1+1+1:=by rw [hw3];simp [s2]
 obtain ⟨w4,hw4⟩:∃ w4,w4=w3.alloc (.cells #[.int .i64 fy,.bool ny,.int .i32 ey,.string sy] 26):=⟨_,rfl⟩
 have h4:=h3.alloc (.cells #[.int .i64 fy,.bool ny,.int .i32 ey,.string sy] 26)
 rw [← hw4,s3] at h4
 have s4:w4.heap.size=w.heap.size+1+1+1+1:=by rw [hw4];simp [s3]
 obtain ⟨w5,hw5⟩:∃ w5,w5=w4.alloc (.cells #[.int .i64 al] 3):=⟨_,rfl⟩
 have h5:=h4.alloc (.cells #[.int .i64 al] 3)
 rw [← hw5,s4] at h5
 have s5:w5.heap.size=w.heap.size+1+1+1+1+1:=by rw [hw5];simp [s4]
 obtain ⟨w6,hw6⟩:∃ w6,w6=w5.alloc (.cells #[.int .i64 0,.bool false,.int .i32 0,.string ⟨#[]⟩] 26):=⟨_,rfl⟩
 have h6:=h5.alloc (.cells #[.int .i64 0,.bool false,.int .i32 0,.string ⟨#[]⟩] 26)
 rw [← hw6,s5] at h6
 have s6:w6.heap.size=w.heap.size+1+1+1+1+1+1:=by rw [hw6];simp [s5]
 obtain ⟨w7,hw7⟩:∃ w7,w7=w6.alloc (.cells #[.int .u32 0] 22):=⟨_,rfl⟩
 have h7:=h6.alloc (.cells #[.int .u32 0] 22)
 rw [← hw7,s6] at h7
 have s7:w7.heap.size=w.heap.size+1+1+1+1+1+1+1:=by rw [hw7];simp [s6]
 obtain ⟨w8,hw8⟩:∃ w8,w8=w7.alloc (.cells #[.bool false] 4):=⟨_,rfl⟩
 have h8:=h7.alloc (.cells #[.bool false] 4)
 rw [← hw8,s7] at h8
 have s8:w8.heap.size=w.heap.size+1+1+1+1+1+1+1+1:=by rw [hw8];simp [s7]
 have HB:DoB (upd (upd (upd (upd (upd (upd (upd (upd E0 w.heap.size (.raw (.cells #[.int .i64 op] 3))) (w.heap.size+1) (.raw (.cells #[.int .u32 p,.int .i32 mx,.int .i32 mn,.int .u32 tr,.int .i64 md] 24))) (w.heap.size+1+1) (.raw (.cells #[.int .i64 fx,.bool nx,.int .i32 ex,.string sx] 26))) (w.heap.size+1+1+1) (.raw (.cells #[.int .i64 fy,.bool ny,.int .i32 ey,.string sy] 26))) (w.heap.size+1+1+1+1) (.raw (.cells #[.int .i64 al] 3))) (w.heap.size+1+1+1+1+1) (.raw (.cells #[.int .i64 0,.bool false,.int .i32 0,.string ⟨#[]⟩] 26))) (w.heap.size+1+1+1+1+1+1) (.raw (.cells #[.int .u32 0] 22))) (w.heap.size+1+1+1+1+1+1+1) (.raw (.cells #[.bool false] 4)))
   #[.int .u32 p,.int .i32 mx,.int .i32 mn,.int .u32 tr,.int .i64 md] #[.int .i64 fx,.bool nx,.int .i32 ex,.string sx] #[.int .i64 fy,.bool ny,.int .i32 ey,.string sy] al op (w.heap.size+1) (w.heap.size+1+1) (w.heap.size+1+1+1) (w.heap.size+1+1+1+1) w.heap.size (w.heap.size+1+1+1+1+1) (w.heap.size+1+1+1+1+1+1) (w.heap.size+1+1+1+1+1+1+1):=by
  refine ⟨?_,?_,?_,?_,?_,?_,?_,?_,by omega,by omega,by omega⟩
  all_goals (repeat (first | exact Q1 _ _ _ | rw [Qa _ _ (by omega)]))
 generalize upd (upd (upd (upd (upd (upd (upd (upd E0 w.heap.size (.raw (.cells #[.int .i64 op] 3))) (w.heap.size+1) (.raw (.cells #[.int .u32 p,.int .i32 mx,.int .i32 mn,.int .u32 tr,.int .i64 md] 24))) (w.heap.size+1+1) (.raw (.cells #[.int .i64 fx,.bool nx,.int .i32 ex,.string sx] 26))) (w.heap.size+1+1+1) (.raw (.cells #[.int .i64 fy,.bool ny,.int .i32 ey,.string sy] 26))) (w.heap.size+1+1+1+1) (.raw (.cells #[.int .i64 al] 3))) (w.heap.size+1+1+1+1+1) (.raw (.cells #[.int .i64 0,.bool false,.int .i32 0,.string ⟨#[]⟩] 26))) (w.heap.size+1+1+1+1+1+1) (.raw (.cells #[.int .u32 0] 22))) (w.heap.size+1+1+1+1+1+1+1) (.raw (.cells #[.bool false] 4))=σ8 at h8 HB
 have HBo:=Lh HB
 clear HB
 have H8:=Lh h8
 have hch:w8=(((((((w.alloc (.cells #[.int .i64 op] 3)).alloc (.cells #[.int .u32 p,.int .i32 mx,.int .i32 mn,.int .u32 tr,.int .i64 md] 24)).alloc (.cells #[.int .i64 fx,.bool nx,.int .i32 ex,.string sx] 26)).alloc (.cells #[.int .i64 fy,.bool ny,.int .i32 ey,.string sy] 26)).alloc (.cells #[.int .i64 al] 3)).alloc (.cells #[.int .i64 0,.bool false,.int .i32 0,.string ⟨#[]⟩] 26)).alloc (.cells #[.int .u32 0] 22)).alloc (.cells #[.bool false] 4):=by
  rw [hw8,hw7,hw6,hw5,hw4,hw3,hw2,hw1]
 have hmf:∀ (fn:Fn) (first cap:Array Value) (w:World),(Instr.makeFunc fn first cap).run Tryz.prog w=.ok (.func fn first cap) w:=fun _ _ _ _=>rfl
 clear h1 h2 h3 h4 h5 h6 h7 h8 s1 s2 s3 s4 s5 s6 s7 s8 hw8 hw7 hw6 hw5 hw4 hw3 hw2 hw1 w1 w2 w3 w4 w5 w6 w7
 have HN:Hid (∃ bO bC bX bY bA bD bK bF,bO=w.heap.size∧bC=w.heap.size+1∧bX=w.heap.size+1+1∧bY=w.heap.size+1+1+1∧bA=w.heap.size+1+1+1+1∧bD=w.heap.size+1+1+1+1+1∧bK=w.heap.size+1+1+1+1+1+1∧bF=w.heap.size+1+1+1+1+1+1+1):=Lh ⟨_,_,_,_,_,_,_,_,rfl,rfl,rfl,rfl,rfl,rfl,rfl,rfl⟩
 go_enter Tryz.func17, Tryz.ntmps17
 go_wp2_with fail
 rw [← hch]
 clear hch
 obtain ⟨bO,bC,bX,bY,bA,bD,bK,bF,eO,eC,eX,eY,eA,eD,eK,eF⟩:=HN.out
 rw [← eF,← eK,← eD,← eA,← eY,← eX,← eC] at HBo ⊢
 clear HN eO eC eX eY eA eD eK eF bO
 refine (Q9w H8.out _ (fun τ=>τ=DoR (upd σ8 w8.heap.size (.raw (.cells #[.bool false] 4))) bD bK bF ⟨rf,rn,re,rc,rk⟩ bad) (fun w1 h1=>?_)).mono ?_
 ·refine (HDo.out _ w1 bC bX bY bA w.heap.size bD bK bF h1 (HBo.out.ext (Ext.new H8.out.none_new _))).mono ?_
  rintro e w' ⟨he,hS⟩
  refine ⟨he,_,rfl,?_,hS⟩
  unfold DoR
  rw [Qa _ _ (Ne.symm (H8.out.ne_new HBo.out.f)),Qa _ _ (Ne.symm (H8.out.ne_new HBo.out.k)),Qa _ _ (Ne.symm (H8.out.ne_new HBo.out.d)),Q1]
 ·rintro e w9 ⟨rfl,τ,rfl,hτ,hS⟩
  have hD:upd (DoR (upd σ8 w8.heap.size (.raw (.cells #[.bool false] 4))) bD bK bF ⟨rf,rn,re,rc,rk⟩ bad) w8.heap.size (.raw (.cells #[.bool true] 4)) bD=some (.raw (.cells #[.int .i64 rf,.bool rn,.int .i32 re,.string (decS rc)] 26)):=by
   unfold DoR
   rw [Qa _ _ (H8.out.ne_new HBo.out.d),Qa _ _ HBo.out.ne.2.1,Qa _ _ HBo.out.ne.1,Q1]
  have hK:upd (DoR (upd σ8 w8.heap.size (.raw (.cells #[.bool false] 4))) bD bK bF ⟨rf,rn,re,rc,rk⟩ bad) w8.heap.size (.raw (.cells #[.bool true] 4)) bK=some (.raw (.cells #[.int .u32 (rk:Int)] 22)):=by
   unfold DoR
   rw [Qa _ _ (H8.out.ne_new HBo.out.k),Qa _ _ HBo.out.ne.2.2,Q1]
  have hF:upd (DoR (upd σ8 w8.heap.size (.raw (.cells #[.bool false] 4))) bD bK bF ⟨rf,rn,re,rc,rk⟩ bad) w8.heap.size (.raw (.cells #[.bool true] 4)) bF=some (.raw (.cells #[.bool bad] 4)):=by
   unfold DoR
   rw [Qa _ _ (H8.out.ne_new HBo.out.f),Q1]
  have HS:=Lh hS
  have HE:Hid (Below w.heap.size w w9.drew):=Lh hS.below.drew
  obtain ⟨w0,hw0⟩:∃ w0,w0=w9.drew:=⟨_,rfl⟩
  have hS0:=hS.drew
  rw [← hw0] at hS0 HE
  have HW0:=Lh hw0
  have d0:w0.cell? ⟨bD,0,none⟩=some (.int .i64 rf):=hS0.rawCell hD 0 rfl
  have d1:w0.cell? ⟨bD,1,none⟩=some (.bool rn):=hS0.rawCell hD 1 rfl
  have d2:w0.cell? ⟨bD,2,none⟩=some (.int .i32 re):=hS0.rawCell hD 2 rfl
  have d3:w0.cell? ⟨bD,3,none⟩=some (.string (decS rc)):=hS0.rawCell hD 3 rfl
  have e0:=hS0.rawOpen hD 0;have e1:=hS0.rawOpen hD 1;have e2:=hS0.rawOpen hD 2;have e3:=hS0.rawOpen hD 3
  have k0:w0.cell? ⟨bK,0,none⟩=some (.int .u32 (rk:Int)):=hS0.rawCell hK 0 rfl;have k1:=hS0.rawOpen hK 0
  have f0:w0.cell? ⟨bF,0,none⟩=some (.bool bad):=hS0.rawCell hF 0 rfl;have f1:=hS0.rawOpen hF 0
  have HI:Hid ((((w0.setCell ⟨bD,0,none⟩ (.int .i64 rf)).setCell ⟨bD,1,none⟩ (.bool rn)).setCell ⟨bD,2,none⟩ (.int .i32 re)).setCell ⟨bD,3,none⟩ (.string (decS rc))=w0):=Lh (by
   rw [Qu d0,Qu d1,Qu d2,Qu d3])
  have HJ:=Lh (Qu k0)
  have HL:=Lh (Qu f0)
  clear hS0 hD hK hF hτ hS hw0 HDo HBo H8
  go_wp2_with fail
  refine AH.start (fun x=>x=w0) (by kernel_rfl) ?_
  rw [← HW0.out]
  refine AH.z 0 rfl ?_
  refine AH.z 1 rfl ?_
  refine AH.z 2 rfl ?_
  refine AH.o 3 (fun K hK=>?_)
  go_simp
  rw [HI.out]
  refine hK _ _ rfl ?_
  clear hK K
  try simp only [Act.put,Zp_]
  refine AH.o 4 (fun K hK=>?_)
  go_simp
  rw [HJ.out]
  refine hK _ _ rfl ?_
  clear hK K
  try simp only [Act.put,Zp_]
  refine AH.o 5 (fun K hK=>?_)
  go_simp
  rw [HL.out]
  refine hK _ _ rfl ?_
  clear hK K
  try simp only [Act.put,Zp_]
  refine AH.done (by kernel_rfl) ?_
  go_wp2_with fail
  exact bodyPost_ret (v:=.tuple #[.agg #[.int .i64 rf,.bool rn,.int .i32 re,.string (decS rc)],.int .u32 (rk:Int),.bool bad]) (by simp [results,Tryz.results17,go_sem,d0,d1,d2,d3,k0,f0]) rfl ⟨rfl,HE.out⟩
end Go.Proofs.YtpebcmfpehdafaaGreatDoor
