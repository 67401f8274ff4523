/- a part of the proof -/
import Derived.Test.YtpfjmeadikdddaaGreatDoorZ40
set_option linter.all false
set_option maxRecDepth 100000
set_option maxHeartbeats 16000000
namespace Go.Proofs.YtpfjmeadikdddaaGreatDoor
open Go Go.RowKit
theorem Qb0 {W:World}{σ:Sg}{w:World}(h:St W σ w)(caps:Array Value)(Q:Sg→Prop)
  (HC:∀ w1,St W (upd σ w.heap.size (.raw (.cells #[.bool false] 4))) w1→Calls Tryz.prog 56 caps w1 fun e w'=>e=.returned (.tuple #[])∧∃ τ,Q τ∧τ w.heap.size=some (.raw (.cells #[.bool false] 4))∧St W τ w') :
  Calls Tryz.prog 38 #[.func (.func 56) #[] caps] w fun e w'=>e=.returned (.bool true)∧∃ τ,Q τ∧τ w.heap.size=some (.raw (.cells #[.bool false] 4))∧St W (upd τ w.heap.size (.raw (.cells #[.bool true] 4))) w':=by
 have hmf:∀ (fn:Fn) (first cap:Array Value) (w:World),(Instr.makeFunc fn first cap).run Tryz.prog w=.ok (.func fn first cap) w:=fun _ _ _ _=>rfl
 have H1:=Lh (h.alloc (.cells #[.bool false] 4))
 have HC:=Lh HC
 go_enter_defers Tryz.func38,Tryz.ntmps38
 go_wp2_with fail
 refine (HC.out _ H1.out).mono ?_
 rintro e w1 ⟨rfl,τ,hQ,hτ,hS⟩
 have HQ:=Lh (And.intro hQ hτ)
 have hr:=hS.raw hτ
 have c0:w1.cell? ⟨w.heap.size,0,none⟩=some (.bool false):=by unfold World.cell?;rw [hr];rfl
 have f0:w1.frozen? ⟨w.heap.size,0,none⟩=false:=by unfold World.frozen?;rw [hr];rfl
 have h2:=hS.setRaw hτ 0 (.bool true)
 have h3:=h2.setRaw (Qa _ _ _) 0 (.bool true)
 rw [Q0W] at h3
 have hr2:=h2.raw (Qa _ _ _)
 have d0:(w1.setCell ⟨w.heap.size,0,none⟩ (.bool true)).cell? ⟨w.heap.size,0,none⟩=some (.bool true):=by unfold World.cell?;rw [hr2];rfl
 have e0:(w1.setCell ⟨w.heap.size,0,none⟩ (.bool true)).frozen? ⟨w.heap.size,0,none⟩=false:=by unfold World.frozen?;rw [hr2];rfl
 have hr3:=h3.raw (Qa _ _ _)
 have g0:((w1.setCell ⟨w.heap.size,0,none⟩ (.bool true)).setCell ⟨w.heap.size,0,none⟩ (.bool true)).cell? ⟨w.heap.size,0,none⟩=some (.bool true):=by unfold World.cell?;rw [hr3];rfl
 have H3:=Lh h3
 clear hQ hτ hS hr h2 h3 hr2 hr3
 go_wp2_with fail
 refine leaves_cons (f:=80) (args:=#[.pointer (some ⟨w.heap.size,0,none⟩)]) (by simp) (by simp [go_sem]) ?_
 refine (Q6g ⟨w.heap.size,0,none⟩ true _ d0 e0).mono ?_
 rintro e u' w'' ⟨rfl,rfl,rfl⟩
 refine ⟨.bool true,?_,rfl,τ,HQ.out.1,HQ.out.2,?_⟩
 ·simp [settle,results,Tryz.results38,go_sem,g0]
 ·exact H3.out
theorem Qb5 {W:World}{σ:Sg}{w:World}(h:St W σ w){Tv:TypeId}{av:Value}(hE:EOFv W Tv av)(fx fy:Nat)(hfx:fx<4)(hfy:fy<4)(nx ny:Bool)(ex ey:Int)(sx sy:ByteArray)(hsx:Digs sx)(hsy:Digs sy){bX bY bN:Nat}{T:TypeId}(hX:σ bX=some (.raw (.cells #[.int .i64 (fx:Int),.bool nx,.int .i32 ex,.string sx] 26)))(hY:σ bY=some (.raw (.cells #[.int .i64 (fy:Int),.bool ny,.int .i32 ey,.string sy] 26)))(hN:σ bN=some (.raw (.cells #[.int .i64 0] T)))(v:Int)
  (HC:∀ τ w1 ba bb,St W τ w1→τ ba=some (.dec (fx:Int) nx ex ((valS sx sx.size:Nat):Int))→τ bb=some (.dec (fy:Int) ny ey ((valS sy sy.size:Nat):Int))→ba≠bb→Calls Tryz.prog 57 #[.pointer (some ⟨ba,0,none⟩),.pointer (some ⟨bb,0,none⟩)] w1 fun r w'=>r=.returned (.int .i64 v)∧St W τ w') :
  Calls Tryz.prog 56 #[.pointer (some ⟨bX,0,none⟩),.pointer (some ⟨bY,0,none⟩),.pointer (some ⟨bN,0,none⟩)] w fun e w'=>e=.returned (.tuple #[])∧St W (upd σ bN (.raw (.cells #[.int .i64 v] T))) w':=by
 have H:=Lh h
 have nX:bX≠bN:=by rintro rfl;rw [hX] at hN;cases hN
 have nY:bY≠bN:=by rintro rfl;rw [hY] at hN;cases hN
 have HDX:Hid (∀ τ w2,St W τ w2→Calls Tryz.prog 40 #[.agg #[.int .i64 (fx:Int),.bool nx,.int .i32 ex,.string sx]] w2 fun r w'=>∃ b,r=.returned (.pointer (some ⟨b,0,none⟩))∧τ b=none∧St W (upd τ b (.dec (fx:Int) nx ex (valS sx sx.size:Nat))) w'):=Lh (fun τ w2 q=>Q8U q hE fx hfx nx ex sx hsx)
 have HDY:Hid (∀ τ w2,St W τ w2→Calls Tryz.prog 40 #[.agg #[.int .i64 (fy:Int),.bool ny,.int .i32 ey,.string sy]] w2 fun r w'=>∃ b,r=.returned (.pointer (some ⟨b,0,none⟩))∧τ b=none∧St W (upd τ b (.dec (fy:Int) ny ey (valS sy sy.size:Nat))) w'):=Lh (fun τ w2 q=>Q8U q hE fy hfy ny ey sy hsy)
 have HK:=Lh HC
 generalize valS sx sx.size=cx at HDX HK
 generalize valS sy sy.size=cy at HDY HK
 have HS:Hid (∀ τ w2,Ext σ τ→St W τ w2→w2.cell? ⟨bX,0,none⟩=some (.int .i64 (fx:Int))∧w2.cell? ⟨bX,1,none⟩=some (.bool nx)∧w2.cell? ⟨bX,2,none⟩=some (.int .i32 ex)∧w2.cell? ⟨bX,3,none⟩=some (.string sx)∧w2.cell? ⟨bY,0,none⟩=some (.int .i64 (fy:Int))∧w2.cell? ⟨bY,1,none⟩=some (.bool ny)∧w2.cell? ⟨bY,2,none⟩=some (.int .i32 ey)∧w2.cell? ⟨bY,3,none⟩=some (.string sy)):=Lh (fun τ w2 e q=>by
  have hX:=e _ _ hX;have hY:=e _ _ hY
  exact ⟨q.rawCell hX 0 rfl,q.rawCell hX 1 rfl,q.rawCell hX 2 rfl,q.rawCell hX 3 rfl,q.rawCell hY 0 rfl,q.rawCell hY 1 rfl,q.rawCell hY 2 rfl,q.rawCell hY 3 rfl⟩)
 have HT:Hid (∀ w2,St W (upd σ bN (.raw (.cells #[.int .i64 v] T))) w2→w2.cell? ⟨bX,0,none⟩=some (.int .i64 (fx:Int))∧w2.cell? ⟨bX,1,none⟩=some (.bool nx)∧w2.cell? ⟨bX,2,none⟩=some (.int .i32 ex)∧w2.cell? ⟨bX,3,none⟩=some (.string sx)∧w2.cell? ⟨bY,0,none⟩=some (.int .i64 (fy:Int))∧w2.cell? ⟨bY,1,none⟩=some (.bool ny)∧w2.cell? ⟨bY,2,none⟩=some (.int .i32 ey)∧w2.cell? ⟨bY,3,none⟩=some (.string sy)):=Lh (fun w2 q=>by
  have hX:=(Qc σ (.raw (.cells #[.int .i64 v] T)) nX).trans hX;have hY:=(Qc σ (.raw (.cells #[.int .i64 v] T)) nY).trans hY
  exact ⟨q.rawCell hX 0 rfl,q.rawCell hX 1 rfl,q.rawCell hX 2 rfl,q.rawCell hX 3 rfl,q.rawCell hY 0 rfl,q.rawCell hY 1 rfl,q.rawCell hY 2 rfl,q.rawCell hY 3 rfl⟩)
 have HN:=Lh hN
 clear h hE hfx hfy hsx hsy hX hY hN nX nY HC
 go_enter Tryz.func56, Tryz.ntmps56
 go_wp2_with fail
 refine AH.start (fun x=>x.cell? ⟨bX,0,none⟩=some (.int .i64 (fx:Int))∧x.cell? ⟨bX,1,none⟩=some (.bool nx)∧x.cell? ⟨bX,2,none⟩=some (.int .i32 ex)∧x.cell? ⟨bX,3,none⟩=some (.string sx)∧x.cell? ⟨bY,0,none⟩=some (.int .i64 (fy:Int))∧x.cell? ⟨bY,1,none⟩=some (.bool ny)∧x.cell? ⟨bY,2,none⟩=some (.int .i32 ey)∧x.cell? ⟨bY,3,none⟩=some (.string sy)) (by kernel_rfl) ?_
 generalize hw0:w.drew=w0
 have H0:Hid (St W σ w0):=by rw [← hw0];exact Lh H.out.drew
 clear hw0 H
 have s0:=HS.out _ _ (fun _ _ q=>q) H0.out
 refine AH.z 0 s0 ?_
 refine AH.z 2 s0 ?_
 clear s0
 refine AH.o 1 (fun K hK=>?_)
 go_simp
 refine (HDX.out _ _ H0.out).mono ?_
 rintro r w2 ⟨ba,rfl,hna,hS⟩
 have E2:=Ext.new hna (.dec (fx:Int) nx ex (cx:Int))
 have ha2:=Qa σ ba (.dec (fx:Int) nx ex (cx:Int))
 generalize upd σ ba (.dec (fx:Int) nx ex (cx:Int))=σ2 at hS E2 ha2
 have H2:=Lh hS;have HE2:=Lh E2;have HA2:=Lh ha2
 refine hK _ _ (HS.out _ _ HE2.out H2.out) ?_
 clear hK K hna hS E2 ha2 H0
 try simp only [Act.put,Zp_]
 refine AH.o 3 (fun K hK=>?_)
 go_simp
 refine (HDY.out _ _ H2.out).mono ?_
 rintro r w3 ⟨bb,rfl,hnb,hS⟩
 have E3:=HE2.out.trans (Ext.new hnb (.dec (fy:Int) ny ey (cy:Int)))
 have hb3:=Qa σ2 bb (.dec (fy:Int) ny ey (cy:Int))
 have HA3:=Lh (Ext.new hnb (.dec (fy:Int) ny ey (cy:Int)) _ _ HA2.out)
 have HAB:Hid (ba≠bb):=Lh (fun e=>(by have:=HA2.out;rw [e,hnb] at this;cases this))
 generalize upd σ2 bb (.dec (fy:Int) ny ey (cy:Int))=σ3 at hS E3 hb3 HA3
 have H3:=Lh hS;have HE3:=Lh E3;have HB3:=Lh hb3
 refine hK _ _ (HS.out _ _ HE3.out H3.out) ?_
 clear hK K hnb hS E3 hb3 H2 HE2 HA2
 try simp only [Act.put,Zp_]
 refine AH.o 4 (fun K hK=>?_)
 go_simp
 refine (HK.out _ _ _ _ H3.out HA3.out HB3.out HAB.out).mono ?_
 rintro r w4 ⟨rfl,hS⟩
 have H4:=Lh hS
 refine hK _ _ (HS.out _ _ HE3.out H4.out) ?_
 clear hK K hS H3 HA3 HB3 HAB
 try simp only [Act.put,Zp_]
 have H5:Hid (St W σ w4):=Lh (H4.out.less HE3.out)
 have k0:=H5.out.rawCell HN.out 0 rfl
 have k1:=H5.out.rawOpen HN.out 0
 have H6:Hid (St W (upd σ bN (.raw (.cells #[.int .i64 v] T))) (w4.setCell ⟨bN,0,none⟩ (.int .i64 v))):=Lh (H5.out.setRaw HN.out 0 (.int .i64 v))
 refine AH.o 5 (fun K hK=>?_)
 go_simp
 refine hK _ _ (HT.out _ H6.out) ?_
 clear hK K k0 k1 H4 H5
 try simp only [Act.put,Zp_]
 refine AH.done (by kernel_rfl) ?_
 go_wp2_with fail
 go_returns
 exact ⟨rfl,H6.out⟩
theorem Qb7 {w:World}{Tv:TypeId}{av:Value}(hE:EOFv w Tv av)(fx fy:Nat)(hfx:fx<4)(hfy:fy<4)(nx ny:Bool)(ex ey:Int)(sx sy:ByteArray)(hsx:Digs sx)(hsy:Digs sy)(v:Int)
  (HC:∀ τ w1 ba bb,St w τ w1→τ ba=some (.dec (fx:Int) nx ex ((valS sx sx.size:Nat):Int))→τ bb=some (.dec (fy:Int) ny ey ((valS sy sy.size:Nat):Int))→ba≠bb→Calls Tryz.prog 57 #[.pointer (some ⟨ba,0,none⟩),.pointer (some ⟨bb,0,none⟩)] w1 fun r w'=>r=.returned (.int .i64 v)∧St w τ w') :
  Calls Tryz.prog 23 #[.agg #[.int .i64 (fx:Int),.bool nx,.int .i32 ex,.string sx],.agg #[.int .i64 (fy:Int),.bool ny,.int .i32 ey,.string sy]] w fun e w'=>e=.returned (.int .i64 v)∧Below w.heap.size w w':=by
 obtain ⟨w1,hw1⟩:∃ w1,w1=w.alloc (.cells #[.int .i64 (fx:Int),.bool nx,.int .i32 ex,.string sx] 26):=⟨_,rfl⟩
 have h1:St w (upd E0 w.heap.size (.raw (.cells #[.int .i64 (fx:Int),.bool nx,.int .i32 ex,.string sx] 26))) w1:=by rw [hw1];exact (St.E0 w).alloc _
 have s1:w1.heap.size=w.heap.size+1:=by rw [hw1];simp
 obtain ⟨w2,hw2⟩:∃ w2,w2=w1.alloc (.cells #[.int .i64 (fy:Int),.bool ny,.int .i32 ey,.string sy] 26):=⟨_,rfl⟩
 have h2:=h1.alloc (.cells #[.int .i64 (fy:Int),.bool ny,.int .i32 ey,.string sy] 26)
 rw [← hw2,s1] at h2
 have s2:w2.heap.size=w.heap.size+1+1:=by rw [hw2];simp [s1]
 obtain ⟨w3,hw3⟩:∃ w3,w3=w2.alloc (.cells #[.int .i64 0] 3):=⟨_,rfl⟩
 have h3:=h2.alloc (.cells #[.int .i64 0] 3)
 rw [← hw3,s2] at h3
 have hX:upd (upd (upd E0 w.heap.size (.raw (.cells #[.int .i64 (fx:Int),.bool nx,.int .i32 ex,.string sx] 26))) (w.heap.size+1) (.raw (.cells #[.int .i64 (fy:Int),.bool ny,.int .i32 ey,.string sy] 26))) (w.heap.size+1+1) (.raw (.cells #[.int .i64 0] 3)) w.heap.size=some (.raw (.cells #[.int .i64 (fx:Int),.bool nx,.int .i32 ex,.string sx] 26)):=by
  rw [Qc _ _ (by omega),Qc _ _ (by omega),Qa]
 have hY:upd (upd (upd E0 w.heap.size (.raw (.cells #[.int .i64 (fx:Int),.bool nx,.int .i32 ex,.string sx] 26))) (w.heap.size+1) (.raw (.cells #[.int .i64 (fy:Int),.bool ny,.int .i32 ey,.string sy] 26))) (w.heap.size+1+1) (.raw (.cells #[.int .i64 0] 3)) (w.heap.size+1)=some (.raw (.cells #[.int .i64 (fy:Int),.bool ny,.int .i32 ey,.string sy] 26)):=by
  rw [Qc _ _ (by omega),Qa]
 have hN:upd (upd (upd E0 w.heap.size (.raw (.cells #[.int .i64 (fx:Int),.bool nx,.int .i32 ex,.string sx] 26))) (w.heap.size+1) (.raw (.cells #[.int .i64 (fy:Int),.bool ny,.int .i32 ey,.string sy] 26))) (w.heap.size+1+1) (.raw (.cells #[.int .i64 0] 3)) (w.heap.size+1+1)=some (.raw (.cells #[.int .i64 0] 3)):=Qa _ _ _
 generalize upd (upd (upd E0 w.heap.size (.raw (.cells #[.int .i64 (fx:Int),.bool nx,.int .i32 ex,.string sx] 26))) (w.heap.size+1) (.raw (.cells #[.int .i64 (fy:Int),.bool ny,.int .i32 ey,.string sy] 26))) (w.heap.size+1+1) (.raw (.cells #[.int .i64 0] 3))=σ8 at h3 hX hY hN
 have HX:=Lh hX;have HY:=Lh hY;have HNN:=Lh hN
 have H3:=Lh h3
 have hch:w3=((w.alloc (.cells #[.int .i64 (fx:Int),.bool nx,.int .i32 ex,.string sx] 26)).alloc (.cells #[.int .i64 (fy:Int),.bool ny,.int .i32 ey,.string sy] 26)).alloc (.cells #[.int .i64 0] 3):=by rw [hw3,hw2,hw1]
 have hmf:∀ (fn:Fn) (first cap:Array Value) (w:World),(Instr.makeFunc fn first cap).run Tryz.prog w=.ok (.func fn first cap) w:=fun _ _ _ _=>rfl
 have HCl:Hid (∀ τ w4,Ext σ8 τ→St w τ w4→Calls Tryz.prog 56 #[.pointer (some ⟨w.heap.size,0,none⟩),.pointer (some ⟨(w.heap.size+1),0,none⟩),.pointer (some ⟨(w.heap.size+1+1),0,none⟩)] w4 fun e w'=>e=.returned (.tuple #[])∧St w (upd τ (w.heap.size+1+1) (.raw (.cells #[.int .i64 v] 3))) w'):=Lh (fun τ w4 e q=>Qb5 q hE fx fy hfx hfy nx ny ex ey sx sy hsx hsy (e _ _ hX) (e _ _ hY) (e _ _ hN) v HC)
 clear h1 h2 h3 s1 s2 hw3 hw2 hw1 hX hY hN HC hE w1 w2
 go_enter Tryz.func23, Tryz.ntmps23
 go_wp2_with fail
 rw [← hch]
 clear hch
 refine (Qb0 H3.out _ (fun τ=>τ=upd (upd σ8 w3.heap.size (.raw (.cells #[.bool false] 4))) (w.heap.size+1+1) (.raw (.cells #[.int .i64 v] 3))) (fun w1 h1=>?_)).mono ?_
 ·refine (HCl.out _ w1 (Ext.new H3.out.none_new _) h1).mono ?_
  rintro e w' ⟨he,hS⟩
  refine ⟨he,_,rfl,?_,hS⟩
  rw [Qc _ _ (Ne.symm (H3.out.ne_new HNN.out)),Qa]
 ·rintro e w9 ⟨rfl,τ,rfl,hτ,hS⟩
  have hD:upd (upd (upd σ8 w3.heap.size (.raw (.cells #[.bool false] 4))) (w.heap.size+1+1) (.raw (.cells #[.int .i64 v] 3))) w3.heap.size (.raw (.cells #[.bool true] 4)) (w.heap.size+1+1)=some (.raw (.cells #[.int .i64 v] 3)):=by
   rw [Qc _ _ (H3.out.ne_new HNN.out),Qa]
  have HE:Hid (Below w.heap.size w w9):=Lh hS.below
  have d0:w9.cell? ⟨w.heap.size+1+1,0,none⟩=some (.int .i64 v):=hS.rawCell hD 0 rfl
  have d1:=hS.rawOpen hD 0
  have HI:=Lh (Q01 d0)
  clear hD hτ hS HCl H3
  go_wp2_with fail
  rw [HI.out]
  exact bodyPost_ret (v:=.int .i64 v) (by simp [results,Tryz.results23,go_sem,d0]) rfl ⟨rfl,HE.out⟩
theorem Qb1 {W:World}{σ:Sg}{w:World}(h:St W σ w)(caps:Array Value)(Q:Sg→Prop)
  (HC:∀ w1,St W (upd σ w.heap.size (.raw (.cells #[.bool false] 4))) w1→Calls Tryz.prog 47 caps w1 fun e w'=>e=.returned (.tuple #[])∧∃ τ,Q τ∧τ w.heap.size=some (.raw (.cells #[.bool false] 4))∧St W τ w') :
  Calls Tryz.prog 38 #[.func (.func 47) #[] caps] w fun e w'=>e=.returned (.bool true)∧∃ τ,Q τ∧τ w.heap.size=some (.raw (.cells #[.bool false] 4))∧St W (upd τ w.heap.size (.raw (.cells #[.bool true] 4))) w':=by
 have hmf:∀ (fn:Fn) (first cap:Array Value) (w:World),(Instr.makeFunc fn first cap).run Tryz.prog w=.ok (.func fn first cap) w:=fun _ _ _ _=>rfl
 have H1:=Lh (h.alloc (.cells #[.bool false] 4))
 have HC:=Lh HC
 go_enter_defers Tryz.func38,Tryz.ntmps38
 go_wp2_with fail
 refine (HC.out _ H1.out).mono ?_
 rintro e w1 ⟨rfl,τ,hQ,hτ,hS⟩
 have HQ:=Lh (And.intro hQ hτ)
 have hr:=hS.raw hτ
 have c0:w1.cell? ⟨w.heap.size,0,none⟩=some (.bool false):=by unfold World.cell?;rw [hr];rfl
 have f0:w1.frozen? ⟨w.heap.size,0,none⟩=false:=by unfold World.frozen?;rw [hr];rfl
 have h2:=hS.setRaw hτ 0 (.bool true)
 have h3:=h2.setRaw (Qa _ _ _) 0 (.bool true)
 rw [Q0W] at h3
 have hr2:=h2.raw (Qa _ _ _)
 have d0:(w1.setCell ⟨w.heap.size,0,none⟩ (.bool true)).cell? ⟨w.heap.size,0,none⟩=some (.bool true):=by unfold World.cell?;rw [hr2];rfl
 have e0:(w1.setCell ⟨w.heap.size,0,none⟩ (.bool true)).frozen? ⟨w.heap.size,0,none⟩=false:=by unfold World.frozen?;rw [hr2];rfl
 have hr3:=h3.raw (Qa _ _ _)
 have g0:((w1.setCell ⟨w.heap.size,0,none⟩ (.bool true)).setCell ⟨w.heap.size,0,none⟩ (.bool true)).cell? ⟨w.heap.size,0,none⟩=some (.bool true):=by unfold World.cell?;rw [hr3];rfl
 have H3:=Lh h3
 clear hQ hτ hS hr h2 h3 hr2 hr3
 go_wp2_with fail
 refine leaves_cons (f:=80) (args:=#[.pointer (some ⟨w.heap.size,0,none⟩)]) (by simp) (by simp [go_sem]) ?_
 refine (Q6g ⟨w.heap.size,0,none⟩ true _ d0 e0).mono ?_
 rintro e u' w'' ⟨rfl,rfl,rfl⟩
 refine ⟨.bool true,?_,rfl,τ,HQ.out.1,HQ.out.2,?_⟩
 ·simp [settle,results,Tryz.results38,go_sem,g0]
 ·exact H3.out
theorem Qb6 {W:World}{σ:Sg}{w:World}(h:St W σ w){Tv:TypeId}{av:Value}(hE:EOFv W Tv av)(fx fy:Nat)(hfx:fx<4)(hfy:fy<4)(nx ny:Bool)(ex ey:Int)(sx sy:ByteArray)(hsx:Digs sx)(hsy:Digs sy){bX bY bN:Nat}{T:TypeId}(hX:σ bX=some (.raw (.cells #[.int .i64 (fx:Int),.bool nx,.int .i32 ex,.string sx] 26)))(hY:σ bY=some (.raw (.cells #[.int .i64 (fy:Int),.bool ny,.int .i32 ey,.string sy] 26)))(hN:σ bN=some (.raw (.cells #[.int .i64 0] T)))(v:Int)
  (HC:∀ τ w1 ba bb,St W τ w1→τ ba=some (.dec (fx:Int) nx ex ((valS sx sx.size:Nat):Int))→τ bb=some (.dec (fy:Int) ny ey ((valS sy sy.size:Nat):Int))→ba≠bb→Calls Tryz.prog 48 #[.pointer (some ⟨ba,0,none⟩),.pointer (some ⟨bb,0,none⟩)] w1 fun r w'=>r=.returned (.int .i64 v)∧St W τ w') :
  Calls Tryz.prog 47 #[.pointer (some ⟨bX,0,none⟩),.pointer (some ⟨bY,0,none⟩),.pointer (some ⟨bN,0,none⟩)] w fun e w'=>e=.returned (.tuple #[])∧St W (upd σ bN (.raw (.cells #[.int .i64 v] T))) w':=by
 have H:=Lh h
 have nX:bX≠bN:=by rintro rfl;rw [hX] at hN;cases hN
 have nY:bY≠bN:=by rintro rfl;rw [hY] at hN;cases hN
 have HDX:Hid (∀ τ w2,St W τ w2→Calls Tryz.prog 40 #[.agg #[.int .i64 (fx:Int),.bool nx,.int .i32 ex,.string sx]] w2 fun r w'=>∃ b,r=.returned (.pointer (some ⟨b,0,none⟩))∧τ b=none∧St W (upd τ b (.dec (fx:Int) nx ex (valS sx sx.size:Nat))) w'):=Lh (fun τ w2 q=>Q8U q hE fx hfx nx ex sx hsx)
 have HDY:Hid (∀ τ w2,St W τ w2→Calls Tryz.prog 40 #[.agg #[.int .i64 (fy:Int),.bool ny,.int .i32 ey,.string sy]] w2 fun r w'=>∃ b,r=.returned (.pointer (some ⟨b,0,none⟩))∧τ b=none∧St W (upd τ b (.dec (fy:Int) ny ey (valS sy sy.size:Nat))) w'):=Lh (fun τ w2 q=>Q8U q hE fy hfy ny ey sy hsy)
 have HK:=Lh HC
 generalize valS sx sx.size=cx at HDX HK
 generalize valS sy sy.size=cy at HDY HK
 have HS:Hid (∀ τ w2,Ext σ τ→St W τ w2→w2.cell? ⟨bX,0,none⟩=some (.int .i64 (fx:Int))∧w2.cell? ⟨bX,1,none⟩=some (.bool nx)∧w2.cell? ⟨bX,2,none⟩=some (.int .i32 ex)∧w2.cell? ⟨bX,3,none⟩=some (.string sx)∧w2.cell? ⟨bY,0,none⟩=some (.int .i64 (fy:Int))∧w2.cell? ⟨bY,1,none⟩=some (.bool ny)∧w2.cell? ⟨bY,2,none⟩=some (.int .i32 ey)∧w2.cell? ⟨bY,3,none⟩=some (.string sy)):=Lh (fun τ w2 e q=>by
  have hX:=e _ _ hX;have hY:=e _ _ hY
  exact ⟨q.rawCell hX 0 rfl,q.rawCell hX 1 rfl,q.rawCell hX 2 rfl,q.rawCell hX 3 rfl,q.rawCell hY 0 rfl,q.rawCell hY 1 rfl,q.rawCell hY 2 rfl,q.rawCell hY 3 rfl⟩)
 have HT:Hid (∀ w2,St W (upd σ bN (.raw (.cells #[.int .i64 v] T))) w2→w2.cell? ⟨bX,0,none⟩=some (.int .i64 (fx:Int))∧w2.cell? ⟨bX,1,none⟩=some (.bool nx)∧w2.cell? ⟨bX,2,none⟩=some (.int .i32 ex)∧w2.cell? ⟨bX,3,none⟩=some (.string sx)∧w2.cell? ⟨bY,0,none⟩=some (.int .i64 (fy:Int))∧w2.cell? ⟨bY,1,none⟩=some (.bool ny)∧w2.cell? ⟨bY,2,none⟩=some (.int .i32 ey)∧w2.cell? ⟨bY,3,none⟩=some (.string sy)):=Lh (fun w2 q=>by
  have hX:=(Qc σ (.raw (.cells #[.int .i64 v] T)) nX).trans hX;have hY:=(Qc σ (.raw (.cells #[.int .i64 v] T)) nY).trans hY
  exact ⟨q.rawCell hX 0 rfl,q.rawCell hX 1 rfl,q.rawCell hX 2 rfl,q.rawCell hX 3 rfl,q.rawCell hY 0 rfl,q.rawCell hY 1 rfl,q.rawCell hY 2 rfl,q.rawCell hY 3 rfl⟩)
 have HN:=Lh hN
 clear h hE hfx hfy hsx hsy hX hY hN nX nY HC
 go_enter Tryz.func47, Tryz.ntmps47
 go_wp2_with fail
 refine AH.start (fun x=>x.cell? ⟨bX,0,none⟩=some (.int .i64 (fx:Int))∧x.cell? ⟨bX,1,none⟩=some (.bool nx)∧x.cell? ⟨bX,2,none⟩=some (.int .i32 ex)∧x.cell? ⟨bX,3,none⟩=some (.string sx)∧x.cell? ⟨bY,0,none⟩=some (.int .i64 (fy:Int))∧x.cell? ⟨bY,1,none⟩=some (.bool ny)∧x.cell? ⟨bY,2,none⟩=some (.int .i32 ey)∧x.cell? ⟨bY,3,none⟩=some (.string sy)) (by kernel_rfl) ?_
 generalize hw0:w.drew=w0
 have H0:Hid (St W σ w0):=by rw [← hw0];exact Lh H.out.drew
 clear hw0 H
 have s0:=HS.out _ _ (fun _ _ q=>q) H0.out
 refine AH.z 0 s0 ?_
 refine AH.z 2 s0 ?_
 clear s0
 refine AH.o 1 (fun K hK=>?_)
 go_simp
 refine (HDX.out _ _ H0.out).mono ?_
 rintro r w2 ⟨ba,rfl,hna,hS⟩
 have E2:=Ext.new hna (.dec (fx:Int) nx ex (cx:Int))
 have ha2:=Qa σ ba (.dec (fx:Int) nx ex (cx:Int))
 generalize upd σ ba (.dec (fx:Int) nx ex (cx:Int))=σ2 at hS E2 ha2
 have H2:=Lh hS;have HE2:=Lh E2;have HA2:=Lh ha2
 refine hK _ _ (HS.out _ _ HE2.out H2.out) ?_
 clear hK K hna hS E2 ha2 H0
 try simp only [Act.put,Zp_]
 refine AH.o 3 (fun K hK=>?_)
 go_simp
 refine (HDY.out _ _ H2.out).mono ?_
 rintro r w3 ⟨bb,rfl,hnb,hS⟩
 have E3:=HE2.out.trans (Ext.new hnb (.dec (fy:Int) ny ey (cy:Int)))
 have hb3:=Qa σ2 bb (.dec (fy:Int) ny ey (cy:Int))
 have HA3:=Lh (Ext.new hnb (.dec (fy:Int) ny ey (cy:Int)) _ _ HA2.out)
 have HAB:Hid (ba≠bb):=Lh (fun e=>(by have:=HA2.out;rw [e,hnb] at this;cases this))
 generalize upd σ2 bb (.dec (fy:Int) ny ey (cy:Int))=σ3 at hS E3 hb3 HA3
 have H3:=Lh hS;have HE3:=Lh E3;have HB3:=Lh hb3
 refine hK _ _ (HS.out _ _ HE3.out H3.out) ?_
 clear hK K hnb hS E3 hb3 H2 HE2 HA2
 try simp only [Act.put,Zp_]
 refine AH.o 4 (fun K hK=>?_)
 go_simp
 refine (HK.out _ _ _ _ H3.out HA3.out HB3.out HAB.out).mono ?_
 rintro r w4 ⟨rfl,hS⟩
 have H4:=Lh hS
 refine hK _ _ (HS.out _ _ HE3.out H4.out) ?_
 clear hK K hS H3 HA3 HB3 HAB
 try simp only [Act.put,Zp_]
 have H5:Hid (St W σ w4):=Lh (H4.out.less HE3.out)
 have k0:=H5.out.rawCell HN.out 0 rfl
 have k1:=H5.out.rawOpen HN.out 0
 have H6:Hid (St W (upd σ bN (.raw (.cells #[.int .i64 v] T))) (w4.setCell ⟨bN,0,none⟩ (.int .i64 v))):=Lh (H5.out.setRaw HN.out 0 (.int .i64 v))
 refine AH.o 5 (fun K hK=>?_)
 go_simp
 refine hK _ _ (HT.out _ H6.out) ?_
 clear hK K k0 k1 H4 H5
 try simp only [Act.put,Zp_]
 refine AH.done (by kernel_rfl) ?_
 go_wp2_with fail
 go_returns
 exact ⟨rfl,H6.out⟩
theorem QaY {w:World}{Tv:TypeId}{av:Value}(hE:EOFv w Tv av)(fx fy:Nat)(hfx:fx<4)(hfy:fy<4)(nx ny:Bool)(ex ey:Int)(sx sy:ByteArray)(hsx:Digs sx)(hsy:Digs sy)(v:Int)
  (HC:∀ τ w1 ba bb,St w τ w1→τ ba=some (.dec (fx:Int) nx ex ((valS sx sx.size:Nat):Int))→τ bb=some (.dec (fy:Int) ny ey ((valS sy sy.size:Nat):Int))→ba≠bb→Calls Tryz.prog 48 #[.pointer (some ⟨ba,0,none⟩),.pointer (some ⟨bb,0,none⟩)] w1 fun r w'=>r=.returned (.int .i64 v)∧St w τ w') :
  Calls Tryz.prog 20 #[.agg #[.int .i64 (fx:Int),.bool nx,.int .i32 ex,.string sx],.agg #[.int .i64 (fy:Int),.bool ny,.int .i32 ey,.string sy]] w fun e w'=>e=.returned (.int .i64 v)∧Below w.heap.size w w':=by
 obtain ⟨w1,hw1⟩:∃ w1,w1=w.alloc (.cells #[.int .i64 (fx:Int),.bool nx,.int .i32 ex,.string sx] 26):=⟨_,rfl⟩
 have h1:St w (upd E0 w.heap.size (.raw (.cells #[.int .i64 (fx:Int),.bool nx,.int .i32 ex,.string sx] 26))) w1:=by rw [hw1];exact (St.E0 w).alloc _
 have s1:w1.heap.size=w.heap.size+1:=by rw [hw1];simp
 obtain ⟨w2,hw2⟩:∃ w2,w2=w1.alloc (.cells #[.int .i64 (fy:Int),.bool ny,.int .i32 ey,.string sy] 26):=⟨_,rfl⟩
 have h2:=h1.alloc (.cells #[.int .i64 (fy:Int),.bool ny,.int .i32 ey,.string sy] 26)
 rw [← hw2,s1] at h2
 have s2:w2.heap.size=w.heap.size+1+1:=by rw [hw2];simp [s1]
 obtain ⟨w3,hw3⟩:∃ w3,w3=w2.alloc (.cells #[.int .i64 0] 3):=⟨_,rfl⟩
 have h3:=h2.alloc (.cells #[.int .i64 0] 3)
 rw [← hw3,s2] at h3
 have hX:upd (upd (upd E0 w.heap.size (.raw (.cells #[.int .i64 (fx:Int),.bool nx,.int .i32 ex,.string sx] 26))) (w.heap.size+1) (.raw (.cells #[.int .i64 (fy:Int),.bool ny,.int .i32 ey,.string sy] 26))) (w.heap.size+1+1) (.raw (.cells #[.int .i64 0] 3)) w.heap.size=some (.raw (.cells #[.int .i64 (fx:Int),.bool nx,.int .i32 ex,.string sx] 26)):=by
  rw [Qc _ _ (by omega),Qc _ _ (by omega),Qa]
 have hY:upd (upd (upd E0 w.heap.size (.raw (.cells #[.int .i64 (fx:Int),.bool nx,.int .i32 ex,.string sx] 26))) (w.heap.size+1) (.raw (.cells #[.int .i64 (fy:Int),.bool ny,.int .i32 ey,.string sy] 26))) (w.heap.size+1+1) (.raw (.cells #[.int .i64 0] 3)) (w.heap.size+1)=some (.raw (.cells #[.int .i64 (fy:Int),.bool ny,.int .i32 ey,.string sy] 26)):=by
  rw [Qc _ _ (by omega),Qa]
 have hN:upd (upd (upd E0 w.heap.size (.raw (.cells #[.int .i64 (fx:Int),.bool nx,.int .i32 ex,.string sx] 26))) (w.heap.size+1) (.raw (.cells #[.int .i64 (fy:Int),.bool ny,.int .i32 ey,.string sy] 26))) (w.heap.size+1+1) (.raw (.cells #[.int .i64 0] 3)) (w.heap.size+1+1)=some (.raw (.cells #[.int .i64 0] 3)):=Qa _ _ _
 generalize upd (upd (upd E0 w.heap.size (.raw (.cells #[.int .i64 (fx:Int),.bool nx,.int .i32 ex,.string sx] 26))) (w.heap.size+1) (.raw (.cells #[.int .i64 (fy:Int),.bool ny,.int .i32 ey,.string sy] 26))) (w.heap.size+1+1) (.raw (.cells #[.int .i64 0] 3))=σ8 at h3 hX hY hN
 have HX:=Lh hX;have HY:=Lh hY;have HNN:=Lh hN
 have H3:=Lh h3
 have hch:w3=((w.alloc (.cells #[.int .i64 (fx:Int),.bool nx,.int .i32 ex,.string sx] 26)).alloc (.cells #[.int .i64 (fy:Int),.bool ny,.int .i32 ey,.string sy] 26)).alloc (.cells #[.int .i64 0] 3):=by rw [hw3,hw2,hw1]
 have hmf:∀ (fn:Fn) (first cap:Array Value) (w:World),(Instr.makeFunc fn first cap).run Tryz.prog w=.ok (.func fn first cap) w:=fun _ _ _ _=>rfl
 have HCl:Hid (∀ τ w4,Ext σ8 τ→St w τ w4→Calls Tryz.prog 47 #[.pointer (some ⟨w.heap.size,0,none⟩),.pointer (some ⟨(w.heap.size+1),0,none⟩),.pointer (some ⟨(w.heap.size+1+1),0,none⟩)] w4 fun e w'=>e=.returned (.tuple #[])∧St w (upd τ (w.heap.size+1+1) (.raw (.cells #[.int .i64 v] 3))) w'):=Lh (fun τ w4 e q=>Qb6 q hE fx fy hfx hfy nx ny ex ey sx sy hsx hsy (e _ _ hX) (e _ _ hY) (e _ _ hN) v HC)
 clear h1 h2 h3 s1 s2 hw3 hw2 hw1 hX hY hN HC hE w1 w2
 go_enter Tryz.func20, Tryz.ntmps20
 go_wp2_with fail
 rw [← hch]
 clear hch
 refine (Qb1 H3.out _ (fun τ=>τ=upd (upd σ8 w3.heap.size (.raw (.cells #[.bool false] 4))) (w.heap.size+1+1) (.raw (.cells #[.int .i64 v] 3))) (fun w1 h1=>?_)).mono ?_
 ·refine (HCl.out _ w1 (Ext.new H3.out.none_new _) h1).mono ?_
  rintro e w' ⟨he,hS⟩
  refine ⟨he,_,rfl,?_,hS⟩
  rw [Qc _ _ (Ne.symm (H3.out.ne_new HNN.out)),Qa]
 ·rintro e w9 ⟨rfl,τ,rfl,hτ,hS⟩
  have hD:upd (upd (upd σ8 w3.heap.size (.raw (.cells #[.bool false] 4))) (w.heap.size+1+1) (.raw (.cells #[.int .i64 v] 3))) w3.heap.size (.raw (.cells #[.bool true] 4)) (w.heap.size+1+1)=some (.raw (.cells #[.int .i64 v] 3)):=by
   rw [Qc _ _ (H3.out.ne_new HNN.out),Qa]
  have HE:Hid (Below w.heap.size w w9):=Lh hS.below
  have d0:w9.cell? ⟨w.heap.size+1+1,0,none⟩=some (.int .i64 v):=hS.rawCell hD 0 rfl
  have d1:=hS.rawOpen hD 0
  have HI:=Lh (Q01 d0)
  clear hD hτ hS HCl H3
  go_wp2_with fail
  rw [HI.out]
  exact bodyPost_ret (v:=.int .i64 v) (by simp [results,Tryz.results20,go_sem,d0]) rfl ⟨rfl,HE.out⟩
end Go.Proofs.YtpfjmeadikdddaaGreatDoor
