/- a part of the proof -/
import Derived.Test.YtpebcmfpehdafaaGreatDoorZ12
set_option linter.all false
set_option maxRecDepth 100000
set_option maxHeartbeats 16000000
namespace Go.Proofs.YtpebcmfpehdafaaGreatDoor
open Go Go.RowKit
def SX (W:World)(σ:Sg)(b bk:Nat)(nd:Int)(res:Nat)(xs:List Int)(k:Nat)(D:Ob):Prop :=
 ∀ w1 ba Ta,σ ba=none→St W (upd σ ba (.raw (.cells (xs.map (Value.int .i64)).toArray Ta))) w1→Calls Tryz.prog 86 #[.pointer (some ⟨b,0,none⟩),.pointer (some ⟨bk,0,none⟩),.int .i64 nd,.int .u32 (res:Int),.slice (some ⟨ba,0,none⟩) xs.length xs.length] w1 fun r w'=>r=.returned (.int .u32 (k:Int))∧St W (upd σ b D) w'
theorem Q3s {W:World}{σ:Sg}{w:World}(hW:GW W){b bx bk:Nat}{f:Int}{n:Bool}{e:Int}{c p md k:Nat}{mx mn tr:Int}{D:Ob}(hS:Calls Tryz.prog 82 #[.pointer (some ⟨b,0,none⟩),.pointer (some ⟨bx,0,none⟩)] w fun r w'=>r=.returned (.pointer (some ⟨b,0,none⟩))∧St W σ w')(hb:σ b=some (.dec f n e (c:Int)))(hx:σ bx=some (.dec f n e (c:Int)))(hk:Ctx σ bk p mx mn tr md)(hcl:c<BB^21)(he:e.natAbs≤40000)(hp:p≠0)(hz:¬ (f=0∧c=0))(ha:mn≤e+ndg c - 1)(hle:ndg c≤p)(hkl:k<4096)(hX:SX W σ b bk (ndg c:Int) 0 [e,0] k D) :
  Calls Tryz.prog 120 #[.string (rndS md),.pointer (some ⟨bk,0,none⟩),.pointer (some ⟨b,0,none⟩),.pointer (some ⟨bx,0,none⟩),.bool true] w fun r w'=>r=.returned (.int .u32 ((k:Nat):Int))∧St W (upd σ b D) w':=by
 have hsg:decSgn f n c≠0:=by unfold decSgn;rw [if_neg hz];cases n <;> simp
 have HV:Hid (bits .or .u32 0 (k:Int)=(k:Int)):=Lh (by have:=Qr 0 k (by decide) hkl;rw [show orN 0 k=k from Nat.zero_or k] at this;exact this)
 have HS:=Lh hS
 have HD:=Lh (fun w1 (q1:St W σ w1)=>Qs hW q1 hx hcl)
 have HG:Hid (∀ w1,St W σ w1→(Calls Tryz.prog 109 #[.pointer (some ⟨bx,0,none⟩)] w1 fun r w'=>r=.returned (.int .i64 (decSgn f n c))∧w'=w1)∧w1.cell? ⟨b,2,none⟩=some (.int .i32 e)∧w1.cell? ⟨bx,2,none⟩=some (.int .i32 e)∧w1.cell? ⟨bk,0,none⟩=some (.int .u32 (p:Int))∧w1.cell? ⟨bk,2,none⟩=some (.int .i32 mn)):=fun w1 q1=>⟨QK q1 hx,(q1.dec hb).2.2.1,(q1.dec hx).2.2.1,(q1.ctx hk).1,(q1.ctx hk).2.2.1⟩
 have HE:Hid (∀ w1,St W σ w1→w1.cell? ⟨b,2,none⟩=some (.int .i32 e)):=fun w1 q1=>(q1.dec hb).2.2.1
 have HXX:=Lh hX
 have hn1:=QG hcl
 have hn2:=Qi c
 have hp0:p≤1000:=by obtain ⟨_,_,q,_⟩:=hk;exact q
 have hm0 : -90000≤mn∧mn≤0:=by obtain ⟨_,_,_,_,_,q,q',_⟩:=hk;exact ⟨q',q⟩
 generalize ndg c=nd at HD HXX hn1 hn2 hle ha
 generalize decSgn f n c=sg at HG hsg
 clear hS hb hx hk hcl hX
 go_enter Tryz.func120, Tryz.ntmps120
 go_wp2_with fail
 refine HS.out.mono ?_
 rintro r w0 ⟨rfl,q0⟩
 have H0:=Lh q0;clear q0 HS
 go_wp2_with fail
 refine (HD.out _ H0.out).mono ?_
 rintro r w1 ⟨rfl,q1⟩
 obtain ⟨hs,x2,x2',x0,y2⟩:=HG.out _ q1
 have H1:=Lh q1;replace hs:=Lh hs;clear q1 H0 HD HG
 go_wp2_with fail
 refine hs.out.mono ?_
 rintro r w_ ⟨rfl,hw_⟩
 subst hw_
 clear hs
 have hp1:¬ ((p:Int)=0):=by omega
 have hd:¬ ((0:Int)<(nd:Int) - (p:Int)):=by omega
 go_wp2_with fail
 have q2:=H1.out.alloc (.cells #[.int .i64 0] 2)
 have hr:=q2.raw (Q1 _ _ _)
 have z2:(w_.alloc (.cells #[.int .i64 0] 2)).cell? ⟨w_.heap.size,0,none⟩=some (.int .i64 0):=by unfold World.cell?;rw [hr];rfl
 have q3:=q2.less (Ext.new H1.out.none_new _)
 have z3:=HE.out _ q3
 replace q3:=Lh q3
 clear hr q2 HE
 generalize w_.alloc (.cells #[.int .i64 0] 2)=w2 at z2 q3 z3 ⊢
 have HWe:=Lh (IntWalk.i64_in e (by omega))
 go_region_with (first | (go_at_call 86;rw [HWe.out];refine (HXX.out _ _ 2 q3.out.none_new (q3.out.alloc _).drew).mono ?_;rintro r w3 ⟨rfl,q4⟩;have H4:=Lh q4;clear q4))
 all_goals (clear HXX;go_wp2_with fail;go_ret;exact ⟨congrArg (fun v=>Ending.returned (Value.int .u32 v)) HV.out,H4.out⟩)
end Go.Proofs.YtpebcmfpehdafaaGreatDoor
