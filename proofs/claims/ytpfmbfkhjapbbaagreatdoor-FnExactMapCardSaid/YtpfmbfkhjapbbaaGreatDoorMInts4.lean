/-
  big's Int.BitLen, Sub. Conditions: at most 10^6 words; Sub: the signs are +, the second is no more than the first.
-/
import Derived.Test.YtpfmbfkhjapbbaaGreatDoorMg10
import Derived.Lib.ItoaNum
import Derived.Deep.RegionHeld3
import Derived.Deep.DeepCutAuto
set_option linter.unusedVariables false
set_option linter.unusedSimpArgs false
namespace Go.Proofs.YtpfmbfkhjapbbaaGreatDoor
open Go Go.RowKit
theorem info47:∃ j,Tryz.prog.info? 51=some j∧j.size=2:=by
  have h:(Tryz.prog.info? 51).map (·.size)=some 2:=by kernel_rfl
  cases hj:Tryz.prog.info? 51 with
  | none=>rw [hj] at h;cases h
  | some j=>rw [hj] at h;exact ⟨j,rfl,by simpa using h⟩
theorem ptr_apart {w:World} {bz bx:Nat} {C D:Array Value} {t u:TypeId} (hz:w.heap[bz]? = some (.cells C t (0,0))) (hx:w.heap[bx]? = some (.cells D u (0,0))) (al:bz≠bx) :
    (binOp .eql 47 (.pointer (some ⟨bz,0,none⟩)) (.pointer (some ⟨bx,0,none⟩))).run Tryz.prog w=.ok (.bool false) w:=by
  obtain ⟨j,hj,hs⟩:=info47
  have h:∀ d:Nat,(Op.equalIn (d+1) 47 (.pointer (some ⟨bz,0,none⟩)) (.pointer (some ⟨bx,0,none⟩))).run Tryz.prog w=.ok false w:=fun d=>by
    simp [Op.equalIn,run_underlying Tryz.underlying47,sizeOf,typeInfo,hj,hs,run_sameAddr_other w (a:=⟨bz,0,none⟩) (b:=⟨bx,0,none⟩) (fun h=>al (congrArg Addr.block h)) hz hx]
  simp only [binOp]
  simp [Op.equal,Op.maxDepth,h 9999]
set_option maxRecDepth 100000 in
set_option maxHeartbeats 1000000 in
theorem intCmp_any (px py nx cx ny cy vx vy:Nat) (ax ay:Option Addr) (fx fy:Nat→Nat) (w:World) (hX:IntIs w px false ax nx cx fx vx) (hY:IntIs w py false ay ny cy fy vy)
    (hsx:nx≤1000000) (hsy:ny≤1000000) (hne:px≠py) :
    Calls Tryz.prog 105 #[.pointer (some ⟨px,0,none⟩),.pointer (some ⟨py,0,none⟩)] w fun e w'=>e=.returned (.int .i64 (cmpV vx vy))∧∃ q,w'=w.drewN q:=by
  have x0:=hX.c0
  have x1:=hX.c1
  have y0:=hY.c0
  have y1:=hY.c1
  have hpt:=ptr_apart hX.cells hY.cells hne
  have HCM:=Lib.hid (fun q=>cmp_any ax ay nx cx ny cy vx vy fx fy (w.drewN q) (hX.num.mod ((Mod.refl NoP w).drewN q) (Off.noP _)) (hY.num.mod ((Mod.refl NoP w).drewN q) (Off.noP _)) hsx hsy)
  clear hX hY
  generalize cmpV vx vy=cv at *
  go_enter Tryz.func105,Tryz.ntmps105
  go_wp2_with fail
  go_quiet (fail)
  replace x0:(w.drewN nq).cell? ⟨px,0,none⟩=some (.bool false):=x0
  replace x1:(w.drewN nq).cell? ⟨px,1,none⟩=some (.slice ax nx cx):=x1
  replace y1:(w.drewN nq).cell? ⟨py,1,none⟩=some (.slice ay ny cy):=y1
  have hc:∀ q,Calls Tryz.prog 110 #[.slice ax nx cx,.slice ay ny cy] ((w.drewN nq).drewN q) fun e w'=>e=.returned (.int .i64 cv)∧∃ k,w'=((w.drewN nq).drewN q).drewN k:=fun q=>by
    rw [World.drewN_drewN];exact HCM.out _
  have HC:=Lib.hid hc
  have hq:∀ q,∃ k,(w.drewN nq).drewN q=w.drewN k:=fun q=>⟨_,World.drewN_drewN ..⟩
  have HQ:=Lib.hid hq
  clear HCM hc hq y0 hpt
  generalize w.drewN nq=w1 at *
  go_wp2_with fail
  go_quiet ((go_at_call 110;exact Calls.quiet_of (HC.out _)))
  replace x0:(w1.drewN nq).cell? ⟨px,0,none⟩=some (.bool false):=x0
  obtain ⟨k,hk⟩:=HQ.out nq
  have HK:=Lib.hid hk
  clear x1 y1 HC HQ hk
  generalize w1.drewN nq=w2 at *
  go_wp2_with fail
  go_ret
  exact ⟨rfl,k,HK.out⟩
end Go.Proofs.YtpfmbfkhjapbbaaGreatDoor
