/-
  big's Int.Set of another Int, SetInt64, Int.Rsh of a number that is not negative, Bit 0. Conditions: at most 10^6 words; Rsh by 1 to 63 bits.
-/
import Derived.Test.YtpfmbfkhjapbbaaGreatDoorMg04
import Derived.Test.YtpfmbfkhjapbbaaGreatDoorMg10
import Derived.Test.YtpfmbfkhjapbbaaGreatDoorMg15
set_option linter.unusedVariables false
set_option linter.unusedSimpArgs false
namespace Go.Proofs.YtpfmbfkhjapbbaaGreatDoor
open Go Go.RowKit
theorem ptr_neq47 {w:World} {bz bx:Nat} {C D:Array Value} {t u:TypeId} (hz:w.heap[bz]? = some (.cells C t (0,0))) (hx:w.heap[bx]? = some (.cells D u (0,0))) (al:bz≠bx) :
    (binOp .neq 47 (.pointer (some ⟨bz,0,none⟩)) (.pointer (some ⟨bx,0,none⟩))).run Tryz.prog w=.ok (.bool true) w:=by
  obtain ⟨j,hj,hs⟩:=info47
  have h:∀ d:Nat,(Op.equalIn (d+1) 47 (.pointer (some ⟨bz,0,none⟩)) (.pointer (some ⟨bx,0,none⟩))).run Tryz.prog w=.ok false w:=fun d=>by
    simp [Op.equalIn,run_underlying Tryz.underlying47,sizeOf,typeInfo,hj,hs,run_sameAddr_other w (a:=⟨bz,0,none⟩) (b:=⟨bx,0,none⟩) (fun h=>al (congrArg Addr.block h)) hz hx]
  simp only [binOp]
  simp [Op.equal,Op.maxDepth,h 9999]
def SetRest (w:World) (pz:Nat) (az:Option Addr) (nz cz:Nat) (bz:Bool) (px:Nat) (bx s:Bool) (v:Nat) (e:Ending) (w4:World):Prop :=
  ∃ a' n' c',e=.returned (.slice a' n' c')∧w4.cell? ⟨pz,1,none⟩=some (.slice az nz cz)∧w4.frozen? ⟨pz,1,none⟩=false ∧
    ((w4.setCell ⟨pz,1,none⟩ (.slice a' n' c')).cell? ⟨pz,0,none⟩=some (.bool bz)∧(w4.setCell ⟨pz,1,none⟩ (.slice a' n' c')).frozen? ⟨pz,0,none⟩=false∧(w4.setCell ⟨pz,1,none⟩ (.slice a' n' c')).cell? ⟨px,0,none⟩=some (.bool bx)) ∧
    IntRet w pz az s v (.returned (.pointer (some ⟨pz,0,none⟩))) ((w4.setCell ⟨pz,1,none⟩ (.slice a' n' c')).setCell ⟨pz,0,none⟩ (.bool s))
theorem setRest {w w2:World} {pz px:Nat} {az ax:Option Addr} {nz cz vz nx cx vx:Nat} {fz fx:Nat→Nat} {bz bx s:Bool} {v:Nat} (hZ:IntIs w pz bz az nz cz fz vz) (hX:IntIs w px bx ax nx cx fx vx)
    (hap:∀ A,az=some A→A.block≠px) (m2:Mod NoP w w2) {e:Ending} {w4:World} (hN:NatRet w2 az v e w4):SetRest w pz az nz cz bz px bx s v e w4:=by
  obtain ⟨a',n',c',f',rfl,hN,hm,hf⟩:=hN
  have mm:Mod (BlkOf az) w w4:=(m2.of_none (M:=BlkOf az)).trans hm
  have hp:w4.heap[pz]? = some (.cells #[.bool bz,.slice az nz cz] 51 (0,0)):=by rw [mm.heap (lt_of_heap hZ.cells) hZ.offP,hZ.cells]
  have hf':a'=az∨Fresh w a':=hf.imp id fun h=>h.mono m2.size
  refine ⟨a',n',c',rfl,(cell?_of_heap hp 1).trans rfl,free_of_heap hp 1,⟨?_,?_,?_⟩,IntRet.mk (m:=mm) hp (lt_of_heap hZ.cells) hZ.apart hN hf'⟩
  · rw [cell_other (.inr (by omega))];exact (cell?_of_heap hp 0).trans rfl
  · rw [World.frozen?_setCell];exact free_of_heap hp 0
  · rw [cell_other (.inr (by omega))];exact mm.cell_some hX.c0 fun ⟨A,hA,hp⟩=>hap A hA hp
set_option maxRecDepth 100000 in
set_option maxHeartbeats 2000000 in
theorem intSet_any (pz px nz cz nx cx vz vx:Nat) (bz bx:Bool) (az ax:Option Addr) (fz fx:Nat→Nat) (w:World) (hZ:IntIs w pz bz az nz cz fz vz) (hX:IntIs w px bx ax nx cx fx vx) (hsx:nx≤1000000) (hne:pz≠px)
    (hap:∀ A,az=some A→A.block≠px):Calls Tryz.prog 47 #[.pointer (some ⟨pz,0,none⟩),.pointer (some ⟨px,0,none⟩)] w (IntRet w pz az bx vx):=by
  have z1:=hZ.c1
  have x1:=hX.c1
  have hpt:=ptr_neq47 hZ.cells hX.cells hne
  have HA:=Lib.hid (fun w1 (m:Mod NoP w w1)=>(natSet_any az ax nz cz nx cx vx w1 fz fx (hZ.num.arr.mod m (Off.noP _)) hZ.num.le (hX.num.mod m (Off.noP _)) hsx).mono fun e w4=>setRest (s:=bx) hZ hX hap m)
  clear hZ hX
  go_enter Tryz.func47,Tryz.ntmps47
  go_wp2_with fail
  go_region_with (go_at_call 68;refine (HA.out _ ?_).mono ?_;((first | exact (Mod.refl NoP w).drew | exact (Mod.refl NoP w).drewN _));rintro e w4 ⟨a',n',c',rfl,e1,f1,⟨e0,f0,ex⟩,res⟩)
  all_goals (have RES:=Lib.hid res;clear res;generalize w4.setCell ⟨pz,1,none⟩ (.slice a' n' c')=W at *)
  all_goals (go_wp2_with fail;go_ret;exact RES.out)
set_option maxHeartbeats 400000 in
theorem intSetI64_pos (p n c m k:Nat) (neg:Bool) (a:Option Addr) (f:Nat→Nat) (w:World) (hI:IntIs w p neg a n c f m) (hk:k<9223372036854775808) :
    Calls Tryz.prog 78 #[.pointer (some ⟨p,0,none⟩),.int .i64 (k:Int)] w (IntRet w p a false k):=by
  have h1:=hI.c1
  have HS:=Lib.hid (setU64_any a n c k w f hI.num.arr hI.num.le (by rw [B64_eq];omega))
  have HI:=Lib.hid hI
  clear hI
  have k0:¬ (k:Int)<0:=by omega
  have k1:IntKind.u64.wrap (k:Int)=(k:Int):=by rw [IntKind.wrap_u64];omega
  go_enter Tryz.func78,Tryz.ntmps78
  go_wp2_with fail
  refine HS.out.mono ?_
  rintro e w1 ⟨a',n',c',f',rfl,hN,hm,hf⟩
  have hp:w1.heap[p]? = some (.cells #[.bool neg,.slice a n c] 51 (0,0)):=by rw [hm.heap (lt_of_heap HI.out.cells) HI.out.offP,HI.out.cells]
  have e0:w1.cell? ⟨p,0,none⟩=some (.bool neg):=by rw [cell?_of_heap hp];rfl
  have e1:w1.cell? ⟨p,1,none⟩=some (.slice a n c):=by rw [cell?_of_heap hp];rfl
  have f0:=free_of_heap hp 0
  have f1:=free_of_heap hp 1
  have HN:=Lib.hid hN
  have HP:=Lib.hid hp
  clear hN hp h1
  go_wp2_with fail
  go_ret
  exact IntRet.mk (m:=hm) HP.out (lt_of_heap HI.out.cells) HI.out.apart HN.out hf
set_option maxHeartbeats 400000 in
theorem intSetI64_neg (p n c m k:Nat) (neg:Bool) (a:Option Addr) (f:Nat→Nat) (w:World) (hI:IntIs w p neg a n c f m) (hk:k<9223372036854775808) (hk0:0<k) :
    Calls Tryz.prog 78 #[.pointer (some ⟨p,0,none⟩),.int .i64 (-(k:Int))] w (IntRet w p a true k):=by
  have h1:=hI.c1
  have HS:=Lib.hid (setU64_any a n c k w f hI.num.arr hI.num.le (by rw [B64_eq];omega))
  have HI:=Lib.hid hI
  clear hI
  have k0 : -(k:Int)<0:=by omega
  have k1:IntKind.u64.wrap (k:Int)=(k:Int):=by rw [IntKind.wrap_u64];omega
  have k2:IntKind.i64.wrap (- -(k:Int))=(k:Int):=by rw [IntKind.wrap_i64];omega
  have k3:IntKind.i64.wrap (k:Int)=(k:Int):=by rw [IntKind.wrap_i64];omega
  go_enter Tryz.func78,Tryz.ntmps78
  go_wp2_with fail
  refine HS.out.mono ?_
  rintro e w1 ⟨a',n',c',f',rfl,hN,hm,hf⟩
  have hp:w1.heap[p]? = some (.cells #[.bool neg,.slice a n c] 51 (0,0)):=by rw [hm.heap (lt_of_heap HI.out.cells) HI.out.offP,HI.out.cells]
  have e0:w1.cell? ⟨p,0,none⟩=some (.bool neg):=by rw [cell?_of_heap hp];rfl
  have e1:w1.cell? ⟨p,1,none⟩=some (.slice a n c):=by rw [cell?_of_heap hp];rfl
  have f0:=free_of_heap hp 0
  have f1:=free_of_heap hp 1
  have HN:=Lib.hid hN
  have HP:=Lib.hid hp
  clear hN hp h1
  go_wp2_with fail
  go_ret
  exact IntRet.mk (m:=hm) HP.out (lt_of_heap HI.out.cells) HI.out.apart HN.out hf
set_option maxRecDepth 100000 in
set_option maxHeartbeats 2000000 in
theorem intRsh_any (pz px nz cz nx cx vz vx s:Nat) (bz:Bool) (az ax:Option Addr) (fz fx:Nat→Nat) (w:World) (hZ:IntIs w pz bz az nz cz fz vz) (hX:IntIs w px false ax nx cx fx vx) (hsx:nx≤1000000) (h1:0<s) (h2:s<64)
    (hap:∀ A,az=some A→A.block≠px):Calls Tryz.prog 92 #[.pointer (some ⟨pz,0,none⟩),.pointer (some ⟨px,0,none⟩),U s] w (IntRet w pz az false (vx/2^s)):=by
  have z1:=hZ.c1
  have x0:=hX.c0
  have x1:=hX.c1
  have HA:=Lib.hid (fun w1 (m:Mod NoP w w1)=>(rsh_any az ax nz cz nx cx s vx w1 fz fx (hZ.num.arr.mod m (Off.noP _)) hZ.num.le (hX.num.mod m (Off.noP _)) hsx h1 h2).mono fun e w4=>setRest (s:=false) hZ hX hap m)
  clear hZ hX
  generalize vx/2^s=v at *
  go_enter Tryz.func92,Tryz.ntmps92
  go_wp2_with fail
  go_region_with (go_at_call 113;refine (HA.out _ ?_).mono ?_;((first | exact (Mod.refl NoP w).drew | exact (Mod.refl NoP w).drewN _));rintro e w4 ⟨a',n',c',rfl,e1,f1,⟨e0,f0,ex⟩,res⟩)
  all_goals (have RES:=Lib.hid res;clear res;generalize w4.setCell ⟨pz,1,none⟩ (.slice a' n' c')=W at *)
  all_goals (go_wp2_with fail;go_ret;exact RES.out)
set_option maxRecDepth 100000 in
theorem intBit0_any (p n c v:Nat) (neg:Bool) (a:Option Addr) (f:Nat→Nat) (w:World) (hI:IntIs w p neg a n c f v):Calls Tryz.prog 102 #[.pointer (some ⟨p,0,none⟩),.int .i64 0] w fun e w'=>e=.returned (U (v%2))∧w'=w:=by
  have h1:=hI.c1
  by_cases h0:n=0
  · subst h0
    have hv:v=0:=hI.num.zero_iff.1 rfl
    subst hv
    clear hI
    go_enter Tryz.func102,Tryz.ntmps102
    go_wp2_with fail
    go_ret
    exact ⟨rfl,rfl⟩
  · obtain ⟨b,rfl⟩:=hI.num.arr.form (by have:=hI.num.le;omega)
    have hc:=hI.num.arr.vec 0 (by have:=hI.num.le;omega)
    rw [Nat.zero_add] at hc
    have hc1:=hc.1
    have hv:v%2=f 0%2:=by
      rw [← hI.num.val]
      obtain ⟨m,rfl⟩:∃ m,n=1+m:=⟨n - 1,by omega⟩
      rw [val_add,val_one,Nat.pow_one,show B64*val (fun j=>f (1+j)) m=2*(9223372036854775808*val (fun j=>f (1+j)) m) by rw [show B64=2*9223372036854775808 from rfl];ac_rfl,Nat.add_mul_mod_self_left]
    have hand:bits .and .u64 (f 0:Int) 1=((f 0%2:Nat):Int):=by
      have h:=(bits_nat .u64 64 (by decide) (fun n h0 h1=>by rw [IntKind.wrap_u64];omega) (f 0) 1 (by have:=hc.2.2;rw [B64_eq] at this;omega) (by decide)).1
      rw [Nat.and_one_is_mod] at h
      exact h
    have k1:(0:Int)<(n:Int):=by omega
    have HV:=Lib.hid hv
    clear hI hc hv
    go_enter Tryz.func102,Tryz.ntmps102
    go_wp2_with fail
    go_ret
    exact ⟨by rw [HV.out];first | rfl | exact congrArg (fun i=>Ending.returned (Value.int .u64 i)) hand,rfl⟩
end Go.Proofs.YtpfmbfkhjapbbaaGreatDoor
