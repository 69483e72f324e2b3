/-
  big's Int.mul and Int.Mul. Conditions: fewer than 12 words, as the thresholds hold what they were set to; z's words lie apart from the signs of x and y.
-/
import Derived.Test.YtpfmbfkhjapbbaaGreatDoorMg15
import Derived.Test.YtpfmbfkhjapbbaaGreatDoorMInts6
import Derived.StillTailTactics
import Derived.BigRegion
set_option linter.unusedVariables false
set_option linter.unusedSimpArgs false
namespace Go.Proofs.YtpfmbfkhjapbbaaGreatDoor
open Go Go.RowKit
def IntDone (w:World) (p:Nat) (a:Option Addr) (neg:Bool) (v:Nat) (w':World):Prop :=
  ∃ a' n c f,IntIs w' p neg a' n c f v∧Mod (IntP p a) w w'∧(a'=a∨Fresh w a')
theorem IntDone.drew {w w':World} {p:Nat} {a:Option Addr} {neg:Bool} {v:Nat} (h:IntDone w p a neg v w'):IntDone w p a neg v w'.drew:=by
  obtain ⟨a',n,c,f,h1,h2,h3⟩:=h
  exact ⟨a',n,c,f,⟨h1.cells,⟨h1.num.arr,h1.num.le,h1.num.val,h1.num.top⟩,h1.apart⟩,h2.drew,h3⟩
theorem IntDone.ret {w w':World} {p:Nat} {a:Option Addr} {neg:Bool} {v:Nat} (h:IntDone w p a neg v w'):IntRet w p a neg v (.returned (.pointer (some ⟨p,0,none⟩))) w':=⟨rfl,h⟩
def MulRest (w:World) (pz:Nat) (az:Option Addr) (nz cz:Nat) (bz s:Bool) (px:Nat) (bx:Bool) (py:Nat) (by_:Bool) (v:Nat) (e:Ending) (w4:World):Prop :=
  ∃ a' n' c',e=.returned (.slice a' n' c')∧w4.cell? ⟨pz,0,none⟩=some (.bool bz)∧w4.cell? ⟨pz,1,none⟩=some (.slice az nz cz)∧w4.frozen? ⟨pz,0,none⟩=false∧w4.frozen? ⟨pz,1,none⟩=false ∧
    w4.cell? ⟨px,0,none⟩=some (.bool bx)∧w4.cell? ⟨py,0,none⟩=some (.bool by_) ∧
    (0<n'→IntDone w pz az (s && decide (0<v)) v ((w4.setCell ⟨pz,1,none⟩ (.slice a' n' c')).setCell ⟨pz,0,none⟩ (.bool s))) ∧
    (n'=0→IntDone w pz az (s && decide (0<v)) v ((w4.setCell ⟨pz,1,none⟩ (.slice a' 0 c')).setCell ⟨pz,0,none⟩ (.bool false)))
theorem mulRest {w w2:World} {pz px py:Nat} {az ax ay:Option Addr} {nz cz vz nx cx ny cy vx vy:Nat} {fz fx fy:Nat→Nat} {bz bx by_ s:Bool} {v:Nat} (hZ:IntIs w pz bz az nz cz fz vz) (hX:IntIs w px bx ax nx cx fx vx) (hY:IntIs w py by_ ay ny cy fy vy)
    (hap:∀ A,az=some A→A.block≠px∧A.block≠py) (m2:Mod NoP w w2) {e:Ending} {w4:World} (hN:NatRet w2 az v e w4):MulRest w pz az nz cz bz s px bx py by_ v e w4:=by
  obtain ⟨a',n',c',f',rfl,hN,hm,hf⟩:=hN
  have mm:Mod (BlkOf az) w w4:=(m2.of_none (M:=BlkOf az)).trans hm
  have hp:w4.heap[pz]? = some (.cells #[.bool bz,.slice az nz cz] 51 (0,0)):=by rw [mm.heap (lt_of_heap hZ.cells) hZ.offP,hZ.cells]
  have hf':a'=az∨Fresh w a':=hf.imp id fun h=>h.mono m2.size
  have hz:=hN.zero_iff
  refine ⟨a',n',c',rfl,(cell?_of_heap hp 0).trans rfl,(cell?_of_heap hp 1).trans rfl,free_of_heap hp 0,free_of_heap hp 1,?_,?_,fun h => ?_,fun h => ?_⟩
  · exact mm.cell_some hX.c0 fun ⟨A,hA,hp⟩=>(hap A hA).1 hp
  · exact mm.cell_some hY.c0 fun ⟨A,hA,hp⟩=>(hap A hA).2 hp
  · rw [decide_eq_true (show 0<v by omega),Bool.and_true]
    exact (IntRet.mk (m:=mm) hp (lt_of_heap hZ.cells) hZ.apart hN hf').2
  · subst h
    rw [decide_eq_false (show ¬ 0<v by omega),Bool.and_false]
    exact (IntRet.mk (m:=mm) hp (lt_of_heap hZ.cells) hZ.apart hN hf').2
theorem ptr_same_eql {w:World} {b:Nat}:(binOp .eql 47 (.pointer (some ⟨b,0,none⟩)) (.pointer (some ⟨b,0,none⟩))).run Tryz.prog w=.ok (.bool true) w:=by
  obtain ⟨j,hj,hs⟩:=info47
  exact run_eql_ptr_same w _ Tryz.underlying47 hj
set_option maxRecDepth 100000 in
set_option maxHeartbeats 4000000 in
theorem intMulI_ff (pz px py nz cz nx cx ny cy vz vx vy:Nat) (bz:Bool) (az ax ay:Option Addr) (fz fx fy:Nat→Nat) (w:World) (hG:Glo w 5 40) (hZ:IntIs w pz bz az nz cz fz vz) (hX:IntIs w px false ax nx cx fx vx) (hY:IntIs w py false ay ny cy fy vy)
    (hsx:nx<40) (hsy:ny<40) (hne:px≠py) (hap:∀ A,az=some A→A.block≠px∧A.block≠py) :
    Calls Tryz.prog 116 #[.pointer (some ⟨pz,0,none⟩),.pointer none,.pointer (some ⟨px,0,none⟩),.pointer (some ⟨py,0,none⟩)] w fun e w'=>e=.returned (.tuple #[])∧IntDone w pz az (false && decide (0<vx*vy)) (vx*vy) w':=by
  have z1:=hZ.c1
  have x1:=hX.c1
  have y1:=hY.c1
  have HPT:=Lib.hid (fun (w':World) (h:w'.heap=w.heap)=>ptr_apart (w:=w') (by rw [h];exact hX.cells) (by rw [h];exact hY.cells) hne)
  have HA:=Lib.hid (fun w1 (m:Mod NoP w w1)=>(natMul_any az ax ay nz cz nx cx ny cy vx vy (.pointer none) w1 fz fx fy (m.cell_some hG fun h=>h) (hZ.num.arr.mod m (Off.noP _)) hZ.num.le (hX.num.mod m (Off.noP _)) (hY.num.mod m (Off.noP _)) hsx hsy).mono fun e w4=>mulRest (s:=false) hZ hX hY hap m)
  have hpt:=HPT.out w rfl
  clear hZ hX hY hG HPT
  generalize vx*vy=v at *
  go_enter Tryz.func116,Tryz.ntmps116
  go_wp2_with fail
  go_region_with (go_at_call 131;refine (HA.out _ ?_).mono ?_;((first | exact (Mod.refl NoP w).drew | exact (Mod.refl NoP w).drewN _));rintro e w4 ⟨a',n',c',rfl,e0,e1,f0,f1,ex,ey,r1,r2⟩)
  all_goals (have hc:=cell_same e1 (.slice a' n' c'))
  all_goals (rcases Nat.eq_zero_or_pos n' with hn0 | hn0)
  all_goals (first
    | (subst hn0
       have RES:=Lib.hid (r2 rfl)
       have ex2:=(cell_other (w:=w4) (b:=pz) (o:=1) (b':=px) (o':=0) (.inr (by omega)) (.slice a' 0 c')).trans ex
       have ey2:=(cell_other (w:=w4) (b:=pz) (o:=1) (b':=py) (o':=0) (.inr (by omega)) (.slice a' 0 c')).trans ey
       have f02:(w4.setCell ⟨pz,1,none⟩ (.slice a' 0 c')).frozen? ⟨pz,0,none⟩=false:=by rw [World.frozen?_setCell];exact f0
       have e02:=(cell_other (w:=w4) (b:=pz) (o:=1) (b':=pz) (o':=0) (.inr (by omega)) (.slice a' 0 c')).trans e0
       clear r1 r2 ex ey f0 f1 e0 e1
       generalize w4.setCell ⟨pz,1,none⟩ (.slice a' 0 c')=W at *
       go_wp2_with fail
       go_region
       all_goals (go_wp2_with fail)
       all_goals go_end0
       all_goals exact ⟨rfl,RES.out.drew⟩)
    | (have RES := Lib.hid (r1 hn0)
       have ex2:=(cell_other (w:=w4) (b:=pz) (o:=1) (b':=px) (o':=0) (.inr (by omega)) (.slice a' n' c')).trans ex
       have ey2:=(cell_other (w:=w4) (b:=pz) (o:=1) (b':=py) (o':=0) (.inr (by omega)) (.slice a' n' c')).trans ey
       have f02:(w4.setCell ⟨pz,1,none⟩ (.slice a' n' c')).frozen? ⟨pz,0,none⟩=false:=by rw [World.frozen?_setCell];exact f0
       have e02:=(cell_other (w:=w4) (b:=pz) (o:=1) (b':=pz) (o':=0) (.inr (by omega)) (.slice a' n' c')).trans e0
       have hgt:(0:Int)<(n':Int):=by omega
       have hd:decide ((n':Int) > 0)=true:=decide_eq_true hgt
       have hd2:decide ((0:Int)<(n':Int))=true:=decide_eq_true hgt
       have hd3:decide (0<n')=true:=decide_eq_true hn0
       clear r1 r2 ex ey f0 f1 e0 e1
       generalize w4.setCell ⟨pz,1,none⟩ (.slice a' n' c')=W at *
       go_wp2_with fail
       go_region
       all_goals (go_wp2_with fail)
       all_goals go_end0
       all_goals exact ⟨rfl,RES.out.drew⟩))
set_option maxRecDepth 100000 in
set_option maxHeartbeats 4000000 in
theorem intMulI_ft (pz px py nz cz nx cx ny cy vz vx vy:Nat) (bz:Bool) (az ax ay:Option Addr) (fz fx fy:Nat→Nat) (w:World) (hG:Glo w 5 40) (hZ:IntIs w pz bz az nz cz fz vz) (hX:IntIs w px false ax nx cx fx vx) (hY:IntIs w py true ay ny cy fy vy)
    (hsx:nx<40) (hsy:ny<40) (hne:px≠py) (hap:∀ A,az=some A→A.block≠px∧A.block≠py) :
    Calls Tryz.prog 116 #[.pointer (some ⟨pz,0,none⟩),.pointer none,.pointer (some ⟨px,0,none⟩),.pointer (some ⟨py,0,none⟩)] w fun e w'=>e=.returned (.tuple #[])∧IntDone w pz az (true && decide (0<vx*vy)) (vx*vy) w':=by
  have z1:=hZ.c1
  have x1:=hX.c1
  have y1:=hY.c1
  have HPT:=Lib.hid (fun (w':World) (h:w'.heap=w.heap)=>ptr_apart (w:=w') (by rw [h];exact hX.cells) (by rw [h];exact hY.cells) hne)
  have HA:=Lib.hid (fun w1 (m:Mod NoP w w1)=>(natMul_any az ax ay nz cz nx cx ny cy vx vy (.pointer none) w1 fz fx fy (m.cell_some hG fun h=>h) (hZ.num.arr.mod m (Off.noP _)) hZ.num.le (hX.num.mod m (Off.noP _)) (hY.num.mod m (Off.noP _)) hsx hsy).mono fun e w4=>mulRest (s:=true) hZ hX hY hap m)
  have hpt:=HPT.out w rfl
  clear hZ hX hY hG HPT
  generalize vx*vy=v at *
  go_enter Tryz.func116,Tryz.ntmps116
  go_wp2_with fail
  go_region_with (go_at_call 131;refine (HA.out _ ?_).mono ?_;((first | exact (Mod.refl NoP w).drew | exact (Mod.refl NoP w).drewN _));rintro e w4 ⟨a',n',c',rfl,e0,e1,f0,f1,ex,ey,r1,r2⟩)
  all_goals (have hc:=cell_same e1 (.slice a' n' c'))
  all_goals (rcases Nat.eq_zero_or_pos n' with hn0 | hn0)
  all_goals (first
    | (subst hn0
       have RES:=Lib.hid (r2 rfl)
       have ex2:=(cell_other (w:=w4) (b:=pz) (o:=1) (b':=px) (o':=0) (.inr (by omega)) (.slice a' 0 c')).trans ex
       have ey2:=(cell_other (w:=w4) (b:=pz) (o:=1) (b':=py) (o':=0) (.inr (by omega)) (.slice a' 0 c')).trans ey
       have f02:(w4.setCell ⟨pz,1,none⟩ (.slice a' 0 c')).frozen? ⟨pz,0,none⟩=false:=by rw [World.frozen?_setCell];exact f0
       have e02:=(cell_other (w:=w4) (b:=pz) (o:=1) (b':=pz) (o':=0) (.inr (by omega)) (.slice a' 0 c')).trans e0
       clear r1 r2 ex ey f0 f1 e0 e1
       generalize w4.setCell ⟨pz,1,none⟩ (.slice a' 0 c')=W at *
       go_wp2_with fail
       go_region
       all_goals (go_wp2_with fail)
       all_goals go_end0
       all_goals exact ⟨rfl,RES.out.drew⟩)
    | (have RES := Lib.hid (r1 hn0)
       have ex2:=(cell_other (w:=w4) (b:=pz) (o:=1) (b':=px) (o':=0) (.inr (by omega)) (.slice a' n' c')).trans ex
       have ey2:=(cell_other (w:=w4) (b:=pz) (o:=1) (b':=py) (o':=0) (.inr (by omega)) (.slice a' n' c')).trans ey
       have f02:(w4.setCell ⟨pz,1,none⟩ (.slice a' n' c')).frozen? ⟨pz,0,none⟩=false:=by rw [World.frozen?_setCell];exact f0
       have e02:=(cell_other (w:=w4) (b:=pz) (o:=1) (b':=pz) (o':=0) (.inr (by omega)) (.slice a' n' c')).trans e0
       have hgt:(0:Int)<(n':Int):=by omega
       have hd:decide ((n':Int) > 0)=true:=decide_eq_true hgt
       have hd2:decide ((0:Int)<(n':Int))=true:=decide_eq_true hgt
       have hd3:decide (0<n')=true:=decide_eq_true hn0
       clear r1 r2 ex ey f0 f1 e0 e1
       generalize w4.setCell ⟨pz,1,none⟩ (.slice a' n' c')=W at *
       go_wp2_with fail
       go_region
       all_goals (go_wp2_with fail)
       all_goals go_end0
       all_goals exact ⟨rfl,RES.out.drew⟩))
set_option maxRecDepth 100000 in
set_option maxHeartbeats 4000000 in
theorem intMulI_tf (pz px py nz cz nx cx ny cy vz vx vy:Nat) (bz:Bool) (az ax ay:Option Addr) (fz fx fy:Nat→Nat) (w:World) (hG:Glo w 5 40) (hZ:IntIs w pz bz az nz cz fz vz) (hX:IntIs w px true ax nx cx fx vx) (hY:IntIs w py false ay ny cy fy vy)
    (hsx:nx<40) (hsy:ny<40) (hne:px≠py) (hap:∀ A,az=some A→A.block≠px∧A.block≠py) :
    Calls Tryz.prog 116 #[.pointer (some ⟨pz,0,none⟩),.pointer none,.pointer (some ⟨px,0,none⟩),.pointer (some ⟨py,0,none⟩)] w fun e w'=>e=.returned (.tuple #[])∧IntDone w pz az (true && decide (0<vx*vy)) (vx*vy) w':=by
  have z1:=hZ.c1
  have x1:=hX.c1
  have y1:=hY.c1
  have HPT:=Lib.hid (fun (w':World) (h:w'.heap=w.heap)=>ptr_apart (w:=w') (by rw [h];exact hX.cells) (by rw [h];exact hY.cells) hne)
  have HA:=Lib.hid (fun w1 (m:Mod NoP w w1)=>(natMul_any az ax ay nz cz nx cx ny cy vx vy (.pointer none) w1 fz fx fy (m.cell_some hG fun h=>h) (hZ.num.arr.mod m (Off.noP _)) hZ.num.le (hX.num.mod m (Off.noP _)) (hY.num.mod m (Off.noP _)) hsx hsy).mono fun e w4=>mulRest (s:=true) hZ hX hY hap m)
  have hpt:=HPT.out w rfl
  clear hZ hX hY hG HPT
  generalize vx*vy=v at *
  go_enter Tryz.func116,Tryz.ntmps116
  go_wp2_with fail
  go_region_with (go_at_call 131;refine (HA.out _ ?_).mono ?_;((first | exact (Mod.refl NoP w).drew | exact (Mod.refl NoP w).drewN _));rintro e w4 ⟨a',n',c',rfl,e0,e1,f0,f1,ex,ey,r1,r2⟩)
  all_goals (have hc:=cell_same e1 (.slice a' n' c'))
  all_goals (rcases Nat.eq_zero_or_pos n' with hn0 | hn0)
  all_goals (first
    | (subst hn0
       have RES:=Lib.hid (r2 rfl)
       have ex2:=(cell_other (w:=w4) (b:=pz) (o:=1) (b':=px) (o':=0) (.inr (by omega)) (.slice a' 0 c')).trans ex
       have ey2:=(cell_other (w:=w4) (b:=pz) (o:=1) (b':=py) (o':=0) (.inr (by omega)) (.slice a' 0 c')).trans ey
       have f02:(w4.setCell ⟨pz,1,none⟩ (.slice a' 0 c')).frozen? ⟨pz,0,none⟩=false:=by rw [World.frozen?_setCell];exact f0
       have e02:=(cell_other (w:=w4) (b:=pz) (o:=1) (b':=pz) (o':=0) (.inr (by omega)) (.slice a' 0 c')).trans e0
       clear r1 r2 ex ey f0 f1 e0 e1
       generalize w4.setCell ⟨pz,1,none⟩ (.slice a' 0 c')=W at *
       go_wp2_with fail
       go_region
       all_goals (go_wp2_with fail)
       all_goals go_end0
       all_goals exact ⟨rfl,RES.out.drew⟩)
    | (have RES := Lib.hid (r1 hn0)
       have ex2:=(cell_other (w:=w4) (b:=pz) (o:=1) (b':=px) (o':=0) (.inr (by omega)) (.slice a' n' c')).trans ex
       have ey2:=(cell_other (w:=w4) (b:=pz) (o:=1) (b':=py) (o':=0) (.inr (by omega)) (.slice a' n' c')).trans ey
       have f02:(w4.setCell ⟨pz,1,none⟩ (.slice a' n' c')).frozen? ⟨pz,0,none⟩=false:=by rw [World.frozen?_setCell];exact f0
       have e02:=(cell_other (w:=w4) (b:=pz) (o:=1) (b':=pz) (o':=0) (.inr (by omega)) (.slice a' n' c')).trans e0
       have hgt:(0:Int)<(n':Int):=by omega
       have hd:decide ((n':Int) > 0)=true:=decide_eq_true hgt
       have hd2:decide ((0:Int)<(n':Int))=true:=decide_eq_true hgt
       have hd3:decide (0<n')=true:=decide_eq_true hn0
       clear r1 r2 ex ey f0 f1 e0 e1
       generalize w4.setCell ⟨pz,1,none⟩ (.slice a' n' c')=W at *
       go_wp2_with fail
       go_region
       all_goals (go_wp2_with fail)
       all_goals go_end0
       all_goals exact ⟨rfl,RES.out.drew⟩))
set_option maxRecDepth 100000 in
set_option maxHeartbeats 4000000 in
theorem intMulI_tt (pz px py nz cz nx cx ny cy vz vx vy:Nat) (bz:Bool) (az ax ay:Option Addr) (fz fx fy:Nat→Nat) (w:World) (hG:Glo w 5 40) (hZ:IntIs w pz bz az nz cz fz vz) (hX:IntIs w px true ax nx cx fx vx) (hY:IntIs w py true ay ny cy fy vy)
    (hsx:nx<40) (hsy:ny<40) (hne:px≠py) (hap:∀ A,az=some A→A.block≠px∧A.block≠py) :
    Calls Tryz.prog 116 #[.pointer (some ⟨pz,0,none⟩),.pointer none,.pointer (some ⟨px,0,none⟩),.pointer (some ⟨py,0,none⟩)] w fun e w'=>e=.returned (.tuple #[])∧IntDone w pz az (false && decide (0<vx*vy)) (vx*vy) w':=by
  have z1:=hZ.c1
  have x1:=hX.c1
  have y1:=hY.c1
  have HPT:=Lib.hid (fun (w':World) (h:w'.heap=w.heap)=>ptr_apart (w:=w') (by rw [h];exact hX.cells) (by rw [h];exact hY.cells) hne)
  have HA:=Lib.hid (fun w1 (m:Mod NoP w w1)=>(natMul_any az ax ay nz cz nx cx ny cy vx vy (.pointer none) w1 fz fx fy (m.cell_some hG fun h=>h) (hZ.num.arr.mod m (Off.noP _)) hZ.num.le (hX.num.mod m (Off.noP _)) (hY.num.mod m (Off.noP _)) hsx hsy).mono fun e w4=>mulRest (s:=false) hZ hX hY hap m)
  have hpt:=HPT.out w rfl
  clear hZ hX hY hG HPT
  generalize vx*vy=v at *
  go_enter Tryz.func116,Tryz.ntmps116
  go_wp2_with fail
  go_region_with (go_at_call 131;refine (HA.out _ ?_).mono ?_;((first | exact (Mod.refl NoP w).drew | exact (Mod.refl NoP w).drewN _));rintro e w4 ⟨a',n',c',rfl,e0,e1,f0,f1,ex,ey,r1,r2⟩)
  all_goals (have hc:=cell_same e1 (.slice a' n' c'))
  all_goals (rcases Nat.eq_zero_or_pos n' with hn0 | hn0)
  all_goals (first
    | (subst hn0
       have RES:=Lib.hid (r2 rfl)
       have ex2:=(cell_other (w:=w4) (b:=pz) (o:=1) (b':=px) (o':=0) (.inr (by omega)) (.slice a' 0 c')).trans ex
       have ey2:=(cell_other (w:=w4) (b:=pz) (o:=1) (b':=py) (o':=0) (.inr (by omega)) (.slice a' 0 c')).trans ey
       have f02:(w4.setCell ⟨pz,1,none⟩ (.slice a' 0 c')).frozen? ⟨pz,0,none⟩=false:=by rw [World.frozen?_setCell];exact f0
       have e02:=(cell_other (w:=w4) (b:=pz) (o:=1) (b':=pz) (o':=0) (.inr (by omega)) (.slice a' 0 c')).trans e0
       clear r1 r2 ex ey f0 f1 e0 e1
       generalize w4.setCell ⟨pz,1,none⟩ (.slice a' 0 c')=W at *
       go_wp2_with fail
       go_region
       all_goals (go_wp2_with fail)
       all_goals go_end0
       all_goals exact ⟨rfl,RES.out.drew⟩)
    | (have RES := Lib.hid (r1 hn0)
       have ex2:=(cell_other (w:=w4) (b:=pz) (o:=1) (b':=px) (o':=0) (.inr (by omega)) (.slice a' n' c')).trans ex
       have ey2:=(cell_other (w:=w4) (b:=pz) (o:=1) (b':=py) (o':=0) (.inr (by omega)) (.slice a' n' c')).trans ey
       have f02:(w4.setCell ⟨pz,1,none⟩ (.slice a' n' c')).frozen? ⟨pz,0,none⟩=false:=by rw [World.frozen?_setCell];exact f0
       have e02:=(cell_other (w:=w4) (b:=pz) (o:=1) (b':=pz) (o':=0) (.inr (by omega)) (.slice a' n' c')).trans e0
       have hgt:(0:Int)<(n':Int):=by omega
       have hd:decide ((n':Int) > 0)=true:=decide_eq_true hgt
       have hd2:decide ((0:Int)<(n':Int))=true:=decide_eq_true hgt
       have hd3:decide (0<n')=true:=decide_eq_true hn0
       clear r1 r2 ex ey f0 f1 e0 e1
       generalize w4.setCell ⟨pz,1,none⟩ (.slice a' n' c')=W at *
       go_wp2_with fail
       go_region
       all_goals (go_wp2_with fail)
       all_goals go_end0
       all_goals exact ⟨rfl,RES.out.drew⟩))
set_option maxRecDepth 100000 in
set_option maxHeartbeats 4000000 in
theorem intMulI_sq (pz px nz cz nx cx vz vx:Nat) (bz bx:Bool) (az ax:Option Addr) (fz fx:Nat→Nat) (w:World) (hG3:Glo w 3 12) (hG4:Glo w 4 80) (hZ:IntIs w pz bz az nz cz fz vz) (hX:IntIs w px bx ax nx cx fx vx)
    (hsx:nx<12) (hap:∀ A,az=some A→A.block≠px∧A.block≠px) :
    Calls Tryz.prog 116 #[.pointer (some ⟨pz,0,none⟩),.pointer none,.pointer (some ⟨px,0,none⟩),.pointer (some ⟨px,0,none⟩)] w fun e w'=>e=.returned (.tuple #[])∧IntDone w pz az false (vx*vx) w':=by
  have z1:=hZ.c1
  have x1:=hX.c1
  have HA:=Lib.hid (fun w1 (m:Mod NoP w w1)=>(natSqr_any az ax nz cz nx cx vx (.pointer none) w1 fz fx (m.cell_some hG3 fun h=>h) (m.cell_some hG4 fun h=>h) (hZ.num.arr.mod m (Off.noP _)) hZ.num.le (hX.num.mod m (Off.noP _)) hsx).mono fun e w4=>mulRest (s:=false) hZ hX hX hap m)
  have hpt:=ptr_same_eql (w:=w) (b:=px)
  clear hZ hX hG3 hG4
  generalize vx*vx=v at *
  go_enter Tryz.func116,Tryz.ntmps116
  go_wp2_with fail
  go_region_with (go_at_call 130;refine (HA.out _ ?_).mono ?_;((first | exact (Mod.refl NoP w).drew | exact (Mod.refl NoP w).drewN _));rintro e w4 ⟨a',n',c',rfl,e0,e1,f0,f1,ex,ey,r1,r2⟩)
  all_goals go_wp2_with fail
  all_goals (refine bodyPost_ret (results_none rfl _ _ _) rfl ⟨rfl,?_⟩)
  all_goals (rcases Nat.eq_zero_or_pos n' with hn0 | hn0)
  all_goals (first
    | (subst hn0;exact r2 rfl)
    | exact r1 hn0)
theorem dec_of {P:Prop} [Decidable P] {b:Bool} (h:P ↔ b=true):decide P=b:=by cases b <;> simp_all
theorem sg_mul (a b:Bool) (x y:Nat):decide (sg a x*sg b y<0)=((a != b) && decide (0<x*y))∧x*y=(sg a x*sg b y).natAbs:=by
  have hn:x*y=(sg a x*sg b y).natAbs:=by rw [Int.natAbs_mul,sg_abs,sg_abs]
  refine ⟨dec_of ?_,hn⟩
  have e0:(x:Int)*(y:Int)=((x*y:Nat):Int):=by rw [Int.natCast_mul]
  cases a <;> cases b <;> simp only [sg_true,sg_false,Int.mul_neg,Int.neg_mul,e0,Bool.and_eq_true,decide_eq_true_eq]
  · exact ⟨fun h=>absurd h (by omega),fun h=>absurd h.1 (by decide)⟩
  · exact ⟨fun h=>⟨rfl,by omega⟩,fun h=>by have:=h.2;omega⟩
  · exact ⟨fun h=>⟨rfl,by omega⟩,fun h=>by have:=h.2;omega⟩
  · exact ⟨fun h=>absurd h (by omega),fun h=>absurd h.1 (by decide)⟩
theorem intMul_any (pz px py nz cz nx cx ny cy vz vx vy:Nat) (bz bx by_:Bool) (az ax ay:Option Addr) (fz fx fy:Nat→Nat) (w:World) (hG:Glo w 5 40) (hZ:IntIs w pz bz az nz cz fz vz) (hX:IntIs w px bx ax nx cx fx vx) (hY:IntIs w py by_ ay ny cy fy vy)
    (hsx:nx<40) (hsy:ny<40) (hne:px≠py) (hap:∀ A,az=some A→A.block≠px∧A.block≠py) :
    Calls Tryz.prog 97 #[.pointer (some ⟨pz,0,none⟩),.pointer (some ⟨px,0,none⟩),.pointer (some ⟨py,0,none⟩)] w (IntRet w pz az (decide (sg bx vx*sg by_ vy<0)) (sg bx vx*sg by_ vy).natAbs):=by
  have H:=Lib.hid (show Calls Tryz.prog 116 #[.pointer (some ⟨pz,0,none⟩),.pointer none,.pointer (some ⟨px,0,none⟩),.pointer (some ⟨py,0,none⟩)] w fun e w'=>e=.returned (.tuple #[])∧IntDone w pz az (decide (sg bx vx*sg by_ vy<0)) (sg bx vx*sg by_ vy).natAbs w' by
    rw [(sg_mul bx by_ vx vy).1,← (sg_mul bx by_ vx vy).2]
    cases bx <;> cases by_
    · exact intMulI_ff pz px py nz cz nx cx ny cy vz vx vy bz az ax ay fz fx fy w hG hZ hX hY hsx hsy hne hap
    · exact intMulI_ft pz px py nz cz nx cx ny cy vz vx vy bz az ax ay fz fx fy w hG hZ hX hY hsx hsy hne hap
    · exact intMulI_tf pz px py nz cz nx cx ny cy vz vx vy bz az ax ay fz fx fy w hG hZ hX hY hsx hsy hne hap
    · exact intMulI_tt pz px py nz cz nx cx ny cy vz vx vy bz az ax ay fz fx fy w hG hZ hX hY hsx hsy hne hap)
  clear hZ hX hY hG
  generalize decide (sg bx vx*sg by_ vy<0)=neg at *
  generalize (sg bx vx*sg by_ vy).natAbs=v at *
  go_enter Tryz.func97,Tryz.ntmps97
  go_wp2_with fail
  refine H.out.mono ?_
  rintro e w1 ⟨rfl,h1⟩
  go_wp2_with fail
  go_ret
  exact h1.ret
theorem intSqr_any (pz px nz cz nx cx vz vx:Nat) (bz bx:Bool) (az ax:Option Addr) (fz fx:Nat→Nat) (w:World) (hG3:Glo w 3 12) (hG4:Glo w 4 80) (hZ:IntIs w pz bz az nz cz fz vz) (hX:IntIs w px bx ax nx cx fx vx)
    (hsx:nx<12) (hap:∀ A,az=some A→A.block≠px∧A.block≠px) :
    Calls Tryz.prog 97 #[.pointer (some ⟨pz,0,none⟩),.pointer (some ⟨px,0,none⟩),.pointer (some ⟨px,0,none⟩)] w (IntRet w pz az false (vx*vx)):=by
  have H:=Lib.hid (intMulI_sq pz px nz cz nx cx vz vx bz bx az ax fz fx w hG3 hG4 hZ hX hsx hap)
  clear hZ hX hG3 hG4
  generalize vx*vx=v at *
  go_enter Tryz.func97,Tryz.ntmps97
  go_wp2_with fail
  refine H.out.mono ?_
  rintro e w1 ⟨rfl,h1⟩
  go_wp2_with fail
  go_ret
  exact h1.ret
end Go.Proofs.YtpfmbfkhjapbbaaGreatDoor
