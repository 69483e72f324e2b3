/-
  big's Int.Sub, of whatever signs. Conditions: at most 10^6 words.
-/
import Derived.Test.YtpfmbfkhjapbbaaGreatDoorMg10
import Derived.Test.YtpfmbfkhjapbbaaGreatDoorMInts5
set_option linter.unusedVariables false
set_option linter.unusedSimpArgs false
namespace Go.Proofs.YtpfmbfkhjapbbaaGreatDoor
open Go Go.RowKit
set_option maxRecDepth 100000 in
set_option maxHeartbeats 4000000 in
theorem intSub_sg_ff (pz px py nz cz nx cx ny cy vz vx vy:Nat) (bz:Bool) (az ax ay:Option Addr) (fz fx fy:Nat→Nat) (w:World) (hZ:IntIs w pz bz az nz cz fz vz) (hX:IntIs w px false ax nx cx fx vx) (hY:IntIs w py false ay ny cy fy vy)
    (hsx:nx≤1000000) (hsy:ny≤1000000) :
    Calls Tryz.prog 91 #[.pointer (some ⟨pz,0,none⟩),.pointer (some ⟨px,0,none⟩),.pointer (some ⟨py,0,none⟩)] w (IntRet w pz az (decide ((sg false vx+sg true vy)<0)) (sg false vx+sg true vy).natAbs):=by
  have z1:=hZ.c1
  have x0:=hX.c0
  have x1:=hX.c1
  have y0:=hY.c0
  have y1:=hY.c1
  have HZ:=Lib.hid hZ
  have HCM:=Lib.hid (fun w1 (m:Mod NoP w w1)=>cmp_any ax ay nx cx ny cy vx vy fx fy w1 (hX.num.mod m (Off.noP _)) (hY.num.mod m (Off.noP _)) hsx hsy)
  have HSB:=Lib.hid (fun w1 (m:Mod NoP w w1) (hle:vy≤vx)=>(natSub_any az ax ay nz cz nx cx ny cy vx vy w1 fz fx fy (hZ.num.arr.mod m (Off.noP _)) hZ.num.le (hX.num.mod m (Off.noP _)) (hY.num.mod m (Off.noP _)) hsx hle).mono fun e w4=>sgRest hZ m (sg_diff false hle).1 (sg_diff false hle).2)
  have HSC:=Lib.hid (fun w1 (m:Mod NoP w w1) (hlt:vx<vy)=>(natSub_any az ay ax nz cz ny cy nx cx vy vx w1 fz fy fx (hZ.num.arr.mod m (Off.noP _)) hZ.num.le (hY.num.mod m (Off.noP _)) (hX.num.mod m (Off.noP _)) hsy (Nat.le_of_lt hlt)).mono fun e w4=>sgRest hZ m (sg_less false hlt).1 (sg_less false hlt).2)
  simp only [Bool.not_true,Bool.not_false] at HSB HSC
  generalize decide ((sg false vx+sg true vy)<0)=neg at *
  generalize (sg false vx+sg true vy).natAbs=vr at *
  clear hZ hX hY
  go_enter Tryz.func91,Tryz.ntmps91
  go_wp2_with fail
  go_quiet (fail)
  have M1:=Lib.hid ((Mod.refl NoP w).drewN nq)
  replace z1:=M1.out.cell_some z1 fun h=>h
  replace x0:=M1.out.cell_some x0 fun h=>h
  replace x1:=M1.out.cell_some x1 fun h=>h
  replace y1:=M1.out.cell_some y1 fun h=>h
  clear y0
  have HC:=Lib.hid (fun q=>HCM.out ((w.drewN nq).drewN q) (M1.out.drewN q))
  clear HCM
  generalize w.drewN nq=w1 at *
  generalize hcv:cmpV vx vy=cv at *
  go_wp2_with fail
  go_quiet ((go_at_call 110;exact Calls.quiet_of (HC.out _)))
  have M2:=M1.out.drewN nq
  replace z1:(w1.drewN nq).cell? ⟨pz,1,none⟩=some (.slice az nz cz):=z1
  replace x1:(w1.drewN nq).cell? ⟨px,1,none⟩=some (.slice ax nx cx):=x1
  replace y1:(w1.drewN nq).cell? ⟨py,1,none⟩=some (.slice ay ny cy):=y1
  have HB:=Lib.hid (fun w2 (m:Mod NoP (w1.drewN nq) w2)=>HSB.out w2 (M2.trans m))
  have HD:=Lib.hid (fun w2 (m:Mod NoP (w1.drewN nq) w2)=>HSC.out w2 (M2.trans m))
  clear x0 HSB HSC HC M1 M2
  generalize w1.drewN nq=w2 at *
  by_cases hle:vy≤vx
  · have hge:(0:Int)≤cv:=by
      rw [← hcv]
      rcases Nat.lt_or_eq_of_le hle with h | h
      · rw [cmpV_gt h];decide
      · rw [h,cmpV_eq];decide
    have HA:=Lib.hid (fun w3 (m:Mod NoP w2 w3)=>HB.out w3 m hle)
    clear HB HD hcv
    go_wp2_with fail
    go_region_with (go_at_call 111;refine (HA.out _ ?_).mono ?_;((first | exact (Mod.refl NoP w2).drew | exact (Mod.refl NoP w2).drewN _));rintro e w4 ⟨a',n',c',rfl,e0,e1,f0,f1,r1,r2⟩)
    all_goals (have hc:=cell_same e1 (.slice a' n' c'))
    all_goals (rcases Nat.eq_zero_or_pos n' with hn0 | hn0)
    all_goals (first | (subst hn0;have RES:=Lib.hid (r2 rfl);clear r1 r2;go_wp2_with fail;go_ret;exact RES.out) | (have RES:=Lib.hid (r1 hn0);clear r1 r2;go_wp2_with fail;go_ret;exact RES.out))
  · have hge:¬ (0:Int)≤cv:=by
      rw [← hcv,cmpV_lt (by omega)];decide
    have HA:=Lib.hid (fun w3 (m:Mod NoP w2 w3)=>HD.out w3 m (by omega))
    clear HB HD hcv
    go_wp2_with fail
    go_region_with (go_at_call 111;refine (HA.out _ ?_).mono ?_;((first | exact (Mod.refl NoP w2).drew | exact (Mod.refl NoP w2).drewN _));rintro e w4 ⟨a',n',c',rfl,e0,e1,f0,f1,r1,r2⟩)
    all_goals (have hc:=cell_same e1 (.slice a' n' c'))
    all_goals (rcases Nat.eq_zero_or_pos n' with hn0 | hn0)
    all_goals (first | (subst hn0;have RES:=Lib.hid (r2 rfl);clear r1 r2;go_wp2_with fail;go_ret;exact RES.out) | (have RES:=Lib.hid (r1 hn0);clear r1 r2;go_wp2_with fail;go_ret;exact RES.out))
set_option maxRecDepth 100000 in
set_option maxHeartbeats 4000000 in
theorem intSub_sg_ft (pz px py nz cz nx cx ny cy vz vx vy:Nat) (bz:Bool) (az ax ay:Option Addr) (fz fx fy:Nat→Nat) (w:World) (hZ:IntIs w pz bz az nz cz fz vz) (hX:IntIs w px false ax nx cx fx vx) (hY:IntIs w py true ay ny cy fy vy)
    (hsx:nx≤1000000) (hsy:ny≤1000000) :
    Calls Tryz.prog 91 #[.pointer (some ⟨pz,0,none⟩),.pointer (some ⟨px,0,none⟩),.pointer (some ⟨py,0,none⟩)] w (IntRet w pz az (decide ((sg false vx+sg false vy)<0)) (sg false vx+sg false vy).natAbs):=by
  have z1:=hZ.c1
  have x0:=hX.c0
  have x1:=hX.c1
  have y0:=hY.c0
  have y1:=hY.c1
  have HZ:=Lib.hid hZ
  have HA:=Lib.hid (fun w1 (m:Mod NoP w w1)=>(natAdd_any az ax ay nz cz nx cx ny cy vx vy w1 fz fx fy (hZ.num.arr.mod m (Off.noP _)) hZ.num.le (hX.num.mod m (Off.noP _)) (hY.num.mod m (Off.noP _)) hsx hsy).mono fun e w4=>sgRest hZ m (sg_same false vx vy).1 (sg_same false vx vy).2)
  generalize decide ((sg false vx+sg false vy)<0)=neg at *
  generalize (sg false vx+sg false vy).natAbs=vr at *
  clear hZ hX hY
  go_enter Tryz.func91,Tryz.ntmps91
  go_wp2_with fail
  go_quiet (fail)
  have M1:=(Mod.refl NoP w).drewN nq
  replace z1:=M1.cell_some z1 fun h=>h
  replace x0:=M1.cell_some x0 fun h=>h
  replace x1:=M1.cell_some x1 fun h=>h
  replace y1:=M1.cell_some y1 fun h=>h
  have HB:=Lib.hid (fun w2 (m:Mod NoP (w.drewN nq) w2)=>HA.out w2 (M1.trans m))
  clear HA M1 y0
  have HA:=HB
  clear HB
  generalize w.drewN nq=w1 at *
  go_wp2_with fail
  go_region_with (go_at_call 109;refine (HA.out _ ?_).mono ?_;((first | exact (Mod.refl NoP w1).drew | exact (Mod.refl NoP w1).drewN _));rintro e w4 ⟨a',n',c',rfl,e0,e1,f0,f1,r1,r2⟩)
  all_goals (have hc:=cell_same e1 (.slice a' n' c'))
  all_goals (rcases Nat.eq_zero_or_pos n' with hn0 | hn0)
  all_goals (first | (subst hn0;have RES:=Lib.hid (r2 rfl);clear r1 r2;go_wp2_with fail;go_ret;exact RES.out) | (have RES:=Lib.hid (r1 hn0);clear r1 r2;go_wp2_with fail;go_ret;exact RES.out))
set_option maxRecDepth 100000 in
set_option maxHeartbeats 4000000 in
theorem intSub_sg_tf (pz px py nz cz nx cx ny cy vz vx vy:Nat) (bz:Bool) (az ax ay:Option Addr) (fz fx fy:Nat→Nat) (w:World) (hZ:IntIs w pz bz az nz cz fz vz) (hX:IntIs w px true ax nx cx fx vx) (hY:IntIs w py false ay ny cy fy vy)
    (hsx:nx≤1000000) (hsy:ny≤1000000) :
    Calls Tryz.prog 91 #[.pointer (some ⟨pz,0,none⟩),.pointer (some ⟨px,0,none⟩),.pointer (some ⟨py,0,none⟩)] w (IntRet w pz az (decide ((sg true vx+sg true vy)<0)) (sg true vx+sg true vy).natAbs):=by
  have z1:=hZ.c1
  have x0:=hX.c0
  have x1:=hX.c1
  have y0:=hY.c0
  have y1:=hY.c1
  have HZ:=Lib.hid hZ
  have HA:=Lib.hid (fun w1 (m:Mod NoP w w1)=>(natAdd_any az ax ay nz cz nx cx ny cy vx vy w1 fz fx fy (hZ.num.arr.mod m (Off.noP _)) hZ.num.le (hX.num.mod m (Off.noP _)) (hY.num.mod m (Off.noP _)) hsx hsy).mono fun e w4=>sgRest hZ m (sg_same true vx vy).1 (sg_same true vx vy).2)
  generalize decide ((sg true vx+sg true vy)<0)=neg at *
  generalize (sg true vx+sg true vy).natAbs=vr at *
  clear hZ hX hY
  go_enter Tryz.func91,Tryz.ntmps91
  go_wp2_with fail
  go_quiet (fail)
  have M1:=(Mod.refl NoP w).drewN nq
  replace z1:=M1.cell_some z1 fun h=>h
  replace x0:=M1.cell_some x0 fun h=>h
  replace x1:=M1.cell_some x1 fun h=>h
  replace y1:=M1.cell_some y1 fun h=>h
  have HB:=Lib.hid (fun w2 (m:Mod NoP (w.drewN nq) w2)=>HA.out w2 (M1.trans m))
  clear HA M1 y0
  have HA:=HB
  clear HB
  generalize w.drewN nq=w1 at *
  go_wp2_with fail
  go_region_with (go_at_call 109;refine (HA.out _ ?_).mono ?_;((first | exact (Mod.refl NoP w1).drew | exact (Mod.refl NoP w1).drewN _));rintro e w4 ⟨a',n',c',rfl,e0,e1,f0,f1,r1,r2⟩)
  all_goals (have hc:=cell_same e1 (.slice a' n' c'))
  all_goals (rcases Nat.eq_zero_or_pos n' with hn0 | hn0)
  all_goals (first | (subst hn0;have RES:=Lib.hid (r2 rfl);clear r1 r2;go_wp2_with fail;go_ret;exact RES.out) | (have RES:=Lib.hid (r1 hn0);clear r1 r2;go_wp2_with fail;go_ret;exact RES.out))
set_option maxRecDepth 100000 in
set_option maxHeartbeats 4000000 in
theorem intSub_sg_tt (pz px py nz cz nx cx ny cy vz vx vy:Nat) (bz:Bool) (az ax ay:Option Addr) (fz fx fy:Nat→Nat) (w:World) (hZ:IntIs w pz bz az nz cz fz vz) (hX:IntIs w px true ax nx cx fx vx) (hY:IntIs w py true ay ny cy fy vy)
    (hsx:nx≤1000000) (hsy:ny≤1000000) :
    Calls Tryz.prog 91 #[.pointer (some ⟨pz,0,none⟩),.pointer (some ⟨px,0,none⟩),.pointer (some ⟨py,0,none⟩)] w (IntRet w pz az (decide ((sg true vx+sg false vy)<0)) (sg true vx+sg false vy).natAbs):=by
  have z1:=hZ.c1
  have x0:=hX.c0
  have x1:=hX.c1
  have y0:=hY.c0
  have y1:=hY.c1
  have HZ:=Lib.hid hZ
  have HCM:=Lib.hid (fun w1 (m:Mod NoP w w1)=>cmp_any ax ay nx cx ny cy vx vy fx fy w1 (hX.num.mod m (Off.noP _)) (hY.num.mod m (Off.noP _)) hsx hsy)
  have HSB:=Lib.hid (fun w1 (m:Mod NoP w w1) (hle:vy≤vx)=>(natSub_any az ax ay nz cz nx cx ny cy vx vy w1 fz fx fy (hZ.num.arr.mod m (Off.noP _)) hZ.num.le (hX.num.mod m (Off.noP _)) (hY.num.mod m (Off.noP _)) hsx hle).mono fun e w4=>sgRest hZ m (sg_diff true hle).1 (sg_diff true hle).2)
  have HSC:=Lib.hid (fun w1 (m:Mod NoP w w1) (hlt:vx<vy)=>(natSub_any az ay ax nz cz ny cy nx cx vy vx w1 fz fy fx (hZ.num.arr.mod m (Off.noP _)) hZ.num.le (hY.num.mod m (Off.noP _)) (hX.num.mod m (Off.noP _)) hsy (Nat.le_of_lt hlt)).mono fun e w4=>sgRest hZ m (sg_less true hlt).1 (sg_less true hlt).2)
  simp only [Bool.not_true,Bool.not_false] at HSB HSC
  generalize decide ((sg true vx+sg false vy)<0)=neg at *
  generalize (sg true vx+sg false vy).natAbs=vr at *
  clear hZ hX hY
  go_enter Tryz.func91,Tryz.ntmps91
  go_wp2_with fail
  go_quiet (fail)
  have M1:=Lib.hid ((Mod.refl NoP w).drewN nq)
  replace z1:=M1.out.cell_some z1 fun h=>h
  replace x0:=M1.out.cell_some x0 fun h=>h
  replace x1:=M1.out.cell_some x1 fun h=>h
  replace y1:=M1.out.cell_some y1 fun h=>h
  clear y0
  have HC:=Lib.hid (fun q=>HCM.out ((w.drewN nq).drewN q) (M1.out.drewN q))
  clear HCM
  generalize w.drewN nq=w1 at *
  generalize hcv:cmpV vx vy=cv at *
  go_wp2_with fail
  go_quiet ((go_at_call 110;exact Calls.quiet_of (HC.out _)))
  have M2:=M1.out.drewN nq
  replace z1:(w1.drewN nq).cell? ⟨pz,1,none⟩=some (.slice az nz cz):=z1
  replace x1:(w1.drewN nq).cell? ⟨px,1,none⟩=some (.slice ax nx cx):=x1
  replace y1:(w1.drewN nq).cell? ⟨py,1,none⟩=some (.slice ay ny cy):=y1
  have HB:=Lib.hid (fun w2 (m:Mod NoP (w1.drewN nq) w2)=>HSB.out w2 (M2.trans m))
  have HD:=Lib.hid (fun w2 (m:Mod NoP (w1.drewN nq) w2)=>HSC.out w2 (M2.trans m))
  clear x0 HSB HSC HC M1 M2
  generalize w1.drewN nq=w2 at *
  by_cases hle:vy≤vx
  · have hge:(0:Int)≤cv:=by
      rw [← hcv]
      rcases Nat.lt_or_eq_of_le hle with h | h
      · rw [cmpV_gt h];decide
      · rw [h,cmpV_eq];decide
    have HA:=Lib.hid (fun w3 (m:Mod NoP w2 w3)=>HB.out w3 m hle)
    clear HB HD hcv
    go_wp2_with fail
    go_region_with (go_at_call 111;refine (HA.out _ ?_).mono ?_;((first | exact (Mod.refl NoP w2).drew | exact (Mod.refl NoP w2).drewN _));rintro e w4 ⟨a',n',c',rfl,e0,e1,f0,f1,r1,r2⟩)
    all_goals (have hc:=cell_same e1 (.slice a' n' c'))
    all_goals (rcases Nat.eq_zero_or_pos n' with hn0 | hn0)
    all_goals (first | (subst hn0;have RES:=Lib.hid (r2 rfl);clear r1 r2;go_wp2_with fail;go_ret;exact RES.out) | (have RES:=Lib.hid (r1 hn0);clear r1 r2;go_wp2_with fail;go_ret;exact RES.out))
  · have hge:¬ (0:Int)≤cv:=by
      rw [← hcv,cmpV_lt (by omega)];decide
    have HA:=Lib.hid (fun w3 (m:Mod NoP w2 w3)=>HD.out w3 m (by omega))
    clear HB HD hcv
    go_wp2_with fail
    go_region_with (go_at_call 111;refine (HA.out _ ?_).mono ?_;((first | exact (Mod.refl NoP w2).drew | exact (Mod.refl NoP w2).drewN _));rintro e w4 ⟨a',n',c',rfl,e0,e1,f0,f1,r1,r2⟩)
    all_goals (have hc:=cell_same e1 (.slice a' n' c'))
    all_goals (rcases Nat.eq_zero_or_pos n' with hn0 | hn0)
    all_goals (first | (subst hn0;have RES:=Lib.hid (r2 rfl);clear r1 r2;go_wp2_with fail;go_ret;exact RES.out) | (have RES:=Lib.hid (r1 hn0);clear r1 r2;go_wp2_with fail;go_ret;exact RES.out))
theorem intSub_sg (pz px py nz cz nx cx ny cy vz vx vy:Nat) (bz bx by_:Bool) (az ax ay:Option Addr) (fz fx fy:Nat→Nat) (w:World) (hZ:IntIs w pz bz az nz cz fz vz) (hX:IntIs w px bx ax nx cx fx vx) (hY:IntIs w py by_ ay ny cy fy vy)
    (hsx:nx≤1000000) (hsy:ny≤1000000) :
    Calls Tryz.prog 91 #[.pointer (some ⟨pz,0,none⟩),.pointer (some ⟨px,0,none⟩),.pointer (some ⟨py,0,none⟩)] w (IntRet w pz az (decide (sg bx vx+sg (!by_) vy<0)) (sg bx vx+sg (!by_) vy).natAbs):=by
  cases bx <;> cases by_
  · exact intSub_sg_ff pz px py nz cz nx cx ny cy vz vx vy bz az ax ay fz fx fy w hZ hX hY hsx hsy
  · exact intSub_sg_ft pz px py nz cz nx cx ny cy vz vx vy bz az ax ay fz fx fy w hZ hX hY hsx hsy
  · exact intSub_sg_tf pz px py nz cz nx cx ny cy vz vx vy bz az ax ay fz fx fy w hZ hX hY hsx hsy
  · exact intSub_sg_tt pz px py nz cz nx cx ny cy vz vx vy bz az ax ay fz fx fy w hZ hX hY hsx hsy
end Go.Proofs.YtpfmbfkhjapbbaaGreatDoor
