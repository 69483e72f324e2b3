/-
  Of two scalars one is chosen: wG's cvtScl, constantTimeCopy, wScl's CMov and CSelect, impl.ChooseScalar. Conditions: io.EOF holds an errors.errorString's pointer; rows of at most 2^20 bytes.
-/
import Derived.Test.YtpfmbfkhjapbbaaGreatDoorReadC
set_option linter.unusedVariables false
set_option linter.unusedSimpArgs false
namespace Go.Proofs.YtpfmbfkhjapbbaaGreatDoor
open Go Go.RowKit

theorem methodParams (W : World) (a : Addr) : (method 424 125 (.pointer (some a)) "Params").run Tryz.prog W = .ok (283, .pointer (some a)) W := by kernel_rfl
theorem assertScl (W : World) (v : Value) : (Instr.typeAssert (.iface 290 v) 56 290 true).run Tryz.prog W = .ok (.tuple #[v, .bool true]) W := by kernel_rfl

set_option maxRecDepth 100000 in
set_option maxHeartbeats 1000000 in
theorem cvtScl_any (k : Nat) (g : Value) (lo lo' p c : Nat) (f : Nat → Nat) (w : World) (hG : GrpIs w lo k g) (hS : SclIs w lo' k p g c f) :
    Calls Tryz.prog 266 #[g, .iface 290 (.pointer (some ⟨p, 0, none⟩))] w fun e w' => e = .returned (.pointer (some ⟨p, 0, none⟩)) ∧ Mod NoP w w' := by
  obtain ⟨i, s, a, rfl, hp, c0, c1, c2, hA, hc, hap, hlp, hla⟩ := sclIs_cells hS
  obtain ⟨gp, go, hge, hgp, hgo, hgc, hgb⟩ := id hG
  obtain ⟨rfl, rfl⟩ : i = .iface 125 (.pointer (some ⟨gp, 0, none⟩)) ∧ s = .slice (some ⟨go, 0, none⟩) (lenK k) (lenK k) := by simpa using hge
  obtain ⟨bp, bn, bb, bx, bY, nm, hcell, _⟩ := hgc
  have hc5 : w.cell? ⟨gp, 5, none⟩ = some (.int .i64 (bitsK k)) := by rw [cell?_of_heap hcell]; rfl
  have hbx := box2 w (.iface 125 (.pointer (some ⟨gp, 0, none⟩))) (.slice (some ⟨go, 0, none⟩) (lenK k) (lenK k)) 108
  have m0 : Mod NoP w (w.alloc (.cells #[.iface 125 (.pointer (some ⟨gp, 0, none⟩)), .slice (some ⟨go, 0, none⟩) (lenK k) (lenK k)] 108 (0, 0))) := (Mod.refl NoP w).alloc _
  clear hG hS hA hge hp hgb hcell
  generalize lenK k = len at *
  generalize bitsK k = bits at *
  have hta := fun W => assertScl W (.pointer (some ⟨p, 0, none⟩))
  have hme := fun W => methodParams W ⟨gp, 0, none⟩
  go_enter Tryz.func266, Tryz.ntmps266
  go_wp2_with fail
  generalize hw0 : w.alloc (.cells #[.iface 125 (.pointer (some ⟨gp, 0, none⟩)), .slice (some ⟨go, 0, none⟩) len len] 108 (0, 0)) = w0 at *
  have d5 := m0.cell_some hc5 fun h => h
  have d0 := m0.cell_some c0 fun h => h
  obtain ⟨b0, b1⟩ := hbx
  clear hw0 hc5 c0 c1 c2
  go_wp2_with fail
  go_quiet ((go_at_call 283; exact Calls.quiet_of_same (params_any _ _)))
  go_wp2_with fail
  go_ret
  exact ⟨rfl, m0.drewN _⟩

set_option maxRecDepth 100000 in
theorem ctCopy_no (v : Int) (hv : (v == 1) = false) (b o n c b' o' c' : Nat) (w : World) :
    Calls Tryz.prog 264 #[.int .i64 v, .slice (some ⟨b, o, none⟩) n c, .slice (some ⟨b', o', none⟩) n c'] w fun e w' => e = .returned (.tuple #[]) ∧ w' = w := by
  go_enter Tryz.func264, Tryz.ntmps264
  go_wp2_with fail
  go_end0
  exact ⟨rfl, rfl⟩

set_option maxRecDepth 100000 in
theorem ctCopy_yes (b n c b' o' c' cc : Nat) (f g : Nat → Nat) (w : World) (hA : BArr w (some ⟨b, 0, none⟩) cc f) (hfit : n ≤ cc) (hY : Bts w b' o' n g) :
    Calls Tryz.prog 264 #[.int .i64 1, .slice (some ⟨b, 0, none⟩) n c, .slice (some ⟨b', o', none⟩) n c'] w fun e w' => e = .returned (.tuple #[]) ∧ BArr w' (some ⟨b, 0, none⟩) cc (over f 0 n g) ∧ Mod (InB b) w w' := by
  obtain ⟨w4, hcp, hA4, m4⟩ := copy_run w 3 b 0 n c cc f hA (by omega) b' o' n c' g hY
  rw [show Nat.min n n = n from Nat.min_self n] at hcp hA4
  have HA := Lib.hid hA4
  clear hA4 hA hY
  go_enter Tryz.func264, Tryz.ntmps264
  go_wp2_with (refine wpList_copy rfl (.tmp 14) (.tmp 15) 22 22 rfl _ _ rfl rfl hcp ?_; go_simp)
  go_end0
  exact ⟨rfl, HA.out, m4⟩
end Go.Proofs.YtpfmbfkhjapbbaaGreatDoor
