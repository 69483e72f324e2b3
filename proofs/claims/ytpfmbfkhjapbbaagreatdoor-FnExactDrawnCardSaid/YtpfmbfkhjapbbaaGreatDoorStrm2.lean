/-
  impl's stream.Read and cggroup's readFull: the row is filled from the stream. Condition: the stream has as many bytes left.
-/
/-
  cggroup's readFull of a stream: one read fills the row. Condition: the stream has as many bytes left.
-/
import Derived.Test.YtpfmbfkhjapbbaaGreatDoorByt3
set_option linter.unusedVariables false
set_option linter.unusedSimpArgs false
namespace Go.Proofs.YtpfmbfkhjapbbaaGreatDoor
open Go Go.RowKit

/-- Block s is a stream: m bytes are left, they lie in block b from o on. -/
def StrIs (w : World) (s b o m c : Nat) : Prop := w.heap[s]? = some (.cells #[.slice (some ⟨b, o, none⟩) m c] 73 (0, 0))

/-- What is left behind a read of L bytes into the array d. -/
def ReadTo (w : World) (s b o m c d L : Nat) (f : Nat → Nat) (w' : World) : Prop :=
  BArr w' (some ⟨d, 0, none⟩) L f ∧ (∃ o', StrIs w' s b o' (m - L) (c - L) ∧ (L < m → o' = o + L)) ∧ Mod (fun k _ => k = s ∨ k = d) w w'

set_option maxRecDepth 100000 in
set_option maxHeartbeats 1000000 in
theorem read_any (s b o m c d L : Nat) (f g : Nat → Nat) (w : World) (hS : StrIs w s b o m c) (hB : Bts w b o m f) (hmc : m ≤ c) (hD : BArr w (some ⟨d, 0, none⟩) L g) (hL0 : 0 < L) (hL : L ≤ m) (hm : m ≤ 1048576) (h1 : s ≠ b) (h2 : s ≠ d) (h3 : b ≠ d) :
    Calls Tryz.prog 230 #[.pointer (some ⟨s, 0, none⟩), .slice (some ⟨d, 0, none⟩) L L] w fun e w' => e = .returned (.tuple #[.int .i64 (L : Int), .nilIface]) ∧ ReadTo w s b o m c d L f w' := by
  have c0 : w.cell? ⟨s, 0, none⟩ = some (.slice (some ⟨b, o, none⟩) m c) := by rw [cell?_of_heap hS]; rfl
  obtain ⟨w1, hcp, hD1, m1⟩ := copy_run w 3 d 0 L L L g hD (by omega) b o m c f hB
  have hmin : Nat.min m L = L := Nat.min_eq_right hL
  rw [hmin] at hcp hD1
  have hS1 : w1.heap[s]? = some (.cells #[.slice (some ⟨b, o, none⟩) m c] 73 (0, 0)) := by rw [m1.heap (lt_of_heap hS) (fun _ h => h2 h)]; exact hS
  have c1 : w1.cell? ⟨s, 0, none⟩ = some (.slice (some ⟨b, o, none⟩) m c) := by rw [cell?_of_heap hS1]; rfl
  have f1 := free_of_heap hS1 0
  obtain ⟨o', hs1, hs2, hs3⟩ := slice22_from b o m c L hL hmc (L : Int) rfl
  have hb0 : ((m : Int) == 0) = false := by simp; omega
  have HD1 := Lib.hid hD1
  have HS1 := Lib.hid hS1
  have M1 := Lib.hid m1
  have H2 := Lib.hid hs2
  clear hD1 hS1 m1 hS hB hD hs2 hs3
  go_enter Tryz.func230, Tryz.ntmps230
  go_wp2_with (refine wpList_copy rfl (.tmp 14) (.tmp 18) 22 22 rfl _ _ rfl rfl hcp ?_; go_simp)
  go_ret2
  refine ⟨rfl, ?_, ⟨o', (heap_set HS1.out 0 _).trans rfl, fun h => H2.out (by omega)⟩, ?_⟩
  · have h := HD1.out.mod (mod_own w1 s 0 (.slice (some ⟨b, o', none⟩) (m - L) (c - L))) (fun A hA o h => by obtain rfl := Option.some.inj hA; exact h2 h.symm)
    exact h.congrB fun j hj => by unfold over; rw [if_pos (by omega)]; simp
  · exact (M1.out.mono fun _ _ _ h => .inr h).trans ((mod_own w1 s 0 _).mono fun _ _ _ h => .inl h)


theorem methodRead (W : World) (a : Addr) : (method 424 71 (.pointer (some a)) "Read").run Tryz.prog W = .ok (230, .pointer (some a)) W := by kernel_rfl

theorem aheadRead (W : World) (a : Addr) : (nilAhead 424 71 (.pointer (some a)) "Read").run Tryz.prog W = .ok (some false) W := by kernel_rfl

theorem ReadTo.drew {w w' : World} {s b o m c d L : Nat} {f : Nat → Nat} (h : ReadTo w s b o m c d L f w') (q : Nat) : ReadTo w s b o m c d L f (w'.drewN q) := by
  obtain ⟨h1, ⟨o', h2, h3⟩, h4⟩ := h
  exact ⟨h1.mod ((Mod.refl NoP w').drewN q) (fun A hA o h => h), ⟨o', h2, h3⟩, h4.drewN q⟩
theorem ReadTo.pre {w w0 w' : World} {s b o m c d L : Nat} {f : Nat → Nat} (h : ReadTo w s b o m c d L f w') (hm : Mod NoP w0 w) : ReadTo w0 s b o m c d L f w' := by
  obtain ⟨h1, h2, h4⟩ := h
  exact ⟨h1, h2, (hm.of_none).trans h4⟩

set_option maxRecDepth 100000 in
set_option maxHeartbeats 1000000 in
theorem readFull_any (s b o m c d L : Nat) (f g : Nat → Nat) (w : World) (hS : StrIs w s b o m c) (hB : Bts w b o m f) (hmc : m ≤ c) (hD : BArr w (some ⟨d, 0, none⟩) L g) (hL0 : 0 < L) (hL : L ≤ m) (hm : m ≤ 1048576) (h1 : s ≠ b) (h2 : s ≠ d) (h3 : b ≠ d) :
    Calls Tryz.prog 246 #[.iface 71 (.pointer (some ⟨s, 0, none⟩)), .slice (some ⟨d, 0, none⟩) L L] w fun e w' => e = .returned (.tuple #[.int .i64 (L : Int), .nilIface]) ∧ ReadTo w s b o m c d L f w' := by
  have hrd := fun w1 (mm : Mod NoP w w1) => read_any s b o m c d L f g w1 (show w1.heap[s]? = _ by rw [mm.heap (lt_of_heap hS) (fun _ h => h)]; exact hS) (hB.mod mm fun _ _ h => h) hmc (hD.mod mm fun _ _ _ h => h) hL0 hL hm h1 h2 h3
  have HRD := Lib.hid hrd
  have hme := fun W => methodRead W ⟨s, 0, none⟩
  have hna := fun W => aheadRead W ⟨s, 0, none⟩
  have hs0 := fun W => slice22_from d 0 L L 0 (by omega) (Nat.le_refl _) 0 rfl
  have hsl : ∀ W, (Instr.slice 22 (.slice (some ⟨d, 0, none⟩) L L) (some (.int .i64 0)) none none).run Tryz.prog W = .ok (.slice (some ⟨d, 0, none⟩) L L) W := fun W => by
    obtain ⟨o', k1, k2, k3⟩ := slice22_from d 0 L L 0 (by omega) (Nat.le_refl _) 0 rfl
    rw [k1 W, k2 hL0]
    rfl
  clear hrd hS hB hD hs0
  go_enter Tryz.func246, Tryz.ntmps246
  go_wp2_with fail
  go_loopw [4, 5] (fun n e wr => (n = .int .i64 0 ∧ e = .nilIface ∧ wr = w) ∨ (n = .int .i64 (L : Int) ∧ e = .nilIface ∧ Hid (ReadTo w s b o m c d L f wr))) (fun n _ _ => L - (intOf n).toNat)
  case atStart => exact .inl ⟨rfl, rfl, rfl⟩
  case round =>
    rcases hrel with ⟨rfl, rfl, rfl⟩ | ⟨rfl, rfl, hR⟩
    · have d1 : decide ((0 : Int) < (L : Int)) = true := decide_eq_true (by omega)
      go_wp2_with fail
      go_region_with (go_at_call 230; refine (HRD.out _ ?_).mono ?_; ((first | exact (Mod.refl NoP wr).drew | exact (Mod.refl NoP wr).drewN _ | (trace_state; fail))); rintro e w4 ⟨rfl, hR⟩; have HR := Lib.hid hR; clear hR)
      all_goals (go_simp)
      all_goals (go_wp2_with fail)
      all_goals go_roundw
      all_goals first
        | exact .inr ⟨rfl, rfl, Lib.hid (HR.out.pre (Mod.refl NoP wr).drew)⟩
        | (simp [intOf]; omega)
    · go_wp2_with fail
      go_ret2
      exact ⟨rfl, hR.out⟩
end Go.Proofs.YtpfmbfkhjapbbaaGreatDoor
