/-
  wScl's CMov and CSelect. Conditions: two scalars of one group; 0 or 1.
-/
import Derived.Test.YtpfmbfkhjapbbaaGreatDoorChoose
import Derived.StillTailTactics
set_option linter.unusedVariables false
set_option linter.unusedSimpArgs false
namespace Go.Proofs.YtpfmbfkhjapbbaaGreatDoor
open Go Go.RowKit

def FromLo (lo : Nat) : Places := fun b _ => lo ≤ b

/-- Behind a call that moves a scalar, or does not. -/
def Moved (w : World) (lo k p : Nat) (g : Value) (h : Nat → Nat) (r : Value) (e : Ending) (w' : World) : Prop :=
  e = .returned r ∧ (∃ c f', SclIs w' lo k p g c f' ∧ ∀ j, j < lenK k → f' j = h j) ∧ Mod (FromLo lo) w w'

theorem SclIs.wrote {w w' : World} {lo k p : Nat} {i s : Value} {c : Nat} {f' : Nat → Nat} {a : Nat} (hp : w.heap[p]? = some (.cells #[i, s, .slice (some ⟨a, 0, none⟩) (lenK k) c] 295 (0, 0))) (hA : BArr w' (some ⟨a, 0, none⟩) c f') (m : Mod (InB a) w w') (hc : lenK k ≤ c) (hap : a ≠ p) (hlp : lo ≤ p) (hla : lo ≤ a) : SclIs w' lo k p (.agg #[i, s]) c f' :=
  ⟨i, s, a, rfl, by rw [m.heap (lt_of_heap hp) (fun _ h => hap h.symm), hp], hA, hc, hap, hlp, hla⟩

set_option maxRecDepth 100000 in
set_option maxHeartbeats 1000000 in
theorem cmov_no (k : Nat) (hk : k ≤ 2) (g : Value) (lg lo p q c d : Nat) (f h : Nat → Nat) (w : World) (hG : GrpIs w lg k g) (hS : SclIs w lo k p g c f) (hQ : SclIs w lo k q g d h) :
    Calls Tryz.prog 298 #[.pointer (some ⟨p, 0, none⟩), .int .i64 0, .iface 290 (.pointer (some ⟨q, 0, none⟩))] w (Moved w lo k p g f (.iface 290 (.pointer (some ⟨p, 0, none⟩)))) := by
  obtain ⟨i, s, a, rfl, hp, c0, c1, c2, hA, hc, hap, hlp, hla⟩ := sclIs_cells hS
  obtain ⟨i', s', a', he', hq, d0, d1, d2, hA', hc', hap', hlq, hla'⟩ := sclIs_cells hQ
  have hcv := fun w1 (m : Mod NoP w w1) => cvtScl_any k (.agg #[i, s]) lg lo q d h w1 (hG.mod m nop) (hQ.mod m nop)
  have HCV := Lib.hid hcv
  have HS := Lib.hid hS
  clear hcv hS hQ hG hA hA' hp hq he' d0 d1
  unfold Moved
  generalize hL : lenK k = len at *
  have HL := Lib.hid hL
  clear hL
  go_enter Tryz.func298, Tryz.ntmps298
  go_wp2_with fail
  refine (HCV.out _ (Mod.refl NoP w)).mono ?_
  rintro e w1 ⟨rfl, m1⟩
  have e2 := m1.cell_some c2 fun h => h
  have f2 := m1.cell_some d2 fun h => h
  clear c0 c1 c2 d2
  go_wp2_with fail
  go_quiet ((go_at_call 264; exact Calls.quiet_of_same (ctCopy_no 0 rfl _ _ _ _ _ _ _ _)))
  go_wp2_with fail
  go_ret
  have m2 := m1.drewN nq
  exact ⟨rfl, ⟨c, f, HS.out.mod m2 nop, fun j _ => rfl⟩, m2.of_none⟩

set_option maxRecDepth 100000 in
set_option maxHeartbeats 1000000 in
theorem cmov_yes (k : Nat) (hk : k ≤ 2) (g : Value) (lg lo p q c d : Nat) (f h : Nat → Nat) (w : World) (hG : GrpIs w lg k g) (hS : SclIs w lo k p g c f) (hQ : SclIs w lo k q g d h) :
    Calls Tryz.prog 298 #[.pointer (some ⟨p, 0, none⟩), .int .i64 1, .iface 290 (.pointer (some ⟨q, 0, none⟩))] w (Moved w lo k p g h (.iface 290 (.pointer (some ⟨p, 0, none⟩)))) := by
  obtain ⟨i, s, a, rfl, hp, c0, c1, c2, hA, hc, hap, hlp, hla⟩ := sclIs_cells hS
  obtain ⟨i', s', a', he', hq, d0, d1, d2, hA', hc', hap', hlq, hla'⟩ := sclIs_cells hQ
  have hcv := fun w1 (m : Mod NoP w w1) => cvtScl_any k (.agg #[i, s]) lg lo q d h w1 (hG.mod m nop) (hQ.mod m nop)
  have HCV := Lib.hid hcv
  have HP := Lib.hid hp
  have HA := Lib.hid hA
  have HB := Lib.hid (show Bts w a' 0 (lenK k) h from fun j hj => hA'.bts j (by omega))
  clear hcv hS hQ hG hA hA' hp hq he' d0 d1
  unfold Moved
  have hw : ∀ w', BArr w' (some ⟨a, 0, none⟩) c (over f 0 (lenK k) h) → ∀ w1, w1.heap[p]? = some (.cells #[i, s, .slice (some ⟨a, 0, none⟩) (lenK k) c] 295 (0, 0)) → Mod (InB a) w1 w' → ∃ c f', SclIs w' lo k p (.agg #[i, s]) c f' ∧ ∀ j, j < lenK k → f' j = h j := fun w' h1 w1 h2 m =>
    ⟨c, _, SclIs.wrote h2 h1 m hc hap hlp hla, fun j hj => over_all hj⟩
  have HW := Lib.hid hw
  clear hw
  generalize hL : lenK k = len at *
  have HL := Lib.hid hL
  clear hL
  go_enter Tryz.func298, Tryz.ntmps298
  go_wp2_with fail
  refine (HCV.out _ (Mod.refl NoP w)).mono ?_
  rintro e w1 ⟨rfl, m1⟩
  have e2 := m1.cell_some c2 fun h => h
  have f2 := m1.cell_some d2 fun h => h
  clear c0 c1 c2 d2
  have hct := fun w2 (m : Mod NoP w w2) => ctCopy_yes a len c a' 0 d c f h w2 (HA.out.mod m fun A hA o h => h) hc (HB.out.mod m fun _ _ h => h)
  have HCT := Lib.hid hct
  clear hct
  go_wp2_with fail
  go_region_with (go_at_call 264; refine (HCT.out _ ?_).mono ?_; ((first | exact m1 | exact m1.drew | exact m1.drewN _)); rintro e w2 ⟨rfl, hA2, m2⟩)
  all_goals (go_wp2_with fail)
  all_goals go_ret
  all_goals exact ⟨rfl, HW.out w2 hA2 _ (by rw [m1.drew.heap (lt_of_heap HP.out) (fun _ h => h), HP.out]) m2, m1.drew.of_none.trans' m2 fun b o hb h => by unfold InB at h; unfold FromLo; omega⟩

theorem held2' {w0 w' : World} {b : Nat} {x y : Value} (h0 : w0.cell? ⟨b, 0, none⟩ = some x) (h1 : w0.cell? ⟨b, 1, none⟩ = some y) (m : Mod NoP w0 w') : w'.cell? ⟨b, 0, none⟩ = some x ∧ w'.cell? ⟨b, 1, none⟩ = some y ∧ Mod NoP w0 w' := held2 h0 h1 m

set_option maxRecDepth 100000 in
set_option maxHeartbeats 600000 in
theorem cselect_yes (k : Nat) (hk : k ≤ 2) (g : Value) (lg lo p q r c d d2 : Nat) (f h h2 : Nat → Nat) (w : World) (hG : GrpIs w lg k g) (hS : SclIs w lo k p g c f) (hQ : SclIs w lo k q g d h) (hR : SclIs w lo k r g d2 h2) (hra : ∀ a, w.cell? ⟨p, 2, none⟩ = some (.slice (some ⟨a, 0, none⟩) (lenK k) c) → a ≠ r ∧ a ≠ q) :
    Calls Tryz.prog 299 #[.pointer (some ⟨p, 0, none⟩), .int .i64 1, .iface 290 (.pointer (some ⟨q, 0, none⟩)), .iface 290 (.pointer (some ⟨r, 0, none⟩))] w (Moved w lo k p g h (.iface 290 (.pointer (some ⟨p, 0, none⟩)))) := by
  obtain ⟨i, s, a, rfl, hp, c0, c1, c2, hA, hc, hap, hlp, hla⟩ := sclIs_cells hS
  obtain ⟨i', s', a', he', hq, _, _, q2, hA', hc', hap', hlq, hla'⟩ := sclIs_cells hQ
  obtain ⟨i'', s'', a'', he'', hr, _, _, r2, hA'', hc'', hap'', hlr, hla''⟩ := sclIs_cells hR
  have har := hra a c2
  clear hra
  obtain ⟨hra, hqa⟩ := har
  have hcv : ∀ x w1, (x = q ∨ x = r) → Mod NoP w w1 → Calls Tryz.prog 266 #[.agg #[i, s], .iface 290 (.pointer (some ⟨x, 0, none⟩))] w1 fun e w' => e = .returned (.pointer (some ⟨x, 0, none⟩)) ∧ Mod NoP w1 w' := fun x w1 hx m => by
    rcases hx with rfl | rfl
    · exact cvtScl_any k (.agg #[i, s]) lg lo x d h w1 (hG.mod m nop) (hQ.mod m nop)
    · exact cvtScl_any k (.agg #[i, s]) lg lo x d2 h2 w1 (hG.mod m nop) (hR.mod m nop)
  have HCV := Lib.hid hcv
  have HP := Lib.hid hp
  have HA := Lib.hid hA
  have HB := Lib.hid (show Bts w a' 0 (lenK k) h from fun j hj => hA'.bts j (by omega))
  have HB2 := Lib.hid (show Bts w a'' 0 (lenK k) h2 from fun j hj => hA''.bts j (by omega))
  clear hcv hS hQ hR hG hA hA' hA'' hp hq hr he' he''
  unfold Moved
  have hw : ∀ w', BArr w' (some ⟨a, 0, none⟩) c (over f 0 (lenK k) h) → ∀ w1, w1.heap[p]? = some (.cells #[i, s, .slice (some ⟨a, 0, none⟩) (lenK k) c] 295 (0, 0)) → Mod (InB a) w1 w' → ∃ c f', SclIs w' lo k p (.agg #[i, s]) c f' ∧ ∀ j, j < lenK k → f' j = h j := fun w' h1 w1 h2 m =>
    ⟨c, _, SclIs.wrote h2 h1 m hc hap hlp hla, fun j hj => over_all hj⟩
  have HW := Lib.hid hw
  clear hw
  have hp2 : w.cell? ⟨p, 2, none⟩ = some (.slice (some ⟨a, 0, none⟩) (lenK k) c) := c2
  have hr2 : w.cell? ⟨r, 2, none⟩ = some (.slice (some ⟨a'', 0, none⟩) (lenK k) d2) := r2
  have HP2 := Lib.hid hp2
  have HR2 := Lib.hid hr2
  clear hp2 hr2
  generalize hL : lenK k = len at *
  have HL := Lib.hid hL
  clear hL
  go_enter Tryz.func299, Tryz.ntmps299
  go_wp2_with fail
  go_region_with (first | (go_at_call 266; refine (HCV.out _ _ ?_ (Mod.refl NoP w).drew).mono ?_; ((first | exact .inl rfl | exact .inr rfl)); rintro e w1 ⟨rfl, m1⟩; have m1 := (Mod.refl NoP w).drew.trans m1; have e0 := m1.cell_some c0 (fun h => h); have e1 := m1.cell_some c1 (fun h => h)) | (go_at_call 266; refine (HCV.out _ _ ?_ m1).mono ?_; ((first | exact .inl rfl | exact .inr rfl)); rintro e w2 ⟨rfl, m2⟩; have m2 := m1.trans m2))
  all_goals (
    have g2 := m2.cell_some c2 (fun h => h)
    have g3 := m2.cell_some q2 (fun h => h)
    have g4 := m2.cell_some r2 (fun h => h)
    have hct := fun w3 (m : Mod NoP w w3) => ctCopy_yes a len c a' 0 d c f h w3 (HA.out.mod m fun A hA o h => h) hc (HB.out.mod m fun _ _ h => h)
    have HCT := Lib.hid hct
    clear hct c0 c1 c2 q2 r2 e0 e1
    go_wp2_with fail
    go_still_tail 9, (by kernel_rfl)
    simp only [World.drew_eq]
    go_wp2_with fail
    refine (HCT.out _ m2.drew).mono ?_
    rintro e w3 ⟨rfl, hA3, m3⟩
    have hne1 : a ≠ p := hap
    have k2 := m3.cell_some (m2.drew.cell_some HP2.out (fun h => h)) (fun h => hap h.symm)
    have k4 := m3.cell_some (m2.drew.cell_some HR2.out (fun h => h)) (fun h => hra h.symm)
    go_wp2_with fail
    go_quiet ((go_at_call 264; exact Calls.quiet_of_same (ctCopy_no 0 rfl _ _ _ _ _ _ _ _)))
    go_wp2_with fail
    go_ret
    exact ⟨rfl, HW.out _ hA3 _ (by rw [m2.drew.heap (lt_of_heap HP.out) (fun _ h => h), HP.out]) (m3.drewN _), (m2.drew.of_none.trans' m3 fun b o hb h => by unfold InB at h; unfold FromLo; omega).drewN _⟩)
set_option maxRecDepth 100000 in
set_option maxHeartbeats 600000 in
theorem cselect_no (k : Nat) (hk : k ≤ 2) (g : Value) (lg lo p q r c d d2 : Nat) (f h h2 : Nat → Nat) (w : World) (hG : GrpIs w lg k g) (hS : SclIs w lo k p g c f) (hQ : SclIs w lo k q g d h) (hR : SclIs w lo k r g d2 h2) (hra : ∀ a, w.cell? ⟨p, 2, none⟩ = some (.slice (some ⟨a, 0, none⟩) (lenK k) c) → a ≠ r ∧ a ≠ q) :
    Calls Tryz.prog 299 #[.pointer (some ⟨p, 0, none⟩), .int .i64 0, .iface 290 (.pointer (some ⟨q, 0, none⟩)), .iface 290 (.pointer (some ⟨r, 0, none⟩))] w (Moved w lo k p g h2 (.iface 290 (.pointer (some ⟨p, 0, none⟩)))) := by
  obtain ⟨i, s, a, rfl, hp, c0, c1, c2, hA, hc, hap, hlp, hla⟩ := sclIs_cells hS
  obtain ⟨i', s', a', he', hq, _, _, q2, hA', hc', hap', hlq, hla'⟩ := sclIs_cells hQ
  obtain ⟨i'', s'', a'', he'', hr, _, _, r2, hA'', hc'', hap'', hlr, hla''⟩ := sclIs_cells hR
  have har := hra a c2
  clear hra
  obtain ⟨hra, hqa⟩ := har
  have hcv : ∀ x w1, (x = q ∨ x = r) → Mod NoP w w1 → Calls Tryz.prog 266 #[.agg #[i, s], .iface 290 (.pointer (some ⟨x, 0, none⟩))] w1 fun e w' => e = .returned (.pointer (some ⟨x, 0, none⟩)) ∧ Mod NoP w1 w' := fun x w1 hx m => by
    rcases hx with rfl | rfl
    · exact cvtScl_any k (.agg #[i, s]) lg lo x d h w1 (hG.mod m nop) (hQ.mod m nop)
    · exact cvtScl_any k (.agg #[i, s]) lg lo x d2 h2 w1 (hG.mod m nop) (hR.mod m nop)
  have HCV := Lib.hid hcv
  have HP := Lib.hid hp
  have HA := Lib.hid hA
  have HB := Lib.hid (show Bts w a' 0 (lenK k) h from fun j hj => hA'.bts j (by omega))
  have HB2 := Lib.hid (show Bts w a'' 0 (lenK k) h2 from fun j hj => hA''.bts j (by omega))
  clear hcv hS hQ hR hG hA hA' hA'' hp hq hr he' he''
  unfold Moved
  have hw : ∀ w', BArr w' (some ⟨a, 0, none⟩) c (over f 0 (lenK k) h2) → ∀ w1, w1.heap[p]? = some (.cells #[i, s, .slice (some ⟨a, 0, none⟩) (lenK k) c] 295 (0, 0)) → Mod (InB a) w1 w' → ∃ c f', SclIs w' lo k p (.agg #[i, s]) c f' ∧ ∀ j, j < lenK k → f' j = h2 j := fun w' h1 w1 hh m =>
    ⟨c, _, SclIs.wrote hh h1 m hc hap hlp hla, fun j hj => over_all hj⟩
  have HW := Lib.hid hw
  clear hw
  have hp2 : w.cell? ⟨p, 2, none⟩ = some (.slice (some ⟨a, 0, none⟩) (lenK k) c) := c2
  have hr2 : w.cell? ⟨r, 2, none⟩ = some (.slice (some ⟨a'', 0, none⟩) (lenK k) d2) := r2
  have HP2 := Lib.hid hp2
  have HR2 := Lib.hid hr2
  clear hp2 hr2
  generalize hL : lenK k = len at *
  have HL := Lib.hid hL
  clear hL
  go_enter Tryz.func299, Tryz.ntmps299
  go_wp2_with fail
  go_region_with (first | (go_at_call 266; refine (HCV.out _ _ ?_ (Mod.refl NoP w).drew).mono ?_; ((first | exact .inl rfl | exact .inr rfl)); rintro e w1 ⟨rfl, m1⟩; have m1 := (Mod.refl NoP w).drew.trans m1; have e0 := m1.cell_some c0 (fun h => h); have e1 := m1.cell_some c1 (fun h => h)) | (go_at_call 266; refine (HCV.out _ _ ?_ m1).mono ?_; ((first | exact .inl rfl | exact .inr rfl)); rintro e w2 ⟨rfl, m2⟩; have m2 := m1.trans m2))
  all_goals (
    have g2 := m2.cell_some c2 (fun h => h)
    have g3 := m2.cell_some q2 (fun h => h)
    have g4 := m2.cell_some r2 (fun h => h)
    have hct := fun w3 (m : Mod NoP w w3) => ctCopy_yes a len c a'' 0 d2 c f h2 w3 (HA.out.mod m fun A hA o h => h) hc (HB2.out.mod m fun _ _ h => h)
    have HCT := Lib.hid hct
    clear hct c0 c1 c2 q2 r2 e0 e1
    go_wp2_with fail
    go_quiet ((go_at_call 264; exact Calls.quiet_of_same (ctCopy_no 0 rfl _ _ _ _ _ _ _ _)))
    have m5 := m2.drewN nq
    generalize w2.drewN nq = w5 at *
    have g5 := m5.cell_some HP2.out (fun h => h)
    have g6 := m5.cell_some HR2.out (fun h => h)
    clear m2 g2 g3 g4
    go_wp2_with fail
    go_still_tail 10, (by kernel_rfl)
    simp only [World.drew_eq]
    go_wp2_with fail
    refine (HCT.out _ m5.drew).mono ?_
    rintro e w3 ⟨rfl, hA3, m3⟩
    go_wp2_with fail
    go_ret
    exact ⟨rfl, HW.out _ hA3 _ (by rw [m5.drew.heap (lt_of_heap HP.out) (fun _ h => h), HP.out]) m3, m5.drew.of_none.trans' m3 fun b o hb h => by unfold InB at h; unfold FromLo; omega⟩)
end Go.Proofs.YtpfmbfkhjapbbaaGreatDoor
