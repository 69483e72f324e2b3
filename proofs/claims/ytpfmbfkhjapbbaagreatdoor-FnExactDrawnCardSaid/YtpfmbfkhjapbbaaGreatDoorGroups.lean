/-
  cggroup's groups P256, P384, P521 (and impl.groupOf): an interface over a curve and its order's bytes; byteSize, NewScalar. Condition: io.EOF holds an errors.errorString's pointer. Lines alike from curve to curve: printed by a program (gengroups.py).
-/
import Derived.Test.YtpfmbfkhjapbbaaGreatDoorCurves
import Derived.Test.YtpfmbfkhjapbbaaGreatDoorBytes
import Derived.Deep.RegionHeld3
import Derived.Deep.DeepCutAuto
set_option linter.unusedVariables false
set_option linter.unusedSimpArgs false
namespace Go.Proofs.YtpfmbfkhjapbbaaGreatDoor
open Go Go.RowKit

/-- The three curves: 0, 1, 2. -/
def bitsK : Nat → Nat | 1 => 384 | 2 => 521 | _ => 256
def lenK : Nat → Nat | 1 => 48 | 2 => 66 | _ => 32
def pK : Nat → Nat | 1 => nP384P | 2 => nP521P | _ => nP256P
def ordK : Nat → Nat | 1 => nP384N | 2 => nP521N | _ => nP256N
def bK : Nat → Nat | 1 => nP384B | 2 => nP521B | _ => nP256B
def gxK : Nat → Nat | 1 => nP384X | 2 => nP521X | _ => nP256X
def gyK : Nat → Nat | 1 => nP384Y | 2 => nP521Y | _ => nP256Y
/-- Byte j of a number in n bytes, the highest first. -/
def byteAt (n v j : Nat) : Nat := v / 256 ^ (n - 1 - j) % 256

/-- The group of curve k: its value g; all its memory lies beyond lo. -/
def GrpIs (w : World) (lo k : Nat) (g : Value) : Prop :=
  ∃ p o, g = .agg #[.iface 125 (.pointer (some ⟨p, 0, none⟩)), .slice (some ⟨o, 0, none⟩) (lenK k) (lenK k)] ∧ lo ≤ p ∧ lo ≤ o ∧ CurveIs w lo p (bitsK k) (pK k) (ordK k) (bK k) (gxK k) (gyK k) ∧ BArr w (some ⟨o, 0, none⟩) (lenK k) (byteAt (lenK k) (ordK k))

theorem GrpIs.mod {w w' : World} {lo k : Nat} {g : Value} (h : GrpIs w lo k g) {M : Places} (hm : Mod M w w') (hM : ∀ k o, lo ≤ k → ¬ M k o) : GrpIs w' lo k g := by
  obtain ⟨p, o, h1, h2, h3, h4, h5⟩ := h
  exact ⟨p, o, h1, h2, h3, h4.mod hm hM, h5.mod hm fun A hA i => by obtain rfl := Option.some.inj hA; exact hM _ _ h3⟩

theorem bts_row (l : List Nat) (f : Nat → Nat) (n : Nat) (hn : l.length = n) (h : (List.range n).all (fun j => l.getD j 0 == f j) = true) (j : Nat) (hj : j < n) : (l.map Bt).toArray[j]? = some (Bt (f j)) := by
  rw [List.all_eq_true] at h
  have h1 := h j (by simpa using hj)
  have hjl : j < l.length := by omega
  simp only [beq_iff_eq, List.getD_eq_getElem?_getD, List.getElem?_eq_getElem hjl, Option.getD_some] at h1
  simp [hjl, h1]

def byP256 : List Nat := [255, 255, 255, 255, 0, 0, 0, 0, 255, 255, 255, 255, 255, 255, 255, 255, 188, 230, 250, 173, 167, 23, 158, 132, 243, 185, 202, 194, 252, 99, 37, 81]
theorem orderP256_run (w : World) : Calls Tryz.prog 74 #[] w fun e w' => e = .returned (.slice (some ⟨w.heap.size, 0, none⟩) 32 32) ∧ BArr w' (some ⟨w.heap.size, 0, none⟩) 32 (byteAt 32 (ordK 0)) ∧ Mod NoP w w' := by
  go_enter Tryz.func74, Tryz.ntmps74
  go_wp2_with fail
  go_ret
  refine ⟨rfl, .inr ⟨_, _, _, rfl, heap_alloc_new _ _, rfl, fun j hj => ?_⟩, (Mod.refl NoP w).alloc _⟩
  exact bts_row byP256 (byteAt 32 (ordK 0)) 32 rfl (by kernel_rfl) j hj

theorem groupP256 (w : World) (ea : Addr) (hE : Eof w ea) : Calls Tryz.prog 50 #[] w fun e w' => ∃ g, e = .returned (.iface 108 g) ∧ GrpIs w' w.heap.size 0 g ∧ Mod NoP w w' := by
  go_enter Tryz.func50, Tryz.ntmps50
  go_wp2_with fail
  refine (curveP256 _ ea hE).mono ?_
  rintro e w1 ⟨p, rfl, hC, m1⟩
  have HC := Lib.hid hC
  clear hC
  go_wp2_with fail
  refine (orderP256_run _).mono ?_
  rintro e w2 ⟨rfl, hB, m2⟩
  have HB := Lib.hid hB
  clear hB
  go_wp2_with fail
  go_ret
  have hC2 := HC.out.mod m2 nop
  have s1 := m1.size
  obtain ⟨_, _, _, _, _, _, _, hp, _⟩ := id hC2
  exact ⟨_, rfl, ⟨p, _, rfl, hp, s1, hC2, HB.out⟩, m1.trans m2⟩

def byP384 : List Nat := [255, 255, 255, 255, 255, 255, 255, 255, 255, 255, 255, 255, 255, 255, 255, 255, 255, 255, 255, 255, 255, 255, 255, 255, 199, 99, 77, 129, 244, 55, 45, 223, 88, 26, 13, 178, 72, 176, 167, 122, 236, 236, 25, 106, 204, 197, 41, 115]
theorem orderP384_run (w : World) : Calls Tryz.prog 70 #[] w fun e w' => e = .returned (.slice (some ⟨w.heap.size, 0, none⟩) 48 48) ∧ BArr w' (some ⟨w.heap.size, 0, none⟩) 48 (byteAt 48 (ordK 1)) ∧ Mod NoP w w' := by
  go_enter Tryz.func70, Tryz.ntmps70
  go_wp2_with fail
  go_ret
  refine ⟨rfl, .inr ⟨_, _, _, rfl, heap_alloc_new _ _, rfl, fun j hj => ?_⟩, (Mod.refl NoP w).alloc _⟩
  exact bts_row byP384 (byteAt 48 (ordK 1)) 48 rfl (by kernel_rfl) j hj

theorem groupP384 (w : World) (ea : Addr) (hE : Eof w ea) : Calls Tryz.prog 48 #[] w fun e w' => ∃ g, e = .returned (.iface 108 g) ∧ GrpIs w' w.heap.size 1 g ∧ Mod NoP w w' := by
  go_enter Tryz.func48, Tryz.ntmps48
  go_wp2_with fail
  refine (curveP384 _ ea hE).mono ?_
  rintro e w1 ⟨p, rfl, hC, m1⟩
  have HC := Lib.hid hC
  clear hC
  go_wp2_with fail
  refine (orderP384_run _).mono ?_
  rintro e w2 ⟨rfl, hB, m2⟩
  have HB := Lib.hid hB
  clear hB
  go_wp2_with fail
  go_ret
  have hC2 := HC.out.mod m2 nop
  have s1 := m1.size
  obtain ⟨_, _, _, _, _, _, _, hp, _⟩ := id hC2
  exact ⟨_, rfl, ⟨p, _, rfl, hp, s1, hC2, HB.out⟩, m1.trans m2⟩

def byP521 : List Nat := [1, 255, 255, 255, 255, 255, 255, 255, 255, 255, 255, 255, 255, 255, 255, 255, 255, 255, 255, 255, 255, 255, 255, 255, 255, 255, 255, 255, 255, 255, 255, 255, 255, 250, 81, 134, 135, 131, 191, 47, 150, 107, 127, 204, 1, 72, 247, 9, 165, 208, 59, 181, 201, 184, 137, 156, 71, 174, 187, 111, 183, 30, 145, 56, 100, 9]
theorem orderP521_run (w : World) : Calls Tryz.prog 72 #[] w fun e w' => e = .returned (.slice (some ⟨w.heap.size, 0, none⟩) 66 66) ∧ BArr w' (some ⟨w.heap.size, 0, none⟩) 66 (byteAt 66 (ordK 2)) ∧ Mod NoP w w' := by
  go_enter Tryz.func72, Tryz.ntmps72
  go_wp2_with fail
  go_ret
  refine ⟨rfl, .inr ⟨_, _, _, rfl, heap_alloc_new _ _, rfl, fun j hj => ?_⟩, (Mod.refl NoP w).alloc _⟩
  exact bts_row byP521 (byteAt 66 (ordK 2)) 66 rfl (by kernel_rfl) j hj

theorem groupP521 (w : World) (ea : Addr) (hE : Eof w ea) : Calls Tryz.prog 49 #[] w fun e w' => ∃ g, e = .returned (.iface 108 g) ∧ GrpIs w' w.heap.size 2 g ∧ Mod NoP w w' := by
  go_enter Tryz.func49, Tryz.ntmps49
  go_wp2_with fail
  refine (curveP521 _ ea hE).mono ?_
  rintro e w1 ⟨p, rfl, hC, m1⟩
  have HC := Lib.hid hC
  clear hC
  go_wp2_with fail
  refine (orderP521_run _).mono ?_
  rintro e w2 ⟨rfl, hB, m2⟩
  have HB := Lib.hid hB
  clear hB
  go_wp2_with fail
  go_ret
  have hC2 := HC.out.mod m2 nop
  have s1 := m1.size
  obtain ⟨_, _, _, _, _, _, _, hp, _⟩ := id hC2
  exact ⟨_, rfl, ⟨p, _, rfl, hp, s1, hC2, HB.out⟩, m1.trans m2⟩


theorem groupOf_any (k : Nat) (hk : k ≤ 2) (w : World) (ea : Addr) (hE : Eof w ea) : Calls Tryz.prog 31 #[.int .i64 k] w fun e w' => ∃ g, e = .returned (.iface 108 g) ∧ GrpIs w' w.heap.size k g ∧ Mod NoP w w' := by
  obtain rfl | rfl | rfl : k = 0 ∨ k = 1 ∨ k = 2 := by omega
  · go_enter Tryz.func31, Tryz.ntmps31
    go_wp2_with fail
    refine (groupP256 _ ea hE).mono ?_
    rintro e w1 ⟨g, rfl, hG, m1⟩
    go_wp2_with fail
    go_ret
    exact ⟨g, rfl, hG, m1⟩
  · go_enter Tryz.func31, Tryz.ntmps31
    go_wp2_with fail
    refine (groupP384 _ ea hE).mono ?_
    rintro e w1 ⟨g, rfl, hG, m1⟩
    go_wp2_with fail
    go_ret
    exact ⟨g, rfl, hG, m1⟩
  · go_enter Tryz.func31, Tryz.ntmps31
    go_wp2_with fail
    refine (groupP521 _ ea hE).mono ?_
    rintro e w1 ⟨g, rfl, hG, m1⟩
    go_wp2_with fail
    go_ret
    exact ⟨g, rfl, hG, m1⟩

theorem params_any (p : Nat) (w : World) : Calls Tryz.prog 283 #[.pointer (some ⟨p, 0, none⟩)] w fun e w' => e = .returned (.pointer (some ⟨p, 0, none⟩)) ∧ w' = w := by
  go_enter Tryz.func283, Tryz.ntmps283
  go_wp2_with fail
  go_ret
  exact ⟨rfl, rfl⟩

theorem byteSize_any (k : Nat) (hk : k ≤ 2) (g : Value) (lo : Nat) (w : World) (h : GrpIs w lo k g) : Calls Tryz.prog 244 #[g] w fun e w' => e = .returned (.int .i64 (lenK k)) ∧ Mod NoP w w' := by
  obtain ⟨p, o, rfl, hp, ho, ⟨bp, bn, bb, bx, bY, nm, hc, _⟩, hb⟩ := h
  have hc5 : w.cell? ⟨p, 5, none⟩ = some (.int .i64 (bitsK k)) := by rw [cell?_of_heap hc]; rfl
  have hq : wrap64 (Int.tdiv (wrap64 ((bitsK k : Int) + 7)) 8) = (lenK k : Int) := by
    obtain rfl | rfl | rfl : k = 0 ∨ k = 1 ∨ k = 2 := by omega
    all_goals kernel_rfl
  generalize bitsK k = bits at *
  generalize lenK k = len at *
  go_enter Tryz.func244, Tryz.ntmps244
  go_wp2_with fail
  refine (params_any p _).mono ?_
  rintro e w1 ⟨rfl, hw⟩
  have m1 : Mod NoP w w1 := by rw [hw]; exact (Mod.refl NoP w).alloc _
  have hc1 : w1.cell? ⟨p, 5, none⟩ = some (.int .i64 bits) := m1.cell_some hc5 fun h => h
  clear hw hc5
  go_wp2_with fail
  go_ret
  exact ⟨congrArg (fun x => Ending.returned (.int .i64 x)) hq, m1⟩

/-- Block p is a scalar of curve k in the group g; its first bytes are f. -/
def SclIs (w : World) (lo k p : Nat) (g : Value) (c : Nat) (f : Nat → Nat) : Prop :=
  ∃ (i s : Value) (a : Nat), g = .agg #[i, s] ∧ w.heap[p]? = some (.cells #[i, s, .slice (some ⟨a, 0, none⟩) (lenK k) c] 295 (0, 0)) ∧ BArr w (some ⟨a, 0, none⟩) c f ∧ lenK k ≤ c ∧ a ≠ p ∧ lo ≤ p ∧ lo ≤ a

theorem SclIs.mod {w w' : World} {lo k p : Nat} {g : Value} {c : Nat} {f : Nat → Nat} (h : SclIs w lo k p g c f) {M : Places} (hm : Mod M w w') (hM : ∀ k o, lo ≤ k → ¬ M k o) : SclIs w' lo k p g c f := by
  obtain ⟨i, s, a, h1, h2, h3, h4, h5, h6, h7⟩ := h
  exact ⟨i, s, a, h1, by rw [hm.heap (lt_of_heap h2) (fun o => hM _ _ h6), h2], h3.mod hm fun A hA i => by obtain rfl := Option.some.inj hA; exact hM _ _ h7, h4, h5, h6, h7⟩

theorem SclIs.lower {w : World} {lo lo' k p : Nat} {g : Value} {c : Nat} {f : Nat → Nat} (h : SclIs w lo k p g c f) (hl : lo' ≤ lo) : SclIs w lo' k p g c f := by
  obtain ⟨i, s, a, h1, h2, h3, h4, h5, h6, h7⟩ := h
  exact ⟨i, s, a, h1, h2, h3, h4, h5, by omega, by omega⟩

theorem lenK_le (k : Nat) (hk : k ≤ 2) : lenK k ≤ 66 ∧ 32 ≤ lenK k := by
  obtain rfl | rfl | rfl : k = 0 ∨ k = 1 ∨ k = 2 := by omega
  all_goals decide

theorem zeroScalar_any (k : Nat) (hk : k ≤ 2) (g : Value) (lo : Nat) (w : World) (h : GrpIs w lo k g) : Calls Tryz.prog 243 #[g] w fun e w' => ∃ p, e = .returned (.pointer (some ⟨p, 0, none⟩)) ∧ SclIs w' w.heap.size k p g (lenK k) (fun _ => 0) ∧ Mod NoP w w' := by
  have hB : ∀ w1, Mod NoP w w1 → Calls Tryz.prog 244 #[g] w1 fun e w' => e = .returned (.int .i64 (lenK k)) ∧ Mod NoP w1 w' := fun w1 m => byteSize_any k hk g lo w1 (h.mod m nop)
  have hl := (lenK_le k hk).1
  unfold SclIs
  obtain ⟨p, o, rfl, hp, ho, hC, hb⟩ := h
  clear hp ho hC hb
  generalize lenK k = len at *
  have HB := Lib.hid hB
  clear hB
  have bx := box2 w (.iface 125 (.pointer (some ⟨p, 0, none⟩))) (.slice (some ⟨o, 0, none⟩) len len) 108
  obtain ⟨bx0, bx1⟩ := bx
  have hmk := fun u => makeSlice22 len len (Nat.le_refl _) (by omega) u (len : Int) (len : Int) rfl rfl
  set_option maxRecDepth 100000 in
  go_enter Tryz.func243, Tryz.ntmps243
  go_wp2_with fail
  generalize hw0 : w.alloc (.cells #[.iface 125 (.pointer (some ⟨p, 0, none⟩)), .slice (some ⟨o, 0, none⟩) len len] 108 (0, 0)) = w0 at *
  have m0 : Mod NoP w w0 := by rw [← hw0]; exact (Mod.refl NoP w).alloc _
  have hs0 : w0.heap.size = w.heap.size + 1 := by rw [← hw0]; simp
  clear hw0
  go_region_held3 (fun w' => w'.cell? ⟨w.heap.size, 0, none⟩ = some (.iface 125 (.pointer (some ⟨p, 0, none⟩))) ∧ w'.cell? ⟨w.heap.size, 1, none⟩ = some (.slice (some ⟨o, 0, none⟩) len len) ∧ Mod NoP w0 w') ((first | exact held2 bx0 bx1 ((Mod.refl NoP w0).drew) | (have m2 := m1; go_split_ands; refine held2 bx0 bx1 ?_; first | (refine Mod.trans ?_ m2; assumption) | (refine Mod.alloc ?_ _; assumption) | (trace_state; fail)) | (go_split_ands; refine held2 bx0 bx1 ?_; first | (refine Mod.alloc ?_ _; assumption) | assumption | (trace_state; fail))))
    (first | (go_at_call 244; refine (HB.out _ (m0.trans ?_)).mono ?_; (first | assumption | (go_split_ands; assumption) | exact (Mod.refl NoP w0).drew); rintro e w1 ⟨rfl, m1⟩))
  go_wp2_with fail
  go_ret
  have m2 := m0.trans ((Mod.refl NoP w0).drew.trans m1)
  have hs := m2.size
  have h1 := heap_alloc_new w1 (zerosB len)
  have h2 := fun x => heap_alloc_new (w1.alloc (zerosB len)) x
  rw [show (w1.alloc (zerosB len)).heap.size = w1.heap.size + 1 by simp] at h2
  refine ⟨_, rfl, ⟨_, _, _, rfl, h2 _, ?_, Nat.le_refl _, by omega, by omega, hs⟩, (m2.alloc _).alloc _⟩
  exact (barr_zeros w1 len).mod ((Mod.refl NoP _).alloc _) fun A hA o h => h

theorem newScalar_any (k : Nat) (hk : k ≤ 2) (g : Value) (lo : Nat) (w : World) (h : GrpIs w lo k g) : Calls Tryz.prog 237 #[g] w fun e w' => ∃ p, e = .returned (.iface 290 (.pointer (some ⟨p, 0, none⟩))) ∧ SclIs w' w.heap.size k p g (lenK k) (fun _ => 0) ∧ Mod NoP w w' := by
  have hB : ∀ w1, Mod NoP w w1 → Calls Tryz.prog 243 #[g] w1 fun e w' => ∃ p, e = .returned (.pointer (some ⟨p, 0, none⟩)) ∧ SclIs w' w1.heap.size k p g (lenK k) (fun _ => 0) ∧ Mod NoP w1 w' := fun w1 m => zeroScalar_any k hk g lo w1 (h.mod m nop)
  obtain ⟨p, o, rfl, hp, ho, hC, hb⟩ := h
  clear hp ho hC hb
  generalize lenK k = len at *
  have HB := Lib.hid hB
  clear hB
  go_enter Tryz.func237, Tryz.ntmps237
  go_wp2_with fail
  refine (HB.out _ ((Mod.refl NoP w).alloc _)).mono ?_
  rintro e w1 ⟨q, rfl, hq, m1⟩
  have m2 := ((Mod.refl NoP w).alloc _).trans m1
  have hs := m2.size
  have hq1 := Lib.hid hq
  clear hq
  go_wp2_with fail
  go_ret
  exact ⟨q, rfl, hq1.out.lower (by simp), m2⟩

end Go.Proofs.YtpfmbfkhjapbbaaGreatDoor
