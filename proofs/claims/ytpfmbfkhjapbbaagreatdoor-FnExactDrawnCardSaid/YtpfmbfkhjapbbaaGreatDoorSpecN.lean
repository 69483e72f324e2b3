/-
  The specification's numbers of nine words: small, sum, difference, less, add. No condition.
-/
import Derived.Test.YtpfmbfkhjapbbaaGreatDoorRowSet
import Derived.Test.YtpfmbfkhjapbbaaGreatDoorWords
import Derived.Deep.QuietTactic
import Derived.BigQuiet
set_option linter.unusedVariables false
set_option linter.unusedSimpArgs false
namespace Go.Proofs.YtpfmbfkhjapbbaaGreatDoor
open Go Go.RowKit

/-- The cells of a number of nine words. -/
@[reducible] def nc (f : Nat → Nat) : Array Value := #[U (f 0), U (f 1), U (f 2), U (f 3), U (f 4), U (f 5), U (f 6), U (f 7), U (f 8)]
@[reducible] def nv (f : Nat → Nat) : Value := .agg (nc f)

theorem nc_at (f : Nat → Nat) (j : Nat) (hj : j < 9) : (nc f)[j]? = some (U (f j)) := by
  obtain rfl | rfl | rfl | rfl | rfl | rfl | rfl | rfl | rfl : j = 0 ∨ j = 1 ∨ j = 2 ∨ j = 3 ∨ j = 4 ∨ j = 5 ∨ j = 6 ∨ j = 7 ∨ j = 8 := by omega
  all_goals rfl

/-- Block b is a variable of nine words f. -/
def NIs (w : World) (b : Nat) (f : Nat → Nat) : Prop := w.heap[b]? = some (.cells (nc f) 63 (0, 0))

theorem NIs.vec {w : World} {b : Nat} {f : Nat → Nat} (h : NIs w b f) (hf : ∀ j, j < 9 → f j < B64) : Vec w b 0 9 f :=
  fun j hj => ⟨by rw [cell?_of_heap h, Nat.zero_add]; exact nc_at f j hj, free_of_heap h _, hf j hj⟩

theorem NIs.mod {w w' : World} {b : Nat} {f : Nat → Nat} {M : Places} (h : NIs w b f) (hm : Mod M w w') (hM : ∀ o, ¬ M b o) : NIs w' b f := by
  unfold NIs at *
  rw [hm.heap (lt_of_heap h) hM, h]

theorem small_any (n : Nat) (w : World) : Calls Tryz.prog 51 #[U n] w fun e w' => e = .returned (nv fun j => if j = 0 then n else 0) ∧ Mod NoP w w' := by
  go_enter Tryz.func51, Tryz.ntmps51
  go_wp2_with fail
  refine bodyPost_ret (v := nv fun j => if j = 0 then n else 0) (by simp [results, Tryz.results51, go_sem]) rfl ⟨rfl, (Mod.refl _ _).alloc _⟩

/-- Four new blocks. -/
theorem four_new (w : World) (o1 o2 o3 o4 : Obj) :
    ((((w.alloc o1).alloc o2).alloc o3).alloc o4).heap[w.heap.size]? = some o1 ∧ ((((w.alloc o1).alloc o2).alloc o3).alloc o4).heap[w.heap.size + 1]? = some o2 ∧
    ((((w.alloc o1).alloc o2).alloc o3).alloc o4).heap[w.heap.size + 1 + 1]? = some o3 ∧ ((((w.alloc o1).alloc o2).alloc o3).alloc o4).heap[w.heap.size + 1 + 1 + 1]? = some o4 ∧
    Mod NoP w ((((w.alloc o1).alloc o2).alloc o3).alloc o4) := by
  have s1 : (w.alloc o1).heap.size = w.heap.size + 1 := by simp
  have s2 : ((w.alloc o1).alloc o2).heap.size = w.heap.size + 1 + 1 := by simp
  have s3 : (((w.alloc o1).alloc o2).alloc o3).heap.size = w.heap.size + 1 + 1 + 1 := by simp
  refine ⟨?_, ?_, ?_, ?_, ((((Mod.refl _ w).alloc _).alloc _).alloc _).alloc _⟩
  · rw [heap_alloc_old _ _ (by omega), heap_alloc_old _ _ (by omega), heap_alloc_old _ _ (by omega)]
    exact heap_alloc_new w o1
  · rw [heap_alloc_old _ _ (by omega), heap_alloc_old _ _ (by omega), ← s1]
    exact heap_alloc_new _ o2
  · rw [heap_alloc_old _ _ (by omega), ← s2]
    exact heap_alloc_new _ o3
  · rw [← s3]
    exact heap_alloc_new _ o4

theorem NIs.turned {w w' : World} {b : Nat} {f g : Nat → Nat} {M : Places} (h : NIs w b f) (hm : Mod M w w') (hV : Vec w' b 0 9 g) : NIs w' b g := by
  obtain ⟨C', h1, h2, _⟩ := hm.cells h
  have : C' = nc g := by
    refine Array.ext_getElem? fun j => ?_
    by_cases hj : j < 9
    · have := (hV j hj).1
      rw [cell?_of_heap h1, Nat.zero_add] at this
      rw [this, nc_at g j hj]
    · rw [Array.getElem?_eq_none (by rw [h2]; simp [nc]; omega), Array.getElem?_eq_none (by simp [nc]; omega)]
  unfold NIs
  rw [h1, this]

@[reducible] def zN : Obj := .cells #[.int .u64 0, .int .u64 0, .int .u64 0, .int .u64 0, .int .u64 0, .int .u64 0, .int .u64 0, .int .u64 0, .int .u64 0] 63 (0, 0)

/-- The nine cells, one by one. -/
theorem NIs.nine {w : World} {b : Nat} {f : Nat → Nat} (h : NIs w b f) :
    (w.cell? ⟨b, 0, none⟩ = some (U (f 0)) ∧ w.cell? ⟨b, 1, none⟩ = some (U (f 1)) ∧ w.cell? ⟨b, 2, none⟩ = some (U (f 2)) ∧ w.cell? ⟨b, 3, none⟩ = some (U (f 3)) ∧ w.cell? ⟨b, 4, none⟩ = some (U (f 4)) ∧ w.cell? ⟨b, 5, none⟩ = some (U (f 5)) ∧ w.cell? ⟨b, 6, none⟩ = some (U (f 6)) ∧ w.cell? ⟨b, 7, none⟩ = some (U (f 7)) ∧ w.cell? ⟨b, 8, none⟩ = some (U (f 8))) := by
  refine ⟨?_, ?_, ?_, ?_, ?_, ?_, ?_, ?_, ?_⟩ <;> (rw [cell?_of_heap h]; exact nc_at f _ (by omega))

theorem NIs.free {w : World} {b : Nat} {f : Nat → Nat} (h : NIs w b f) :
    (w.frozen? ⟨b, 0, none⟩ = false ∧ w.frozen? ⟨b, 1, none⟩ = false ∧ w.frozen? ⟨b, 2, none⟩ = false ∧ w.frozen? ⟨b, 3, none⟩ = false ∧ w.frozen? ⟨b, 4, none⟩ = false ∧ w.frozen? ⟨b, 5, none⟩ = false ∧ w.frozen? ⟨b, 6, none⟩ = false ∧ w.frozen? ⟨b, 7, none⟩ = false ∧ w.frozen? ⟨b, 8, none⟩ = false) :=
  ⟨free_of_heap h _, free_of_heap h _, free_of_heap h _, free_of_heap h _, free_of_heap h _, free_of_heap h _, free_of_heap h _, free_of_heap h _, free_of_heap h _⟩

set_option maxRecDepth 100000 in
set_option maxHeartbeats 1000000 in
theorem sum_any (f g : Nat → Nat) (hf : ∀ j, j < 9 → f j < B64) (hg : ∀ j, j < 9 → g j < B64) (w : World) : Calls Tryz.prog 53 #[nv f, nv g] w fun e w' => e = .returned (nv (addW f g)) ∧ Mod NoP w w' := by
  go_enter Tryz.func53, Tryz.ntmps53
  go_wp2_with fail
  obtain ⟨h1, h2, h3, h4, hm⟩ := four_new w (.cells (nc f) 63 (0, 0)) (.cells (nc g) 63 (0, 0)) zN zN
  generalize hw4 : (((w.alloc (.cells (nc f) 63 (0, 0))).alloc (.cells (nc g) 63 (0, 0))).alloc zN).alloc zN = w4 at *
  clear hw4
  have v1 : NIs w4 w.heap.size f := h1
  have v2 : NIs w4 (w.heap.size + 1) g := h2
  have v3 : NIs w4 (w.heap.size + 1 + 1) (fun _ => 0) := h3
  have v4 : NIs w4 (w.heap.size + 1 + 1 + 1) (fun _ => 0) := h4
  clear h1 h2 h3 h4
  have hn := Nat.le_refl w.heap.size
  generalize hb0 : w.heap.size = b0 at *
  generalize hb1 : b0 + 1 = b1 at *
  generalize hb2 : b1 + 1 = b2 at *
  generalize hb3 : b2 + 1 = b3 at *
  have hX := v1.vec hf
  have hY := v2.vec hg
  have hZ := v4.vec (fun _ _ => B64_pos)
  go_loopw [6, 7] (fun c i wr => ∃ k : Nat, k ≤ 9 ∧ i = .int .i64 (k : Int) ∧ c = U (addC f g k) ∧ Written w4 wr b3 0 k (addW f g)) (fun _ i _ => 9 - (intOf i).toNat)
  case atStart => exact ⟨0, Nat.zero_le _, rfl, rfl, .zero _ _ _ _⟩
  case round =>
    obtain ⟨k, hk, rfl, rfl, hw⟩ := hrel
    by_cases hlt : k < 9
    · have hcx := hw.read hX (fun h => by omega) hlt
      have hcy := hw.read hY (fun h => by omega) hlt
      obtain ⟨zk, hcz⟩ := hw.there hZ hlt
      have hfz := hw.free hZ hlt
      rw [Nat.zero_add] at hcx hcy hcz hfz
      have hcl := addC_le hf hg k hk
      have Hs := Lib.hid (show wAdd (f k) (g k) (addC f g k) = addW f g k from rfl)
      have Hc := Lib.hid (show wCar (f k) (g k) (addC f g k) = addC f g (k + 1) from rfl)
      have Hw := Lib.hid hw
      have HZ := Lib.hid (hZ k hlt).1
      clear hw v1 v2 v3 v4 hX hY hZ
      generalize addC f g k = c at *
      generalize f k = xk at *
      generalize g k = yk at *
      have h76 := add64_run xk yk c (by omega)
      have k0 : (0 : Int) ≤ (k : Int) := by omega
      have k1 : (k : Int) < 9 := by omega
      have k2 : (k : Int).toNat = k := by omega
      go_wp2_with fail
      go_quiet (fail)
      go_wp2_with fail
      go_roundw
      case rel =>
        have hst := fun m => (Hw.out.drewN m).step HZ.out Hs.out
        simp only [Nat.zero_add] at hst
        exact ⟨k + 1, by omega, by go_num, by rw [Hc.out], hst _⟩
      case measure => simp [intOf]; omega
    · obtain rfl : k = 9 := by omega
      have hV := hw.vec hZ (fun j hj => wAdd_lt _ _ _)
      have V4 := v4.turned hw.mod hV
      have V3 := v3.mod hw.mod (fun o h => by have := h.1; omega)
      have A := V4.nine
      have B := V3.nine
      have F := V3.free
      obtain ⟨a0, a1, a2, a3, a4, a5, a6, a7, a8⟩ := A
      obtain ⟨d0, d1, d2, d3, d4, d5, d6, d7, d8⟩ := B
      obtain ⟨e0, e1, e2, e3, e4, e5, e6, e7, e8⟩ := F
      have Hw := Lib.hid hw
      clear hw v1 v2 v3 v4 hX hY hZ hV
      go_wp2_with fail
      refine bodyPost_ret (v := nv (addW f g)) (by simp [results, Tryz.results53, go_sem, *]) rfl ⟨rfl, ?_⟩
      have hm2 : Mod NoP w wr := hm.trans' Hw.out.mod fun k o hk h => by have := h.1; omega
      have hlt2 : ∀ o, b2 < w.heap.size → NoP b2 o := fun o h => by omega
      exact ((((((((hm2.setCell (hlt2 _) _).setCell (hlt2 _) _).setCell (hlt2 _) _).setCell (hlt2 _) _).setCell (hlt2 _) _).setCell (hlt2 _) _).setCell (hlt2 _) _).setCell (hlt2 _) _).setCell (hlt2 _) _
def subC (X Y : Nat → Nat) : Nat → Nat
  | 0 => 0
  | k + 1 => wBor (X k) (Y k) (subC X Y k)
def subW (X Y : Nat → Nat) (k : Nat) : Nat := wSub (X k) (Y k) (subC X Y k)

theorem subC_le (X Y : Nat → Nat) : ∀ k, subC X Y k ≤ 1
  | 0 => by simp [subC]
  | k + 1 => by
    show wBor _ _ _ ≤ 1
    unfold wBor
    split <;> omega

theorem sub_val (X Y : Nat → Nat) (n : Nat) (hx : ∀ j, j < n → X j < B64) (hy : ∀ j, j < n → Y j < B64) : val (subW X Y) n + val Y n = val X n + subC X Y n * B64 ^ n := by
  induction n with
  | zero => simp [val, subC]
  | succ n ih =>
    have ih := ih (fun j hj => hx j (by omega)) (fun j hj => hy j (by omega))
    have h := wSub_bor (hx n (by omega)) (hy n (by omega)) (subC_le X Y n)
    have h1 : subC X Y (n + 1) * B64 ^ (n + 1) + X n * B64 ^ n = (subW X Y n + Y n + subC X Y n) * B64 ^ n := by
      show wBor (X n) (Y n) (subC X Y n) * B64 ^ (n + 1) + X n * B64 ^ n = (wSub (X n) (Y n) (subC X Y n) + Y n + subC X Y n) * B64 ^ n
      rw [h, Nat.pow_succ, Nat.add_mul, Nat.mul_assoc, Nat.mul_comm B64, Nat.add_comm]
    simp only [val]
    rw [Nat.add_mul, Nat.add_mul] at h1
    omega

set_option maxRecDepth 100000 in
set_option maxHeartbeats 1000000 in
theorem difference_any (f g : Nat → Nat) (hf : ∀ j, j < 9 → f j < B64) (hg : ∀ j, j < 9 → g j < B64) (w : World) : Calls Tryz.prog 52 #[nv f, nv g] w fun e w' => e = .returned (nv (subW f g)) ∧ Mod NoP w w' := by
  go_enter Tryz.func52, Tryz.ntmps52
  go_wp2_with fail
  obtain ⟨h1, h2, h3, h4, hm⟩ := four_new w (.cells (nc f) 63 (0, 0)) (.cells (nc g) 63 (0, 0)) zN zN
  generalize hw4 : (((w.alloc (.cells (nc f) 63 (0, 0))).alloc (.cells (nc g) 63 (0, 0))).alloc zN).alloc zN = w4 at *
  clear hw4
  have v1 : NIs w4 w.heap.size f := h1
  have v2 : NIs w4 (w.heap.size + 1) g := h2
  have v3 : NIs w4 (w.heap.size + 1 + 1) (fun _ => 0) := h3
  have v4 : NIs w4 (w.heap.size + 1 + 1 + 1) (fun _ => 0) := h4
  clear h1 h2 h3 h4
  have hn := Nat.le_refl w.heap.size
  generalize hb0 : w.heap.size = b0 at *
  generalize hb1 : b0 + 1 = b1 at *
  generalize hb2 : b1 + 1 = b2 at *
  generalize hb3 : b2 + 1 = b3 at *
  have hX := v1.vec hf
  have hY := v2.vec hg
  have hZ := v4.vec (fun _ _ => B64_pos)
  go_loopw [6, 7] (fun c i wr => ∃ k : Nat, k ≤ 9 ∧ i = .int .i64 (k : Int) ∧ c = U (subC f g k) ∧ Written w4 wr b3 0 k (subW f g)) (fun _ i _ => 9 - (intOf i).toNat)
  case atStart => exact ⟨0, Nat.zero_le _, rfl, rfl, .zero _ _ _ _⟩
  case round =>
    obtain ⟨k, hk, rfl, rfl, hw⟩ := hrel
    by_cases hlt : k < 9
    · have hcx := hw.read hX (fun h => by omega) hlt
      have hcy := hw.read hY (fun h => by omega) hlt
      obtain ⟨zk, hcz⟩ := hw.there hZ hlt
      have hfz := hw.free hZ hlt
      rw [Nat.zero_add] at hcx hcy hcz hfz
      have hcl := subC_le f g k
      have Hs := Lib.hid (show wSub (f k) (g k) (subC f g k) = subW f g k from rfl)
      have Hc := Lib.hid (show wBor (f k) (g k) (subC f g k) = subC f g (k + 1) from rfl)
      have Hw := Lib.hid hw
      have HZ := Lib.hid (hZ k hlt).1
      clear hw v1 v2 v3 v4 hX hY hZ
      generalize subC f g k = c at *
      generalize f k = xk at *
      generalize g k = yk at *
      have h75 := sub64_run xk yk c (by omega)
      have k0 : (0 : Int) ≤ (k : Int) := by omega
      have k1 : (k : Int) < 9 := by omega
      have k2 : (k : Int).toNat = k := by omega
      go_wp2_with fail
      go_quiet (fail)
      go_wp2_with fail
      go_roundw
      case rel =>
        have hst := fun m => (Hw.out.drewN m).step HZ.out Hs.out
        simp only [Nat.zero_add] at hst
        exact ⟨k + 1, by omega, by go_num, by rw [Hc.out], hst _⟩
      case measure => simp [intOf]; omega
    · obtain rfl : k = 9 := by omega
      have hV := hw.vec hZ (fun j hj => wSub_lt _ _ _)
      have V4 := v4.turned hw.mod hV
      have V3 := v3.mod hw.mod (fun o h => by have := h.1; omega)
      have A := V4.nine
      have B := V3.nine
      have F := V3.free
      obtain ⟨a0, a1, a2, a3, a4, a5, a6, a7, a8⟩ := A
      obtain ⟨d0, d1, d2, d3, d4, d5, d6, d7, d8⟩ := B
      obtain ⟨e0, e1, e2, e3, e4, e5, e6, e7, e8⟩ := F
      have Hw := Lib.hid hw
      clear hw v1 v2 v3 v4 hX hY hZ hV
      go_wp2_with fail
      refine bodyPost_ret (v := nv (subW f g)) (by simp [results, Tryz.results52, go_sem, *]) rfl ⟨rfl, ?_⟩
      have hm2 : Mod NoP w wr := hm.trans' Hw.out.mod fun k o hk h => by have := h.1; omega
      have hlt2 : ∀ o, b2 < w.heap.size → NoP b2 o := fun o h => by omega
      exact ((((((((hm2.setCell (hlt2 _) _).setCell (hlt2 _) _).setCell (hlt2 _) _).setCell (hlt2 _) _).setCell (hlt2 _) _).setCell (hlt2 _) _).setCell (hlt2 _) _).setCell (hlt2 _) _).setCell (hlt2 _) _

theorem two_new (w : World) (o1 o2 : Obj) :
    ((w.alloc o1).alloc o2).heap[w.heap.size]? = some o1 ∧ ((w.alloc o1).alloc o2).heap[w.heap.size + 1]? = some o2 ∧ Mod NoP w ((w.alloc o1).alloc o2) := by
  have s1 : (w.alloc o1).heap.size = w.heap.size + 1 := by simp
  refine ⟨?_, ?_, ((Mod.refl _ w).alloc _).alloc _⟩
  · rw [heap_alloc_old _ _ (by omega)]
    exact heap_alloc_new w o1
  · rw [← s1]
    exact heap_alloc_new _ o2

/-- The highest word in which two numbers differ tells which is less. -/
theorem val_lt_of_word {f g : Nat → Nat} {m n : Nat} (hf : ∀ j, j < n → f j < B64) (hm : m < n) (heq : ∀ j, m + 1 ≤ j → j < n → f j = g j) (hlt : f m < g m) : val f n < val g n := by
  obtain ⟨d, rfl⟩ : ∃ d, n = m + 1 + d := ⟨n - (m + 1), by omega⟩
  rw [val_add f (m + 1) d, val_add g (m + 1) d, val_congr (n := d) (f := fun j => f (m + 1 + j)) (g := fun j => g (m + 1 + j)) fun j hj => heq (m + 1 + j) (by omega) (by omega)]
  have h1 : val f m < B64 ^ m := val_lt fun j hj => hf j (by omega)
  have h2 : (f m + 1) * B64 ^ m ≤ g m * B64 ^ m := Nat.mul_le_mul_right _ hlt
  rw [Nat.add_mul] at h2
  simp only [val]
  omega

theorem val_eq_of_words {f g : Nat → Nat} {n : Nat} (heq : ∀ j, j < n → f j = g j) : val f n = val g n := val_congr heq

set_option maxRecDepth 100000 in
set_option maxHeartbeats 1000000 in
theorem less_any (f g : Nat → Nat) (hf : ∀ j, j < 9 → f j < B64) (hg : ∀ j, j < 9 → g j < B64) (w : World) : Calls Tryz.prog 36 #[nv f, nv g] w fun e w' => e = .returned (.bool (decide (val f 9 < val g 9))) ∧ Mod NoP w w' := by
  go_enter Tryz.func36, Tryz.ntmps36
  go_wp2_with fail
  obtain ⟨h1, h2, hm⟩ := two_new w (.cells (nc f) 63 (0, 0)) (.cells (nc g) 63 (0, 0))
  generalize hw4 : (w.alloc (.cells (nc f) 63 (0, 0))).alloc (.cells (nc g) 63 (0, 0)) = w4 at *
  clear hw4
  have v1 : NIs w4 w.heap.size f := h1
  have v2 : NIs w4 (w.heap.size + 1) g := h2
  clear h1 h2
  generalize hb0 : w.heap.size = b0 at *
  generalize hb1 : b0 + 1 = b1 at *
  have hX := v1.vec hf
  have hY := v2.vec hg
  go_loopw [5] (fun i wr => ∃ k : Nat, k ≤ 9 ∧ i = .int .i64 ((k : Int) - 1) ∧ (∀ j, k ≤ j → j < 9 → f j = g j) ∧ Mod NoP w4 wr) (fun i _ => (intOf i + 1).toNat)
  case atStart => exact ⟨9, by omega, rfl, fun j h1 h2 => by omega, .refl _ _⟩
  case round =>
    obtain ⟨k, hk, rfl, hq, hw⟩ := hrel
    by_cases hlt : 0 < k
    · obtain ⟨m, rfl⟩ : ∃ m, k = m + 1 := ⟨k - 1, by omega⟩
      rw [show (((m + 1 : Nat) : Int) - 1) = (m : Int) by omega]
      have hcx := hw.cell_some (hX m (by omega)).1 (fun h => h)
      have hcy := hw.cell_some (hY m (by omega)).1 (fun h => h)
      rw [Nat.zero_add] at hcx hcy
      have Hq := Lib.hid hq
      have Hw := Lib.hid hw
      have k0 : (0 : Int) ≤ (m : Int) := by omega
      have k1 : (m : Int) < 9 := by omega
      have k2 : (m : Int).toNat = m := by omega
      have kg : decide ((m : Int) ≥ 0) = true := decide_eq_true (by omega)
      clear hq hw v1 v2 hX hY
      by_cases he : f m = g m
      · have hstep : ∀ j, m ≤ j → j < 9 → f j = g j := fun j h1 h2 => by
          by_cases hj : j = m
          · rw [hj, he]
          · exact Hq.out j (by omega) h2
        have HS := Lib.hid hstep
        clear hstep
        rw [he] at hcx
        clear he
        generalize g m = yk at *
        go_wp2_with fail
        go_quiet (fail)
        go_wp2_with fail
        go_roundw
        case rel => exact ⟨m, by omega, by go_num, HS.out, Hw.out.drewN _⟩
        case measure => simp [intOf]
      · have hres : (decide (val f 9 < val g 9)) = decide (f m < g m) := by
          by_cases hfg : f m < g m
          · rw [decide_eq_true (val_lt_of_word hf (by omega) Hq.out hfg), decide_eq_true hfg]
          · rw [decide_eq_false (by have := val_lt_of_word hg (show m < 9 by omega) (fun j h1 h2 => (Hq.out j h1 h2).symm) (show g m < f m by omega); omega), decide_eq_false hfg]
        have Hres := Lib.hid hres
        have hne : ((f m : Int) == (g m : Int)) = false := by simp; omega
        clear hres
        generalize f m = xk at *
        generalize g m = yk at *
        go_wp2_with fail
        go_quiet (fail)
        go_wp2_with fail
        go_quiet (fail)
        go_wp2_with fail
        go_ret
        exact ⟨by rw [Hres.out]; rfl, ((hm.trans (Hw.out.drewN _)).drewN _)⟩
    · obtain rfl : k = 0 := by omega
      go_wp2_with fail
      go_ret
      exact ⟨by rw [val_eq_of_words fun j hj => hq j (by omega) hj]; simp, hm.trans hw⟩
end Go.Proofs.YtpfmbfkhjapbbaaGreatDoor
