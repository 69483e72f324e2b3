/-
  The specification's bytesOf and ScalarOf: the bytes of a number modulo the order. Conditions: rows of at most 2^20 bytes.
-/
import Derived.Test.YtpfmbfkhjapbbaaGreatDoorSpecBytes
set_option linter.unusedVariables false
set_option linter.unusedSimpArgs false
namespace Go.Proofs.YtpfmbfkhjapbbaaGreatDoor
open Go Go.RowKit

/-- New bytes: those of a number. -/
def BRet (n v : Nat) (w : World) (e : Ending) (w' : World) : Prop :=
  ∃ b, e = .returned (.slice (some ⟨b, 0, none⟩) n n) ∧ BArr w' (some ⟨b, 0, none⟩) n (byteAt n v) ∧ w.heap.size ≤ b ∧ Mod NoP w w'

set_option maxRecDepth 100000 in
set_option maxHeartbeats 1000000 in
theorem specBytesOf (P B N X Y f : Nat → Nat) (s z l : Nat) (hs : s ≤ 72) (hf : ∀ j, j < 9 → f j < B64) (w : World) :
    Calls Tryz.prog 35 #[.agg (cvl P B N X Y s z l).toArray, nv f] w (BRet s (val f 9) w) := by
  have ht := fun w1 => toBytes_any f s hf hs w1
  have HT := Lib.hid ht
  clear ht
  go_enter Tryz.func35, Tryz.ntmps35
  go_wp2_with fail
  refine (HT.out _).mono ?_
  rintro e w1 ⟨b, rfl, hB, hb, m1⟩
  have HB := Lib.hid hB
  clear hB
  go_wp2_with fail
  go_ret
  exact ⟨b, rfl, HB.out, by simp at hb; omega, (((Mod.refl NoP w).alloc _).alloc _).trans m1⟩

theorem ordK_facts (k : Nat) (hk : k ≤ 2) : B64 ^ 2 < ordK k ∧ 2 * ordK k < B64 ^ 9 ∧ ordK k < B64 ^ 9 ∧ 1 < ordK k := by
  obtain rfl | rfl | rfl : k = 0 ∨ k = 1 ∨ k = 2 := by omega
  all_goals decide +kernel

theorem zl65_sizeK (k : Nat) : zl65.toArray.size = (cvK k).toArray.size := by kernel_rfl
theorem cvK_one (k : Nat) : (cvK k).toArray.all (·.oneCell') = true := by kernel_rfl

set_option maxRecDepth 100000 in
set_option maxHeartbeats 1000000 in
theorem scalarOf_spec (k : Nat) (hk : k ≤ 2) (b o n c : Nat) (f : Nat → Nat) (w : World) (hb : Bts w b o n f) (hf : ∀ j, j < n → f j < 256) (hn : n ≤ 1048576) :
    Calls Tryz.prog 14 #[.int .i64 k, .slice (some ⟨b, o, none⟩) n c, .bool false] w (BRet (lenK k) (beN f n % ordK k) w) := by
  go_enter Tryz.func14, Tryz.ntmps14
  go_wp2_with fail
  refine (curveOf_any k hk _).mono ?_
  rintro e w1 ⟨rfl, m1⟩
  go_upto_region 2 with (refine wpList_store_row rfl 65 (.tmp 7) (.tmp 10) rfl w1.heap.size (cvK k).toArray rfl rfl 65 zl65.toArray (heap_alloc_new w1 _) size65 (zl65_sizeK k) (cvK_one k) ?_)
  generalize hw2 : World.setRow _ w1.heap.size (cvK k).toArray = w2
  have hz := heap_alloc_new w1 (.cells zl65.toArray 65 (0, 0))
  have h2 : w2.heap[w1.heap.size]? = some (.cells (cvK k).toArray 65 (0, 0)) := by rw [← hw2]; exact setRow_heap _ _ zl65.toArray _ 65 (0, 0) hz
  have m2 : Mod NoP w w2 := by
    rw [← hw2]
    have := m1.size
    exact (m1.alloc (.cells zl65.toArray 65 (0, 0))).trans' (setRow_mod (t := 65) hz (by rw [zl65_sizeK k])) fun q r hq h => by unfold InB at h; omega
  clear hw2 hz m1
  generalize w1.heap.size = b7 at *
  have hl7 := lt_of_heap h2
  have hcell : ∀ i v, (cvK k).toArray[i]? = some v → w2.cell? ⟨b7, i, none⟩ = some v := fun i v h => by rw [cell?_of_heap h2, h]
  have a0 := hcell 18 (U (words (ordK k) 0)) rfl
  have a1 := hcell 19 (U (words (ordK k) 1)) rfl
  have a2 := hcell 20 (U (words (ordK k) 2)) rfl
  have a3 := hcell 21 (U (words (ordK k) 3)) rfl
  have a4 := hcell 22 (U (words (ordK k) 4)) rfl
  have a5 := hcell 23 (U (words (ordK k) 5)) rfl
  have a6 := hcell 24 (U (words (ordK k) 6)) rfl
  have a7 := hcell 25 (U (words (ordK k) 7)) rfl
  have a8 := hcell 26 (U (words (ordK k) 8)) rfl
  clear hcell
  have hor := ordK_facts k hk
  have hv9 : val (words (ordK k)) 9 = ordK k := by rw [val_words, Nat.mod_eq_of_lt (by omega)]
  have hmod : ∀ w1, Mod NoP w w1 → Calls Tryz.prog 33 #[.slice (some ⟨b, o, none⟩) n c, nv (words (ordK k))] w1 (NRet (beN f n % ordK k) w1) := fun w1 m => by
    have := mod9_any b o n c f (words (ordK k)) w1 (hb.mod m fun _ _ h => h) hf hn (fun j _ => words_lt _ _) (by rw [hv9]; exact hor.2.2.2) (by rw [hv9]; omega)
    rwa [hv9] at this
  have HM := Lib.hid hmod
  clear hmod
  go_wp2_with fail
  refine (HM.out w2 m2).mono ?_
  rintro e w3 ⟨h, rfl, hh, hv, m3⟩
  have h3 : w3.heap[b7]? = some (.cells (cvK k).toArray 65 (0, 0)) := by rw [m3.heap hl7 (fun _ h => h), h2]
  have h4 : (w3.alloc (.cells (nc h) 63 (0, 0))).heap[b7]? = some (.cells (cvK k).toArray 65 (0, 0)) := by rw [heap_alloc_old _ _ (lt_of_heap h3), h3]
  have m4 := (m2.trans m3).alloc (.cells (nc h) 63 (0, 0))
  have n4 : NIs (w3.alloc (.cells (nc h) 63 (0, 0))) w3.heap.size h := heap_alloc_new w3 _
  clear a0 a1 a2 a3 a4 a5 a6 a7 a8 HM
  go_upto_region 5 with fail
  generalize hw4 : w3.alloc (.cells (nc h) 63 (0, 0)) = w4 at *
  clear hw4 h3
  apply wp_region_lit
  refine wpList_load_mid rfl 65 (.tmp 7) rfl b7 0 rfl (cvK k) _ (range_of_heap h4) Tryz.underlying65 rfl size65 ?_
  obtain ⟨a0, a1, a2, a3, a4, a5, a6, a7, a8⟩ := n4.nine
  have hB : Calls Tryz.prog 35 #[.agg (cvK k).toArray, nv h] w4 (BRet (lenK k) (val h 9) w4) := specBytesOf (words (pK k)) (words (bK k)) (words (ordK k)) (words (gxK k)) (words (gyK k)) h (lenK k) (mzK k) (longK k) (by have := lenK_le k hk; omega) hh w4
  have HB := Lib.hid hB
  clear hB
  rw [hv] at HB
  generalize beN f n % ordK k = r at *
  generalize hcv : cvK k = cv at *
  go_wp2_with fail
  refine HB.out.mono ?_
  rintro e w5 ⟨b5, rfl, h5, h6, m5⟩
  have H5 := Lib.hid h5
  clear h5
  go_wp2_with fail
  go_ret
  exact ⟨b5, rfl, H5.out, by have := m4.size; omega, m4.trans m5⟩
end Go.Proofs.YtpfmbfkhjapbbaaGreatDoor
