/-
  cggroup's RandomScalar of a stream. Condition: a chunk of the stream is below the order.
-/
import Derived.Test.YtpfmbfkhjapbbaaGreatDoorRnd1
import Derived.Test.YtpfmbfkhjapbbaaGreatDoorChoose
set_option linter.unusedVariables false
set_option linter.unusedSimpArgs false
namespace Go.Proofs.YtpfmbfkhjapbbaaGreatDoor
open Go Go.RowKit

set_option maxRecDepth 100000 in
set_option maxHeartbeats 2000000 in
theorem randomScalar_any (k : Nat) (hk : k ≤ 2) (g : Value) (lo s b o N c q : Nat) (f : Nat → Nat) (w00 w : World) (hG : GrpIs w00 lo k g) (m00 : Mod NoP w00 w) (hss : s < lo ∨ w00.heap.size ≤ s) (hS : StrIs w s b o N c) (hB : Bts w b o N f) (hf : ∀ j, j < N → f j < 256) (hNc : N ≤ c) (hN : N ≤ 1048576) (hsb : s ≠ b) (hq : DrawnAt k N f q) :
    Calls Tryz.prog 241 #[g, .iface 71 (.pointer (some ⟨s, 0, none⟩))] w fun e w' =>
      ∃ p, e = .returned (.iface 290 (.pointer (some ⟨p, 0, none⟩))) ∧ SclIs w' w.heap.size k p g (lenK k) (byteAt (lenK k) (beN (ch k f q) (lenK k))) ∧ Mod (InB s) w w' := by
  have hl := lenK_le k hk
  have hslt := lt_of_heap (show w.heap[s]? = _ from hS)
  have hblt : b < w.heap.size := lt_of_cell? (hB 0 (by have := hq.1; rw [Nat.mul_add] at this; omega))
  obtain ⟨p, go, rfl, hp, ho, ⟨bp, bn, bb, bx, bY, nm, hc, hlp, hi1, hi2, hi3⟩, hb⟩ := id hG
  obtain ⟨an, nn, nc, nf, hI, hln, hla⟩ := hi2
  have hbn := lt_of_heap hI.cells
  have han : ∀ A, an = some A → A.block < w00.heap.size := fun A hA => by
    have h := hI.num.arr
    rw [hA] at h
    obtain ⟨x, y, z⟩ := A
    exact h.lt
  have hc1 : w.cell? ⟨p, 1, none⟩ = some (.pointer (some ⟨bn, 0, none⟩)) := m00.cell_some (by rw [cell?_of_heap hc]; rfl) fun h => h
  have hGm : ∀ w1, Mod (InB s) w w1 → GrpIs w1 lo k (.agg #[.iface 125 (.pointer (some ⟨p, 0, none⟩)), .slice (some ⟨go, 0, none⟩) (lenK k) (lenK k)]) := fun w1 m => by
    rcases hss with h | h
    · exact (hG.mod m00 nop).mod m fun k o hk h => by unfold InB at h; omega
    · exact hG.mod (m00.trans' m fun k o hk h => by unfold InB at h; omega) nop
  have hBS : ∀ w1, Mod (InB s) w w1 → Calls Tryz.prog 244 #[.agg #[.iface 125 (.pointer (some ⟨p, 0, none⟩)), .slice (some ⟨go, 0, none⟩) (lenK k) (lenK k)]] w1 fun e w' => e = .returned (.int .i64 (lenK k)) ∧ Mod NoP w1 w' := fun w1 m =>
    byteSize_any k hk _ lo w1 (hGm w1 m)
  have hRI := fun w1 (m : Mod NoP w w1) => randomInt_any k hk s b o N c bn nn nc q an nf f w1 (show w1.heap[s]? = _ by rw [m.heap hslt fun _ h => h]; exact hS) (hB.mod m fun _ _ h => h) hf hNc hN ((hI.mod m00 (fun _ h => h) (Off.noP _)).mod m (fun _ h => h) (Off.noP _)) hsb (by omega) (fun A hA => by have := hla A hA; have := han A hA; omega) hq
  have hv := hq.2.1
  have hvL := (ord_bits k hk).2.2.2
  have HBS := Lib.hid hBS
  have HRI := Lib.hid hRI
  have hme := fun W => methodParams W ⟨p, 0, none⟩
  have bx := box2 w (.iface 125 (.pointer (some ⟨p, 0, none⟩))) (.slice (some ⟨go, 0, none⟩) (lenK k) (lenK k)) 108
  obtain ⟨bx0, bx1⟩ := bx
  have m0 : Mod NoP w (w.alloc (.cells #[.iface 125 (.pointer (some ⟨p, 0, none⟩)), .slice (some ⟨go, 0, none⟩) (lenK k) (lenK k)] 108 (0, 0))) := (Mod.refl NoP w).alloc _
  have hs0 : (w.alloc (.cells #[.iface 125 (.pointer (some ⟨p, 0, none⟩)), .slice (some ⟨go, 0, none⟩) (lenK k) (lenK k)] 108 (0, 0))).heap.size = w.heap.size + 1 := by simp
  have c01 := m0.cell_some hc1 fun h => h
  unfold SclIs
  clear hBS hRI hG hGm han hS hB hf hi1 hi3 hb hI hc hc1 hq
  generalize beN (ch k f q) (lenK k) = v at *
  generalize lenK k = len at *
  go_enter Tryz.func241, Tryz.ntmps241
  go_wp2_with fail
  generalize hw0 : w.alloc (.cells #[.iface 125 (.pointer (some ⟨p, 0, none⟩)), .slice (some ⟨go, 0, none⟩) len len] 108 (0, 0)) = w0 at *
  clear hw0
  refine (params_any p _).mono ?_
  rintro e w' ⟨rfl, hw'⟩
  obtain rfl := hw'.symm
  go_wp2_with fail
  refine (HRI.out _ m0).mono ?_
  rintro e w1 ⟨r, a, n, cc, gg, rfl, hI1, hr, ha, m1⟩
  have e0 := m1.cell_some bx0 (fun h => by unfold InB at h; omega)
  have e1 := m1.cell_some bx1 (fun h => by unfold InB at h; omega)
  have hrlt := lt_of_heap hI1.cells
  have halt : ∀ A, a = some A → A.block < w1.heap.size := fun A hA => by
    have h := hI1.num.arr
    rw [hA] at h
    obtain ⟨x, y, z⟩ := A
    exact h.lt
  have hn1 : n ≤ 100 := hI1.num.len_le (Nat.lt_of_lt_of_le (Nat.lt_trans hv hvL) (pow_cap 100 (by omega)))
  have m01 : Mod (InB s) w w1 := (m0.of_none).trans m1
  have hB2 := fun w2 (m : Mod NoP w1 w2) => HBS.out w2 (m01.trans (m.of_none))
  have hFB : ∀ w2, Mod NoP w1 w2 → Calls Tryz.prog 57 #[.pointer (some ⟨r, 0, none⟩), .slice (some ⟨w2.heap.size, 0, none⟩) len len] (w2.alloc (zerosB len)) fun e w' => e = .returned (.slice (some ⟨w2.heap.size, 0, none⟩) len len) ∧ BArr w' (some ⟨w2.heap.size, 0, none⟩) len (byteAt len v) ∧ Mod NoP w1 w' ∧ w2.heap.size < w'.heap.size := fun w2 m => by
    have hsz := m.size
    have hm3 := m.alloc (zerosB len)
    refine (fillBytes_any r n cc v w2.heap.size len false a gg (fun _ => 0) (w2.alloc (zerosB len)) (hI1.mod hm3 (fun _ h => h) (Off.noP _)) (by omega) (barr_zeros w2 len) (by omega) (by omega) (Nat.lt_trans hv hvL) (fun ⟨A, hA, h⟩ => by have := halt A hA; omega) (by omega)).mono ?_
    rintro e w' ⟨rfl, h1, h2⟩
    refine ⟨rfl, h1, hm3.trans' h2 fun k o hk h => by unfold InB at h; omega, ?_⟩
    have := h2.size
    simp at this
    omega
  have HB2 := Lib.hid hB2
  have HFB := Lib.hid hFB
  have M01 := Lib.hid m01
  clear hB2 hFB m01 m1 HRI HBS hI1 halt ha bx0 bx1 c01 m0
  have hmk := fun u => makeSlice22 len len (Nat.le_refl _) (by omega) u (len : Int) (len : Int) rfl rfl
  go_wp2_with fail
  go_region_held3 (fun w' => w'.cell? ⟨w.heap.size, 0, none⟩ = some (.iface 125 (.pointer (some ⟨p, 0, none⟩))) ∧ w'.cell? ⟨w.heap.size, 1, none⟩ = some (.slice (some ⟨go, 0, none⟩) len len) ∧ Mod NoP w1 w') ((first | exact held2 e0 e1 ((Mod.refl NoP w1).drew) | (have m2 := m1; go_split_ands; refine held2 e0 e1 ?_; first | (refine Mod.trans ?_ m2; assumption) | (refine Mod.alloc ?_ _; assumption) | assumption | (trace_state; fail)) | (go_split_ands; refine held2 e0 e1 ?_; first | (refine Mod.alloc ?_ _; assumption) | assumption | (trace_state; fail))))
    (first | (go_at_call 244; refine (HB2.out _ ?_).mono ?_; (first | assumption | (go_split_ands; assumption) | exact (Mod.refl NoP w1).drew); rintro e w3 ⟨rfl, m1⟩) | (go_at_call 57; refine (HFB.out _ ?_).mono ?_; (first | assumption | (go_split_ands; assumption) | exact Mod.trans (by assumption) m1 | exact ((Mod.refl NoP w1).drew).trans m1 | (go_split_ands; first | assumption | exact Mod.trans (by assumption) m1)); rintro e w4 ⟨rfl, hA4, m4, hs4⟩))
  all_goals (go_wp2_with fail)
  all_goals go_ret
  have hsz := M01.out.size
  have hsz3 : w1.heap.size ≤ w3.heap.size := m1.size
  refine ⟨_, rfl, ⟨_, _, w3.heap.size, rfl, heap_alloc_new w4 _, hA4.mod ((Mod.refl NoP w4).alloc _) (fun A hA o h => h), Nat.le_refl _, by omega, by omega, by omega⟩, (M01.out.trans (m4.of_none)).alloc _⟩
end Go.Proofs.YtpfmbfkhjapbbaaGreatDoor
