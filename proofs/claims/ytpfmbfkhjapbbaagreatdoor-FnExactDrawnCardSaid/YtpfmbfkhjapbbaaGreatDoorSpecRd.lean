/-
  The specification's ofBytes, IsScalar, IsZero. Conditions: rows of at most 72 bytes (ofBytes), of at most 2^20 bytes (the others).
-/
import Derived.Test.YtpfmbfkhjapbbaaGreatDoorReadC
import Derived.StillTailTactics
set_option linter.unusedVariables false
set_option linter.unusedSimpArgs false
namespace Go.Proofs.YtpfmbfkhjapbbaaGreatDoor
open Go Go.RowKit

set_option maxRecDepth 100000 in
set_option maxHeartbeats 1000000 in
theorem specIsZero_any (b o n c : Nat) (f : Nat → Nat) (w : World) (hX : Bts w b o n f) (hn : n ≤ 1048576) :
    Calls Tryz.prog 23 #[.slice (some ⟨b, o, none⟩) n c] w (TellsW (∀ j, j < n → f j = 0) NoP w) := by
  have HX := Lib.hid hX
  clear hX
  go_enter Tryz.func23, Tryz.ntmps23
  go_wp2_with fail
  go_loop [3] (fun i => ∃ k : Nat, k ≤ n ∧ i = .int .i64 (k : Int) ∧ ∀ j, j < k → f j = 0) (fun i => n - (intOf i).toNat)
  case atStart => exact ⟨0, by omega, rfl, fun j hj => by omega⟩
  case round =>
    obtain ⟨k, hk, rfl, hz⟩ := hrel
    by_cases hlt : k < n
    · have hcx := HX.out k hlt
      have Hz := Lib.hid hz
      have d1 : decide ((k : Int) < (n : Int)) = true := decide_eq_true (by omega)
      have k0 : (0 : Int) ≤ (k : Int) := by omega
      have k1 : (k : Int) < (n : Int) := by omega
      have k2 : (k : Int).toNat = k := by omega
      clear hz
      by_cases h0 : f k = 0
      · have H0 := Lib.hid h0
        rw [h0] at hcx
        clear h0
        go_wp2_with fail
        go_round
        case rel => exact ⟨k + 1, by omega, by go_num, fun j hj => by
          by_cases e : j = k
          · rw [e]; exact H0.out
          · exact Hz.out j (by omega)⟩
        case measure => simp [intOf]; omega
      · have H0 := Lib.hid h0
        have hb : ((f k : Int) == 0) = false := by simp; omega
        clear h0
        generalize hx : f k = x at *
        have Hx := Lib.hid hx
        clear hx
        go_wp2_with fail
        go_ret
        exact ⟨false, rfl, ⟨fun h => (by cases h), fun h => absurd (h k (by omega)) (by rw [Hx.out]; exact H0.out)⟩, Mod.refl _ _⟩
    · obtain rfl : k = n := by omega
      have Hz := Lib.hid hz
      clear hz
      have d1 : decide ((k : Int) < (k : Int)) = false := decide_eq_false (by omega)
      go_wp2_with fail
      go_ret
      exact ⟨true, rfl, ⟨fun _ => Hz.out, fun _ => rfl⟩, Mod.refl _ _⟩

theorem shl_or (x y r : Nat) (hr : r < 8) (hx : x < 2 ^ (8 * r)) (hy : y < 256) :
    bits .or .u64 (x : Int) (IntKind.u64.wrap ((y : Int) * 2 ^ (8 * r))) = ((x + y * 2 ^ (8 * r) : Nat) : Int) := by
  have hlt : y * 2 ^ (8 * r) < 2 ^ 64 := by
    have h1 : (y + 1) * 2 ^ (8 * r) ≤ 256 * 2 ^ (8 * r) := Nat.mul_le_mul_right _ (by omega)
    have h2 : 256 * 2 ^ (8 * r) ≤ 2 ^ 64 := by
      rw [show (256 : Nat) = 2 ^ 8 from rfl, ← Nat.pow_add]
      exact Nat.pow_le_pow_right (by omega) (by omega)
    have h3 := Nat.two_pow_pos (8 * r)
    rw [Nat.add_mul] at h1
    omega
  have hw : IntKind.u64.wrap ((y : Int) * 2 ^ (8 * r)) = ((y * 2 ^ (8 * r) : Nat) : Int) := by
    rw [IntKind.wrap_u64]
    have : ((y : Int) * 2 ^ (8 * r)) = ((y * 2 ^ (8 * r) : Nat) : Int) := by simp
    rw [this]
    omega
  rw [hw]
  have hx64 : x < 2 ^ 64 := Nat.lt_of_lt_of_le hx (Nat.pow_le_pow_right (by omega) (by omega))
  have h := (bits_nat .u64 64 (by decide) (fun n h0 h1 => by rw [IntKind.wrap_u64]; omega) x (y * 2 ^ (8 * r)) hx64 hlt).2
  rw [h]
  congr 1
  rw [Nat.or_comm, Nat.mul_comm, ← Nat.two_pow_add_eq_or_of_lt hx]
  omega

theorem NIs.store {w : World} {b : Nat} {f g : Nat → Nat} (h : NIs w b f) (hf : ∀ j, j < 9 → f j < B64) {i : Nat} (hi : i < 9) (hg : ∀ j, j < 9 → g j < B64) (hgi : ∀ j, j < 9 → j ≠ i → g j = f j) : NIs (w.setCell ⟨b, i, none⟩ (U (g i))) b g := by
  refine h.turned (setCell_mod w b i (U (g i))) fun j hj => ?_
  have hv := h.vec hf j hj
  rw [Nat.zero_add] at hv ⊢
  by_cases e : j = i
  · subst e
    exact ⟨cell_same hv.1 _, by rw [World.frozen?_setCell]; exact hv.2.1, hg j hj⟩
  · exact ⟨by rw [hgi j hj e, cell_other (.inr (Ne.symm e))]; exact hv.1, by rw [World.frozen?_setCell]; exact hv.2.1, hg j hj⟩

set_option maxRecDepth 100000 in
set_option maxHeartbeats 1000000 in
theorem ofBytes_any (b o n c : Nat) (f : Nat → Nat) (w : World) (hX : Bts w b o n f) (hf : ∀ j, j < n → f j < 256) (hn : n ≤ 72) :
    Calls Tryz.prog 37 #[.slice (some ⟨b, o, none⟩) n c] w (NRet (beN f n) w) := by
  have hbl : 0 < n → b < w.heap.size := fun h => lt_of_cell? (hX 0 h)
  go_enter Tryz.func37, Tryz.ntmps37
  go_wp2_with fail
  obtain ⟨k1, k2, mm⟩ := two_new w zN zN
  generalize hw4 : (w.alloc zN).alloc zN = w4 at *
  clear hw4
  have v1 : NIs w4 w.heap.size (fun _ => 0) := k1
  have v2 : NIs w4 (w.heap.size + 1) (fun _ => 0) := k2
  clear k1 k2
  generalize hb0 : w.heap.size = b0 at *
  generalize hb1 : b0 + 1 = b1 at *
  go_loopw [4] (fun i wr => ∃ k : Nat, k ≤ n ∧ i = .int .i64 (k : Int) ∧ NIs wr b1 (obW f n k) ∧ Mod (InB b1) w4 wr) (fun i _ => n - (intOf i).toNat)
  case atStart => exact ⟨0, by omega, rfl, v2, .refl _ _⟩
  case round =>
    obtain ⟨k, hk, rfl, hN, hM⟩ := hrel
    have hlt64 : ∀ q, obW f n k q < B64 := fun q => obW_lt64 f n hf k q hk
    by_cases hlt : k < n
    · have hcb := hM.cell_some (mm.cell_some (hX (n - 1 - k) (by omega)) fun h => h) (fun hh => by have := hbl (by omega); unfold InB at hh; omega)
      have hq : k / 8 < 9 := by omega
      have hcq : wr.cell? ⟨b1, k / 8, none⟩ = some (U (obW f n k (k / 8))) := by rw [cell?_of_heap hN]; exact nc_at _ _ hq
      have hfq : wr.frozen? ⟨b1, k / 8, none⟩ = false := free_of_heap hN _
      have hfb := hf (n - 1 - k) (by omega)
      have hlow : obW f n k (k / 8) < 2 ^ (8 * (k % 8)) := by
        have := obW_lt f n hf k (k / 8) hk
        rwa [show min 8 (k - 8 * (k / 8)) = k % 8 by omega] at this
      have hor := shl_or _ _ _ (Nat.mod_lt k (by omega)) hlow hfb
      have hstep : obW f n k (k / 8) + f (n - 1 - k) * 2 ^ (8 * (k % 8)) = obW f n (k + 1) (k / 8) := by simp [obW]
      rw [hstep] at hor
      have HN := Lib.hid hN
      have HM := Lib.hid hM
      have d1 : decide ((k : Int) < (n : Int)) = true := decide_eq_true (by omega)
      have d2 : decide ((k : Int) < 72) = true := decide_eq_true (by omega)
      have e1 : IntKind.i64.wrap ((n : Int) - 1) = (n : Int) - 1 := IntWalk.i64_in _ (by omega)
      have e2 : IntKind.i64.wrap ((n : Int) - 1 - (k : Int)) = ((n - 1 - k : Nat) : Int) := by rw [IntWalk.i64_in _ (by omega)]; omega
      have e3 : IntKind.i64.wrap ((k : Int) / 8) = (k : Int) / 8 := IntWalk.i64_in _ (by omega)
      have e4 : IntKind.i64.wrap ((k : Int) % 8) = (k : Int) % 8 := IntWalk.i64_in _ (by omega)
      have e5 : IntKind.u64.wrap ((k : Int) % 8) = (k : Int) % 8 := by rw [IntKind.wrap_u64]; omega
      have e6 : IntKind.u64.wrap (8 * ((k : Int) % 8)) = 8 * ((k : Int) % 8) := by rw [IntKind.wrap_u64]; omega
      have g0 : (0 : Int) ≤ (k : Int) / 8 := by omega
      have g1 : (k : Int) / 8 < 9 := by omega
      have g3 : ((k : Int) / 8).toNat = k / 8 := by omega
      have g4 : (8 * ((k : Int) % 8)).toNat = 8 * (k % 8) := by omega
      have g2 : ((n - 1 - k : Nat) : Int) < (n : Int) := by omega
      clear hN hM hstep hlt64 hlow hX
      generalize obW f n k (k / 8) = x at *
      generalize f (n - 1 - k) = y at *
      go_wp2_with fail
      go_still_tail 22, (by kernel_rfl)
      simp only [World.drew_eq]
      go_wp2_with fail
      go_roundw
      case rel =>
        rw [show min (8 * (k % 8)) 64 = 8 * (k % 8) by omega, hor]
        have hst := HN.out.store (g := obW f n (k + 1)) (fun q _ => obW_lt64 f n hf k q (by omega)) hq (fun q _ => obW_lt64 f n hf (k + 1) q (by omega)) (fun q _ hne => by simp [obW, hne])
        exact ⟨k + 1, by omega, by go_num, hst, (HM.out.trans (mod_own wr b1 (k / 8) _)).drew⟩
      case measure => simp [intOf]; omega
    · obtain rfl : k = n := by omega
      have d1 : decide ((k : Int) < (k : Int)) = false := decide_eq_false (by omega)
      have n1 := v1.mod hM (fun o hh => by unfold InB at hh; omega)
      have hv := val_obW f k 9 k (Nat.le_refl _) (by omega)
      rw [Nat.sub_self] at hv
      have hv' : val (obW f k k) 9 = beN f k := by rw [hv]; exact beN_congr fun j _ => by rw [Nat.zero_add]
      have HV := Lib.hid hv'
      clear hv hv' v1 v2
      generalize obW f k k = h at *
      obtain ⟨a0, a1, a2, a3, a4, a5, a6, a7, a8⟩ := hN.nine
      obtain ⟨p0, p1, p2, p3, p4, p5, p6, p7, p8⟩ := n1.nine
      obtain ⟨e0, e1, e2, e3, e4, e5, e6, e7, e8⟩ := n1.free
      have mend : Mod NoP w wr := mm.trans' hM fun q r hq hh => by unfold InB at hh; omega
      go_wp2_with fail
      refine bodyPost_ret (v := nv h) (by simp [results, Tryz.results37, go_sem, *]) rfl ⟨h, rfl, fun j _ => hlt64 j, HV.out, ?_⟩
      exact setNine_mod mend (fun _ hh => by omega) (fun j => U (h j))

/-- The order's nine words in a curve's cells, and the size, held while nothing that was there turns. -/
theorem held18 {w0 w' : World} {b : Nat} {f : Nat → Nat} {s : Value} (h : (w0.cell? ⟨b, 18, none⟩ = some (U (f 0)) ∧ w0.cell? ⟨b, 19, none⟩ = some (U (f 1)) ∧ w0.cell? ⟨b, 20, none⟩ = some (U (f 2)) ∧ w0.cell? ⟨b, 21, none⟩ = some (U (f 3)) ∧ w0.cell? ⟨b, 22, none⟩ = some (U (f 4)) ∧ w0.cell? ⟨b, 23, none⟩ = some (U (f 5)) ∧ w0.cell? ⟨b, 24, none⟩ = some (U (f 6)) ∧ w0.cell? ⟨b, 25, none⟩ = some (U (f 7)) ∧ w0.cell? ⟨b, 26, none⟩ = some (U (f 8)) ∧ w0.cell? ⟨b, 45, none⟩ = some s)) (m : Mod NoP w0 w') :
    (w'.cell? ⟨b, 18, none⟩ = some (U (f 0)) ∧ w'.cell? ⟨b, 19, none⟩ = some (U (f 1)) ∧ w'.cell? ⟨b, 20, none⟩ = some (U (f 2)) ∧ w'.cell? ⟨b, 21, none⟩ = some (U (f 3)) ∧ w'.cell? ⟨b, 22, none⟩ = some (U (f 4)) ∧ w'.cell? ⟨b, 23, none⟩ = some (U (f 5)) ∧ w'.cell? ⟨b, 24, none⟩ = some (U (f 6)) ∧ w'.cell? ⟨b, 25, none⟩ = some (U (f 7)) ∧ w'.cell? ⟨b, 26, none⟩ = some (U (f 8)) ∧ w'.cell? ⟨b, 45, none⟩ = some s) := by
  obtain ⟨h0, h1, h2, h3, h4, h5, h6, h7, h8, h9⟩ := h
  exact ⟨m.cell_some h0 fun h => h, m.cell_some h1 fun h => h, m.cell_some h2 fun h => h, m.cell_some h3 fun h => h, m.cell_some h4 fun h => h, m.cell_some h5 fun h => h, m.cell_some h6 fun h => h, m.cell_some h7 fun h => h, m.cell_some h8 fun h => h, m.cell_some h9 fun h => h⟩

set_option maxRecDepth 100000 in
set_option maxHeartbeats 1000000 in
theorem isScalar_any (k : Nat) (hk : k ≤ 2) (a : Option Addr) (n c : Nat) (f : Nat → Nat) (w : World) (hX : BSl w a n f) (hf : ∀ j, j < n → f j < 256) (hn : n ≤ 1048576) :
    Calls Tryz.prog 22 #[.int .i64 k, .slice a n c] w (TellsW (n = lenK k ∧ beN f n < ordK k) NoP w) := by
  have hl := lenK_le k hk
  have HX := Lib.hid hX
  clear hX
  go_enter Tryz.func22, Tryz.ntmps22
  go_wp2_with fail
  refine (curveOf_any k hk _).mono ?_
  rintro e w1 ⟨rfl, m1⟩
  go_upto_region 2 with (refine wpList_store_row rfl 65 (.tmp 5) (.tmp 7) rfl w1.heap.size (cvK k).toArray rfl rfl 65 zl65.toArray (heap_alloc_new w1 _) size65 (zl65_sizeK k) (cvK_one k) ?_)
  generalize hw2 : World.setRow _ w1.heap.size (cvK k).toArray = w2
  have hz := heap_alloc_new w1 (.cells zl65.toArray 65 (0, 0))
  have h2 : w2.heap[w1.heap.size]? = some (.cells (cvK k).toArray 65 (0, 0)) := by rw [← hw2]; exact setRow_heap _ _ zl65.toArray _ 65 (0, 0) hz
  have m2 : Mod NoP w w2 := by
    rw [← hw2]
    have := m1.size
    exact (m1.alloc (.cells zl65.toArray 65 (0, 0))).trans' (setRow_mod (t := 65) hz (by rw [zl65_sizeK k])) fun q r hq h => by unfold InB at h; omega
  clear hw2 hz m1
  generalize w1.heap.size = b7 at *
  have hcell : ∀ i v, (cvK k).toArray[i]? = some v → w2.cell? ⟨b7, i, none⟩ = some v := fun i v h => by rw [cell?_of_heap h2, h]
  have a0 := hcell 18 (U (words (ordK k) 0)) rfl
  have a1 := hcell 19 (U (words (ordK k) 1)) rfl
  have a2 := hcell 20 (U (words (ordK k) 2)) rfl
  have a3 := hcell 21 (U (words (ordK k) 3)) rfl
  have a4 := hcell 22 (U (words (ordK k) 4)) rfl
  have a5 := hcell 23 (U (words (ordK k) 5)) rfl
  have a6 := hcell 24 (U (words (ordK k) 6)) rfl
  have a7 := hcell 25 (U (words (ordK k) 7)) rfl
  have a8 := hcell 26 (U (words (ordK k) 8)) rfl
  have asz := hcell 45 (.int .i64 (lenK k)) rfl
  have h9 := And.intro a0 (And.intro a1 (And.intro a2 (And.intro a3 (And.intro a4 (And.intro a5 (And.intro a6 (And.intro a7 (And.intro a8 asz))))))))
  have H9 := Lib.hid h9
  clear h9
  have hor := ordK_facts k hk
  have hv9 : val (words (ordK k)) 9 = ordK k := by rw [val_words, Nat.mod_eq_of_lt (by omega)]
  have HX2 := Lib.hid (HX.out.nop m2)
  have M2 := Lib.hid m2
  clear hcell h2 HX m2
  unfold TellsW
  by_cases he : n = lenK k
  · obtain ⟨b, o, rfl, hB⟩ : ∃ b o, a = some ⟨b, o, none⟩ ∧ Bts w2 b o n f := by
      rcases HX2.out with ⟨_, h⟩ | h
      · omega
      · exact h
    have hO := fun w' (m : Mod NoP w2 w') => ofBytes_any b o n c f w' (hB.mod m fun _ _ h => h) hf (by omega)
    have HO := Lib.hid hO
    have HE := Lib.hid he
    have he' : ((n : Int) == (lenK k : Int)) = true := by simp; omega
    have hL := fun (h : Nat → Nat) (w' : World) (hh : ∀ j, j < 9 → h j < B64) => less_any h (words (ordK k)) hh (fun j _ => words_lt _ _) w'
    rw [hv9] at hL
    have HL := Lib.hid hL
    clear hO he hL hv9 hor hB HX2
    generalize lenK k = len at *
    generalize ordK k = ord at *
    go_region_with (first | (go_at_call 37; refine (HO.out _ ?_).mono ?_; ((first | exact Mod.refl NoP w2 | exact (Mod.refl NoP w2).drew | exact (Mod.refl NoP w2).drewN _)); rintro e w3 ⟨h, rfl, hh, hv, m3⟩; have m23 := (Mod.refl NoP w2).drew.trans m3; have q9 := held18 H9.out m23; obtain ⟨q0, q1, q2, q3, q4, q5, q6, q7, q8, qs⟩ := q9) | (go_at_call 36; refine (HL.out _ _ hh).mono ?_; rintro e w5 ⟨rfl, m5⟩))
    all_goals (go_wp2_with fail)
    all_goals go_ret
    all_goals exact ⟨decide (beN f n < ord), rfl, ⟨fun h => ⟨HE.out, of_decide_eq_true h⟩, fun h => decide_eq_true h.2⟩, (M2.out.trans m23).trans m5⟩
  · have hb : ((n : Int) == (lenK k : Int)) = false := by simp; omega
    have HE := Lib.hid he
    clear he hv9 hor
    generalize lenK k = len at *
    go_quiet (fail)
    go_wp2_with fail
    go_ret
    exact ⟨false, rfl, ⟨fun h => (by cases h), fun h => absurd h.1 HE.out⟩, M2.out.drewN _⟩
end Go.Proofs.YtpfmbfkhjapbbaaGreatDoor
