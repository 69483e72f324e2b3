/-
  The specification's add and mod: sums modulo a number. Condition: the modulus is at most half of 2^576.
-/
import Derived.Test.YtpfmbfkhjapbbaaGreatDoorSpecN
import Derived.Test.YtpfmbfkhjapbbaaGreatDoorSetStr
import Derived.Deep.RegionHeld3
import Derived.Deep.RegionLaw
import Derived.Deep.DeepCutAuto
set_option linter.unusedVariables false
set_option linter.unusedSimpArgs false
namespace Go.Proofs.YtpfmbfkhjapbbaaGreatDoor
open Go Go.RowKit

/-- A number of nine words is returned. -/
def NRet (v : Nat) (w : World) (e : Ending) (w' : World) : Prop :=
  ∃ h : Nat → Nat, e = .returned (nv h) ∧ (∀ j, j < 9 → h j < B64) ∧ val h 9 = v ∧ Mod NoP w w'

theorem NIs.setNine {w : World} {b : Nat} {f : Nat → Nat} (h : NIs w b f) (g : Nat → Nat) :
    NIs (((((((((w.setCell ⟨b, 0, none⟩ (U (g 0))).setCell ⟨b, 1, none⟩ (U (g 1))).setCell ⟨b, 2, none⟩ (U (g 2))).setCell ⟨b, 3, none⟩ (U (g 3))).setCell ⟨b, 4, none⟩ (U (g 4))).setCell ⟨b, 5, none⟩ (U (g 5))).setCell ⟨b, 6, none⟩ (U (g 6))).setCell ⟨b, 7, none⟩ (U (g 7))).setCell ⟨b, 8, none⟩ (U (g 8))) b g := by
  have h0 := heap_set (heap_set (heap_set (heap_set (heap_set (heap_set (heap_set (heap_set (heap_set h 0 (U (g 0))) 1 (U (g 1))) 2 (U (g 2))) 3 (U (g 3))) 4 (U (g 4))) 5 (U (g 5))) 6 (U (g 6))) 7 (U (g 7))) 8 (U (g 8))
  simpa [NIs, nc] using h0

theorem setNine_mod {M : Places} {a w : World} {b : Nat} (m : Mod M a w) (hb : ∀ o, b < a.heap.size → M b o) (g : Nat → Value) :
    Mod M a (((((((((w.setCell ⟨b, 0, none⟩ (g 0)).setCell ⟨b, 1, none⟩ (g 1)).setCell ⟨b, 2, none⟩ (g 2)).setCell ⟨b, 3, none⟩ (g 3)).setCell ⟨b, 4, none⟩ (g 4)).setCell ⟨b, 5, none⟩ (g 5)).setCell ⟨b, 6, none⟩ (g 6)).setCell ⟨b, 7, none⟩ (g 7)).setCell ⟨b, 8, none⟩ (g 8)) :=
  ((((((((m.setCell (hb _) _).setCell (hb _) _).setCell (hb _) _).setCell (hb _) _).setCell (hb _) _).setCell (hb _) _).setCell (hb _) _).setCell (hb _) _).setCell (hb _) _

/-- Nine words stored. -/
def setNine (w : World) (b : Nat) (g : Nat → Nat) : World :=
  ((((((((w.setCell ⟨b, 0, none⟩ (U (g 0))).setCell ⟨b, 1, none⟩ (U (g 1))).setCell ⟨b, 2, none⟩ (U (g 2))).setCell ⟨b, 3, none⟩ (U (g 3))).setCell ⟨b, 4, none⟩ (U (g 4))).setCell ⟨b, 5, none⟩ (U (g 5))).setCell ⟨b, 6, none⟩ (U (g 6))).setCell ⟨b, 7, none⟩ (U (g 7))).setCell ⟨b, 8, none⟩ (U (g 8))
theorem setNine_fold (w : World) (b : Nat) (g : Nat → Nat) :
    ((((((((w.setCell ⟨b, 0, none⟩ (U (g 0))).setCell ⟨b, 1, none⟩ (U (g 1))).setCell ⟨b, 2, none⟩ (U (g 2))).setCell ⟨b, 3, none⟩ (U (g 3))).setCell ⟨b, 4, none⟩ (U (g 4))).setCell ⟨b, 5, none⟩ (U (g 5))).setCell ⟨b, 6, none⟩ (U (g 6))).setCell ⟨b, 7, none⟩ (U (g 7))).setCell ⟨b, 8, none⟩ (U (g 8)) = setNine w b g := rfl
theorem setNine_is {w : World} {b : Nat} {f : Nat → Nat} (h : NIs w b f) (g : Nat → Nat) : NIs (setNine w b g) b g := h.setNine g
theorem setNine_own (w : World) (b : Nat) (g : Nat → Nat) : Mod (InB b) w (setNine w b g) := setNine_mod (Mod.refl _ w) (fun _ _ => rfl) (fun j => U (g j))

set_option maxRecDepth 100000 in
set_option maxHeartbeats 1000000 in
theorem add9_any (f g m : Nat → Nat) (hf : ∀ j, j < 9 → f j < B64) (hg : ∀ j, j < 9 → g j < B64) (hm : ∀ j, j < 9 → m j < B64) (hfm : val f 9 < val m 9) (hgm : val g 9 < val m 9) (h2 : 2 * val m 9 ≤ B64 ^ 9) (w : World) :
    Calls Tryz.prog 43 #[nv f, nv g, nv m] w (NRet ((val f 9 + val g 9) % val m 9) w) := by
  have hsum : val (addW f g) 9 = val f 9 + val g 9 := by
    have h := add_val f g 9
    have h3 : addC f g 9 ≤ 1 := addC_le hf hg 9 (by omega)
    have h4 : addC f g 9 = 0 := by
      refine Classical.byContradiction fun hne => ?_
      have : addC f g 9 = 1 := by omega
      rw [this] at h
      omega
    rw [h4] at h
    omega
  have hsw : ∀ j, j < 9 → addW f g j < B64 := fun j hj => wAdd_lt _ _ _
  have hS := fun w1 => sum_any f g hf hg w1
  have HS := Lib.hid hS
  clear hS
  generalize hh : addW f g = h at *
  have hdif : val m 9 ≤ val h 9 → val (subW h m) 9 = val h 9 - val m 9 := fun hle => by
    have h1 := sub_val h m 9 hsw hm
    have h3 := subC_le h m 9
    have h5 : val (subW h m) 9 < B64 ^ 9 := val_lt fun j hj => wSub_lt _ _ _
    have h4 : subC h m 9 = 0 := by
      refine Classical.byContradiction fun hne => ?_
      have : subC h m 9 = 1 := by omega
      rw [this] at h1
      omega
    rw [h4] at h1
    omega
  go_enter Tryz.func43, Tryz.ntmps43
  go_wp2_with fail
  obtain ⟨k1, k2, k3, k4, mm⟩ := four_new w (.cells (nc f) 63 (0, 0)) (.cells (nc g) 63 (0, 0)) (.cells (nc m) 63 (0, 0)) zN
  generalize hw4 : (((w.alloc (.cells (nc f) 63 (0, 0))).alloc (.cells (nc g) 63 (0, 0))).alloc (.cells (nc m) 63 (0, 0))).alloc zN = w4 at *
  clear hw4 k1 k2
  have v3 : NIs w4 (w.heap.size + 1 + 1) m := k3
  have v4 : NIs w4 (w.heap.size + 1 + 1 + 1) (fun _ => 0) := k4
  clear k3 k4
  refine (HS.out w4).mono ?_
  rintro e w1 ⟨rfl, m1⟩
  have u3 := v3.mod m1 (fun _ h => h)
  have u4 := v4.mod m1 (fun _ h => h)
  have hl3 := lt_of_heap u3
  have hl4 := lt_of_heap u4
  have mt := mm.trans m1
  clear v3 v4 mm m1
  generalize hb0 : w.heap.size = b0 at *
  generalize hb2 : b0 + 1 + 1 = b2 at *
  generalize hb3 : b2 + 1 = b3 at *
  have A := u3.nine
  obtain ⟨a0, a1, a2, a3, a4, a5, a6, a7, a8⟩ := A
  have hrem : val h 9 < val m 9 → (val f 9 + val g 9) % val m 9 = val h 9 := fun hlt => by rw [← hsum, Nat.mod_eq_of_lt hlt]
  have hrem2 : ¬ val h 9 < val m 9 → (val f 9 + val g 9) % val m 9 = val (subW h m) 9 := fun hlt => by
    rw [hdif (by omega), ← hsum, Nat.mod_eq_sub_mod (by omega), Nat.mod_eq_of_lt (by omega)]
  generalize (val f 9 + val g 9) % val m 9 = r at *
  go_wp2_with fail
  have n1 : NIs (w1.alloc (.cells (nc h) 63 (0, 0))) w1.heap.size h := heap_alloc_new w1 _
  have n3 := u3.mod ((Mod.refl NoP w1).alloc (.cells (nc h) 63 (0, 0))) (fun _ h => h)
  have n4 := u4.mod ((Mod.refl NoP w1).alloc (.cells (nc h) 63 (0, 0))) (fun _ h => h)
  have mn := mt.alloc (.cells (nc h) 63 (0, 0))
  refine (less_any h m hsw hm _).mono ?_
  rintro e w2 ⟨rfl, m2⟩
  have q1 := n1.mod m2 (fun _ h => h)
  have q3 := n3.mod m2 (fun _ h => h)
  have q4 := n4.mod m2 (fun _ h => h)
  have mq := mn.trans m2
  clear n1 n3 n4 mn mt m2 a0 a1 a2 a3 a4 a5 a6 a7 a8 u3 u4
  generalize hb4 : w1.heap.size = b4 at *
  have A := q1.nine
  obtain ⟨a0, a1, a2, a3, a4, a5, a6, a7, a8⟩ := A
  by_cases hlt : val h 9 < val m 9
  · have hr := hrem hlt
    have B := q4.nine
    obtain ⟨d0, d1, d2, d3, d4, d5, d6, d7, d8⟩ := B
    have F := q4.free
    obtain ⟨e0, e1, e2, e3, e4, e5, e6, e7, e8⟩ := F
    have htrue := decide_eq_true hlt
    clear hrem hrem2 hdif
    go_wp2_with fail
    refine bodyPost_ret (v := nv h) (by simp [results, Tryz.results43, go_sem, *]) rfl ⟨h, rfl, hsw, hr.symm, ?_⟩
    exact setNine_mod mq (fun _ hh => by omega) (fun j => U (h j))
  · have hr := hrem2 hlt
    have B := q3.nine
    obtain ⟨d0, d1, d2, d3, d4, d5, d6, d7, d8⟩ := B
    have htrue := decide_eq_false hlt
    clear hrem hrem2 hdif
    go_wp2_with fail
    refine (difference_any h m hsw hm _).mono ?_
    rintro e w3 ⟨rfl, m3⟩
    have t4 := q4.mod m3 (fun _ h => h)
    have mq3 := mq.trans m3
    have hsub : ∀ j, j < 9 → subW h m j < B64 := fun j hj => wSub_lt _ _ _
    clear q1 q3 q4 mq m3 a0 a1 a2 a3 a4 a5 a6 a7 a8 d0 d1 d2 d3 d4 d5 d6 d7 d8
    generalize subW h m = x at *
    have B := t4.nine
    obtain ⟨d0, d1, d2, d3, d4, d5, d6, d7, d8⟩ := B
    have F := t4.free
    obtain ⟨e0, e1, e2, e3, e4, e5, e6, e7, e8⟩ := F
    go_wp2_with fail
    refine bodyPost_ret (v := nv x) (by simp [results, Tryz.results43, go_sem, *]) rfl ⟨x, rfl, hsub, hr.symm, ?_⟩
    exact setNine_mod mq3 (fun _ hh => by omega) (fun j => U (x j))

theorem wraps_u8 (n : Int) (h₀ : 0 ≤ n) (h₁ : n < 2 ^ 8) : IntKind.u8.wrap n = n := by rw [IntKind.wrap_u8]; omega
theorem u8_and1 (x : Nat) (h : x < 256) : bits .and .u8 (x : Int) 1 = ((x % 2 : Nat) : Int) := by
  have h := (bits_nat .u8 8 (by decide) wraps_u8 x 1 (by omega) (by decide)).1
  rw [Nat.and_one_is_mod] at h
  exact h

/-- The number of the first i bytes, the highest first. -/
def beN (f : Nat → Nat) : Nat → Nat
  | 0 => 0
  | i + 1 => beN f i * 256 + f i

theorem three_new (w : World) (o1 o2 o3 : Obj) :
    (((w.alloc o1).alloc o2).alloc o3).heap[w.heap.size]? = some o1 ∧ (((w.alloc o1).alloc o2).alloc o3).heap[w.heap.size + 1]? = some o2 ∧
    (((w.alloc o1).alloc o2).alloc o3).heap[w.heap.size + 1 + 1]? = some o3 ∧ Mod NoP w (((w.alloc o1).alloc o2).alloc o3) := by
  have s1 : (w.alloc o1).heap.size = w.heap.size + 1 := by simp
  have s2 : ((w.alloc o1).alloc o2).heap.size = w.heap.size + 1 + 1 := by simp
  refine ⟨?_, ?_, ?_, (((Mod.refl _ w).alloc _).alloc _).alloc _⟩
  · rw [heap_alloc_old _ _ (by omega), heap_alloc_old _ _ (by omega)]
    exact heap_alloc_new w o1
  · rw [heap_alloc_old _ _ (by omega), ← s1]
    exact heap_alloc_new _ o2
  · rw [← s2]
    exact heap_alloc_new _ o3

@[reducible] def ncl (f : Nat → Nat) : List Value := [U (f 0), U (f 1), U (f 2), U (f 3), U (f 4), U (f 5), U (f 6), U (f 7), U (f 8)]

theorem NIs.range {w : World} {b : Nat} {f : Nat → Nat} (h : NIs w b f) : w.rangeAt b 0 (ncl f) := fun j v hv => by
  rw [cell?_of_heap h, Nat.zero_add, ← hv]
  exact List.getElem?_toArray ..
theorem NIs.there {w : World} {b : Nat} {f : Nat → Nat} (h : NIs w b f) : w.there b 0 9 := fun j hj => ⟨by rw [cell?_of_heap h, Nat.zero_add, nc_at f j hj]; rfl, free_of_heap h _⟩

theorem heldNN {w0 w' : World} {b b' : Nat} {f g : Nat → Nat} (h : NIs w0 b f) (h' : NIs w0 b' g) (m : Mod NoP w0 w') :
    w'.rangeAt b 0 (ncl f) ∧ w'.rangeAt b' 0 (ncl g) ∧ w'.there b 0 9 ∧ Mod NoP w0 w' :=
  ⟨(h.mod m fun _ h => h).range, (h'.mod m fun _ h => h).range, (h.mod m fun _ h => h).there, m⟩

theorem size63 : (Tryz.prog.info? 63).map (·.size) = some 9 := by kernel_rfl

theorem div_succ_bit (x t : Nat) : x / 2 ^ t = 2 * (x / 2 ^ (t + 1)) + x / 2 ^ t % 2 := by
  rw [Nat.pow_succ, ← Nat.div_div_eq_div_mul]
  omega

theorem bit_step (be x t M : Nat) (ht : t < 8) : ((be * 2 ^ (8 - (t + 1)) + x / 2 ^ (t + 1)) % M + (be * 2 ^ (8 - (t + 1)) + x / 2 ^ (t + 1)) % M) % M = (be * 2 ^ (8 - t) + 2 * (x / 2 ^ (t + 1))) % M := by
  have h1 : 8 - t = 8 - (t + 1) + 1 := by omega
  rw [← Nat.add_mod, h1]
  generalize 8 - (t + 1) = d
  generalize x / 2 ^ (t + 1) = y
  congr 1
  have : be * 2 ^ (d + 1) = 2 * (be * 2 ^ d) := by rw [Nat.pow_succ]; ac_rfl
  rw [this]
  omega

theorem bit_step0 (be x t M : Nat) (ht : t < 8) (hb : x / 2 ^ t % 2 = 0) : ((be * 2 ^ (8 - (t + 1)) + x / 2 ^ (t + 1)) % M + (be * 2 ^ (8 - (t + 1)) + x / 2 ^ (t + 1)) % M) % M = (be * 2 ^ (8 - t) + x / 2 ^ t) % M := by
  rw [bit_step be x t M ht, div_succ_bit x t, hb]
  simp

theorem bit_step1 (be x t M : Nat) (ht : t < 8) (hb : x / 2 ^ t % 2 = 1) : (((be * 2 ^ (8 - (t + 1)) + x / 2 ^ (t + 1)) % M + (be * 2 ^ (8 - (t + 1)) + x / 2 ^ (t + 1)) % M) % M + 1) % M = (be * 2 ^ (8 - t) + x / 2 ^ t) % M := by
  rw [bit_step be x t M ht, div_succ_bit x t, hb, Nat.mod_add_mod, Nat.add_assoc]

set_option maxRecDepth 100000 in
set_option maxHeartbeats 1000000 in
theorem mod9_any (b o n c : Nat) (f m : Nat → Nat) (w : World) (hb : Bts w b o n f) (hf : ∀ j, j < n → f j < 256) (hn : n ≤ 1048576) (hm : ∀ j, j < 9 → m j < B64) (hm1 : 1 < val m 9) (h2 : 2 * val m 9 ≤ B64 ^ 9) :
    Calls Tryz.prog 33 #[.slice (some ⟨b, o, none⟩) n c, nv m] w (NRet (beN f n % val m 9) w) := by
  have hbl : 0 < n → b < w.heap.size := fun h => lt_of_cell? (hb 0 h)
  go_enter Tryz.func33, Tryz.ntmps33
  go_wp2_with fail
  obtain ⟨k1, k2, k3, mm⟩ := three_new w (.cells (nc m) 63 (0, 0)) zN zN
  generalize hw4 : ((w.alloc (.cells (nc m) 63 (0, 0))).alloc zN).alloc zN = w4 at *
  clear hw4
  have v1 : NIs w4 w.heap.size m := k1
  have v2 : NIs w4 (w.heap.size + 1) (fun _ => 0) := k2
  have v3 : NIs w4 (w.heap.size + 1 + 1) (fun _ => 0) := k3
  clear k1 k2 k3
  generalize hb0 : w.heap.size = b0 at *
  generalize hb1 : b0 + 1 = b1 at *
  generalize hb2 : b1 + 1 = b2 at *
  go_loopw [6] (fun i wr => ∃ k : Nat, k ≤ n ∧ i = .int .i64 (k : Int) ∧ ∃ h : Nat → Nat, NIs wr b2 h ∧ (∀ j, j < 9 → h j < B64) ∧ val h 9 = beN f k % val m 9 ∧ Mod (InB b2) w4 wr) (fun i _ => n - (intOf i).toNat)
  case atStart => exact ⟨0, by omega, rfl, _, v3, fun _ _ => B64_pos, by simp [beN, val], .refl _ _⟩
  case round =>
    obtain ⟨k, hk, rfl, h, hN, hh, hv, hM⟩ := hrel
    obtain ⟨wo, rfl⟩ : ∃ x, x = wr := ⟨wr, rfl⟩
    by_cases hlt : k < n
    · have d1 : decide ((k : Int) < (n : Int)) = true := decide_eq_true (by omega)
      have hcb := hM.cell_some ((mm.cell_some (hb k hlt) fun h => h)) (fun hh => by have := hbl (by omega); unfold InB at hh; omega)
      have hfk := hf k hlt
      have hBE := Lib.hid (show beN f (k + 1) = beN f k * 256 + f k from rfl)
      generalize f k = x at *
      generalize beN f k = be at *
      go_wp2_with fail
      go_loopw [7] (fun i wx => ∃ t : Nat, t ≤ 8 ∧ i = .int .i64 ((t : Int) - 1) ∧ ∃ h : Nat → Nat, NIs wx b2 h ∧ (∀ j, j < 9 → h j < B64) ∧ val h 9 = (be * 2 ^ (8 - t) + x / 2 ^ t) % val m 9 ∧ Mod (InB b2) wo wx) (fun i _ => (intOf i + 1).toNat)
      case atStart => exact ⟨8, by omega, rfl, h, hN, hh, by rw [hv, Nat.div_eq_of_lt (show x < 2 ^ 8 by omega)]; simp, .refl _ _⟩
      case round =>
        obtain ⟨t1, ht, rfl, h1, hN1, hh1, hv1, hM1⟩ := hrel
        by_cases h0 : 0 < t1
        · obtain ⟨t, rfl⟩ : ∃ t, t1 = t + 1 := ⟨t1 - 1, by omega⟩
          rw [show (((t + 1 : Nat) : Int) - 1) = (t : Int) by omega]
          have hcb1 := hM1.cell_some hcb (fun hh => by have := hbl (by omega); unfold InB at hh; omega)
          have mall : Mod (InB b2) w4 wr := hM.trans hM1
          have u1 := v1.mod mall (fun o hh => by unfold InB at hh; omega)
          obtain ⟨a0, a1, a2, a3, a4, a5, a6, a7, a8⟩ := hN1.nine
          obtain ⟨c0, c1, c2, c3, c4, c5, c6, c7, c8⟩ := u1.nine
          have kg : decide ((t : Int) ≥ 0) = true := decide_eq_true (by omega)
          have hA := add9_any h1 h1 m hh1 hh1 hm (by rw [hv1]; exact Nat.mod_lt _ (by omega)) (by rw [hv1]; exact Nat.mod_lt _ (by omega)) h2 wr
          have HA := Lib.hid hA
          clear hA
          go_wp2_with fail
          refine HA.out.mono ?_
          rintro e w5 ⟨h3, rfl, hh3, hv3, m5⟩
          have hN5 := hN1.mod m5 (fun _ h => h)
          have u5 := u1.mod m5 (fun _ h => h)
          have hcb5 := m5.cell_some hcb1 (fun h => h)
          clear a0 a1 a2 a3 a4 a5 a6 a7 a8 c0 c1 c2 c3 c4 c5 c6 c7 c8 HA
          obtain ⟨a0, a1, a2, a3, a4, a5, a6, a7, a8⟩ := hN5.nine
          obtain ⟨e0, e1, e2, e3, e4, e5, e6, e7, e8⟩ := hN5.free
          go_upto_region 9 with fail
          rw [setNine_fold w5 b2 h3]
          have hN6 := setNine_is hN5 h3
          have m6 : Mod (InB b2) wr (setNine w5 b2 h3) := m5.of_none.trans (setNine_own w5 b2 h3)
          generalize setNine w5 b2 h3 = w6 at *
          have hcb6 := m6.cell_some hcb1 (fun hh => by have := hbl (by omega); unfold InB at hh; omega)
          have u6 := u1.mod m6 (fun o hh => by unfold InB at hh; omega)
          clear a0 a1 a2 a3 a4 a5 a6 a7 a8 e0 e1 e2 e3 e4 e5 e6 e7 e8 hN5 u5 hcb5 m5
          have hxt : (x : Int) / 2 ^ t = ((x / 2 ^ t : Nat) : Int) := by simp
          have hxl : x / 2 ^ t < 256 := Nat.lt_of_le_of_lt (Nat.div_le_self _ _) hfk
          have hand := u8_and1 (x / 2 ^ t) hxl
          rcases Nat.mod_two_eq_zero_or_one (x / 2 ^ t) with hbit | hbit
          · have hcnd : (bits .and .u8 ((x : Int) / 2 ^ t) 1 == 1) = false := by rw [hxt, hand, hbit]; rfl
            clear hand hxt
            go_wp2_with fail
            go_roundw
            case rel => exact ⟨t, by omega, rfl, h3, hN6, hh3, by rw [hv3, hv1]; exact bit_step0 be x t (val m 9) (by omega) hbit, hM1.trans m6⟩
            case measure => simp [intOf]
          · have hcnd : (bits .and .u8 ((x : Int) / 2 ^ t) 1 == 1) = true := by rw [hxt, hand, hbit]; rfl
            clear hand hxt
            go_upto_region 10 with fail
            obtain ⟨a0, a1, a2, a3, a4, a5, a6, a7, a8⟩ := hN6.nine
            obtain ⟨c0, c1, c2, c3, c4, c5, c6, c7, c8⟩ := u6.nine
            have hsm := fun w1 => small_any 1 w1
            have hone : val (fun j => if j = 0 then 1 else 0) 9 = 1 := by decide
            have hadd : ∀ w1, Calls Tryz.prog 43 #[nv h3, nv (fun j => if j = 0 then 1 else 0), nv m] w1 (NRet ((val h3 9 + 1) % val m 9) w1) := fun w1 => by
              have := add9_any h3 (fun j => if j = 0 then 1 else 0) m hh3 (fun j _ => by split <;> decide) hm (by rw [hv3]; exact Nat.mod_lt _ (by omega)) (by rw [hone]; exact hm1) h2 w1
              rwa [hone] at this
            have HADD := Lib.hid hadd
            have HSM := Lib.hid hsm
            clear hadd hsm
            go_region_with (first | (go_at_call 51; refine (HSM.out _).mono ?_; rintro e w7 ⟨rfl, m7⟩; have mm7 := (Mod.refl NoP w6).drew.trans m7; have n7 := (hN6.mod mm7 (fun _ h => h)).nine; obtain ⟨i0, i1, i2, i3, i4, i5, i6, i7, i8⟩ := n7; have n8 := (u6.mod mm7 (fun _ h => h)).nine; obtain ⟨j0, j1, j2, j3, j4, j5, j6, j7, j8⟩ := n8) | (go_at_call 43; refine (HADD.out _).mono ?_; rintro e w8 ⟨h4, rfl, hh4, hv4, m8⟩; have mm8 := mm7.trans m8; have n8 := (hN6.mod mm8 (fun _ h => h)).nine; obtain ⟨p0, p1, p2, p3, p4, p5, p6, p7, p8⟩ := n8; have n9 := (hN6.mod mm8 (fun _ h => h)).free; obtain ⟨q0, q1, q2, q3, q4, q5, q6, q7, q8⟩ := n9))
            all_goals (go_wp2_with fail)
            all_goals exact ⟨⟨t, by omega, rfl, h4, (hN6.mod mm8 (fun _ h => h)).setNine h4, hh4, by rw [hv4, hv3, hv1]; exact bit_step1 be x t (val m 9) (by omega) hbit, hM1.trans (m6.trans (mm8.of_none.trans (setNine_own w8 b2 h4)))⟩, by simp [intOf]⟩
        · obtain rfl : t1 = 0 := by omega
          go_wp2_with fail
          go_roundw
          case rel => exact ⟨k + 1, by omega, by go_num, h1, hN1, hh1, by rw [hv1, hBE.out]; simp, hM.trans hM1⟩
          case measure => simp [intOf]; omega
    · obtain rfl : k = n := by omega
      have d1 : decide ((k : Int) < (k : Int)) = false := decide_eq_false (by omega)
      have n2 := v2.mod hM (fun o hh => by unfold InB at hh; omega)
      obtain ⟨a0, a1, a2, a3, a4, a5, a6, a7, a8⟩ := hN.nine
      obtain ⟨p0, p1, p2, p3, p4, p5, p6, p7, p8⟩ := n2.nine
      obtain ⟨e0, e1, e2, e3, e4, e5, e6, e7, e8⟩ := n2.free
      have mend : Mod NoP w wo := mm.trans' hM fun q r hq hh => by unfold InB at hh; omega
      go_wp2_with fail
      refine bodyPost_ret (v := nv h) (by simp [results, Tryz.results33, go_sem, *]) rfl ⟨h, rfl, hh, hv, ?_⟩
      exact setNine_mod mend (fun _ hh => by omega) (fun j => U (h j))
end Go.Proofs.YtpfmbfkhjapbbaaGreatDoor
