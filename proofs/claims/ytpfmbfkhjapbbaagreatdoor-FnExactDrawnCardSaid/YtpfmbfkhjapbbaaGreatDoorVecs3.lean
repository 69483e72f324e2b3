/-
  addVW and subVW: a word added to a row of words, or taken off. Conditions: the rows are there, equally long; the row that is written is the one that is read, or another array's.
-/
import Derived.Test.YtpfmbfkhjapbbaaGreatDoorVecs2
import Derived.Lib.Builder
import Derived.Deep.RegionHeld3
import Derived.Deep.DeepCutAuto
import Derived.StillTailTactics
set_option linter.unusedVariables false
set_option linter.unusedSimpArgs false
namespace Go.Proofs.YtpfmbfkhjapbbaaGreatDoor
open Go Go.RowKit

/-- copy(z[k:], x[k:]), z and x of different arrays. -/
theorem copyRest_run {w : World} {bz oz cz bx ox cx n cc k o1 o2 : Nat} {f X : Nat → Nat} (hA : Arr w (some ⟨bz, 0, none⟩) cc f) (hfit : oz + n ≤ cc) (hX : Vec w bx ox n X) (hk : k ≤ n) (h1 : k < cz → o1 = oz + k) (h1' : o1 ≤ oz + k) (h2 : k < cx → o2 = ox + k) (hcz : n ≤ cz) (hcx : n ≤ cx) (ty : TypeId) :
    ∃ w', (Builtin.copy_ #[48, 48] ty #[.slice (some ⟨bz, o1, none⟩) (n - k) (cz - k), .slice (some ⟨bx, o2, none⟩) (n - k) (cx - k)]).run Tryz.prog w = .ok (.int .i64 ((n - k : Nat) : Int)) w' ∧ Vec w' bz o1 (n - k) (fun j => X (k + j)) ∧ Mod (InR bz o1 (n - k)) w w' :=
  copyV_run w 48 ty Tryz.underlying48 48 bz o1 (n - k) (cz - k) cc f hA (by omega) bx o2 (cx - k) (fun j => X (k + j)) fun j hj => by
    rw [h2 (by omega), Nat.add_assoc]
    exact hX (k + j) (by omega)

theorem info121'' : ∃ j, Tryz.prog.info? 121 = some j ∧ j.size ≠ 0 := by
  obtain ⟨i0, hi, hz0, hz1, hz2⟩ := info121'
  exact ⟨i0, hi, by omega⟩

/-- &z[0] != &x[0]: whether the arrays differ. -/
theorem ptr_neq {w : World} {bz oz bx ox : Nat} {C D : Array Value} {t u : TypeId} (hz : w.heap[bz]? = some (.cells C t (0, 0))) (hx : w.heap[bx]? = some (.cells D u (0, 0))) (al : bz = bx → oz = ox) :
    (binOp .neq 187 (.pointer (some ⟨bz, oz, none⟩)) (.pointer (some ⟨bx, ox, none⟩))).run Tryz.prog w = .ok (.bool (decide (bz ≠ bx))) w := by
  obtain ⟨j, hj, hs⟩ := info121''
  by_cases he : bz = bx
  · subst he
    obtain rfl := al rfl
    rw [Lib.run_neq_ptr_same w _ Tryz.underlying187 hj]
    simp
  · have h : ∀ d : Nat, (Op.equalIn (d + 1) 187 (.pointer (some ⟨bz, oz, none⟩)) (.pointer (some ⟨bx, ox, none⟩))).run Tryz.prog w = .ok false w := fun d => by
      simp [Op.equalIn, run_underlying Tryz.underlying187, sizeOf, typeInfo, hj, hs, run_sameAddr_other w (a := ⟨bz, oz, none⟩) (b := ⟨bx, ox, none⟩) (fun h => he (congrArg Addr.block h)) hz hx]
    simp only [binOp]
    simp [Op.equal, Op.maxDepth, h 9999, he]

theorem ret_u64 {a b : Nat} (h : a = b) : Ending.returned (U a) = .returned (U b) := by rw [h]

set_option maxRecDepth 100000 in
set_option maxHeartbeats 2000000 in
theorem addVW_any (bz oz cz bx ox cx n cc : Nat) (f X : Nat → Nat) (y : Nat) (w : World) (hA : Arr w (some ⟨bz, 0, none⟩) cc f) (hfit : oz + n ≤ cc) (hX : Vec w bx ox n X) (hB : ∃ D u, w.heap[bx]? = some (.cells D u (0, 0))) (hy : y < B64) (hn : n ≤ 1048576) (hcz : n ≤ cz) (hcx : n ≤ cx) (al : bz = bx → oz = ox) :
    Calls Tryz.prog 124 #[.slice (some ⟨bz, oz, none⟩) n cz, .slice (some ⟨bx, ox, none⟩) n cx, U y] w
      fun e w' => e = .returned (U (awC X y n)) ∧ Vec w' bz oz n (awW X y) ∧ Mod (InR bz oz n) w w' := by
  have hZ : Vec w bz oz n (fun j => f (oz + j)) := fun j hj => by have := hA.vec (oz + j) (by omega); rwa [Nat.zero_add] at this
  have hx := fun j hj => (hX j hj).2.2
  by_cases hn0 : n = 0
  · subst hn0
    clear hA hZ hX
    go_enter Tryz.func124, Tryz.ntmps124
    go_wp2_with fail
    go_ret
    exact ⟨rfl, fun j hj => by omega, Mod.refl _ _⟩
  have hn1 : 0 < n := by omega
  have hw64 : ∀ j, j < n → awW X y j < B64 := fun j hj => wAdd_lt _ _ _
  have ax : Up bz oz bx ox n := fun h => .inl (by have := al h.symm; omega)
  -- the rest, behind k written words
  have hrest : ∀ k wr, k ≤ n → awC X y k = 0 → Written w wr bz oz k (awW X y) → bz ≠ bx → ∀ o1 o2, (k < cz → o1 = oz + k) → o1 ≤ oz + k → (k < cx → o2 = ox + k) →
      ∃ w', (Builtin.copy_ #[48, 48] 3 #[.slice (some ⟨bz, o1, none⟩) (n - k) (cz - k), .slice (some ⟨bx, o2, none⟩) (n - k) (cx - k)]).run Tryz.prog wr = .ok (.int .i64 ((n - k : Nat) : Int)) w' ∧ Vec w' bz oz n (awW X y) ∧ Mod (InR bz oz n) w w' := fun k wr hk h0 hw hne o1 o2 h1 h1' h2 => by
    have hAr : Arr wr (some ⟨bz, 0, none⟩) cc (fun j => if oz ≤ j ∧ j < oz + k then awW X y (j - oz) else f j) := by
      refine hA.turned hw.mod fun j hj => ?_
      have hv := hA.vec j hj
      rw [Nat.zero_add] at hv ⊢
      by_cases h : oz ≤ j ∧ j < oz + k
      · rw [if_pos h]
        have h3 := hw.cells (j - oz) (by omega)
        rw [show oz + (j - oz) = j by omega] at h3
        exact ⟨h3, hw.mod.free hv.1 hv.2.1, hw64 _ (by omega)⟩
      · rw [if_neg h]
        exact ⟨hw.mod.cell_some hv.1 (fun hh => h ⟨hh.2.1, hh.2.2⟩), hw.mod.free hv.1 hv.2.1, hv.2.2⟩
    obtain ⟨w', hr, hV, hm⟩ := copyRest_run (cz := cz) (cx := cx) hAr hfit (hX.mod hw.mod fun j hj h => hne h.1.symm) hk h1 h1' h2 hcz hcx 3
    have hf := hw.rest hZ hk hV (fun h => h1 (by omega)) hm (fun j h3 h4 => by rw [show k + (j - k) = j by omega, aw_same hx h0 h3 h4]) hw64
    exact ⟨w', hr, hf.1, hf.2⟩
  have hstay : ∀ k wr, k ≤ n → awC X y k = 0 → Written w wr bz oz k (awW X y) → bz = bx → Vec wr bz oz n (awW X y) ∧ Mod (InR bz oz n) w wr := fun k wr hk h0 hw he => by
    subst he
    obtain rfl := al rfl
    exact hw.stay hX hk (fun j h3 h4 => (aw_same hx h0 h3 h4).symm) hw64
  have hfirst : Written w (w.setCell ⟨bz, oz, none⟩ (U (awW X y 0))) bz oz 1 (awW X y) := by
    have := (Written.zero w bz oz (awW X y)).step (hZ 0 hn1).1 (x := awW X y 0) rfl
    rwa [Nat.add_zero] at this
  have hstop := fun k (hk : k ≤ n) (h : awC X y k = 0) => aw_stop hx h n hk (Nat.le_refl _)
  have hcx0 := (hX 0 hn1).1
  have hcz0 := (hZ 0 hn1).1
  have hfz0 := (hZ 0 hn1).2.1
  rw [Nat.add_zero] at hcx0 hcz0 hfz0
  have hpt : ∀ M w0, Mod M w w0 → (binOp .neq 187 (.pointer (some ⟨bz, oz, none⟩)) (.pointer (some ⟨bx, ox, none⟩))).run Tryz.prog w0 = .ok (.bool (decide (bz ≠ bx))) w0 := fun M w0 m => by
    obtain ⟨D, u, hb⟩ := hB
    rcases hA with ⟨h, _⟩ | ⟨b', C, t, e, hbz, _, _⟩
    · cases h
    obtain rfl : bz = b' := by simpa using e
    obtain ⟨C', h1, _⟩ := m.cells hbz
    obtain ⟨D', h2, _⟩ := m.cells hb
    exact ptr_neq h1 h2 al
  have HPT := Lib.hid hpt
  have HR := Lib.hid hrest
  have HS := Lib.hid hstay
  have HF := Lib.hid hfirst
  have HST := Lib.hid hstop
  have HX := Lib.hid hX
  have HZ := Lib.hid hZ
  have HW := Lib.hid (show awW X y 0 = awW X y 0 from rfl)
  have HC1 := Lib.hid (show wCar (X 0) y 0 = awC X y 1 from rfl)
  clear hrest hstay hfirst hstop hA hX hZ hpt hB
  have hc1 : awC X y 1 = wCar (X 0) y 0 := rfl
  have hle1 : wCar (X 0) y 0 ≤ 1 := wCar_le (hx 0 hn1) hy (by omega)
  rw [show awW X y 0 = wAdd (X 0) y 0 from rfl] at HF
  have HXX := Lib.hid (show ∀ k, awC X y k = 1 → awW X y k = wAdd (X k) 1 0 ∧ awC X y (k + 1) = wCar (X k) 1 0 from fun k h => ⟨by unfold awW; rw [h], by simp only [awC]; rw [h]⟩)
  generalize hx0 : X 0 = x0 at *
  generalize hzz : f (oz + 0) = z0 at *
  have HX0 := Lib.hid hx0
  have Hc1 := Lib.hid hc1
  clear hx0 hc1 hzz HW HC1
  generalize hw1 : w.setCell ⟨bz, oz, none⟩ (U (wAdd x0 y 0)) = w1 at HF
  have HW1 := Lib.hid hw1
  have m01 := HF.out.mod
  clear hw1
  by_cases hz : wCar x0 y 0 = 0
  · have hb0 : (((wCar x0 y 0 : Nat) : Int) == 0) = true := by simp [hz]
    have Hz := Lib.hid hz
    clear hz
    by_cases he : bz = bx
    · have hp1 : ∀ q, (binOp .neq 187 (.pointer (some ⟨bz, oz, none⟩)) (.pointer (some ⟨bx, ox, none⟩))).run Tryz.prog (w1.drewN q) = .ok (.bool false) (w1.drewN q) := fun q => by
        rw [HPT.out _ _ (m01.drewN q)]
        simp [he]
      have HE := Lib.hid he
      clear he
      go_enter Tryz.func124, Tryz.ntmps124
      go_wp2_with fail
      refine (add_any _ _ 0 (by omega) _).mono ?_
      rintro e w' ⟨rfl, hw'⟩
      obtain rfl := hw'.symm
      go_upto_region 7 with fail
      rw [HW1.out]
      go_wp2_with fail
      go_quiet (fail)
      go_wp2_with fail
      go_ret
      have h2 := HS.out 1 _ (by omega) (Hc1.out.trans Hz.out) (HF.out.drewN nq) HE.out
      exact ⟨ret_u64 (HST.out 1 (by omega) (Hc1.out.trans Hz.out)).symm, h2.1, h2.2⟩
    · have hp1 : ∀ q, (binOp .neq 187 (.pointer (some ⟨bz, oz, none⟩)) (.pointer (some ⟨bx, ox, none⟩))).run Tryz.prog (w1.drewN q) = .ok (.bool true) (w1.drewN q) := fun q => by
        rw [HPT.out _ _ (m01.drewN q)]
        simp [he]
      obtain ⟨o1, hs1, hk1, hl1⟩ := slice_from 48 bz oz n cz 1 (by omega) hcz (.inl rfl) 1 rfl
      obtain ⟨o2, hs2, hk2, hl2⟩ := slice_from 48 bx ox n cx 1 (by omega) hcx (.inl rfl) 1 rfl
      have Hk1 := Lib.hid hk1
      have Hk2 := Lib.hid hk2
      clear hk1 hk2
      go_enter Tryz.func124, Tryz.ntmps124
      go_wp2_with fail
      refine (add_any _ _ 0 (by omega) _).mono ?_
      rintro e w' ⟨rfl, hw'⟩
      obtain rfl := hw'.symm
      go_upto_region 7 with fail
      rw [HW1.out]
      go_wp2_with fail
      go_quiet (fail)
      have hF2 := Lib.hid (HF.out.drewN nq)
      generalize w1.drewN nq = w2 at *
      clear hp1
      go_wp2_with fail
      obtain ⟨w3, hcp, hV3, m3⟩ := HR.out 1 _ (by omega) (Hc1.out.trans Hz.out) hF2.out.drew he o1 o2 Hk1.out hl1 Hk2.out
      go_still_tail 4, (by kernel_rfl)
      simp only [World.drew_eq]
      go_wp2_with (refine wpList_copy rfl (.tmp 40) (.tmp 42) 48 48 rfl _ _ rfl rfl hcp ?_; go_simp)
      go_ret
      exact ⟨ret_u64 (HST.out 1 (by omega) (Hc1.out.trans Hz.out)).symm, hV3, m3⟩
  · have h1c : wCar x0 y 0 = 1 := by omega
    have hb0 : (((wCar x0 y 0 : Nat) : Int) == 0) = false := by simp [h1c]
    have H1c := Lib.hid (Hc1.out.trans h1c)
    clear hz h1c
    go_enter Tryz.func124, Tryz.ntmps124
    go_wp2_with fail
    refine (add_any _ _ 0 (by omega) _).mono ?_
    rintro e w' ⟨rfl, hw'⟩
    obtain rfl := hw'.symm
    go_upto_region 7 with fail
    rw [HW1.out]
    go_wp2_with fail
    go_loopw [9] (fun i wr => ∃ k : Nat, 1 ≤ k ∧ k ≤ n ∧ i = .int .i64 (k : Int) ∧ awC X y k = 1 ∧ Written w wr bz oz k (awW X y)) (fun i _ => n - (intOf i).toNat)
    case atStart => exact ⟨1, Nat.le_refl _, by omega, rfl, H1c.out, HF.out⟩
    case round =>
    obtain ⟨k, hk1, hk, rfl, hck, hw⟩ := hrel
    by_cases hlt : k < n
    · have hcxk := hw.read HX.out ax hlt
      obtain ⟨zk, hczk⟩ := hw.there HZ.out hlt
      have hfzk := hw.free HZ.out hlt
      have HZK := Lib.hid (HZ.out k hlt).1
      have hWk : awW X y k = wAdd (X k) 1 0 := (HXX.out k hck).1
      have hCk : awC X y (k + 1) = wCar (X k) 1 0 := (HXX.out k hck).2
      have hst : IntKind.u64.wrap (((X k : Nat) : Int) + 1) = ((awW X y k : Nat) : Int) := by rw [hWk]; exact wrap_add (X k) 1
      have hnf : X k ≠ 18446744073709551615 → awC X y (k + 1) = 0 := fun h => by rw [hCk]; unfold wCar; exact Nat.div_eq_of_lt (by have := hx k hlt; simp only [B64_eq] at *; omega)
      have hfu : X k = 18446744073709551615 → awC X y (k + 1) = 1 ∧ awW X y k = 0 := fun h => by rw [hCk, hWk, h]; exact ⟨by decide, by decide⟩
      have k0 : (0 : Int) ≤ (k : Int) := by omega
      have k1 : (k : Int) < (n : Int) := by omega
      have k2 : (k : Int).toNat = k := by omega
      have d1 : decide ((k : Int) < (n : Int)) = true := decide_eq_true k1
      have Hw := Lib.hid hw
      have Hck := Lib.hid hck
      clear hWk hCk hw hck
      by_cases hfull : X k = 18446744073709551615
      · have HFU := Lib.hid (hfu hfull)
        rw [hfull] at hcxk
        clear hfu hnf hst hfull
        go_wp2_with fail
        go_roundw
        case rel => exact ⟨k + 1, by omega, by omega, by go_num, HFU.out.1, Hw.out.step HZK.out HFU.out.2.symm⟩
        case measure => simp [intOf]; omega
      · have h0 := Lib.hid (hnf hfull)
        have Hst := Lib.hid hst
        have hne : (((X k : Nat) : Int) == 18446744073709551615) = false := by simp; omega
        have hne2 : (((X k : Nat) : Int) != 18446744073709551615) = true := by simp; omega
        have HW2 := Lib.hid (Hw.out.step (x := awW X y k) HZK.out rfl)
        clear hfu hnf hfull
        generalize awW X y k = wk at *
        generalize X k = xk at *
        generalize hw2 : wr.setCell ⟨bz, oz + k, none⟩ (U wk) = w2 at HW2
        have HWW := Lib.hid hw2
        clear hw2
        have m02 := HW2.out.mod
        have e1 : IntKind.i64.wrap ((k : Int) + 1) = (k : Int) + 1 := IntWalk.i64_in _ (by omega)
        by_cases he : bz = bx
        · have hp1 : ∀ q, (binOp .neq 187 (.pointer (some ⟨bz, oz, none⟩)) (.pointer (some ⟨bx, ox, none⟩))).run Tryz.prog (w2.drewN q) = .ok (.bool false) (w2.drewN q) := fun q => by
            rw [HPT.out _ _ (m02.drewN q)]
            simp [he]
          have HE := Lib.hid he
          clear he
          go_upto_region 17 with fail
          rw [HWW.out]
          go_quiet (fail)
          go_wp2_with fail
          go_ret
          have h2 := HS.out (k + 1) _ (by omega) h0.out (HW2.out.drewN nq) HE.out
          exact ⟨ret_u64 (HST.out (k + 1) (by omega) h0.out).symm, h2.1, h2.2⟩
        · have hp1 : ∀ q, (binOp .neq 187 (.pointer (some ⟨bz, oz, none⟩)) (.pointer (some ⟨bx, ox, none⟩))).run Tryz.prog (w2.drewN q) = .ok (.bool true) (w2.drewN q) := fun q => by
            rw [HPT.out _ _ (m02.drewN q)]
            simp [he]
          obtain ⟨o1, hs1, hk1', hl1⟩ := slice_from 48 bz oz n cz (k + 1) (by omega) hcz (.inl rfl) ((k : Int) + 1) (by omega)
          obtain ⟨o2, hs2, hk2', hl2⟩ := slice_from 48 bx ox n cx (k + 1) (by omega) hcx (.inl rfl) ((k : Int) + 1) (by omega)
          have Hk1 := Lib.hid hk1'
          have Hk2 := Lib.hid hk2'
          clear hk1' hk2'
          go_upto_region 17 with fail
          rw [HWW.out]
          go_quiet (fail)
          have hF2 := Lib.hid (HW2.out.drewN nq)
          generalize w2.drewN nq = w3 at *
          clear hp1
          go_wp2_with fail
          obtain ⟨w4, hcp, hV3, m3⟩ := HR.out (k + 1) _ (by omega) h0.out hF2.out.drew he o1 o2 Hk1.out hl1 Hk2.out
          go_still_tail 8, (by kernel_rfl)
          simp only [World.drew_eq]
          go_wp2_with (refine wpList_copy rfl (.tmp 69) (.tmp 73) 48 48 rfl _ _ rfl rfl hcp ?_; go_simp)
          go_ret
          exact ⟨ret_u64 (HST.out (k + 1) (by omega) h0.out).symm, hV3, m3⟩
    · obtain rfl : k = n := by omega
      have d1 : decide ((k : Int) < (k : Int)) = false := decide_eq_false (by omega)
      have hvec := hw.vec HZ.out hw64
      have hmod := hw.mod
      have Hck := Lib.hid hck
      clear hw hck
      go_wp2_with fail
      go_ret
      exact ⟨ret_u64 Hck.out.symm, hvec, hmod⟩

set_option maxRecDepth 100000 in
set_option maxHeartbeats 2000000 in
theorem subVW_any (bz oz cz bx ox cx n cc : Nat) (f X : Nat → Nat) (y : Nat) (w : World) (hA : Arr w (some ⟨bz, 0, none⟩) cc f) (hfit : oz + n ≤ cc) (hX : Vec w bx ox n X) (hB : ∃ D u, w.heap[bx]? = some (.cells D u (0, 0))) (hy : y < B64) (hn : n ≤ 1048576) (hcz : n ≤ cz) (hcx : n ≤ cx) (al : bz = bx → oz = ox) :
    Calls Tryz.prog 126 #[.slice (some ⟨bz, oz, none⟩) n cz, .slice (some ⟨bx, ox, none⟩) n cx, U y] w
      fun e w' => e = .returned (U (swC X y n)) ∧ Vec w' bz oz n (swW X y) ∧ Mod (InR bz oz n) w w' := by
  have hZ : Vec w bz oz n (fun j => f (oz + j)) := fun j hj => by have := hA.vec (oz + j) (by omega); rwa [Nat.zero_add] at this
  have hx := fun j hj => (hX j hj).2.2
  by_cases hn0 : n = 0
  · subst hn0
    clear hA hZ hX
    go_enter Tryz.func126, Tryz.ntmps126
    go_wp2_with fail
    go_ret
    exact ⟨rfl, fun j hj => by omega, Mod.refl _ _⟩
  have hn1 : 0 < n := by omega
  have hw64 : ∀ j, j < n → swW X y j < B64 := fun j hj => wSub_lt _ _ _
  have ax : Up bz oz bx ox n := fun h => .inl (by have := al h.symm; omega)
  -- the rest, behind k written words
  have hrest : ∀ k wr, k ≤ n → swC X y k = 0 → Written w wr bz oz k (swW X y) → bz ≠ bx → ∀ o1 o2, (k < cz → o1 = oz + k) → o1 ≤ oz + k → (k < cx → o2 = ox + k) →
      ∃ w', (Builtin.copy_ #[48, 48] 3 #[.slice (some ⟨bz, o1, none⟩) (n - k) (cz - k), .slice (some ⟨bx, o2, none⟩) (n - k) (cx - k)]).run Tryz.prog wr = .ok (.int .i64 ((n - k : Nat) : Int)) w' ∧ Vec w' bz oz n (swW X y) ∧ Mod (InR bz oz n) w w' := fun k wr hk h0 hw hne o1 o2 h1 h1' h2 => by
    have hAr : Arr wr (some ⟨bz, 0, none⟩) cc (fun j => if oz ≤ j ∧ j < oz + k then swW X y (j - oz) else f j) := by
      refine hA.turned hw.mod fun j hj => ?_
      have hv := hA.vec j hj
      rw [Nat.zero_add] at hv ⊢
      by_cases h : oz ≤ j ∧ j < oz + k
      · rw [if_pos h]
        have h3 := hw.cells (j - oz) (by omega)
        rw [show oz + (j - oz) = j by omega] at h3
        exact ⟨h3, hw.mod.free hv.1 hv.2.1, hw64 _ (by omega)⟩
      · rw [if_neg h]
        exact ⟨hw.mod.cell_some hv.1 (fun hh => h ⟨hh.2.1, hh.2.2⟩), hw.mod.free hv.1 hv.2.1, hv.2.2⟩
    obtain ⟨w', hr, hV, hm⟩ := copyRest_run (cz := cz) (cx := cx) hAr hfit (hX.mod hw.mod fun j hj h => hne h.1.symm) hk h1 h1' h2 hcz hcx 3
    have hf := hw.rest hZ hk hV (fun h => h1 (by omega)) hm (fun j h3 h4 => by rw [show k + (j - k) = j by omega, sw_same hx h0 h3 h4]) hw64
    exact ⟨w', hr, hf.1, hf.2⟩
  have hstay : ∀ k wr, k ≤ n → swC X y k = 0 → Written w wr bz oz k (swW X y) → bz = bx → Vec wr bz oz n (swW X y) ∧ Mod (InR bz oz n) w wr := fun k wr hk h0 hw he => by
    subst he
    obtain rfl := al rfl
    exact hw.stay hX hk (fun j h3 h4 => (sw_same hx h0 h3 h4).symm) hw64
  have hfirst : Written w (w.setCell ⟨bz, oz, none⟩ (U (swW X y 0))) bz oz 1 (swW X y) := by
    have := (Written.zero w bz oz (swW X y)).step (hZ 0 hn1).1 (x := swW X y 0) rfl
    rwa [Nat.add_zero] at this
  have hstop := fun k (hk : k ≤ n) (h : swC X y k = 0) => sw_stop h n hk
  have hcx0 := (hX 0 hn1).1
  have hcz0 := (hZ 0 hn1).1
  have hfz0 := (hZ 0 hn1).2.1
  rw [Nat.add_zero] at hcx0 hcz0 hfz0
  have hpt : ∀ M w0, Mod M w w0 → (binOp .neq 187 (.pointer (some ⟨bz, oz, none⟩)) (.pointer (some ⟨bx, ox, none⟩))).run Tryz.prog w0 = .ok (.bool (decide (bz ≠ bx))) w0 := fun M w0 m => by
    obtain ⟨D, u, hb⟩ := hB
    rcases hA with ⟨h, _⟩ | ⟨b', C, t, e, hbz, _, _⟩
    · cases h
    obtain rfl : bz = b' := by simpa using e
    obtain ⟨C', h1, _⟩ := m.cells hbz
    obtain ⟨D', h2, _⟩ := m.cells hb
    exact ptr_neq h1 h2 al
  have HPT := Lib.hid hpt
  have HR := Lib.hid hrest
  have HS := Lib.hid hstay
  have HF := Lib.hid hfirst
  have HST := Lib.hid hstop
  have HX := Lib.hid hX
  have HZ := Lib.hid hZ
  have HW := Lib.hid (show swW X y 0 = swW X y 0 from rfl)
  have HC1 := Lib.hid (show wBor (X 0) y 0 = swC X y 1 from rfl)
  clear hrest hstay hfirst hstop hA hX hZ hpt hB
  have hc1 : swC X y 1 = wBor (X 0) y 0 := rfl
  have hle1 : wBor (X 0) y 0 ≤ 1 := wBor_le _ _ _
  rw [show swW X y 0 = wSub (X 0) y 0 from rfl] at HF
  have HXX := Lib.hid (show ∀ k, swC X y k = 1 → swW X y k = wSub (X k) 1 0 ∧ swC X y (k + 1) = wBor (X k) 1 0 from fun k h => ⟨by unfold swW; rw [h], by simp only [swC]; rw [h]⟩)
  generalize hx0 : X 0 = x0 at *
  generalize hzz : f (oz + 0) = z0 at *
  have HX0 := Lib.hid hx0
  have Hc1 := Lib.hid hc1
  clear hx0 hc1 hzz HW HC1
  generalize hw1 : w.setCell ⟨bz, oz, none⟩ (U (wSub x0 y 0)) = w1 at HF
  have HW1 := Lib.hid hw1
  have m01 := HF.out.mod
  clear hw1
  by_cases hz : wBor x0 y 0 = 0
  · have hb0 : (((wBor x0 y 0 : Nat) : Int) == 0) = true := by simp [hz]
    have Hz := Lib.hid hz
    clear hz
    by_cases he : bz = bx
    · have hp1 : ∀ q, (binOp .neq 187 (.pointer (some ⟨bz, oz, none⟩)) (.pointer (some ⟨bx, ox, none⟩))).run Tryz.prog (w1.drewN q) = .ok (.bool false) (w1.drewN q) := fun q => by
        rw [HPT.out _ _ (m01.drewN q)]
        simp [he]
      have HE := Lib.hid he
      clear he
      go_enter Tryz.func126, Tryz.ntmps126
      go_wp2_with fail
      refine (sub_any _ _ 0 (by omega) _).mono ?_
      rintro e w' ⟨rfl, hw'⟩
      obtain rfl := hw'.symm
      go_upto_region 7 with fail
      rw [HW1.out]
      go_wp2_with fail
      go_quiet (fail)
      go_wp2_with fail
      go_ret
      have h2 := HS.out 1 _ (by omega) (Hc1.out.trans Hz.out) (HF.out.drewN nq) HE.out
      exact ⟨ret_u64 (HST.out 1 (by omega) (Hc1.out.trans Hz.out)).symm, h2.1, h2.2⟩
    · have hp1 : ∀ q, (binOp .neq 187 (.pointer (some ⟨bz, oz, none⟩)) (.pointer (some ⟨bx, ox, none⟩))).run Tryz.prog (w1.drewN q) = .ok (.bool true) (w1.drewN q) := fun q => by
        rw [HPT.out _ _ (m01.drewN q)]
        simp [he]
      obtain ⟨o1, hs1, hk1, hl1⟩ := slice_from 48 bz oz n cz 1 (by omega) hcz (.inl rfl) 1 rfl
      obtain ⟨o2, hs2, hk2, hl2⟩ := slice_from 48 bx ox n cx 1 (by omega) hcx (.inl rfl) 1 rfl
      have Hk1 := Lib.hid hk1
      have Hk2 := Lib.hid hk2
      clear hk1 hk2
      go_enter Tryz.func126, Tryz.ntmps126
      go_wp2_with fail
      refine (sub_any _ _ 0 (by omega) _).mono ?_
      rintro e w' ⟨rfl, hw'⟩
      obtain rfl := hw'.symm
      go_upto_region 7 with fail
      rw [HW1.out]
      go_wp2_with fail
      go_quiet (fail)
      have hF2 := Lib.hid (HF.out.drewN nq)
      generalize w1.drewN nq = w2 at *
      clear hp1
      go_wp2_with fail
      obtain ⟨w3, hcp, hV3, m3⟩ := HR.out 1 _ (by omega) (Hc1.out.trans Hz.out) hF2.out.drew he o1 o2 Hk1.out hl1 Hk2.out
      go_still_tail 4, (by kernel_rfl)
      simp only [World.drew_eq]
      go_wp2_with (refine wpList_copy rfl (.tmp 40) (.tmp 42) 48 48 rfl _ _ rfl rfl hcp ?_; go_simp)
      go_ret
      exact ⟨ret_u64 (HST.out 1 (by omega) (Hc1.out.trans Hz.out)).symm, hV3, m3⟩
  · have h1c : wBor x0 y 0 = 1 := by omega
    have hb0 : (((wBor x0 y 0 : Nat) : Int) == 0) = false := by simp [h1c]
    have H1c := Lib.hid (Hc1.out.trans h1c)
    clear hz h1c
    go_enter Tryz.func126, Tryz.ntmps126
    go_wp2_with fail
    refine (sub_any _ _ 0 (by omega) _).mono ?_
    rintro e w' ⟨rfl, hw'⟩
    obtain rfl := hw'.symm
    go_upto_region 7 with fail
    rw [HW1.out]
    go_wp2_with fail
    go_loopw [9] (fun i wr => ∃ k : Nat, 1 ≤ k ∧ k ≤ n ∧ i = .int .i64 (k : Int) ∧ swC X y k = 1 ∧ Written w wr bz oz k (swW X y)) (fun i _ => n - (intOf i).toNat)
    case atStart => exact ⟨1, Nat.le_refl _, by omega, rfl, H1c.out, HF.out⟩
    case round =>
    obtain ⟨k, hk1, hk, rfl, hck, hw⟩ := hrel
    by_cases hlt : k < n
    · have hcxk := hw.read HX.out ax hlt
      obtain ⟨zk, hczk⟩ := hw.there HZ.out hlt
      have hfzk := hw.free HZ.out hlt
      have HZK := Lib.hid (HZ.out k hlt).1
      have hWk : swW X y k = wSub (X k) 1 0 := (HXX.out k hck).1
      have hCk : swC X y (k + 1) = wBor (X k) 1 0 := (HXX.out k hck).2
      have hnf : X k ≠ 0 → swC X y (k + 1) = 0 := fun h => by rw [hCk]; unfold wBor; rw [if_neg (by omega)]
      have hst : X k ≠ 0 → IntKind.u64.wrap (((X k : Nat) : Int) - 1) = ((swW X y k : Nat) : Int) := fun h => by
        rw [hWk, IntKind.wrap_u64]; unfold wSub; have := hx k hlt; simp only [B64_eq] at *; omega
      have hfu : X k = 0 → swC X y (k + 1) = 1 ∧ swW X y k = 18446744073709551615 := fun h => by rw [hCk, hWk, h]; exact ⟨by decide, by decide⟩
      have k0 : (0 : Int) ≤ (k : Int) := by omega
      have k1 : (k : Int) < (n : Int) := by omega
      have k2 : (k : Int).toNat = k := by omega
      have d1 : decide ((k : Int) < (n : Int)) = true := decide_eq_true k1
      have Hw := Lib.hid hw
      have Hck := Lib.hid hck
      clear hWk hCk hw hck
      by_cases hfull : X k = 0
      · have HFU := Lib.hid (hfu hfull)
        rw [hfull] at hcxk
        clear hfu hnf hst hfull
        go_wp2_with fail
        go_roundw
        case rel => exact ⟨k + 1, by omega, by omega, by go_num, HFU.out.1, Hw.out.step HZK.out HFU.out.2.symm⟩
        case measure => simp [intOf]; omega
      · have h0 := Lib.hid (hnf hfull)
        have hst := hst hfull
        have Hst := Lib.hid hst
        have hne : (((X k : Nat) : Int) == 0) = false := by simp; omega
        have hne2 : (((X k : Nat) : Int) != 0) = true := by simp; omega
        have HW2 := Lib.hid (Hw.out.step (x := swW X y k) HZK.out rfl)
        clear hfu hnf hfull
        generalize swW X y k = wk at *
        generalize X k = xk at *
        generalize hw2 : wr.setCell ⟨bz, oz + k, none⟩ (U wk) = w2 at HW2
        have HWW := Lib.hid hw2
        clear hw2
        have m02 := HW2.out.mod
        have e1 : IntKind.i64.wrap ((k : Int) + 1) = (k : Int) + 1 := IntWalk.i64_in _ (by omega)
        by_cases he : bz = bx
        · have hp1 : ∀ q, (binOp .neq 187 (.pointer (some ⟨bz, oz, none⟩)) (.pointer (some ⟨bx, ox, none⟩))).run Tryz.prog (w2.drewN q) = .ok (.bool false) (w2.drewN q) := fun q => by
            rw [HPT.out _ _ (m02.drewN q)]
            simp [he]
          have HE := Lib.hid he
          clear he
          go_upto_region 17 with fail
          rw [HWW.out]
          go_quiet (fail)
          go_wp2_with fail
          go_ret
          have h2 := HS.out (k + 1) _ (by omega) h0.out (HW2.out.drewN nq) HE.out
          exact ⟨ret_u64 (HST.out (k + 1) (by omega) h0.out).symm, h2.1, h2.2⟩
        · have hp1 : ∀ q, (binOp .neq 187 (.pointer (some ⟨bz, oz, none⟩)) (.pointer (some ⟨bx, ox, none⟩))).run Tryz.prog (w2.drewN q) = .ok (.bool true) (w2.drewN q) := fun q => by
            rw [HPT.out _ _ (m02.drewN q)]
            simp [he]
          obtain ⟨o1, hs1, hk1', hl1⟩ := slice_from 48 bz oz n cz (k + 1) (by omega) hcz (.inl rfl) ((k : Int) + 1) (by omega)
          obtain ⟨o2, hs2, hk2', hl2⟩ := slice_from 48 bx ox n cx (k + 1) (by omega) hcx (.inl rfl) ((k : Int) + 1) (by omega)
          have Hk1 := Lib.hid hk1'
          have Hk2 := Lib.hid hk2'
          clear hk1' hk2'
          go_upto_region 17 with fail
          rw [HWW.out]
          go_quiet (fail)
          have hF2 := Lib.hid (HW2.out.drewN nq)
          generalize w2.drewN nq = w3 at *
          clear hp1
          go_wp2_with fail
          obtain ⟨w4, hcp, hV3, m3⟩ := HR.out (k + 1) _ (by omega) h0.out hF2.out.drew he o1 o2 Hk1.out hl1 Hk2.out
          go_still_tail 8, (by kernel_rfl)
          simp only [World.drew_eq]
          go_wp2_with (refine wpList_copy rfl (.tmp 69) (.tmp 73) 48 48 rfl _ _ rfl rfl hcp ?_; go_simp)
          go_ret
          exact ⟨ret_u64 (HST.out (k + 1) (by omega) h0.out).symm, hV3, m3⟩
    · obtain rfl : k = n := by omega
      have d1 : decide ((k : Int) < (k : Int)) = false := decide_eq_false (by omega)
      have hvec := hw.vec HZ.out hw64
      have hmod := hw.mod
      have Hck := Lib.hid hck
      clear hw hck
      go_wp2_with fail
      go_ret
      exact ⟨ret_u64 Hck.out.symm, hvec, hmod⟩

end Go.Proofs.YtpfmbfkhjapbbaaGreatDoor
