/-
  nat: cmp, set, add, sub. Conditions: normal numbers of at most 10^6 words; z an array of its own.
-/
import Derived.Test.YtpfmbfkhjapbbaaGreatDoorVecs3
import Derived.Test.YtpfmbfkhjapbbaaGreatDoorReadA
set_option linter.unusedVariables false
set_option linter.unusedSimpArgs false
namespace Go.Proofs.YtpfmbfkhjapbbaaGreatDoor
open Go Go.RowKit

/-- -1, 0, 1 as the first number is less, equal, greater. -/
def cmpV (x y : Nat) : Int := if x < y then -1 else if y < x then 1 else 0
theorem cmpV_lt {x y : Nat} (h : x < y) : cmpV x y = -1 := by unfold cmpV; rw [if_pos h]
theorem cmpV_gt {x y : Nat} (h : y < x) : cmpV x y = 1 := by unfold cmpV; rw [if_neg (by omega), if_pos h]
theorem cmpV_eq (x : Nat) : cmpV x x = 0 := by unfold cmpV; rw [if_neg (by omega), if_neg (by omega)]

theorem NatIs.ge {w : World} {a : Option Addr} {n c v : Nat} {f : Nat → Nat} (h : NatIs w a n c f v) (hn : 0 < n) : B64 ^ (n - 1) ≤ v := by
  rw [← h.val]
  rcases h.top with h1 | h1
  · omega
  · have := le_val_of_top (f := f) (n := n - 1) h1
    rwa [show n - 1 + 1 = n by omega] at this
theorem NatIs.less_len {w w' : World} {a b : Option Addr} {n m c d v u : Nat} {f g : Nat → Nat} (h : NatIs w a n c f v) (h' : NatIs w' b m d g u) (hlt : n < m) : v < u := by
  have h1 := h.lt
  have h2 := h'.ge (by omega)
  have h3 : B64 ^ n ≤ B64 ^ (m - 1) := Nat.pow_le_pow_right B64_pos (by omega)
  omega

set_option maxRecDepth 100000 in
set_option maxHeartbeats 1000000 in
theorem cmp_any (a b : Option Addr) (n c m d v u : Nat) (f g : Nat → Nat) (w : World) (hX : NatIs w a n c f v) (hY : NatIs w b m d g u) (hn : n ≤ 1000000) (hm : m ≤ 1000000) :
    Calls Tryz.prog 110 #[.slice a n c, .slice b m d] w fun e w' => e = .returned (.int .i64 (cmpV v u)) ∧ ∃ q, w' = w.drewN q := by
  rcases Nat.lt_trichotomy n m with hlt | heq | hgt
  · have hv := hX.less_len hY hlt
    rw [cmpV_lt hv]
    have hb : ((n : Int) != (m : Int)) = true := by simp; omega
    have hd : decide ((n : Int) < (m : Int)) = true := decide_eq_true (by omega)
    clear hX hY hv
    go_enter Tryz.func110, Tryz.ntmps110
    go_wp2_with fail
    go_ret
    exact ⟨rfl, 0, rfl⟩
  · subst heq
    by_cases h0 : n = 0
    · subst h0
      have e1 : v = 0 := hX.zero_iff.1 rfl
      have e2 : u = 0 := hY.zero_iff.1 rfl
      subst e1 e2
      rw [cmpV_eq]
      clear hX hY
      go_enter Tryz.func110, Tryz.ntmps110
      go_wp2_with fail
      go_ret
      exact ⟨rfl, 0, rfl⟩
    · obtain ⟨ba, rfl⟩ := hX.arr.form (by have := hX.le; omega)
      obtain ⟨bb, rfl⟩ := hY.arr.form (by have := hY.le; omega)
      have hXv := hX.arr.vec.take hX.le
      have hYv := hY.arr.vec.take hY.le
      have hb0 : ((n : Int) == 0) = false := by simp; omega
      have hfin : ∀ k, k < n → (∀ j, k + 1 ≤ j → j < n → f j = g j) → (k = 0 ∨ f k ≠ g k) → (f k < g k → v < u) ∧ (g k < f k → u < v) ∧ (f k = g k → v = u) := fun k hk hj hor => by
        rw [← hX.val, ← hY.val]
        refine ⟨fun h => val_lt_of_word (fun j h => (hXv j h).2.2) hk hj h, fun h => val_lt_of_word (fun j h => (hYv j h).2.2) hk (fun j h1 h2 => (hj j h1 h2).symm) h, fun h => val_congr fun j hjn => ?_⟩
        rcases hor with rfl | hne
        · by_cases e : j = 0
          · rw [e, h]
          · exact hj j (by omega) hjn
        · exact absurd h hne
      have HF := Lib.hid hfin
      have HX := Lib.hid hXv
      have HY := Lib.hid hYv
      clear hX hY hfin hXv hYv
      go_enter Tryz.func110, Tryz.ntmps110
      go_wp2_with fail
      go_loopw [7] (fun i wr => ∃ k : Nat, k < n ∧ i = .int .i64 (k : Int) ∧ (∀ j, k + 1 ≤ j → j < n → f j = g j) ∧ Drew w wr) (fun i _ => (intOf i).toNat)
      case atStart => exact ⟨n - 1, by omega, by congr 1; omega, fun j h1 h2 => by omega, .refl _⟩
      case round =>
      obtain ⟨k, hk, rfl, hj, hw⟩ := hrel
      have hcx := hw.cell (HX.out k hk).1
      have hcy := hw.cell (HY.out k hk).1
      rw [Nat.zero_add] at hcx hcy
      have k0 : (0 : Int) ≤ (k : Int) := by omega
      have k1 : (k : Int) < (n : Int) := by omega
      have k2 : (k : Int).toNat = k := by omega
      have Hj := Lib.hid hj
      have Hw := Lib.hid hw
      clear hj hw
      by_cases hp : 0 < k ∧ f k = g k
      · obtain ⟨hp, he⟩ := hp
        have HE := Lib.hid he
        rw [he] at hcx
        clear he
        generalize hy : g k = y at *
        have Hy := Lib.hid hy
        clear hy
        have dp : decide ((k : Int) > 0) = true := decide_eq_true (by omega)
        go_wp2_with fail
        go_quiet (fail)
        go_wp2_with fail
        go_roundw
        case rel => exact ⟨k - 1, by omega, by congr 1; omega, fun j h1 h2 => by
          by_cases e : j = k
          · rw [e]; exact HE.out.trans Hy.out.symm
          · exact Hj.out j (by omega) h2, Hw.out.more _⟩
        case measure => simp [intOf]; omega
      · have HFk := Lib.hid (HF.out k hk Hj.out (by omega))
        clear HF
        by_cases hk0 : k = 0
        · have dp : decide (0 < (k : Int)) = false := decide_eq_false (by omega)
          have dp' : decide (0 < k) = false := decide_eq_false (by omega)
          clear hp
          generalize hx : f k = x at *
          generalize hy : g k = y at *
          have Hx := Lib.hid hx
          have Hy := Lib.hid hy
          clear hx hy hk0
          rcases Nat.lt_trichotomy x y with hxy | hxy | hxy
          · have c1 : decide ((x : Int) < (y : Int)) = true := decide_eq_true (by omega)
            have HV := Lib.hid (cmpV_lt (HFk.out.1 hxy)).symm
            clear HFk
            go_wp2_with fail
            go_quiet (fail)
            have Hw1 := Lib.hid (Hw.out.more nq)
            generalize wr.drewN nq = w2 at *
            clear Hw
            have e1 := Hw1.out.cell (HX.out k hk).1
            have e2 := Hw1.out.cell (HY.out k hk).1
            rw [Nat.zero_add, Hx.out] at e1
            rw [Nat.zero_add, Hy.out] at e2
            go_wp2_with fail
            go_quiet (fail)
            have Hw2 := Lib.hid (Hw1.out.more nq)
            generalize w2.drewN nq = w3 at *
            clear Hw1 e1 e2
            go_wp2_with fail
            go_ret
            obtain ⟨q, hq⟩ := Hw2.out
            exact ⟨ret_i64 HV.out, q, hq⟩
          · subst hxy
            have c1 : decide ((x : Int) < (x : Int)) = false := decide_eq_false (by omega)
            have c2 : decide ((x : Int) > (x : Int)) = false := decide_eq_false (by omega)
            have HV := Lib.hid (show (0 : Int) = cmpV v u by rw [HFk.out.2.2 rfl, cmpV_eq])
            clear HFk
            go_wp2_with fail
            go_quiet (fail)
            have Hw1 := Lib.hid (Hw.out.more nq)
            generalize wr.drewN nq = w2 at *
            clear Hw
            have e1 := Hw1.out.cell (HX.out k hk).1
            have e2 := Hw1.out.cell (HY.out k hk).1
            rw [Nat.zero_add, Hx.out] at e1
            rw [Nat.zero_add, Hy.out] at e2
            go_wp2_with fail
            go_quiet (fail)
            have Hw2 := Lib.hid (Hw1.out.more nq)
            generalize w2.drewN nq = w3 at *
            clear Hw1 e1 e2
            have e1 := Hw2.out.cell (HX.out k hk).1
            have e2 := Hw2.out.cell (HY.out k hk).1
            rw [Nat.zero_add, Hx.out] at e1
            rw [Nat.zero_add, Hy.out] at e2
            go_wp2_with fail
            go_quiet (fail)
            have Hw3 := Lib.hid (Hw2.out.more nq)
            generalize w3.drewN nq = w4 at *
            go_wp2_with fail
            go_ret
            obtain ⟨q, hq⟩ := Hw3.out
            exact ⟨ret_i64 HV.out, q, hq⟩
          · have c1 : decide ((x : Int) < (y : Int)) = false := decide_eq_false (by omega)
            have c2 : decide ((x : Int) > (y : Int)) = true := decide_eq_true (by omega)
            have HV := Lib.hid (cmpV_gt (HFk.out.2.1 hxy)).symm
            clear HFk
            go_wp2_with fail
            go_quiet (fail)
            have Hw1 := Lib.hid (Hw.out.more nq)
            generalize wr.drewN nq = w2 at *
            clear Hw
            have e1 := Hw1.out.cell (HX.out k hk).1
            have e2 := Hw1.out.cell (HY.out k hk).1
            rw [Nat.zero_add, Hx.out] at e1
            rw [Nat.zero_add, Hy.out] at e2
            go_wp2_with fail
            go_quiet (fail)
            have Hw2 := Lib.hid (Hw1.out.more nq)
            generalize w2.drewN nq = w3 at *
            clear Hw1 e1 e2
            have e1 := Hw2.out.cell (HX.out k hk).1
            have e2 := Hw2.out.cell (HY.out k hk).1
            rw [Nat.zero_add, Hx.out] at e1
            rw [Nat.zero_add, Hy.out] at e2
            go_wp2_with fail
            go_quiet (fail)
            have Hw3 := Lib.hid (Hw2.out.more nq)
            generalize w3.drewN nq = w4 at *
            go_wp2_with fail
            go_ret
            obtain ⟨q, hq⟩ := Hw3.out
            exact ⟨ret_i64 HV.out, q, hq⟩
        · have dp : decide (0 < (k : Int)) = true := decide_eq_true (by omega)
          have dp' : decide (0 < k) = true := decide_eq_true (by omega)
          have hne : f k ≠ g k := fun h => hp ⟨by omega, h⟩
          clear hp
          generalize hx : f k = x at *
          generalize hy : g k = y at *
          have Hx := Lib.hid hx
          have Hy := Lib.hid hy
          clear hx hy hk0
          have hbe : ((x : Int) == (y : Int)) = false := by simp; omega
          rcases Nat.lt_or_gt_of_ne hne with hxy | hxy
          · have c1 : decide ((x : Int) < (y : Int)) = true := decide_eq_true (by omega)
            have HV := Lib.hid (cmpV_lt (HFk.out.1 hxy)).symm
            clear HFk
            go_wp2_with fail
            go_quiet (fail)
            have Hw1 := Lib.hid (Hw.out.more nq)
            generalize wr.drewN nq = w2 at *
            clear Hw
            have e1 := Hw1.out.cell (HX.out k hk).1
            have e2 := Hw1.out.cell (HY.out k hk).1
            rw [Nat.zero_add, Hx.out] at e1
            rw [Nat.zero_add, Hy.out] at e2
            go_wp2_with fail
            go_quiet (fail)
            have Hw2 := Lib.hid (Hw1.out.more nq)
            generalize w2.drewN nq = w3 at *
            clear Hw1 e1 e2
            go_wp2_with fail
            go_ret
            obtain ⟨q, hq⟩ := Hw2.out
            exact ⟨ret_i64 HV.out, q, hq⟩
          · have c1 : decide ((x : Int) < (y : Int)) = false := decide_eq_false (by omega)
            have c2 : decide ((x : Int) > (y : Int)) = true := decide_eq_true (by omega)
            have HV := Lib.hid (cmpV_gt (HFk.out.2.1 hxy)).symm
            clear HFk
            go_wp2_with fail
            go_quiet (fail)
            have Hw1 := Lib.hid (Hw.out.more nq)
            generalize wr.drewN nq = w2 at *
            clear Hw
            have e1 := Hw1.out.cell (HX.out k hk).1
            have e2 := Hw1.out.cell (HY.out k hk).1
            rw [Nat.zero_add, Hx.out] at e1
            rw [Nat.zero_add, Hy.out] at e2
            go_wp2_with fail
            go_quiet (fail)
            have Hw2 := Lib.hid (Hw1.out.more nq)
            generalize w2.drewN nq = w3 at *
            clear Hw1 e1 e2
            have e1 := Hw2.out.cell (HX.out k hk).1
            have e2 := Hw2.out.cell (HY.out k hk).1
            rw [Nat.zero_add, Hx.out] at e1
            rw [Nat.zero_add, Hy.out] at e2
            go_wp2_with fail
            go_quiet (fail)
            have Hw3 := Lib.hid (Hw2.out.more nq)
            generalize w3.drewN nq = w4 at *
            go_wp2_with fail
            go_ret
            obtain ⟨q, hq⟩ := Hw3.out
            exact ⟨ret_i64 HV.out, q, hq⟩
  · have hv := hY.less_len hX hgt
    rw [cmpV_gt hv]
    have hb : ((n : Int) != (m : Int)) = true := by simp; omega
    have hd : decide ((n : Int) < (m : Int)) = false := decide_eq_false (by omega)
    have hd' : decide ((n : Int) > (m : Int)) = true := decide_eq_true (by omega)
    clear hX hY hv
    go_enter Tryz.func110, Tryz.ntmps110
    go_wp2_with fail
    go_ret
    exact ⟨rfl, 0, rfl⟩
end Go.Proofs.YtpfmbfkhjapbbaaGreatDoor
