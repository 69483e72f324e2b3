/-
  big's nat.rsh by less than a word, and slices.Reverse on words. Conditions: a shift between 1 and 63 bits; at most 10^6 words.
-/
import Derived.Test.YtpfmbfkhjapbbaaGreatDoorShift
set_option linter.unusedVariables false
set_option linter.unusedSimpArgs false
namespace Go.Proofs.YtpfmbfkhjapbbaaGreatDoor
open Go Go.RowKit

theorem blk_of {w : World} {z : Option Addr} {b : Nat} (hf : some (⟨b, 0, none⟩ : Addr) = z ∨ Fresh w (some ⟨b, 0, none⟩)) (hb : b < w.heap.size) (o : Nat) : BlkOf z b o := by
  rcases hf with e | ⟨k, e, hk⟩
  · exact ⟨_, e.symm, rfl⟩
  · obtain rfl : b = k := congrArg Addr.block (Option.some.inj e)
    omega

set_option maxHeartbeats 400000 in
theorem rsh_any (az ax : Option Addr) (nz cz nx cx s vx : Nat) (w : World) (fz fx : Nat → Nat) (hZ : Arr w az cz fz) (hnz : nz ≤ cz) (hX : NatIs w ax nx cx fx vx) (hs : nx ≤ 1000000) (h1 : 0 < s) (h2 : s < 64) :
    Calls Tryz.prog 113 #[.slice az nz cz, .slice ax nx cx, U s] w (NatRet w az (vx / 2 ^ s)) := by
  have hs0 : ((s : Int) == 0) = false := by simp; omega
  have hsd : (s : Int) / 64 = 0 := by omega
  have hsm : (s : Int) % 64 = (s : Int) := by omega
  by_cases hx0 : nx = 0
  · subst hx0
    have hv : vx = 0 := hX.zero_iff.1 rfl
    have hz := slice_zero az nz cz hZ hnz
    have HN := Lib.hid (NatIs.zero hZ)
    have hq := Lib.hid (show 0 = vx / 2 ^ s by rw [hv]; simp)
    clear hZ hv
    go_enter Tryz.func113, Tryz.ntmps113
    go_wp2
    go_ret
    rw [← hq.out]
    exact .mk HN.out (.refl _ _) (.inl rfl)
  · have hnx : ¬ (nx ≤ 0) := by omega
    obtain ⟨bx, rfl⟩ := hX.arr.form (by have := hX.le; omega)
    have hle := hX.le
    go_enter Tryz.func113, Tryz.ntmps113
    go_wp2_with fail
    refine (make_any az nz cz nx _ fz hZ hnz (by omega)).mono ?_
    rintro e w1 ⟨a', c', f', rfl, hA', hm, hmod, hfr⟩
    obtain ⟨b, rfl⟩ := hA'.form (by omega)
    have hX1 := hX.mod hmod (Off.noP _)
    go_wp2_with fail
    refine (rshVU_any b 0 c' bx 0 cx nx s fx f' _ (hX1.arr.vec.take hX1.le) (hA'.vec.take hm) (by omega) (by omega) h1 h2 (fun _ => .inl (Nat.le_refl _))).mono ?_
    rintro e w2 ⟨⟨c0, rfl⟩, hw, hmod2⟩
    have hA2 := hA'.wrote hw hmod2
    have HV := Lib.hid (show val (splice (shrW fx nx s) nx f') nx = vx / 2 ^ s by rw [val_splice _ _ (Nat.le_refl _), shr_val _ _ _ h1 h2, hX.val])
    go_wp2_with fail
    refine (norm_any _ nx c' _ _ hA2 hm (by omega)).mono ?_
    rintro e w4 hr4
    obtain ⟨a, n, c, f, rfl, h3, h4, h5⟩ := hr4.ret HV.out (mod_wrote hmod hfr hmod2) hfr
    go_wp2
    go_ret
    exact .mk h3 h4 h5

/-- The words turned round. -/
def revW (f : Nat → Nat) (n : Nat) (j : Nat) : Nat := if j < n then f (n - 1 - j) else f j
def revTo (f : Nat → Nat) (n k : Nat) (j : Nat) : Nat := if j < n ∧ (j < k ∨ n - 1 - k < j) then f (n - 1 - j) else f j

theorem revTo_step (f : Nat → Nat) {n k : Nat} (h : k + k + 1 < n) : put (put (revTo f n k) k (f (n - 1 - k))) (n - 1 - k) (f k) = revTo f n (k + 1) := by
  funext j
  unfold put revTo
  by_cases h1 : j = n - 1 - k
  · rw [if_pos h1, if_pos ⟨by omega, .inr (by omega)⟩]
    congr 1; omega
  · rw [if_neg h1]
    by_cases h2 : j = k
    · rw [if_pos h2, if_pos ⟨by omega, .inl (by omega)⟩]
      congr 1; omega
    · rw [if_neg h2]
      by_cases h3 : j < n ∧ (j < k ∨ n - 1 - k < j)
      · rw [if_pos h3, if_pos ⟨h3.1, by omega⟩]
      · rw [if_neg h3, if_neg (by omega)]

theorem revTo_end (f : Nat → Nat) {n k : Nat} (h : ¬ k + k + 1 < n) (hk : k + k ≤ n + 1) : revTo f n k = revW f n := by
  funext j
  unfold revTo revW
  by_cases h1 : j < n
  · rw [if_pos h1]
    by_cases h3 : j < k ∨ n - 1 - k < j
    · rw [if_pos ⟨h1, h3⟩]
    · rw [if_neg (by omega)]
      congr 1; omega
  · rw [if_neg h1, if_neg (by omega)]

set_option maxRecDepth 100000 in
set_option maxHeartbeats 1000000 in
theorem reverse_any (b n c : Nat) (w : World) (f : Nat → Nat) (hA : Arr w (some ⟨b, 0, none⟩) c f) (hn : n ≤ c) (hs : n ≤ 1048576) :
    Calls Tryz.prog 138 #[.slice (some ⟨b, 0, none⟩) n c] w fun e w' => e = .returned (.tuple #[]) ∧ Arr w' (some ⟨b, 0, none⟩) c (revW f n) ∧ Mod (InB b) w w' := by
  go_enter Tryz.func138, Tryz.ntmps138
  go_wp2
  go_loopw [2, 3] (fun i j wr => ∃ k : Nat, k + k ≤ n + 1 ∧ i = .int .i64 (k : Int) ∧ j = .int .i64 ((n : Int) - 1 - (k : Int)) ∧ Hid (Arr wr (some ⟨b, 0, none⟩) c (revTo f n k) ∧ Mod (InB b) w wr)) (fun i _ _ => n - (intOf i).toNat)
  case atStart => exact ⟨0, by omega, rfl, by simp, by
    have e : revTo f n 0 = f := by funext j; unfold revTo; rw [if_neg (by omega)]
    rw [e]; exact ⟨hA, .refl _ _⟩⟩
  case round =>
    obtain ⟨k, hk, rfl, rfl, hinv⟩ := hrel
    by_cases hlt : k + k + 1 < n
    · obtain ⟨j, hj⟩ : ∃ j, n = j + 1 + k := ⟨n - 1 - k, by omega⟩
      have hji : ((n : Int) - 1 - (k : Int)) = (j : Int) := by omega
      have hkj : k < j := by omega
      have hjn : j < n := by omega
      have hv := hinv.out.1.vec
      have hci := (hv k (by omega)).1
      have hcj := (hv j (by omega)).1
      have hfi := (hv k (by omega)).2.1
      have hfj := (hv j (by omega)).2.1
      rw [Nat.zero_add] at hci hcj hfi hfj
      have e1 : revTo f n k k = f k := by unfold revTo; rw [if_neg (by omega)]
      have e2 : revTo f n k j = f j := by unfold revTo; rw [if_neg (by omega)]
      rw [e1] at hci
      rw [e2] at hcj
      have hlk : f k < B64 := by rw [← e1]; exact (hv k (by omega)).2.2
      have hlj : f j < B64 := by rw [← e2]; exact (hv j (by omega)).2.2
      have HS := Lib.hid (revTo_step f hlt)
      have Hj := Lib.hid hj
      have Hji := Lib.hid hji
      have Hlt := Lib.hid hlt
      clear hv e1 e2 hj hlt
      rw [hji]
      clear hji
      generalize hx : f k = x at *
      generalize hy : f j = y at *
      have Hx := Lib.hid hx
      have Hy := Lib.hid hy
      clear hx hy
      go_wp2_with fail
      go_region
      go_wp2_with fail
      go_roundw
      case rel =>
        refine ⟨k + 1, by have := Hlt.out; omega, by go_num, by rw [← Hji.out]; congr 1; omega, ?_⟩
        have hA1 := ((hinv.out.1).store (i := k) hlj).store (i := j) hlk
        have hm1 := ((hinv.out.2).setCell (b := b) (o := k) (fun _ => rfl) (U y)).setCell (b := b) (o := j) (fun _ => rfl) (U x)
        have ej : n - 1 - k = j := by have := Hj.out; omega
        have hR : put (put (revTo f n k) k y) j x = revTo f n (k + 1) := by
          rw [← HS.out, ej, Hy.out]
        rw [hR] at hA1
        exact ⟨hA1, hm1.drew⟩
      case measure => simp [intOf]; omega
    · have hd : decide ((k : Int) < (n : Int) - 1 - (k : Int)) = false := decide_eq_false (by omega)
      go_wp2_with fail
      go_end0
      rw [revTo_end f hlt hk] at hinv
      exact ⟨rfl, hinv.out.1, hinv.out.2⟩
end Go.Proofs.YtpfmbfkhjapbbaaGreatDoor
