/-
  Shifts of rows of words: big's rshVU, rsh. Conditions: a shift between 1 and 63 bits.
-/
import Derived.Test.YtpfmbfkhjapbbaaGreatDoorPow
import Derived.StillTailTactics
set_option linter.unusedVariables false
set_option linter.unusedSimpArgs false
namespace Go.Proofs.YtpfmbfkhjapbbaaGreatDoor
open Go Go.RowKit

theorem u64_and63 (x : Nat) (h : x < 18446744073709551616) : bits .and .u64 (x : Int) 63 = ((x % 64 : Nat) : Int) := by
  have h := u64_and_nat x 63 h (by decide)
  rw [show (63 : Nat) = 2 ^ 6 - 1 from rfl, Nat.and_two_pow_sub_one_eq_mod] at h
  exact h

def shrW (X : Nat → Nat) (n s : Nat) (k : Nat) : Nat := X k / 2 ^ s + (if k + 1 < n then X (k + 1) * 2 ^ (64 - s) % B64 else 0)

theorem or_shr (x y s : Nat) (hx : x < B64) (h1 : 0 < s) (h2 : s < 64) :
    bits .or .u64 ((x : Int) / 2 ^ s) (IntKind.u64.wrap ((y : Int) * 2 ^ (64 - s))) = ((x / 2 ^ s + y * 2 ^ (64 - s) % B64 : Nat) : Int) := by
  have hp : 2 ^ (64 - s) * 2 ^ s = B64 := by rw [← Nat.pow_add, show 64 - s + s = 64 by omega]; rfl
  have hps : 0 < 2 ^ s := Nat.two_pow_pos s
  have hx' : x / 2 ^ s < 2 ^ (64 - s) := Nat.div_lt_of_lt_mul (by rw [Nat.mul_comm, hp]; exact hx)
  have hb : y * 2 ^ (64 - s) % B64 = 2 ^ (64 - s) * (y % 2 ^ s) := by
    rw [← hp, Nat.mul_comm y, Nat.mul_mod_mul_left]
  have hlt : y * 2 ^ (64 - s) % B64 < B64 := Nat.mod_lt _ B64_pos
  have e1 : (x : Int) / 2 ^ s = ((x / 2 ^ s : Nat) : Int) := by simp
  have e2 : IntKind.u64.wrap ((y : Int) * 2 ^ (64 - s)) = ((y * 2 ^ (64 - s) % B64 : Nat) : Int) := by
    have := wrap_mul y (2 ^ (64 - s))
    simpa [wMul] using this
  have h64 : 2 ^ (64 - s) ≤ B64 := by rw [B64_pow]; exact Nat.pow_le_pow_right (by omega) (by omega)
  rw [e1, e2, (bits_nat .u64 64 (by decide) (fun n h h' => by rw [IntKind.wrap_u64]; omega) _ _ (by rw [← B64_pow]; omega) (by rw [← B64_pow]; exact hlt)).2]
  congr 1
  rw [hb, Nat.or_comm, ← Nat.two_pow_add_eq_or_of_lt hx']
  omega

/-- The last word: nothing comes in from above. -/
theorem shr_word (x s : Nat) : (x : Int) / 2 ^ s = ((x / 2 ^ s : Nat) : Int) := by simp

theorem shrW_lt (X : Nat → Nat) {n s : Nat} (h1 : 0 < s) (h2 : s < 64) {k : Nat} (hx : X k < B64) : shrW X n s k < B64 := by
  have hp : 2 ^ (64 - s) * 2 ^ s = B64 := by rw [← Nat.pow_add, show 64 - s + s = 64 by omega]; rfl
  have hx' : X k / 2 ^ s < 2 ^ (64 - s) := Nat.div_lt_of_lt_mul (by rw [Nat.mul_comm, hp]; exact hx)
  unfold shrW
  split
  · have hb : X (k + 1) * 2 ^ (64 - s) % B64 = 2 ^ (64 - s) * (X (k + 1) % 2 ^ s) := by
      rw [← hp, Nat.mul_comm (X (k + 1)), Nat.mul_mod_mul_left]
    have hm : X (k + 1) % 2 ^ s + 1 ≤ 2 ^ s := Nat.mod_lt _ (Nat.two_pow_pos s)
    have := Nat.mul_le_mul_left (2 ^ (64 - s)) hm
    rw [Nat.mul_add, hp] at this
    omega
  · have := Nat.pow_le_pow_right (n := 2) (by omega) (show 64 - s ≤ 64 by omega)
    rw [← B64_pow] at this
    omega


set_option maxRecDepth 100000 in
set_option maxHeartbeats 400000 in
theorem rshVU_g_any (bz oz cz bx ox cx n s : Nat) (X Z : Nat → Nat) (w : World)
   (hX : Vec w bx ox n X) (hZ : Vec w bz oz n Z) (hn : n < 4611686018427387904) (hn0 : 0 < n) (h1 : 0 < s) (h2 : s < 64) (ax : Up bz oz bx ox n) :
    Calls Tryz.prog 143 #[.slice (some ⟨bz, oz, none⟩) n cz, .slice (some ⟨bx, ox, none⟩) n cx, U s] w
      fun e w' => (∃ c, e = .returned (U c)) ∧ Vec w' bz oz n (shrW X n s) ∧ Mod (InR bz oz n) w w' := by
  have hs : bits .and .u64 (s : Int) 63 = (s : Int) := by rw [u64_and63 s (by omega), Nat.mod_eq_of_lt h2]
  have hs' : bits .and .u64 (64 - (s : Int)) 63 = 64 - (s : Int) := by
    have := u64_and63 (64 - s) (by omega)
    rw [Nat.mod_eq_of_lt (by omega)] at this
    rw [show (64 - (s : Int)) = ((64 - s : Nat) : Int) by omega, this]
  have hx0 := (hX 0 hn0).1
  rw [Nat.add_zero] at hx0
  have hs0 : ((s : Int) == 0) = false := by simp; omega
  have hn0' : ((n : Int) == 0) = false := by simp; omega
  go_enter Tryz.func143, Tryz.ntmps143
  go_wp2
  go_loopw [8] (fun i wr => ∃ j : Nat, j + 1 ≤ n ∧ i = .int .i64 ((j : Int) + 1) ∧ Written w wr bz oz j (shrW X n s)) (fun i _ => n - (intOf i).toNat)
  case atStart => exact ⟨0, by omega, rfl, .zero _ _ _ _⟩
  case round =>
    obtain ⟨j, hj, rfl, hw⟩ := hrel
    have hj' : j < n := by omega
    have hcx := hw.read hX ax hj'
    have hi1 : ((j : Int) + 1 - 1) = (j : Int) := by omega
    obtain ⟨zk, hcz⟩ := hw.there hZ hj'
    have hfz := hw.free hZ hj'
    have HZ := Lib.hid (hZ j hj').1
    have Hw := Lib.hid hw
    by_cases hlt : j + 1 < n
    · have hcx1 : wr.cell? ⟨bx, ox + (j + 1), none⟩ = some (U (X (j + 1))) :=
        hw.mod.cell_some (hX (j + 1) hlt).1 fun ⟨a, b, c⟩ => by have := ax a; omega
      have Hs := Lib.hid (show X j / 2 ^ s + X (j + 1) * 2 ^ (64 - s) % B64 = shrW X n s j by simp [shrW, hlt])
      clear hw
      have hxl := (hX j hj').2.2
      generalize X j = xj at *
      generalize X (j + 1) = xk at *
      have hwj : IntKind.i64.wrap (j : Int) = (j : Int) := IntWalk.i64_in _ (by omega)
      have hj1 : (0 : Int) ≤ (j : Int) + 1 := by omega
      have hj2 : (j : Int) + 1 < (n : Int) := by omega
      have hj3 : ((j : Int) + 1).toNat = j + 1 := by omega
      go_wp2_with fail
      go_still_tail 18, (by kernel_rfl)
      simp only [World.drew_eq]
      go_wp2_with fail
      go_roundw
      case rel => exact ⟨j + 1, by omega, by go_num, Hw.out.drew.step' (f := shrW X n s) HZ.out (by rw [or_shr _ _ _ hxl h1 h2, Hs.out])⟩
      case measure => simp [intOf]; omega
    · obtain rfl : n = j + 1 := by omega
      clear hw
      have Hs := Lib.hid (show X j / 2 ^ s = shrW X (j + 1) s j by simp [shrW])
      generalize X j = xj at *
      go_wp2_with fail
      go_ret
      have hst := Hw.out.step' (f := shrW X (j + 1) s) HZ.out (u := .int .u64 ((xj : Int) / 2 ^ s)) (by rw [shr_word, Hs.out])
      exact ⟨⟨X 0 * 2 ^ (64 - s) % B64, by
        have := wrap_mul (X 0) (2 ^ (64 - s))
        simpa [wMul] using this⟩, hst.vec hZ (fun i hi => shrW_lt X h1 h2 (hX i hi).2.2), hst.mod⟩

theorem rshVU_any (bz oz cz bx ox cx n s : Nat) (X Z : Nat → Nat) (w : World)
   (hX : Vec w bx ox n X) (hZ : Vec w bz oz n Z) (hn : n < 4611686018427387904) (hn0 : 0 < n) (h1 : 0 < s) (h2 : s < 64) (ax : Up bz oz bx ox n) :
    Calls Tryz.prog 128 #[.slice (some ⟨bz, oz, none⟩) n cz, .slice (some ⟨bx, ox, none⟩) n cx, U s] w
      fun e w' => (∃ c, e = .returned (U c)) ∧ Vec w' bz oz n (shrW X n s) ∧ Mod (InR bz oz n) w w' := by
  go_enter Tryz.func128, Tryz.ntmps128
  go_wp2_with fail
  refine (rshVU_g_any bz oz cz bx ox cx n s X Z _ hX hZ hn hn0 h1 h2 ax).mono ?_
  rintro e w' ⟨⟨c, rfl⟩, h3, h4⟩
  go_wp2
  go_ret
  exact ⟨⟨c, rfl⟩, h3, h4⟩

theorem shr_val (X : Nat → Nat) (n s : Nat) (h1 : 0 < s) (h2 : s < 64) : val (shrW X n s) n = val X n / 2 ^ s := by
  have hp : 2 ^ (64 - s) * 2 ^ s = B64 := by rw [← Nat.pow_add, show 64 - s + s = 64 by omega]; rfl
  have hps : 0 < 2 ^ s := Nat.two_pow_pos s
  -- the words above m, shifted, and what the word m loses
  have key : ∀ m k, k + m = n → val (fun j => shrW X n s (k + j)) m = val (fun j => X (k + j)) m / 2 ^ s := by
    intro m
    induction m with
    | zero => intro k _; simp [val]
    | succ m ih =>
      intro k hk
      have h := ih (k + 1) (by omega)
      have e1 := val_add (fun j => shrW X n s (k + j)) 1 m
      have e2 := val_add (fun j => X (k + j)) 1 m
      rw [Nat.add_comm 1 m] at e1 e2
      simp only [val_one, Nat.pow_one, Nat.add_zero] at e1 e2
      have e3 : (fun j => shrW X n s (k + (1 + j))) = fun j => shrW X n s (k + 1 + j) := by funext j; rw [Nat.add_assoc]
      have e4 : (fun j => X (k + (1 + j))) = fun j => X (k + 1 + j) := by funext j; rw [Nat.add_assoc]
      rw [e1, e2, e3, e4, h]
      generalize hv : val (fun j => X (k + 1 + j)) m = v
      have hq : X k / 2 ^ s + (if k + 1 < n then X (k + 1) * 2 ^ (64 - s) % B64 else 0) + B64 * (v / 2 ^ s) = (X k + B64 * v) / 2 ^ s := by
        have hB : B64 * v = 2 ^ s * (2 ^ (64 - s) * v) := by rw [← hp]; ac_rfl
        rw [hB, Nat.add_mul_div_left _ _ hps]
        have hv2 : 2 ^ (64 - s) * v = 2 ^ (64 - s) * (v % 2 ^ s) + B64 * (v / 2 ^ s) := by
          have h5 := Nat.div_add_mod v (2 ^ s)
          rw [← hp, Nat.mul_assoc, ← Nat.mul_add]
          congr 1
          omega
        rw [hv2]
        have hx : (if k + 1 < n then X (k + 1) * 2 ^ (64 - s) % B64 else 0) = 2 ^ (64 - s) * (v % 2 ^ s) := by
          split
          · obtain ⟨m', rfl⟩ : ∃ m', m = m' + 1 := ⟨m - 1, by omega⟩
            have e5 := val_add (fun j => X (k + 1 + j)) 1 m'
            rw [Nat.add_comm 1 m'] at e5
            simp only [val_one, Nat.pow_one, Nat.add_zero] at e5
            rw [← hv, e5, ← hp, Nat.mul_comm (X (k + 1)), Nat.mul_mod_mul_left]
            congr 1
            rw [Nat.mul_comm (2 ^ (64 - s)), Nat.mul_assoc, Nat.add_mul_mod_self_left]
          · obtain rfl : m = 0 := by omega
            rw [← hv]; simp [val]
        rw [hx]; omega
      exact hq
  have h := key n 0 (by omega)
  simpa using h
end Go.Proofs.YtpfmbfkhjapbbaaGreatDoor
