/-
  big's maxPow at 10, and pow modulo 2^64. Conditions: words below 2^64, an exponent below 2^40.
-/
import Derived.Test.YtpfmbfkhjapbbaaGreatDoorNats
set_option linter.unusedVariables false
set_option linter.unusedSimpArgs false
namespace Go.Proofs.YtpfmbfkhjapbbaaGreatDoor
open Go Go.RowKit

def wMul (x y : Nat) : Nat := x * y % B64
theorem wMul_lt (x y : Nat) : wMul x y < B64 := Nat.mod_lt _ B64_pos
theorem wrap_mul (x y : Nat) : IntKind.u64.wrap ((x : Int) * (y : Int)) = ((wMul x y : Nat) : Int) := by
  rw [IntKind.wrap_u64]
  unfold wMul
  rw [B64_eq, ← Int.natCast_mul]
  omega
theorem wrap_add (x y : Nat) : IntKind.u64.wrap ((x : Int) + (y : Int)) = ((wAdd x y 0 : Nat) : Int) := by
  rw [IntKind.wrap_u64]
  unfold wAdd
  rw [B64_eq]
  omega

theorem maxPow_ten (w : World) : Calls Tryz.prog 135 #[U 10] w fun e w' => e = .returned (.tuple #[U 10000000000000000000, .int .i64 19]) ∧ w' = w := by
  go_enter Tryz.func135, Tryz.ntmps135
  go_wp2
  go_loop [2, 3] (fun p n => ∃ k : Nat, 1 ≤ k ∧ k ≤ 19 ∧ p = U (10 ^ k) ∧ n = .int .i64 (k : Int)) (fun _ n => 19 - (intOf n).toNat)
  case atStart => exact ⟨1, by omega, by omega, rfl, rfl⟩
  case round =>
    obtain ⟨k, h1, h2, rfl, rfl⟩ := hrel
    by_cases hk : k < 19
    · have hp : 10 ^ k ≤ 1000000000000000000 := Nat.le_trans (Nat.pow_le_pow_right (by omega) (show k ≤ 18 by omega)) (by decide)
      have hs := Lib.hid (Nat.pow_succ 10 k)
      generalize 10 ^ k = p at *
      go_wp2
      go_round
      case rel => exact ⟨k + 1, by omega, by omega, by rw [hs.out]; simp, by go_num⟩
      case measure => simp [intOf]; omega
    · obtain rfl : k = 19 := by omega
      go_wp2
      go_ret2
      exact ⟨rfl, rfl⟩

theorem pow_step {P X N : Nat} (h : N ≠ 0) : (P * X ^ N) % B64 = ((if N % 2 = 1 then wMul P X else P) * (wMul X X) ^ (N / 2)) % B64 := by
  have hN := Nat.div_add_mod N 2
  have h2 : X ^ (2 * (N / 2)) = (X * X) ^ (N / 2) := by rw [Nat.pow_mul, Nat.pow_two]
  rcases Nat.mod_two_eq_zero_or_one N with h0 | h1
  · rw [if_neg (by omega)]
    have : X ^ N = (X * X) ^ (N / 2) := by rw [← h2]; congr 1; omega
    rw [this]; unfold wMul
    rw [Nat.mul_mod, Nat.pow_mod, ← Nat.mul_mod]
  · rw [if_pos h1]
    have : X ^ N = X * (X * X) ^ (N / 2) := by
      rw [← h2, Nat.mul_comm, ← Nat.pow_succ]; congr 1; omega
    rw [this, ← Nat.mul_assoc]; unfold wMul
    simp [Nat.mul_mod, Nat.pow_mod]

theorem wraps_i64 (n : Int) (h₀ : 0 ≤ n) (h₁ : n < 2 ^ 63) : IntKind.i64.wrap n = n := by rw [IntKind.wrap_i64]; omega
theorem i64_and1 (x : Nat) (h : x < 1099511627776) : bits .and .i64 (x : Int) 1 = ((x % 2 : Nat) : Int) := by
  have h := (bits_nat .i64 63 (by decide) wraps_i64 x 1 (by omega) (by decide)).1
  rw [Nat.and_one_is_mod] at h
  exact h

theorem pow_any (x n : Nat) (hx : x < B64) (hn : n < 1099511627776) (w : World) :
    Calls Tryz.prog 137 #[U x, .int .i64 (n : Int)] w fun e w' => e = .returned (U (x ^ n % B64)) ∧ w' = w := by
  go_enter Tryz.func137, Tryz.ntmps137
  go_wp2
  go_loop [0, 1, 4] (fun xv nv pv => ∃ X N P : Nat, xv = U X ∧ nv = .int .i64 (N : Int) ∧ pv = U P ∧ N ≤ n ∧ Hid (X < B64 ∧ P < B64 ∧ P * X ^ N % B64 = x ^ n % B64)) (fun _ nv _ => (intOf nv).toNat)
  case atStart => exact ⟨x, n, 1, rfl, rfl, rfl, Nat.le_refl _, hx, by decide, by simp⟩
  case round =>
    obtain ⟨X, N, P, rfl, rfl, rfl, hN, hinv⟩ := hrel
    have hm1 := wrap_mul P X
    have hm2 := wrap_mul X X
    by_cases h0 : N ≤ 0
    · have hf : Hid (x ^ n % B64 = P) := by
        have h := hinv.out
        rw [show N = 0 by omega, Nat.pow_zero, Nat.mul_one, Nat.mod_eq_of_lt h.2.1] at h
        exact h.2.2.symm
      go_wp2
      go_ret
      exact ⟨by rw [hf.out]; rfl, rfl⟩
    · have ha := i64_and1 N (by omega)
      have hs := Lib.hid (pow_step (P := P) (X := X) (N := N) (by omega))
      have hd : (N : Int) / 2 = ((N / 2 : Nat) : Int) := by omega
      have HD := Lib.hid hd
      clear hd
      rcases Nat.mod_two_eq_zero_or_one N with h2 | h2
      · have hb : (bits .and .i64 (N : Int) 1 != 0) = false := by rw [ha, h2]; rfl
        have H2 := Lib.hid h2
        clear h2 ha
        go_wp2
        go_round
        case rel => exact ⟨wMul X X, N / 2, P, rfl, by rw [HD.out], rfl, by omega, wMul_lt _ _, hinv.out.2.1, by rw [← hinv.out.2.2, hs.out, if_neg (by rw [H2.out]; decide)]⟩
        case measure => simp [intOf]; omega
      · have hb : (bits .and .i64 (N : Int) 1 != 0) = true := by rw [ha, h2]; rfl
        have H2 := Lib.hid h2
        clear h2 ha
        go_wp2
        go_round
        case rel => exact ⟨wMul X X, N / 2, wMul P X, rfl, by rw [HD.out], rfl, by omega, wMul_lt _ _, wMul_lt _ _, by rw [← hinv.out.2.2, hs.out, if_pos H2.out]⟩
        case measure => simp [intOf]; omega
end Go.Proofs.YtpfmbfkhjapbbaaGreatDoor
