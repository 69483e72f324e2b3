/-
  Rows of bytes as numbers, the highest byte first: which of two is less, when one is 0, the number that the specification's ofBytes makes. No condition; no program in sight.
-/
import Derived.Test.YtpfmbfkhjapbbaaGreatDoorNumWalk
set_option linter.unusedVariables false
namespace Go.Proofs.YtpfmbfkhjapbbaaGreatDoor
open Go Go.RowKit

theorem beN_lt {f : Nat → Nat} {n : Nat} (h : ∀ j, j < n → f j < 256) : beN f n < 256 ^ n := by
  induction n with
  | zero => simp [beN]
  | succ n ih =>
    have h1 := ih fun j hj => h j (by omega)
    have h2 := h n (by omega)
    simp only [beN, Nat.pow_succ]
    omega

theorem beN_add (f : Nat → Nat) (m n : Nat) : beN f (m + n) = beN f m * 256 ^ n + beN (fun j => f (m + j)) n := by
  induction n with
  | zero => simp [beN]
  | succ n ih =>
    rw [← Nat.add_assoc]
    simp only [beN]
    rw [ih, Nat.pow_succ, Nat.add_mul, Nat.mul_assoc, Nat.add_assoc]

/-- The first byte in which two rows differ tells which number is less. -/
theorem beN_lt_of_byte {f g : Nat → Nat} {m n : Nat} (hf : ∀ j, j < n → f j < 256) (hm : m < n) (heq : ∀ j, j < m → f j = g j) (hlt : f m < g m) : beN f n < beN g n := by
  obtain ⟨d, rfl⟩ : ∃ d, n = m + 1 + d := ⟨n - (m + 1), by omega⟩
  rw [beN_add f (m + 1) d, beN_add g (m + 1) d]
  simp only [beN]
  rw [beN_congr (n := m) heq]
  have h1 : beN (fun j => f (m + 1 + j)) d < 256 ^ d := beN_lt fun j hj => hf _ (by omega)
  have h2 : (beN g m * 256 + f m + 1) * 256 ^ d ≤ (beN g m * 256 + g m) * 256 ^ d := Nat.mul_le_mul_right _ (by omega)
  rw [Nat.add_mul] at h2
  omega

theorem beN_zero {f : Nat → Nat} {n : Nat} (h : ∀ j, j < n → f j = 0) : beN f n = 0 := by
  induction n with
  | zero => rfl
  | succ n ih => simp only [beN]; rw [ih fun j hj => h j (by omega), h n (by omega)]

theorem beN_inj {f g : Nat → Nat} {n : Nat} (hf : ∀ j, j < n → f j < 256) (hg : ∀ j, j < n → g j < 256) (h : beN f n = beN g n) : ∀ j, j < n → f j = g j := by
  induction n with
  | zero => intro j hj; omega
  | succ n ih =>
    simp only [beN] at h
    have h1 := hf n (by omega)
    have h2 := hg n (by omega)
    have h3 : beN f n = beN g n := by omega
    intro j hj
    by_cases e : j = n
    · subst e; omega
    · exact ih (fun j hj => hf j (by omega)) (fun j hj => hg j (by omega)) h3 j (by omega)

theorem byteAt_lt (n v j : Nat) : byteAt n v j < 256 := Nat.mod_lt _ (by omega)

theorem beN_byteAt_of_lt {n v : Nat} (h : v < 256 ^ n) : beN (byteAt n v) n = v := by rw [beN_byteAt, Nat.mod_eq_of_lt h]

theorem byteAt_beN {f : Nat → Nat} {n : Nat} (hf : ∀ j, j < n → f j < 256) : ∀ j, j < n → byteAt n (beN f n) j = f j :=
  beN_inj (fun j _ => byteAt_lt _ _ _) hf (beN_byteAt_of_lt (beN_lt hf))

/-! ### ofBytes: byte i from the end goes into word i / 8 -/
/-- Word q of the number of bytes, of which the last k have been taken. -/
def obW (f : Nat → Nat) (n : Nat) : Nat → Nat → Nat
  | 0, _ => 0
  | k + 1, q => if q = k / 8 then obW f n k q + f (n - 1 - k) * 2 ^ (8 * (k % 8)) else obW f n k q

theorem obW_ge (f : Nat → Nat) (n : Nat) : ∀ k q, (k + 7) / 8 ≤ q → obW f n k q = 0
  | 0, _, _ => rfl
  | k + 1, q, h => by
    simp only [obW]
    rw [if_neg (by omega), obW_ge f n k q (by omega)]

theorem obW_lt (f : Nat → Nat) (n : Nat) (hf : ∀ j, j < n → f j < 256) : ∀ k q, k ≤ n → obW f n k q < 2 ^ (8 * min 8 (k - 8 * q))
  | 0, q, _ => by simp [obW]
  | k + 1, q, h => by
    have ih := obW_lt f n hf k q (by omega)
    simp only [obW]
    by_cases e : q = k / 8
    · rw [if_pos e]
      have h1 : min 8 (k - 8 * q) = k % 8 := by omega
      have h2 : min 8 (k + 1 - 8 * q) = k % 8 + 1 := by omega
      rw [h1] at ih
      rw [h2]
      have h3 : (f (n - 1 - k) + 1) * 2 ^ (8 * (k % 8)) ≤ 256 * 2 ^ (8 * (k % 8)) := Nat.mul_le_mul_right _ (hf _ (by omega))
      have h4 : 2 ^ (8 * (k % 8 + 1)) = 256 * 2 ^ (8 * (k % 8)) := by rw [Nat.mul_add, Nat.pow_add]; omega
      rw [Nat.add_mul] at h3
      omega
    · rw [if_neg e]
      refine Nat.lt_of_lt_of_le ih (Nat.pow_le_pow_right (by omega) ?_)
      omega

theorem obW_lt64 (f : Nat → Nat) (n : Nat) (hf : ∀ j, j < n → f j < 256) (k q : Nat) (h : k ≤ n) : obW f n k q < B64 :=
  Nat.lt_of_lt_of_le (obW_lt f n hf k q h) (by rw [B64_pow]; exact Nat.pow_le_pow_right (by omega) (by omega))

theorem val_obW (f : Nat → Nat) (n m : Nat) : ∀ k, k ≤ n → k ≤ 8 * m → val (obW f n k) m = beN (fun j => f (n - k + j)) k
  | 0, _, _ => val_zero fun j _ => rfl
  | k + 1, h, hm => by
    have ih := val_obW f n m k (by omega) (by omega)
    have h1 : beN (fun j => f (n - (k + 1) + j)) (k + 1) = f (n - (k + 1)) * 256 ^ k + beN (fun j => f (n - k + j)) k := by
      rw [show k + 1 = 1 + k by omega, beN_add]
      simp only [beN]
      congr 1
      · simp
      · exact beN_congr fun j hj => by congr 1; omega
    rw [h1, ← ih]
    have h2 : ∀ m', k / 8 < m' → val (obW f n (k + 1)) m' = f (n - (k + 1)) * 256 ^ k + val (obW f n k) m' := by
      intro m' hm'
      obtain ⟨d, rfl⟩ : ∃ d, m' = k / 8 + 1 + d := ⟨m' - (k / 8 + 1), by omega⟩
      rw [val_add, val_add (obW f n k)]
      have e1 : val (fun j => obW f n (k + 1) (k / 8 + 1 + j)) d = val (fun j => obW f n k (k / 8 + 1 + j)) d := val_congr fun j hj => by
        simp only [obW]
        rw [if_neg (by omega)]
      rw [e1]
      simp only [val]
      have e2 : val (obW f n (k + 1)) (k / 8) = val (obW f n k) (k / 8) := val_congr fun j hj => by
        simp only [obW]
        rw [if_neg (by omega)]
      rw [e2]
      have e3 : obW f n (k + 1) (k / 8) = obW f n k (k / 8) + f (n - 1 - k) * 2 ^ (8 * (k % 8)) := by
        simp [obW]
      rw [e3, Nat.add_mul]
      have e4 : f (n - 1 - k) * 2 ^ (8 * (k % 8)) * B64 ^ (k / 8) = f (n - (k + 1)) * 256 ^ k := by
        rw [Nat.mul_assoc, B64_pow, ← Nat.pow_mul, ← Nat.pow_add, show (256 : Nat) = 2 ^ 8 from rfl, ← Nat.pow_mul]
        congr 2
        all_goals (first | omega | (congr 1; omega))
      rw [e4]
      omega
    exact h2 m (by omega)
end Go.Proofs.YtpfmbfkhjapbbaaGreatDoor
