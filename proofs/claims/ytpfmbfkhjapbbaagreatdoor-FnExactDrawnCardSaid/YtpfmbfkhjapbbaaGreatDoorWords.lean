/-
  Words: what the functions on single words come to (bits.Add, Sub, Mul, and big's mulWW, mulAddWWW_g, nlz, greaterThan). Conditions: each word below 2^64, a carry at most 1.
-/
import Derived.Test.YtpfmbfkhjapbbaaGreatDoorMem
import Derived.Test.YtpfmbfkhjapbbaaGreatDoorShelf
import Derived.WalkLawsBesides
import Derived.Lib.Hide
import Derived.Deep.QuietTactic
import Derived.BigQuiet
import Derived.Laws.Externs
import Derived.Handy
set_option linter.unusedVariables false
namespace Go.Proofs.YtpfmbfkhjapbbaaGreatDoor
open Go Go.RowKit

def wAdd (x y c : Nat) : Nat := (x + y + c) % B64
def wCar (x y c : Nat) : Nat := (x + y + c) / B64
def wSub (x y b : Nat) : Nat := (x + B64 - y - b) % B64
def wBor (x y b : Nat) : Nat := if x < y + b then 1 else 0
def wHi (x y c : Nat) : Nat := (x * y + c) / B64
def wLo (x y c : Nat) : Nat := (x * y + c) % B64

theorem wAdd_lt (x y c : Nat) : wAdd x y c < B64 := Nat.mod_lt _ B64_pos
theorem wSub_lt (x y c : Nat) : wSub x y c < B64 := Nat.mod_lt _ B64_pos
theorem wLo_lt (x y c : Nat) : wLo x y c < B64 := Nat.mod_lt _ B64_pos
theorem wCar_le {x y c : Nat} (hx : x < B64) (hy : y < B64) (hc : c ≤ 1) : wCar x y c ≤ 1 := by
  unfold wCar; simp only [B64_eq] at *; omega
theorem wBor_le (x y c : Nat) : wBor x y c ≤ 1 := by unfold wBor; split <;> omega
theorem wHi_lt {x y c : Nat} (hx : x < B64) (hy : y < B64) (hc : c < B64) : wHi x y c < B64 := by
  unfold wHi
  refine Nat.div_lt_of_lt_mul ?_
  have h1 : x * y ≤ (B64 - 1) * (B64 - 1) := Nat.mul_le_mul (by omega) (by omega)
  have h2 : (B64 - 1) * (B64 - 1) + B64 ≤ B64 * B64 := by decide
  omega
theorem wHi_lo (x y c : Nat) : wHi x y c * B64 + wLo x y c = x * y + c := by
  unfold wHi wLo; rw [Nat.mul_comm]; exact Nat.div_add_mod _ _
theorem wCar_add (x y c : Nat) : wCar x y c * B64 + wAdd x y c = x + y + c := by
  unfold wCar wAdd; rw [Nat.mul_comm]; exact Nat.div_add_mod _ _
theorem wSub_bor {x y b : Nat} (hx : x < B64) (hy : y < B64) (hb : b ≤ 1) : wSub x y b + y + b = x + wBor x y b * B64 := by
  unfold wSub wBor
  simp only [B64_eq] at *
  split <;> omega

theorem add64_run (x y c : Nat) (hc : c ≤ 1) (w : World) :
    (callFunc 76 #[.int .u64 x, .int .u64 y, .int .u64 c]).run Tryz.prog w = .ok (.value (.tuple #[U (wAdd x y c), U (wCar x y c)])) w := by
  rw [run_callFunc_extern Tryz.func76 (by kernel_rfl) (by kernel_rfl) (by kernel_rfl) (e := add64Entry) (by kernel_rfl), run_add64 x y c (by omega) (by omega) (by omega) (by omega)]
  simp only [Result.andThen, wAdd, wCar, B64_eq]
  congr 5 <;> omega

/-- The model's entry for math/bits.Sub64. -/
def sub64Entry : Array Value → Sem Value := fun args => do
  let (x, y, b) ← Extern.MathBitsCarry.three "Sub64" args
  pure (Extern.MathBitsCarry.pair ((x + Extern.MathBitsCarry.m64 - y - b) % Extern.MathBitsCarry.m64) (if x < y + b then 1 else 0))

theorem run_sub64 {P : Program} (x y b : Nat) (hb : b ≤ 1) (w : World) :
    (sub64Entry #[.int .u64 x, .int .u64 y, .int .u64 b]).run P w = .ok (.tuple #[U (wSub x y b), U (wBor x y b)]) w := by
  have : b = 0 ∨ b = 1 := by omega
  rcases this with rfl | rfl <;> rfl

theorem sub64_run (x y c : Nat) (hc : c ≤ 1) (w : World) :
    (callFunc 75 #[.int .u64 x, .int .u64 y, .int .u64 c]).run Tryz.prog w = .ok (.value (.tuple #[U (wSub x y c), U (wBor x y c)])) w := by
  rw [run_callFunc_extern Tryz.func75 (by kernel_rfl) (by kernel_rfl) (by kernel_rfl) (e := sub64Entry) (by kernel_rfl), run_sub64 x y c hc]
  rfl

theorem add_any (x y c : Nat) (hc : c ≤ 1) (w : World) :
    Calls Tryz.prog 140 #[.int .u64 x, .int .u64 y, .int .u64 c] w fun e w' => e = .returned (.tuple #[U (wAdd x y c), U (wCar x y c)]) ∧ w' = w := by
  have h := add64_run x y c hc
  go_enter Tryz.func140, Tryz.ntmps140
  go_wp2
  go_ret2
  exact ⟨rfl, rfl⟩

theorem sub_any (x y c : Nat) (hc : c ≤ 1) (w : World) :
    Calls Tryz.prog 142 #[.int .u64 x, .int .u64 y, .int .u64 c] w fun e w' => e = .returned (.tuple #[U (wSub x y c), U (wBor x y c)]) ∧ w' = w := by
  have h := sub64_run x y c hc
  go_enter Tryz.func142, Tryz.ntmps142
  go_wp2
  go_ret2
  exact ⟨rfl, rfl⟩

theorem mul_any (x y : Nat) (hx : x < B64) (hy : y < B64) (w : World) :
    Calls Tryz.prog 177 #[.int .u64 x, .int .u64 y] w fun e w' => e = .returned (.tuple #[U (wHi x y 0), U (wLo x y 0)]) ∧ w' = w :=
  (Tryz.bits_Mul x y hx hy w).mono fun e w' ⟨he, hw⟩ => ⟨by rw [he]; simp only [wHi, wLo, B64_eq, Nat.add_zero], hw⟩

theorem mulWW_any (x y : Nat) (hx : x < B64) (hy : y < B64) (w : World) :
    Calls Tryz.prog 148 #[.int .u64 x, .int .u64 y] w fun e w' => e = .returned (.tuple #[U (wHi x y 0), U (wLo x y 0)]) ∧ w' = w := by
  go_enter Tryz.func148, Tryz.ntmps148
  go_wp2_with (go_at_call 177; refine (mul_any _ _ hx hy _).mono ?_; rintro e w' ⟨rfl, rfl⟩)
  go_ret2
  exact ⟨rfl, rfl⟩

theorem hi_car {x y c : Nat} (hx : x < B64) (hy : y < B64) (hc : c < B64) : wHi x y 0 + wCar (wLo x y 0) c 0 = wHi x y c ∧ wAdd (wLo x y 0) c 0 = wLo x y c := by
  unfold wHi wCar wLo wAdd
  generalize x * y = p
  simp only [Nat.add_zero]
  constructor
  · have h : p + c = B64 * (p / B64) + (p % B64 + c) := by have := Nat.div_add_mod p B64; omega
    rw [h, Nat.mul_add_div B64_pos]
  · rw [Nat.mod_add_mod]

set_option maxHeartbeats 400000 in
theorem mulAddWWW_g_any (x y c : Nat) (hx : x < B64) (hy : y < B64) (hc : c < B64) (w : World) :
    Calls Tryz.prog 206 #[.int .u64 x, .int .u64 y, .int .u64 c] w fun e w' => e = .returned (.tuple #[U (wHi x y c), U (wLo x y c)]) ∧ w' = w := by
  have hs := hi_car hx hy hc
  have hlt : wHi x y 0 + wCar (wLo x y 0) c 0 < 18446744073709551616 := by rw [hs.1]; exact wHi_lt hx hy hc
  have H1 := Lib.hid hs.1
  have H2 := Lib.hid hs.2
  clear hs
  go_enter Tryz.func206, Tryz.ntmps206
  go_wp2_with (first
    | (go_at_call 177; refine (mul_any _ _ hx hy _).mono ?_; rintro e w' ⟨rfl, rfl⟩)
    | (go_at_call 140; refine (add_any _ _ 0 (by omega) _).mono ?_; rintro e w' ⟨rfl, rfl⟩))
  go_ret2
  refine ⟨?_, rfl⟩
  rw [← H1.out, ← H2.out]
  simp

/-- how many zero bits a word has at its top -/
def lz (x : Nat) : Nat := 64 - Lib.bitLen x
end Go.Proofs.YtpfmbfkhjapbbaaGreatDoor
