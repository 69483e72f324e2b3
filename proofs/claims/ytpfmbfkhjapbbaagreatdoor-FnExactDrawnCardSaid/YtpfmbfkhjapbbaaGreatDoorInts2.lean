/-
  big's nat.bitLen and Int.BitLen. Condition: at most 10^6 words.
-/
import Derived.Test.YtpfmbfkhjapbbaaGreatDoorInts1
import Derived.Lib.ItoaNum
import Derived.Deep.RegionHeld3
import Derived.Deep.DeepCutAuto
set_option linter.unusedVariables false
set_option linter.unusedSimpArgs false
namespace Go.Proofs.YtpfmbfkhjapbbaaGreatDoor
open Go Go.RowKit

theorem bl_unique {x k : Nat} (hx : x < 2 ^ 64) (h1 : 2 ^ k ≤ x) (h2 : x < 2 ^ (k + 1)) : Lib.bitLen x = k + 1 := by
  have h0 : x ≠ 0 := by have := Nat.two_pow_pos k; omega
  obtain ⟨b1, b2, b3⟩ := Lib.bitLenAux_bounds 64 x hx h0
  unfold Lib.bitLen
  generalize Lib.bitLenAux 64 x = m at *
  have l1 : k < m := (Nat.pow_lt_pow_iff_right (show 1 < 2 by omega)).1 (Nat.lt_of_le_of_lt h1 b3)
  have l2 : m - 1 < k + 1 := (Nat.pow_lt_pow_iff_right (show 1 < 2 by omega)).1 (Nat.lt_of_le_of_lt b2 h2)
  omega

def smear (x s : Nat) : Nat := x ||| x / 2 ^ s
theorem smear_ge (x s : Nat) : x ≤ smear x s := Nat.left_le_or
theorem smear_lt {x s k : Nat} (h : x < 2 ^ k) : smear x s < 2 ^ k := Nat.or_lt_two_pow h (Nat.lt_of_le_of_lt (Nat.div_le_self _ _) h)
theorem smear_len {x s k : Nat} (hk : k < 64) (h1 : 2 ^ k ≤ x) (h2 : x < 2 ^ (k + 1)) : 2 ^ k ≤ smear x s ∧ smear x s < 2 ^ (k + 1) := ⟨Nat.le_trans h1 (smear_ge _ _), smear_lt h2⟩
theorem smear_run (x s : Nat) (d : Int) (hd : d = ((2 ^ s : Nat) : Int)) (h : x < B64) : bits .or .u64 (x : Int) ((x : Int) / d) = ((smear x s : Nat) : Int) := by
  subst hd
  have e1 : (x : Int) / ((2 ^ s : Nat) : Int) = ((x / 2 ^ s : Nat) : Int) := by simp
  rw [e1, (bits_nat .u64 64 (by decide) (fun n h h' => by rw [IntKind.wrap_u64]; omega) _ _ (by rw [← B64_pow]; exact h) (by rw [← B64_pow]; exact Nat.lt_of_le_of_lt (Nat.div_le_self _ _) h)).2]
  rfl

set_option maxHeartbeats 1000000 in
theorem bitLen_any (b n c k v : Nat) (f : Nat → Nat) (w : World) (hX : NatIs w (some ⟨b, 0, none⟩) n c f v) (hn : 0 < n) (hn2 : n ≤ 1000000) (hk : k < 64) (h1 : 2 ^ k ≤ f (n - 1)) (h2 : f (n - 1) < 2 ^ (k + 1)) :
    Calls Tryz.prog 204 #[.slice (some ⟨b, 0, none⟩) n c] w fun e w' => e = .returned (.int .i64 ((64 * (n - 1) + k + 1 : Nat) : Int)) ∧ w' = w := by
  obtain ⟨m, rfl⟩ : ∃ m, n = m + 1 := ⟨n - 1, by omega⟩
  simp only [Nat.add_sub_cancel] at *
  have hle := hX.le
  have hcell := (hX.arr.vec m (by omega)).1
  rw [Nat.zero_add] at hcell
  clear hX
  generalize f m = x at *
  have h64 : (2 : Nat) ^ (k + 1) ≤ B64 := by rw [B64_pow]; exact Nat.pow_le_pow_right (by omega) (by omega)
  have l1 := smear_len (s := 1) hk h1 h2
  have e1 := smear_run x 1 2 rfl (by omega)
  generalize smear x 1 = x1 at *
  have l2 := smear_len (s := 2) hk l1.1 l1.2
  have e2 := smear_run x1 2 4 rfl (by omega)
  generalize smear x1 2 = x2 at *
  have l3 := smear_len (s := 4) hk l2.1 l2.2
  have e3 := smear_run x2 4 16 rfl (by omega)
  generalize smear x2 4 = x3 at *
  have l4 := smear_len (s := 8) hk l3.1 l3.2
  have e4 := smear_run x3 8 256 rfl (by omega)
  generalize smear x3 8 = x4 at *
  have l5 := smear_len (s := 16) hk l4.1 l4.2
  have e5 := smear_run x4 16 65536 rfl (by omega)
  generalize smear x4 16 = x5 at *
  have l6 := smear_len (s := 32) hk l5.1 l5.2
  have e6 := smear_run x5 32 4294967296 rfl (by omega)
  have e6' : bits .or .u64 (x5 : Int) ((x5 : Int) / 65536 / 65536) = ((smear x5 32 : Nat) : Int) := by
    rw [← e6]; congr 1; omega
  generalize smear x5 32 = x6 at *
  have hL : Calls Tryz.prog 205 #[.int .u64 (x6 : Int)] w fun e w' => e = .returned (.int .i64 ((k + 1 : Nat) : Int)) ∧ w' = w := by
    refine (Tryz.bits_Len (x6 : Int) w (by omega) (by have := B64_pow; unfold B64 at *; omega)).mono ?_
    rintro e w' ⟨rfl, rfl⟩
    refine ⟨?_, rfl⟩
    rw [Int.toNat_natCast, bl_unique (by rw [← B64_pow]; omega) l6.1 l6.2]
  have HL := Lib.hid hL
  clear hL
  clear l1 l2 l3 l4 l5 l6
  go_enter Tryz.func204, Tryz.ntmps204
  go_upto_region 9 with fail
  clear e1 e2 e3 e4 e5 e6
  go_upto_region 10 with fail
  go_wp2_with fail
  refine HL.out.mono ?_
  rintro e w' ⟨rfl, rfl⟩
  go_wp2_with fail
  go_ret
  exact ⟨by go_num, rfl⟩
end Go.Proofs.YtpfmbfkhjapbbaaGreatDoor
