/-
  big's beUint32, beUint64, bigEndianWord: a word of 4 or 8 bytes. Condition: the row has so many bytes.
-/
import Derived.Test.YtpfmbfkhjapbbaaGreatDoorInts4
set_option linter.unusedVariables false
set_option linter.unusedSimpArgs false
namespace Go.Proofs.YtpfmbfkhjapbbaaGreatDoor
open Go Go.RowKit

theorem or_put32 (x y s : Nat) (d : Int) (hd : d = ((2 ^ s : Nat) : Int)) (hx : x < 2 ^ s) (hy : x + y * 2 ^ s < 2 ^ 32) : bits .or .u32 (x : Int) ((y : Int) * d) = ((x + y * 2 ^ s : Nat) : Int) := by
  subst hd
  have e1 : (y : Int) * ((2 ^ s : Nat) : Int) = ((y * 2 ^ s : Nat) : Int) := by simp
  rw [e1, (bits_nat .u32 32 (by decide) (fun n h h' => by rw [IntKind.wrap_u32]; omega) _ _ (by omega) (by omega)).2]
  congr 1
  rw [Nat.mul_comm y, Nat.or_comm, ← Nat.two_pow_add_eq_or_of_lt hx]
  omega
theorem or_put64 (x y s : Nat) (d : Int) (hd : d = ((2 ^ s : Nat) : Int)) (hx : x < 2 ^ s) (hy : x + y * 2 ^ s < 2 ^ 64) : bits .or .u64 (x : Int) ((y : Int) * d) = ((x + y * 2 ^ s : Nat) : Int) := by
  subst hd
  have e1 : (y : Int) * ((2 ^ s : Nat) : Int) = ((y * 2 ^ s : Nat) : Int) := by simp
  rw [e1, (bits_nat .u64 64 (by decide) (fun n h h' => by rw [IntKind.wrap_u64]; omega) _ _ (by omega) (by omega)).2]
  congr 1
  rw [Nat.mul_comm y, Nat.or_comm, ← Nat.two_pow_add_eq_or_of_lt hx]
  omega
theorem bits_or_comm64 (x y : Nat) (hx : x < B64) (hy : y < B64) : bits .or .u64 (x : Int) (y : Int) = bits .or .u64 (y : Int) (x : Int) := by
  rw [(bits_nat .u64 64 (by decide) (fun n h h' => by rw [IntKind.wrap_u64]; omega) _ _ (by rw [← B64_pow]; omega) (by rw [← B64_pow]; omega)).2,
    (bits_nat .u64 64 (by decide) (fun n h h' => by rw [IntKind.wrap_u64]; omega) _ _ (by rw [← B64_pow]; omega) (by rw [← B64_pow]; omega)).2, Nat.or_comm]

set_option maxRecDepth 100000 in
set_option maxHeartbeats 1000000 in
theorem be32_any (b o n c : Nat) (f : Nat → Nat) (w : World) (hB : Bts w b o 4 f) (hf : ∀ j, j < 4 → f j < 256) (hn : 4 ≤ n) (hc : n ≤ c) :
    Calls Tryz.prog 84 #[.slice (some ⟨b, o, none⟩) n c] w fun e w' => e = .returned (.int .u32 ((beN f 4 : Nat) : Int)) ∧ ∃ q, w' = w.drewN q := by
  have c0 := hB 0 (by omega)
  have c1 := hB 1 (by omega)
  have c2 := hB 2 (by omega)
  have c3 := hB 3 (by omega)
  rw [Nat.add_zero] at c0
  have l0 := hf 0 (by omega)
  have l1 := hf 1 (by omega)
  have l2 := hf 2 (by omega)
  have l3 := hf 3 (by omega)
  simp only [beN, Nat.zero_mul, Nat.zero_add]
  clear hB hf
  generalize f 0 = x0 at *
  generalize f 1 = x1 at *
  generalize f 2 = x2 at *
  generalize f 3 = x3 at *
  go_enter Tryz.func84, Tryz.ntmps84
  go_wp2_with fail
  go_quiet (fail)
  go_wp2_with fail
  go_ret
  refine ⟨?_, nq, rfl⟩
  have e1 := or_put32 x3 x2 8 256 rfl (by omega) (by omega)
  have e2 := or_put32 (x3 + x2 * 2 ^ 8) x1 16 65536 rfl (by omega) (by omega)
  have e3 := or_put32 (x3 + x2 * 2 ^ 8 + x1 * 2 ^ 16) x0 24 16777216 rfl (by omega) (by omega)
  show Ending.returned (Value.int IntKind.u32 (bits .or .u32 (bits .or .u32 (bits .or .u32 (x3 : Int) ((x2 : Int) * 256)) ((x1 : Int) * 65536)) ((x0 : Int) * 16777216))) = _
  rw [e1, e2, e3]
  congr 3
  omega

theorem slice22_from (b o n c k : Nat) (hk : k ≤ n) (hn : n ≤ c) (K : Int) (hK : K = k) :
    ∃ o', (∀ w, (Instr.slice 22 (.slice (some ⟨b, o, none⟩) n c) (some (.int .i64 K)) none none).run Tryz.prog w = .ok (.slice (some ⟨b, o', none⟩) (n - k) (c - k)) w) ∧ (k < c → o' = o + k) ∧ o' ≤ o + k := by
  subst hK
  have h1 : (0 : Int) ≤ (k : Int) := by omega
  have h2 : (k : Int) ≤ (n : Int) := by omega
  have h3 : (n : Int) ≤ (c : Int) := by omega
  by_cases e : c = k
  · refine ⟨o, fun w => ?_, fun h => by omega, by omega⟩
    simp [go_sem, h1, h2, h3, e]
  · refine ⟨o + k, fun w => ?_, fun h => rfl, by omega⟩
    simp [go_sem, h1, h2, h3, e]

theorem bts_from {w : World} {b o n : Nat} {f : Nat → Nat} (h : Bts w b o n f) (k m : Nat) (hk : k + m ≤ n) : Bts w b (o + k) m (fun j => f (k + j)) := fun j hj => by
  have := h (k + j) (by omega)
  rwa [← Nat.add_assoc] at this

set_option maxRecDepth 100000 in
set_option maxHeartbeats 1000000 in
theorem be64_any (b o n c : Nat) (f : Nat → Nat) (w : World) (hB : Bts w b o 8 f) (hf : ∀ j, j < 8 → f j < 256) (hn : 8 ≤ n) (hc : n ≤ c) :
    Calls Tryz.prog 83 #[.slice (some ⟨b, o, none⟩) n c] w fun e w' => e = .returned (U (beN f 8)) ∧ ∃ q, w' = w.drewN q := by
  have c7 := hB 7 (by omega)
  have h1 := fun q => be32_any b o n c f (w.drewN q) (Bts.mod (fun j hj => hB j (by omega)) ((Mod.refl NoP w).drewN q) fun _ _ h => h) (fun j hj => hf j (by omega)) (by omega) hc
  have h2 := fun q => be32_any b (o + 4) (n - 4) (c - 4) (fun j => f (4 + j)) (w.drewN q) ((bts_from hB 4 4 (by omega)).mod ((Mod.refl NoP w).drewN q) fun _ _ h => h) (fun j hj => hf _ (by omega)) (by omega) (by omega)
  have HC1 := Lib.hid h1
  have HC2 := Lib.hid h2
  have l1 := beN_lt (f := f) (n := 4) fun j hj => hf j (by omega)
  have l2 := beN_lt (f := fun j => f (4 + j)) (n := 4) fun j hj => hf _ (by omega)
  rw [show beN f 8 = beN f 4 * 256 ^ 4 + beN (fun j => f (4 + j)) 4 from beN_add f 4 4]
  clear hB hf h1 h2
  generalize f 7 = x7 at *
  generalize beN f 4 = y at *
  generalize beN (fun j => f (4 + j)) 4 = x at *
  replace l1 : y < 4294967296 := l1
  replace l2 : x < 4294967296 := l2
  have hs : ∀ w1, (Instr.slice 22 (.slice (some ⟨b, o, none⟩) n c) (some (.int .i64 4)) none none).run Tryz.prog w1 = .ok (.slice (some ⟨b, o + 4, none⟩) (n - 4) (c - 4)) w1 := fun w1 => by
    obtain ⟨o1, h1, h2, h3⟩ := slice22_from b o n c 4 (by omega) (by omega) 4 rfl
    rw [h1 w1, h2 (by omega)]
  go_enter Tryz.func83, Tryz.ntmps83
  go_wp2_with fail
  go_quiet ((go_at_call 84; first | with_reducible exact Calls.quiet_of (HC1.out _) | with_reducible exact Calls.quiet_of (HC2.out _)))
  go_wp2_with fail
  go_ret
  refine ⟨?_, nq, rfl⟩
  have e0 : bits .or .u64 ((y : Int) * 4294967296) (x : Int) = ((x + y * 2 ^ 32 : Nat) : Int) := by
    rw [show (y : Int) * 4294967296 = ((y * 4294967296 : Nat) : Int) by simp, bits_or_comm64 _ _ (by unfold B64; omega) (by unfold B64; omega), show ((y * 4294967296 : Nat) : Int) = (y : Int) * 4294967296 by simp]
    exact or_put64 x y 32 4294967296 rfl (by omega) (by omega)
  show Ending.returned (Value.int IntKind.u64 (bits .or .u64 ((y : Int) * 4294967296) (x : Int))) = _
  rw [e0]
  congr 3
  omega

set_option maxHeartbeats 400000 in
theorem beWord_any (b o n c : Nat) (f : Nat → Nat) (w : World) (hB : Bts w b o 8 f) (hf : ∀ j, j < 8 → f j < 256) (hn : 8 ≤ n) (hc : n ≤ c) :
    Calls Tryz.prog 66 #[.slice (some ⟨b, o, none⟩) n c] w fun e w' => e = .returned (U (beN f 8)) ∧ ∃ q, w' = w.drewN q := by
  have H := Lib.hid (be64_any b o n c f w hB hf hn hc)
  clear hB hf
  generalize beN f 8 = x at *
  go_enter Tryz.func66, Tryz.ntmps66
  go_wp2_with fail
  refine H.out.mono ?_
  rintro e w1 ⟨rfl, q, hq⟩
  have HQ := Lib.hid hq
  clear hq
  go_wp2_with fail
  go_ret
  exact ⟨rfl, q, HQ.out⟩
end Go.Proofs.YtpfmbfkhjapbbaaGreatDoor
