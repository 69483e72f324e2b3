/-
  The specification's toBytes, bytesOf, ScalarOf; slices.Equal of two rows of bytes. Conditions: rows of at most 2^20 bytes; numbers in at most 72 bytes.
-/
import Derived.Test.YtpfmbfkhjapbbaaGreatDoorSpecOut
set_option linter.unusedVariables false
set_option linter.unusedSimpArgs false
namespace Go.Proofs.YtpfmbfkhjapbbaaGreatDoor
open Go Go.RowKit

/-- Byte i of a number of words, the lowest first. -/
def byteW (f : Nat → Nat) (i : Nat) : Nat := f (i / 8) / 2 ^ (8 * (i % 8)) % 256

theorem val_div (f : Nat → Nat) {n q : Nat} (hq : q ≤ n) (hf : ∀ j, j < n → f j < B64) : val f n / B64 ^ q = val (fun j => f (q + j)) (n - q) := by
  have h := val_add f q (n - q)
  rw [show q + (n - q) = n by omega] at h
  rw [h, Nat.add_mul_div_left _ _ (pow_pos q), Nat.div_eq_of_lt (val_lt fun j hj => hf j (by omega)), Nat.zero_add]

theorem val_byte (f : Nat → Nat) (n : Nat) (hf : ∀ j, j < n → f j < B64) (i : Nat) (hi : i / 8 < n) : val f n / 256 ^ i % 256 = byteW f i := by
  have h1 : 256 ^ i = B64 ^ (i / 8) * 2 ^ (8 * (i % 8)) := by
    rw [B64_pow, show (256 : Nat) = 2 ^ 8 from rfl, ← Nat.pow_mul, ← Nat.pow_mul, ← Nat.pow_add]
    congr 1
    omega
  rw [h1, ← Nat.div_div_eq_div_mul, val_div f (by omega) hf]
  obtain ⟨d, hd⟩ : ∃ d, n - i / 8 = 1 + d := ⟨n - i / 8 - 1, by omega⟩
  rw [hd, val_add, val_one, Nat.add_zero, Nat.pow_one]
  generalize val (fun j => f (i / 8 + (1 + j))) d = y
  unfold byteW
  have hr : i % 8 < 8 := Nat.mod_lt _ (by omega)
  generalize i % 8 = r at *
  have hB : B64 = 2 ^ (8 * r) * (2 ^ (56 - 8 * r) * 256) := by
    rw [B64_pow, show (256 : Nat) = 2 ^ 8 from rfl, ← Nat.pow_add, ← Nat.pow_add]
    congr 1
    omega
  rw [hB, Nat.mul_assoc, Nat.add_mul_div_left _ _ (Nat.two_pow_pos _), show 2 ^ (56 - 8 * r) * 256 * y = 256 * (2 ^ (56 - 8 * r) * y) by ac_rfl, Nat.add_mul_mod_self_left]

theorem ArrG.congrB {w : World} {a : Option Addr} {c : Nat} {f g : Nat → Nat} (h : BArr w a c f) (hg : ∀ j, j < c → g j = f j) : BArr w a c g := by
  rcases h with h | ⟨b, C, t, rfl, hb, hs, hc⟩
  · exact .inl h
  · exact .inr ⟨b, C, t, rfl, hb, hs, fun j hj => by rw [hc j hj]; show some (Bt (f j)) = some (Bt (g j)); rw [hg j hj]⟩

set_option maxRecDepth 100000 in
set_option maxHeartbeats 1000000 in
theorem toBytes_any (f : Nat → Nat) (n : Nat) (hf : ∀ j, j < 9 → f j < B64) (hn : n ≤ 72) (w : World) :
    Calls Tryz.prog 54 #[nv f, .int .i64 n] w fun e w' => ∃ b, e = .returned (.slice (some ⟨b, 0, none⟩) n n) ∧ BArr w' (some ⟨b, 0, none⟩) n (byteAt n (val f 9)) ∧ w.heap.size ≤ b ∧ Mod NoP w w' := by
  have hmk := fun u => makeSlice22 n n (Nat.le_refl _) (by omega) u (n : Int) (n : Int) rfl rfl
  go_enter Tryz.func54, Tryz.ntmps54
  go_wp2_with fail
  have hx := heap_alloc_new w (.cells (nc f) 63 (0, 0))
  have m1 := (Mod.refl NoP w).alloc (.cells (nc f) 63 (0, 0))
  have hs1 : (w.alloc (.cells (nc f) 63 (0, 0))).heap.size = w.heap.size + 1 := by simp
  generalize w.alloc (.cells (nc f) 63 (0, 0)) = w1 at *
  have hz := barr_zeros w1 n
  rw [hs1] at hz
  have v1 : NIs (w1.alloc (zerosB n)) w.heap.size f := NIs.mod hx ((Mod.refl NoP w1).alloc (zerosB n)) (fun _ h => h)
  have m2 := m1.alloc (zerosB n)
  generalize hw2 : w1.alloc (zerosB n) = w2 at *
  clear hw2 hx
  have hX := v1.vec hf
  generalize hb0 : w.heap.size = b0 at *
  generalize hb1 : b0 + 1 = b1 at *
  go_loopw [6] (fun i wr => ∃ k : Nat, k ≤ n ∧ i = .int .i64 (k : Int) ∧ ∃ g : Nat → Nat, BArr wr (some ⟨b1, 0, none⟩) n g ∧ (∀ j, j < k → g (n - 1 - j) = byteW f j) ∧ Mod (InB b1) w2 wr) (fun i _ => n - (intOf i).toNat)
  case atStart => exact ⟨0, by omega, rfl, _, hz, fun j hj => by omega, .refl _ _⟩
  case round =>
    obtain ⟨k, hk, rfl, g, hg, hgk, hm⟩ := hrel
    by_cases hlt : k < n
    · have d1 : decide ((k : Int) < (n : Int)) = true := decide_eq_true (by omega)
      have hcx := hm.cell_some (hX (k / 8) (by omega)).1 (fun h => by unfold InB at h; omega)
      rw [Nat.zero_add] at hcx
      have hst := hg.cell (show n - 1 - k < n by omega)
      have hs1 := hst.1
      have hs2 := hst.2
      have HG := Lib.hid hg
      have HK := Lib.hid hgk
      have Hm := Lib.hid hm
      have e1 : IntKind.i64.wrap ((n : Int) - 1) = (n : Int) - 1 := IntWalk.i64_in _ (by omega)
      have e2 : IntKind.i64.wrap ((n : Int) - 1 - (k : Int)) = ((n - 1 - k : Nat) : Int) := by rw [IntWalk.i64_in _ (by omega)]; omega
      have hby := Lib.hid (show f (k / 8) / 2 ^ (8 * (k % 8)) % 256 = byteW f k from rfl)
      clear hg hgk hm hst
      generalize f (k / 8) = x at *
      go_wp2_with fail
      go_roundw
      case rel =>
        have hbv : (x : Int) / 2 ^ (8 * (k % 8)) % 256 = ((byteW f k : Nat) : Int) := by rw [← hby.out]; simp
        have hst := HG.out.store (show n - 1 - k < n by omega) (byteW f k)
        rw [hbv]
        refine ⟨k + 1, by omega, by simp, _, hst.1, fun j hj => ?_, Hm.out.trans hst.2⟩
        by_cases hjk : j = k
        · subst hjk; simp
        · rw [if_neg (by omega)]
          exact HK.out j (by omega)
      case measure => simp [intOf]; omega
    · obtain rfl : k = n := by omega
      have d1 : decide ((k : Int) < (k : Int)) = false := decide_eq_false (by omega)
      go_wp2_with fail
      go_ret
      refine ⟨b1, rfl, hg.congrB fun j hj => ?_, by omega, m2.trans' hm fun q r hq hh => by unfold InB at hh; omega⟩
      have h1 := hgk (k - 1 - j) (by omega)
      rw [show k - 1 - (k - 1 - j) = j by omega] at h1
      rw [h1]
      exact val_byte f 9 hf _ (by omega)

set_option maxRecDepth 100000 in
theorem equal_any (b o n c b' o' m c' : Nat) (f g : Nat → Nat) (w : World) (hX : Bts w b o n f) (hY : Bts w b' o' m g) (hn : n ≤ 1048576) :
    Calls Tryz.prog 12 #[.slice (some ⟨b, o, none⟩) n c, .slice (some ⟨b', o', none⟩) m c'] w fun e w' => (∃ r : Bool, e = .returned (.bool r) ∧ (r = true ↔ n = m ∧ ∀ j, j < n → f j = g j)) ∧ Mod NoP w w' := by
  by_cases hnm : n = m
  · subst hnm
    go_enter Tryz.func12, Tryz.ntmps12
    go_wp2_with fail
    go_loopw [13] (fun i wr => ∃ k : Nat, k ≤ n ∧ i = .int .i64 (k : Int) ∧ (∀ j, j < k → f j = g j) ∧ Mod NoP w wr) (fun i _ => n - (intOf i).toNat)
    case atStart => exact ⟨0, by omega, rfl, fun j hj => by omega, .refl _ _⟩
    case round =>
      obtain ⟨k, hk, rfl, hq, hm⟩ := hrel
      by_cases hlt : k < n
      · have hcx := hm.cell_some (hX k hlt) (fun h => h)
        have hcy := hm.cell_some (hY k hlt) (fun h => h)
        have Hq := Lib.hid hq
        have Hm := Lib.hid hm
        have k0 : (0 : Int) ≤ (k : Int) := by omega
        have k1 : (k : Int) < (n : Int) := by omega
        have k2 : (k : Int).toNat = k := by omega
        have d1 : decide ((k : Int) < (n : Int)) = true := decide_eq_true k1
        clear hq hm hX hY
        by_cases he : f k = g k
        · have hstep : ∀ j, j < k + 1 → f j = g j := fun j hj => by
            by_cases hjk : j = k
            · rw [hjk, he]
            · exact Hq.out j (by omega)
          have HS := Lib.hid hstep
          clear hstep
          rw [he] at hcx
          clear he
          generalize g k = y at *
          go_wp2_with fail
          go_quiet (fail)
          go_wp2_with fail
          go_roundw
          case rel => exact ⟨k + 1, by omega, by go_num, HS.out, Hm.out.drewN _⟩
          case measure => simp [intOf]; omega
        · have hno := Lib.hid (show ¬ ∀ j, j < n → f j = g j from fun h => he (h k hlt))
          have hne : ((f k : Int) == (g k : Int)) = false := by simp; omega
          generalize f k = x at *
          generalize g k = y at *
          go_wp2_with fail
          go_quiet (fail)
          go_wp2_with fail
          go_ret
          exact ⟨⟨false, rfl, by simp [hno.out]⟩, Hm.out.drewN _⟩
      · obtain rfl : k = n := by omega
        have d1 : decide ((k : Int) < (k : Int)) = false := decide_eq_false (by omega)
        go_wp2_with fail
        go_ret
        exact ⟨⟨true, rfl, by simpa using hq⟩, hm⟩
  · have hne : ((n : Int) == (m : Int)) = false := by simp; omega
    go_enter Tryz.func12, Tryz.ntmps12
    go_wp2_with fail
    go_ret
    exact ⟨⟨false, rfl, by simp [hnm]⟩, Mod.refl _ _⟩
end Go.Proofs.YtpfmbfkhjapbbaaGreatDoor
