/-
  Rows of words: what big's vector functions come to (addVV, subVV, mulAddVWW, addMulVVWW): the carry that they return, the words that they write, and that nothing else turns. Conditions: the rows are there, equally long, words below 2^64; the row that is written is one that is read, or lies ahead of it, or apart from it.
-/
import Derived.Test.YtpfmbfkhjapbbaaGreatDoorWords
set_option linter.unusedVariables false
namespace Go.Proofs.YtpfmbfkhjapbbaaGreatDoor
open Go Go.RowKit

/-- Of the row (b, o) that is read and the row (bz, oz) of n words that is written from the lowest on: no word is written ahead of being read. -/
def Up (bz oz b o n : Nat) : Prop := b = bz → oz ≤ o ∨ o + n ≤ oz

/-- The state of a loop that writes a row from the lowest word on: k words are written, no other place has turned. -/
structure Written (w wr : World) (b o k : Nat) (f : Nat → Nat) : Prop where
  cells : ∀ j, j < k → wr.cell? ⟨b, o + j, none⟩ = some (U (f j))
  mod : Mod (InR b o k) w wr

theorem Written.zero (w : World) (b o : Nat) (f : Nat → Nat) : Written w w b o 0 f := ⟨fun _ h => by omega, .refl _ _⟩

theorem Written.drewN {w wr : World} {b o k : Nat} {f : Nat → Nat} (h : Written w wr b o k f) (m : Nat) : Written w (wr.drewN m) b o k f := ⟨h.cells, h.mod.drewN m⟩
theorem Written.drew {w wr : World} {b o k : Nat} {f : Nat → Nat} (h : Written w wr b o k f) : Written w wr.drew b o k f := ⟨h.cells, h.mod.drew⟩

theorem Written.step {w wr : World} {b o k : Nat} {f : Nat → Nat} (h : Written w wr b o k f) {v : Value} (hv : w.cell? ⟨b, o + k, none⟩ = some v) {x : Nat} (hx : x = f k) :
    Written w (wr.setCell ⟨b, o + k, none⟩ (U x)) b o (k + 1) f := by
  subst hx
  refine ⟨fun j hj => ?_, (h.mod.mono fun _ _ _ ⟨a, b, c⟩ => ⟨a, b, by omega⟩).setCell (fun _ => ⟨rfl, by omega, by omega⟩) _⟩
  by_cases e : j = k
  · subst e
    obtain ⟨u, hu⟩ := h.mod.cell_there hv
    exact cell_same hu _
  · rw [cell_other (.inr (by omega))]
    exact h.cells j (by omega)

/-- The same, the stored value given as an equation. -/
theorem Written.step' {w wr : World} {b o k : Nat} {f : Nat → Nat} (h : Written w wr b o k f) {v : Value} (hv : w.cell? ⟨b, o + k, none⟩ = some v) {u : Value} (hu : u = U (f k)) :
    Written w (wr.setCell ⟨b, o + k, none⟩ u) b o (k + 1) f := by
  subst hu; exact h.step hv rfl

/-- A word that is still to be read. -/
theorem Written.read {w wr : World} {bz oz k n : Nat} {f : Nat → Nat} (h : Written w wr bz oz k f) {b o : Nat} {g : Nat → Nat} (hv : Vec w b o n g) (hu : Up bz oz b o n) (hk : k < n) :
    wr.cell? ⟨b, o + k, none⟩ = some (U (g k)) :=
  h.mod.cell_some (hv k hk).1 fun ⟨a, b, c⟩ => by have := hu a; omega

theorem Written.free {w wr : World} {bz oz k n : Nat} {f : Nat → Nat} (h : Written w wr bz oz k f) {g : Nat → Nat} (hv : Vec w bz oz n g) (hk : k < n) :
    wr.frozen? ⟨bz, oz + k, none⟩ = false := h.mod.free (hv k hk).1 (hv k hk).2.1

theorem Written.there {w wr : World} {bz oz k n : Nat} {f : Nat → Nat} (h : Written w wr bz oz k f) {g : Nat → Nat} (hv : Vec w bz oz n g) (hk : k < n) :
    ∃ u, wr.cell? ⟨bz, oz + k, none⟩ = some u := h.mod.cell_there (hv k hk).1

theorem Written.vec {w wr : World} {b o n : Nat} {f g : Nat → Nat} (h : Written w wr b o n f) (hv : Vec w b o n g) (hf : ∀ j, j < n → f j < B64) : Vec wr b o n f :=
  fun j hj => ⟨h.cells j hj, h.mod.free (hv j hj).1 (hv j hj).2.1, hf j hj⟩

/-! ### addVV -/
def addC (X Y : Nat → Nat) : Nat → Nat
  | 0 => 0
  | k + 1 => wCar (X k) (Y k) (addC X Y k)
def addW (X Y : Nat → Nat) (k : Nat) : Nat := wAdd (X k) (Y k) (addC X Y k)

theorem addC_le {X Y : Nat → Nat} {n : Nat} (hx : ∀ j, j < n → X j < B64) (hy : ∀ j, j < n → Y j < B64) : ∀ k, k ≤ n → addC X Y k ≤ 1
  | 0, _ => by simp [addC]
  | k + 1, h => wCar_le (hx k (by omega)) (hy k (by omega)) (addC_le hx hy k (by omega))

theorem add_val (X Y : Nat → Nat) (n : Nat) : val (addW X Y) n + addC X Y n * B64 ^ n = val X n + val Y n := by
  induction n with
  | zero => simp [val, addC]
  | succ n ih =>
    have h := wCar_add (X n) (Y n) (addC X Y n)
    have h1 : addC X Y (n + 1) * B64 ^ (n + 1) + addW X Y n * B64 ^ n = (X n + Y n + addC X Y n) * B64 ^ n := by
      show wCar (X n) (Y n) (addC X Y n) * B64 ^ (n + 1) + wAdd (X n) (Y n) (addC X Y n) * B64 ^ n = _
      rw [← h, Nat.pow_succ, Nat.add_mul, Nat.mul_assoc, Nat.mul_comm B64]
    simp only [val]
    rw [Nat.add_mul, Nat.add_mul] at h1
    omega

set_option maxHeartbeats 400000 in
theorem addVV_g_any (bz oz cz bx ox cx by_ oy cy n : Nat) (X Y Z : Nat → Nat) (w : World)
   (hX : Vec w bx ox n X) (hY : Vec w by_ oy n Y) (hZ : Vec w bz oz n Z) (hn : n < 4611686018427387904)
   (ax : Up bz oz bx ox n) (ay : Up bz oz by_ oy n) :
    Calls Tryz.prog 139 #[.slice (some ⟨bz, oz, none⟩) n cz, .slice (some ⟨bx, ox, none⟩) n cx, .slice (some ⟨by_, oy, none⟩) n cy] w
      fun e w' => e = .returned (U (addC X Y n)) ∧ Vec w' bz oz n (addW X Y) ∧ Mod (InR bz oz n) w w' := by
  go_enter Tryz.func139, Tryz.ntmps139
  go_wp2
  go_loopw [6, 25] (fun c i wr => ∃ k : Nat, k ≤ n ∧ i = .int .i64 (k : Int) ∧ c = U (addC X Y k) ∧ Written w wr bz oz k (addW X Y)) (fun _ i _ => n - (intOf i).toNat)
  case atStart => exact ⟨0, Nat.zero_le _, rfl, rfl, .zero _ _ _ _⟩
  case round =>
    obtain ⟨k, hk, rfl, rfl, hw⟩ := hrel
    by_cases hlt : k < n
    · have hcx := hw.read hX ax hlt
      have hcy := hw.read hY ay hlt
      obtain ⟨zk, hcz⟩ := hw.there hZ hlt
      have hfz := hw.free hZ hlt
      have hcl := addC_le (fun j hj => (hX j hj).2.2) (fun j hj => (hY j hj).2.2) k hk
      have Hs := Lib.hid (show wAdd (X k) (Y k) (addC X Y k) = addW X Y k from rfl)
      have Hc := Lib.hid (show wCar (X k) (Y k) (addC X Y k) = addC X Y (k + 1) from rfl)
      have Hw := Lib.hid hw
      have HZ := Lib.hid (hZ k hlt).1
      clear hw
      generalize addC X Y k = c at *
      generalize X k = xk at *
      generalize Y k = yk at *
      go_wp2_with fail
      go_quiet ((go_at_call 140; exact Calls.quiet_of_same (add_any _ _ _ (by omega) _)))
      go_wp2_with fail
      go_roundw
      case rel => exact ⟨k + 1, by omega, by go_num, by rw [Hc.out], (Hw.out.drewN _).step HZ.out Hs.out⟩
      case measure => simp [intOf]; omega
    · obtain rfl : k = n := by omega
      go_wp2_with fail
      go_ret
      exact ⟨rfl, hw.vec hZ (fun j hj => wAdd_lt _ _ _), hw.mod⟩

/-! ### mulAddVWW -/
def mulC (X : Nat → Nat) (y r : Nat) : Nat → Nat
  | 0 => r
  | k + 1 => wHi (X k) y (mulC X y r k)
def mulW (X : Nat → Nat) (y r : Nat) (k : Nat) : Nat := wLo (X k) y (mulC X y r k)

theorem mulC_lt {X : Nat → Nat} {y r n : Nat} (hx : ∀ j, j < n → X j < B64) (hy : y < B64) (hr : r < B64) : ∀ k, k ≤ n → mulC X y r k < B64
  | 0, _ => hr
  | k + 1, h => wHi_lt (hx k (by omega)) hy (mulC_lt hx hy hr k (by omega))

theorem mul_val (X : Nat → Nat) (y r n : Nat) : val (mulW X y r) n + mulC X y r n * B64 ^ n = val X n * y + r := by
  induction n with
  | zero => simp [val, mulC]
  | succ n ih =>
    have h := wHi_lo (X n) y (mulC X y r n)
    have h1 : mulC X y r (n + 1) * B64 ^ (n + 1) + mulW X y r n * B64 ^ n = (X n * y + mulC X y r n) * B64 ^ n := by
      show wHi (X n) y (mulC X y r n) * B64 ^ (n + 1) + wLo (X n) y (mulC X y r n) * B64 ^ n = _
      rw [← h, Nat.pow_succ, Nat.add_mul, Nat.mul_assoc, Nat.mul_comm B64]
    simp only [val]
    rw [Nat.add_mul] at h1
    have h2 : X n * y * B64 ^ n = X n * B64 ^ n * y := by ac_rfl
    rw [Nat.add_mul]
    omega

set_option maxHeartbeats 400000 in
theorem mulAddVWW_g_any (bz oz cz bx ox cx n y r : Nat) (X Z : Nat → Nat) (w : World)
   (hX : Vec w bx ox n X) (hZ : Vec w bz oz n Z) (hn : n < 4611686018427387904) (hy : y < B64) (hr : r < B64) (ax : Up bz oz bx ox n) :
    Calls Tryz.prog 191 #[.slice (some ⟨bz, oz, none⟩) n cz, .slice (some ⟨bx, ox, none⟩) n cx, U y, U r] w
      fun e w' => e = .returned (U (mulC X y r n)) ∧ Vec w' bz oz n (mulW X y r) ∧ Mod (InR bz oz n) w w' := by
  go_enter Tryz.func191, Tryz.ntmps191
  go_wp2
  go_loopw [8, 19] (fun c i wr => ∃ k : Nat, k ≤ n ∧ i = .int .i64 (k : Int) ∧ c = U (mulC X y r k) ∧ Written w wr bz oz k (mulW X y r)) (fun _ i _ => n - (intOf i).toNat)
  case atStart => exact ⟨0, Nat.zero_le _, rfl, rfl, .zero _ _ _ _⟩
  case round =>
    obtain ⟨k, hk, rfl, rfl, hw⟩ := hrel
    by_cases hlt : k < n
    · have hcx := hw.read hX ax hlt
      obtain ⟨zk, hcz⟩ := hw.there hZ hlt
      have hfz := hw.free hZ hlt
      have hcl := mulC_lt (fun j hj => (hX j hj).2.2) hy hr k hk
      have hxl := (hX k hlt).2.2
      have Hs := Lib.hid (show wLo (X k) y (mulC X y r k) = mulW X y r k from rfl)
      have Hc := Lib.hid (show wHi (X k) y (mulC X y r k) = mulC X y r (k + 1) from rfl)
      have Hw := Lib.hid hw
      have HZ := Lib.hid (hZ k hlt).1
      clear hw
      generalize mulC X y r k = c at *
      generalize X k = xk at *
      go_wp2_with (go_at_call 206; refine (mulAddWWW_g_any _ _ _ hxl hy hcl _).mono ?_; rintro e w' ⟨rfl, rfl⟩)
      go_roundw
      case rel => exact ⟨k + 1, by omega, by go_num, by rw [Hc.out], Hw.out.step HZ.out Hs.out⟩
      case measure => simp [intOf]; omega
    · obtain rfl : k = n := by omega
      go_wp2_with fail
      go_ret
      exact ⟨rfl, hw.vec hZ (fun j hj => wLo_lt _ _ _), hw.mod⟩

theorem mulAddVWW_any (bz oz cz bx ox cx n y r : Nat) (X Z : Nat → Nat) (w : World)
   (hX : Vec w bx ox n X) (hZ : Vec w bz oz n Z) (hn : n < 4611686018427387904) (hy : y < B64) (hr : r < B64) (ax : Up bz oz bx ox n) :
    Calls Tryz.prog 169 #[.slice (some ⟨bz, oz, none⟩) n cz, .slice (some ⟨bx, ox, none⟩) n cx, U y, U r] w
      fun e w' => e = .returned (U (mulC X y r n)) ∧ Vec w' bz oz n (mulW X y r) ∧ Mod (InR bz oz n) w w' := by
  go_enter Tryz.func169, Tryz.ntmps169
  go_wp2_with (go_at_call 191; refine (mulAddVWW_g_any _ _ _ _ _ _ _ _ _ X Z _ hX hZ hn hy hr ax).mono ?_; rintro e w' ⟨rfl, h1, h2⟩)
  go_ret
  exact ⟨rfl, h1, h2⟩
end Go.Proofs.YtpfmbfkhjapbbaaGreatDoor
