/-
  Rows of words, more: addVV, subVV; copy of a row of words; addVW, subVW. Conditions as in Vecs.
-/
import Derived.Test.YtpfmbfkhjapbbaaGreatDoorSpecN
import Derived.Test.YtpfmbfkhjapbbaaGreatDoorScanHex
import Derived.Test.YtpfmbfkhjapbbaaGreatDoorRowSet
set_option linter.unusedVariables false
set_option linter.unusedSimpArgs false
namespace Go.Proofs.YtpfmbfkhjapbbaaGreatDoor
open Go Go.RowKit

theorem addVV_any (bz oz cz bx ox cx by_ oy cy n : Nat) (X Y Z : Nat → Nat) (w : World)
   (hX : Vec w bx ox n X) (hY : Vec w by_ oy n Y) (hZ : Vec w bz oz n Z) (hn : n < 4611686018427387904)
   (ax : Up bz oz bx ox n) (ay : Up bz oz by_ oy n) :
    Calls Tryz.prog 123 #[.slice (some ⟨bz, oz, none⟩) n cz, .slice (some ⟨bx, ox, none⟩) n cx, .slice (some ⟨by_, oy, none⟩) n cy] w
      fun e w' => e = .returned (U (addC X Y n)) ∧ Vec w' bz oz n (addW X Y) ∧ Mod (InR bz oz n) w w' := by
  have h := addVV_g_any bz oz cz bx ox cx by_ oy cy n X Y Z w hX hY hZ hn ax ay
  have H := Lib.hid h
  clear h hX hY hZ
  go_enter Tryz.func123, Tryz.ntmps123
  go_wp2_with fail
  refine H.out.mono ?_
  rintro e w' ⟨rfl, h3, h4⟩
  go_wp2_with fail
  go_ret
  exact ⟨rfl, h3, h4⟩

set_option maxHeartbeats 400000 in
theorem subVV_g_any (bz oz cz bx ox cx by_ oy cy n : Nat) (X Y Z : Nat → Nat) (w : World)
   (hX : Vec w bx ox n X) (hY : Vec w by_ oy n Y) (hZ : Vec w bz oz n Z) (hn : n < 4611686018427387904)
   (ax : Up bz oz bx ox n) (ay : Up bz oz by_ oy n) :
    Calls Tryz.prog 141 #[.slice (some ⟨bz, oz, none⟩) n cz, .slice (some ⟨bx, ox, none⟩) n cx, .slice (some ⟨by_, oy, none⟩) n cy] w
      fun e w' => e = .returned (U (subC X Y n)) ∧ Vec w' bz oz n (subW X Y) ∧ Mod (InR bz oz n) w w' := by
  go_enter Tryz.func141, Tryz.ntmps141
  go_wp2
  go_loopw [6, 25] (fun c i wr => ∃ k : Nat, k ≤ n ∧ i = .int .i64 (k : Int) ∧ c = U (subC X Y k) ∧ Written w wr bz oz k (subW X Y)) (fun _ i _ => n - (intOf i).toNat)
  case atStart => exact ⟨0, Nat.zero_le _, rfl, rfl, .zero _ _ _ _⟩
  case round =>
    obtain ⟨k, hk, rfl, rfl, hw⟩ := hrel
    by_cases hlt : k < n
    · have hcx := hw.read hX ax hlt
      have hcy := hw.read hY ay hlt
      obtain ⟨zk, hcz⟩ := hw.there hZ hlt
      have hfz := hw.free hZ hlt
      have hcl := subC_le X Y k
      have Hs := Lib.hid (show wSub (X k) (Y k) (subC X Y k) = subW X Y k from rfl)
      have Hc := Lib.hid (show wBor (X k) (Y k) (subC X Y k) = subC X Y (k + 1) from rfl)
      have Hw := Lib.hid hw
      have HZ := Lib.hid (hZ k hlt).1
      clear hw
      generalize subC X Y k = c at *
      generalize X k = xk at *
      generalize Y k = yk at *
      go_wp2_with fail
      go_quiet ((go_at_call 142; exact Calls.quiet_of_same (sub_any _ _ _ (by omega) _)))
      go_wp2_with fail
      go_roundw
      case rel => exact ⟨k + 1, by omega, by go_num, by rw [Hc.out], (Hw.out.drewN _).step HZ.out Hs.out⟩
      case measure => simp [intOf]; omega
    · obtain rfl : k = n := by omega
      go_wp2_with fail
      go_ret
      exact ⟨rfl, hw.vec hZ (fun j hj => wSub_lt _ _ _), hw.mod⟩

theorem subVV_any (bz oz cz bx ox cx by_ oy cy n : Nat) (X Y Z : Nat → Nat) (w : World)
   (hX : Vec w bx ox n X) (hY : Vec w by_ oy n Y) (hZ : Vec w bz oz n Z) (hn : n < 4611686018427387904)
   (ax : Up bz oz bx ox n) (ay : Up bz oz by_ oy n) :
    Calls Tryz.prog 125 #[.slice (some ⟨bz, oz, none⟩) n cz, .slice (some ⟨bx, ox, none⟩) n cx, .slice (some ⟨by_, oy, none⟩) n cy] w
      fun e w' => e = .returned (U (subC X Y n)) ∧ Vec w' bz oz n (subW X Y) ∧ Mod (InR bz oz n) w w' := by
  have h := subVV_g_any bz oz cz bx ox cx by_ oy cy n X Y Z w hX hY hZ hn ax ay
  have H := Lib.hid h
  clear h hX hY hZ
  go_enter Tryz.func125, Tryz.ntmps125
  go_wp2_with fail
  refine H.out.mono ?_
  rintro e w' ⟨rfl, h3, h4⟩
  go_wp2_with fail
  go_ret
  exact ⟨rfl, h3, h4⟩

/-! ### copy of a row of words -/
theorem size121 : (Tryz.prog.info? 121).map (·.size) = some 1 := by kernel_rfl

theorem copyV_run (w : World) (tt ty : TypeId) (ht : Tryz.prog.underlying tt = some (.slice 121)) (t2 : TypeId) (b o n c cc : Nat) (f : Nat → Nat) (hA : Arr w (some ⟨b, 0, none⟩) cc f) (hfit : o + n ≤ cc) (sb so sc : Nat) (X : Nat → Nat) (hX : Vec w sb so n X) :
    ∃ w', (Builtin.copy_ #[tt, t2] ty #[.slice (some ⟨b, o, none⟩) n c, .slice (some ⟨sb, so, none⟩) n sc]).run Tryz.prog w = .ok (.int .i64 (n : Nat)) w' ∧ Vec w' b o n X ∧ Mod (InR b o n) w w' := by
  rcases hA with ⟨h, _⟩ | ⟨b', C, t, e, hb, hs, hc⟩
  · cases h
  obtain rfl : b = b' := by simpa using e
  have hcs : ∀ j, j < n → ((List.range n).map fun j => U (X j))[j]? = some (U (X j)) := fun j hj => by simp [hj]
  have hr := run_copy_row (P := Tryz.prog) w tt t2 ty 121 b o n c ⟨sb, so, none⟩ n sc C t ((List.range n).map fun j => U (X j)) ht size121 hb (by simp) (fun j v hv => by
    obtain ⟨hj, rfl⟩ : j < n ∧ U (X j) = v := by
      rw [List.getElem?_map, Option.map_eq_some_iff] at hv
      obtain ⟨k, hk, rfl⟩ := hv
      obtain ⟨hj, rfl⟩ := List.getElem?_eq_some_iff.1 hk
      simp at hj
      simp [hj]
    rw [Addr.add_lit]
    exact (hX j hj).1) (by simp; omega) (by
    intro v hv
    obtain ⟨j, _, rfl⟩ := List.mem_map.1 hv
    rfl)
  have hh := setRow_heap w b C (C.toList.take o ++ ((List.range n).map fun j => U (X j)) ++ C.toList.drop (o + ((List.range n).map fun j => U (X j)).length)).toArray t (0, 0) hb
  generalize hR : (C.toList.take o ++ ((List.range n).map fun j => U (X j)) ++ C.toList.drop (o + ((List.range n).map fun j => U (X j)).length)) = R at *
  have hRs : R.length = cc := by rw [← hR]; simp; omega
  have hRg : ∀ j, R[j]? = if o ≤ j ∧ j < o + n then some (U (X (j - o))) else C[j]? := fun j => by
    rw [← hR, List.append_assoc, List.getElem?_append]
    simp only [List.length_take, Array.length_toList, hs, Nat.min_eq_left (show o ≤ cc by omega)]
    by_cases h1' : j < o
    · rw [if_pos h1', if_neg (by omega)]
      simp [h1']
    · rw [if_neg h1', List.getElem?_append]
      simp only [List.length_map, List.length_range]
      by_cases h2' : j < o + n
      · rw [if_pos (by omega), if_pos (by omega), hcs _ (by omega)]
      · rw [if_neg (by omega), if_neg (by omega)]
        simp only [List.getElem?_drop, Array.getElem?_toList]
        rw [show o + n + (j - o - n) = j by omega]
  refine ⟨_, ?_, fun j hj => ⟨?_, free_of_heap hh _, (hX j hj).2.2⟩, rfl, rfl, rfl, by simp, fun k hk => ?_⟩
  · rw [hr]
    simp [goInt]
  · rw [cell?_of_heap hh, List.getElem?_toArray, hRg, if_pos (by omega), Nat.add_sub_cancel_left]
  · by_cases hkb : k = b
    · subst hkb
      refine .inr ⟨C, _, t, (0, 0), hb, hh, by simp [hRs, hs], fun j hj => ?_⟩
      rw [List.getElem?_toArray, hRg, if_neg (fun h => hj ⟨rfl, h⟩)]
    · exact .inl (setRow_other w b k _ hkb)

/-! ### addVW, subVW: a word added to a row, or taken off -/
/-- The words of x + y: the carry runs while the words are full. -/
def awC (X : Nat → Nat) (y : Nat) : Nat → Nat
  | 0 => y
  | k + 1 => wCar (X k) (awC X y k) 0
def awW (X : Nat → Nat) (y : Nat) (k : Nat) : Nat := wAdd (X k) (awC X y k) 0
def swC (X : Nat → Nat) (y : Nat) : Nat → Nat
  | 0 => y
  | k + 1 => wBor (X k) (swC X y k) 0
def swW (X : Nat → Nat) (y : Nat) (k : Nat) : Nat := wSub (X k) (swC X y k) 0

theorem aw_val (X : Nat → Nat) (y n : Nat) : val (awW X y) n + awC X y n * B64 ^ n = val X n + y := by
  induction n with
  | zero => simp [val, awC]
  | succ n ih =>
    have h := wCar_add (X n) (awC X y n) 0
    have h1 : awC X y (n + 1) * B64 ^ (n + 1) + awW X y n * B64 ^ n = (X n + awC X y n) * B64 ^ n := by
      show wCar (X n) (awC X y n) 0 * B64 ^ (n + 1) + wAdd (X n) (awC X y n) 0 * B64 ^ n = _
      rw [show X n + awC X y n = X n + awC X y n + 0 from rfl, ← h, Nat.pow_succ, Nat.add_mul, Nat.mul_assoc, Nat.mul_comm B64]
    simp only [val]
    rw [Nat.add_mul] at h1
    omega

theorem wBor_small {x y : Nat} : wBor x y 0 = if x < y then 1 else 0 := by unfold wBor; simp

theorem sw_val (X : Nat → Nat) (y n : Nat) (hx : ∀ j, j < n → X j < B64) (hy : y < B64) : val (swW X y) n + y = val X n + swC X y n * B64 ^ n ∧ (0 < n → swC X y n ≤ 1) := by
  induction n with
  | zero => simp [val, swC]
  | succ n ih =>
    obtain ⟨ih, hc⟩ := ih (fun j hj => hx j (by omega))
    have hcl : swC X y n < B64 := by
      rcases Nat.eq_zero_or_pos n with h0 | h0
      · subst h0; exact hy
      · have := hc h0; have : 1 < B64 := by decide
        omega
    have h := wSub_bor (hx n (by omega)) hcl (show 0 ≤ 1 by omega)
    have h1 : swC X y (n + 1) * B64 ^ (n + 1) + X n * B64 ^ n = (swW X y n + swC X y n) * B64 ^ n := by
      show wBor (X n) (swC X y n) 0 * B64 ^ (n + 1) + X n * B64 ^ n = (wSub (X n) (swC X y n) 0 + swC X y n) * B64 ^ n
      rw [show wSub (X n) (swC X y n) 0 + swC X y n = wSub (X n) (swC X y n) 0 + swC X y n + 0 from rfl, h, Nat.pow_succ, Nat.add_mul, Nat.mul_assoc, Nat.mul_comm B64, Nat.add_comm]
    refine ⟨?_, fun _ => wBor_le _ _ _⟩
    simp only [val]
    rw [Nat.add_mul] at h1
    omega

theorem aw_stop {X : Nat → Nat} {y i n : Nat} (hx : ∀ j, j < n → X j < B64) (h : awC X y i = 0) : ∀ j, i ≤ j → j ≤ n → awC X y j = 0 := by
  intro j hj hn
  induction j with
  | zero => rw [show i = 0 by omega] at h; exact h
  | succ j ih =>
    by_cases e : i = j + 1
    · rw [← e]; exact h
    · simp only [awC]
      rw [ih (by omega) (by omega)]
      unfold wCar
      exact Nat.div_eq_of_lt (by have := hx j (by omega); omega)
theorem aw_same {X : Nat → Nat} {y i n : Nat} (hx : ∀ j, j < n → X j < B64) (h : awC X y i = 0) {j : Nat} (hj : i ≤ j) (hn : j < n) : awW X y j = X j := by
  unfold awW
  rw [aw_stop hx h j hj (by omega)]
  unfold wAdd
  exact Nat.mod_eq_of_lt (by have := hx j hn; omega)
theorem sw_stop {X : Nat → Nat} {y i : Nat} (h : swC X y i = 0) : ∀ j, i ≤ j → swC X y j = 0 := by
  intro j hj
  induction j with
  | zero => rw [show i = 0 by omega] at h; exact h
  | succ j ih =>
    by_cases e : i = j + 1
    · rw [← e]; exact h
    · simp only [swC]
      rw [ih (by omega)]
      unfold wBor
      rw [if_neg (by omega)]
theorem sw_same {X : Nat → Nat} {y i n : Nat} (hx : ∀ j, j < n → X j < B64) (h : swC X y i = 0) {j : Nat} (hj : i ≤ j) (hn : j < n) : swW X y j = X j := by
  unfold swW
  rw [sw_stop h j hj]
  unfold wSub
  have := hx j hn
  rw [show X j + B64 - 0 - 0 = X j + B64 by omega, Nat.add_mod_right, Nat.mod_eq_of_lt this]

theorem slice_from (tt : TypeId) (b o n c k : Nat) (hk : k ≤ n) (hn : n ≤ c) (ht : tt = 48 ∨ tt = 49) (K : Int) (hK : K = k) :
    ∃ o', (∀ w, (Instr.slice tt (.slice (some ⟨b, o, none⟩) n c) (some (.int .i64 K)) none none).run Tryz.prog w = .ok (.slice (some ⟨b, o', none⟩) (n - k) (c - k)) w) ∧ (k < c → o' = o + k) ∧ o' ≤ o + k := by
  subst hK
  have h1 : (0 : Int) ≤ (k : Int) := by omega
  have h2 : (k : Int) ≤ (n : Int) := by omega
  have h3 : (n : Int) ≤ (c : Int) := by omega
  by_cases e : c = k
  · refine ⟨o, fun w => ?_, fun h => by omega, by omega⟩
    rcases ht with rfl | rfl <;> simp [go_sem, h1, h2, h3, e]
  · refine ⟨o + k, fun w => ?_, fun h => rfl, by omega⟩
    rcases ht with rfl | rfl <;> simp [go_sem, h1, h2, h3, e]

/-- The row z, its first k words written, the rest of x laid behind them. -/
theorem Written.rest {w wr w' : World} {bz oz n k : Nat} {f g X : Nat → Nat} {o' : Nat} (h : Written w wr bz oz k f) (hZ : Vec w bz oz n g) (hk : k ≤ n) (hV : Vec w' bz o' (n - k) X) (ho : k < n → o' = oz + k) (m : Mod (InR bz o' (n - k)) wr w') (hX : ∀ j, k ≤ j → j < n → X (j - k) = f j) (hf : ∀ j, j < n → f j < B64) :
    Vec w' bz oz n f ∧ Mod (InR bz oz n) w w' := by
  have hm : Mod (InR bz oz n) w w' := (h.mod.mono fun _ _ _ ⟨a, b, c⟩ => ⟨a, b, by omega⟩).trans' m fun k' o hk' ⟨a, b, c⟩ => by
    have := ho (by omega)
    exact ⟨a, by omega, by omega⟩
  refine ⟨fun j hj => ?_, hm⟩
  refine ⟨?_, hm.free (hZ j hj).1 (hZ j hj).2.1, hf j hj⟩
  by_cases hlt : j < k
  · exact m.cell_some (h.cells j hlt) fun ⟨a, b, c⟩ => by
      have := ho (by omega)
      omega
  · have h1 := (hV (j - k) (by omega)).1
    have h2 := ho (by omega)
    rw [h2, show oz + k + (j - k) = oz + j by omega, hX j (by omega) hj] at h1
    exact h1

/-- .. where the row was x itself, and nothing has been laid. -/
theorem Written.stay {w wr : World} {bz oz n k : Nat} {f g : Nat → Nat} (h : Written w wr bz oz k f) (hZ : Vec w bz oz n g) (hk : k ≤ n) (hX : ∀ j, k ≤ j → j < n → g j = f j) (hf : ∀ j, j < n → f j < B64) :
    Vec wr bz oz n f ∧ Mod (InR bz oz n) w wr := by
  have hm : Mod (InR bz oz n) w wr := h.mod.mono fun _ _ _ ⟨a, b, c⟩ => ⟨a, b, by omega⟩
  refine ⟨fun j hj => ⟨?_, hm.free (hZ j hj).1 (hZ j hj).2.1, hf j hj⟩, hm⟩
  by_cases hlt : j < k
  · exact h.cells j hlt
  · rw [← hX j (by omega) hj]
    exact h.mod.cell_some (hZ j hj).1 fun ⟨a, b, c⟩ => by omega
end Go.Proofs.YtpfmbfkhjapbbaaGreatDoor
