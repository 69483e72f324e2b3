/-
  big's nat.bytes, Int.FillBytes: a number's bytes, the highest first. Conditions: the row is as long as the array that holds it, at most 100000 bytes, and the number fits; the row lies apart from the number's words.
-/
import Derived.Test.YtpfmbfkhjapbbaaGreatDoorByt2
set_option linter.unusedVariables false
set_option linter.unusedSimpArgs false
namespace Go.Proofs.YtpfmbfkhjapbbaaGreatDoor
open Go Go.RowKit

/-- The row, its last T bytes written. -/
def gB (L v T p : Nat) : Nat := if L ≤ p + T then byteAt L v p else 0

theorem gB_step (L v T : Nat) (h : T < L) (p : Nat) : gB L v (T + 1) p = if p = L - 1 - T then v / 256 ^ T % 256 else gB L v T p := by
  unfold gB
  by_cases e : p = L - 1 - T
  · rw [if_pos e, if_pos (by omega)]
    unfold byteAt
    rw [show L - 1 - p = T by omega]
  · rw [if_neg e]
    by_cases h2 : L ≤ p + T
    · rw [if_pos h2, if_pos (by omega)]
    · rw [if_neg h2, if_neg (by omega)]

theorem byte_of_word (f : Nat → Nat) (n : Nat) (hf : ∀ j, j < n → f j < B64) {k j : Nat} (hk : k < n) (hj : j < 8) : f k / 256 ^ j % 256 = val f n / 256 ^ (8 * k + j) % 256 := by
  rw [val_byte f n hf _ (by omega)]
  unfold byteW
  rw [show (8 * k + j) / 8 = k by omega, show (8 * k + j) % 8 = j by omega, Nat.pow_mul]

set_option maxRecDepth 100000 in
set_option maxHeartbeats 2000000 in
theorem natBytes_any (ax : Option Addr) (n c v bb L : Nat) (f : Nat → Nat) (w : World) (hX : NatIs w ax n c f v) (hn : n ≤ 100000) (hB : BArr w (some ⟨bb, 0, none⟩) L (fun _ => 0)) (hL : L ≤ 100000) (hv : v < 256 ^ L) (hne : ¬ BlkOf ax bb 0) :
    Calls Tryz.prog 77 #[.slice ax n c, .slice (some ⟨bb, 0, none⟩) L L] w fun e w' => (∃ i : Nat, e = .returned (.int .i64 (i : Int))) ∧ BArr w' (some ⟨bb, 0, none⟩) L (byteAt L v) ∧ Mod (InB bb) w w' := by
  have HX := Lib.hid hX
  have hle := hX.le
  have hzero : ∀ T, L ≤ T → v / 256 ^ T % 256 = 0 := fun T hT => by
    rw [Nat.div_eq_of_lt (Nat.lt_of_lt_of_le hv (Nat.pow_le_pow_right (by omega) hT))]
  have hend : ∀ p, p < L → byteAt L v p = gB L v (8 * n) p := fun p hp => by
    unfold gB
    by_cases h : L ≤ p + 8 * n
    · rw [if_pos h]
    · rw [if_neg h]
      unfold byteAt
      have h1 := hX.lt
      rw [show B64 = 256 ^ 8 from rfl, ← Nat.pow_mul] at h1
      rw [Nat.div_eq_of_lt (Nat.lt_of_lt_of_le h1 (Nat.pow_le_pow_right (by omega) (by omega)))]
  have HZ := Lib.hid hzero
  have HE := Lib.hid hend
  have hword := fun k (hk : k < n) => hX.arr.words k (by omega)
  have hbyte : ∀ k j, k < n → j < 8 → f k / 256 ^ j % 256 = v / 256 ^ (8 * k + j) % 256 := fun k j hk hj => by
    rw [← hX.val]; exact byte_of_word f n (fun j hj => hword j hj) hk hj
  have HW := Lib.hid hword
  have HBY := Lib.hid hbyte
  have HB := Lib.hid hB
  have HXM : Hid (∀ wr, Mod (InB bb) w wr → NatIs wr ax n c f v) := fun wr m => hX.mod m fun A hA o h => hne ⟨A, hA, h⟩
  clear hX hzero hend hword hbyte hB hv hne
  go_enter Tryz.func77, Tryz.ntmps77
  go_wp2_with fail
  go_loopw [12, 4] (fun k i wr => ∃ K : Nat, K ≤ n ∧ k = .int .i64 (K : Int) ∧ i = .int .i64 ((L : Int) - ((8 * K : Nat) : Int)) ∧ Hid (BArr wr (some ⟨bb, 0, none⟩) L (gB L v (8 * K)) ∧ Mod (InB bb) w wr)) (fun k _ _ => n - (intOf k).toNat)
  case atStart => exact ⟨0, by omega, rfl, by simp, HB.out.congrB fun p hp => by unfold gB; rw [if_neg (by omega)], .refl _ _⟩
  case round =>
    obtain ⟨K, hK, rfl, rfl, hinv⟩ := hrel
    by_cases hlt : K < n
    · have hN := HXM.out _ hinv.out.2
      obtain ⟨b, rfl⟩ := hN.arr.form (by omega)
      have hcK := (hN.arr.vec K (by omega)).1
      rw [Nat.zero_add] at hcK
      have hwK := HW.out K hlt
      clear hN
      go_wp2_with fail
      go_loopw [7, 4, 6] (fun j i d wr => ∃ (J : Nat) (I : Int), J ≤ 8 ∧ j = .int .i64 (J : Int) ∧ i = .int .i64 I ∧ Hid (I + ((8 * K + J : Nat) : Int) = (L : Int)) ∧ d = U (f K / 256 ^ J) ∧ Hid (BArr wr (some ⟨bb, 0, none⟩) L (gB L v (8 * K + J)) ∧ Mod (InB bb) w wr)) (fun j _ _ _ => 8 - (intOf j).toNat)
      case atStart => exact ⟨0, _, by omega, rfl, rfl, by show _ = _; simp, by simp, hinv⟩
      case round =>
        obtain ⟨J, I, hJ, rfl, rfl, hI, rfl, hin2⟩ := hrel
        rcases Nat.lt_or_eq_of_le hJ with hJ8 | rfl
        · have hb := HBY.out K J hlt hJ8
          have hxl : f K / 256 ^ J < B64 := Nat.lt_of_le_of_lt (Nat.div_le_self _ _) hwK
          have hnext : f K / 256 ^ (J + 1) = f K / 256 ^ J / 256 := by rw [Nat.pow_succ, Nat.div_div_eq_div_mul]
          have HBJ := Lib.hid hb
          have HNX := Lib.hid hnext
          clear hb hnext
          generalize hx : f K / 256 ^ J = x at *
          have hw8 : IntKind.u8.wrap (x : Int) = ((x % 256 : Nat) : Int) := by rw [IntKind.wrap_u8]; omega
          by_cases hTL : 8 * K + J < L
          · obtain ⟨q, hq⟩ : ∃ q : Nat, q = L - 1 - (8 * K + J) := ⟨_, rfl⟩
            obtain rfl : I = ((q + 1 : Nat) : Int) := by have := hI.out; omega
            have hqL : q < L := by omega
            obtain ⟨hcq, hfq⟩ := hin2.out.1.cell hqL
            have HQ := Lib.hid hq
            have HIN := Lib.hid hin2.out
            clear hin2 hq hx
            go_wp2_with fail
            go_roundw
            case rel =>
              refine ⟨J + 1, _, by omega, by go_num, rfl, by show _ = _; have := HQ.out; omega, ?_, ?_⟩
              · rw [HNX.out]; show Value.int .u64 ((x : Int) / 256) = Value.int .u64 ((x / 256 : Nat) : Int); congr 1
              · have hst := HIN.out.1.store hqL (x % 256)
                refine ⟨hst.1.congrB fun p hp => ?_, HIN.out.2.setCell (fun _ => rfl) _⟩
                rw [show 8 * K + (J + 1) = 8 * K + J + 1 by omega, gB_step L v _ hTL, HBJ.out, HQ.out]
            case measure => simp [intOf]; omega
          · have hz : x % 256 = 0 := by rw [HBJ.out]; exact HZ.out _ (by omega)
            rw [hz] at hw8
            have hI1 : I ≤ 0 := by have := hI.out; omega
            have hI2 : -1000000 ≤ I := by have := hI.out; omega
            have HIN := Lib.hid hin2.out
            clear hin2 hz hx
            go_wp2_with fail
            go_roundw
            case rel =>
              refine ⟨J + 1, _, by omega, by go_num, rfl, by show _ = _; have := hI.out; omega, ?_, ?_, HIN.out.2⟩
              · rw [HNX.out]; show Value.int .u64 ((x : Int) / 256) = Value.int .u64 ((x / 256 : Nat) : Int); congr 1
              · refine HIN.out.1.congrB fun p hp => ?_
                unfold gB
                rw [if_pos (by omega), if_pos (by omega)]
            case measure => simp [intOf]; omega
        · go_wp2_with fail
          go_roundw
          case rel => exact ⟨K + 1, by omega, by go_num, by congr 1; have := hI.out; omega, hin2⟩
          case measure => simp [intOf]; omega
    · obtain rfl : K = n := by omega
      have d1 : decide ((K : Int) < (K : Int)) = false := decide_eq_false (by omega)
      have hA := hinv.out.1.congrB HE.out
      have HA := Lib.hid hA
      have HM := Lib.hid hinv.out.2
      clear hinv hA
      have hcell := fun p (hp : p < L) => (HA.out.cell hp).1
      have HC := Lib.hid hcell
      clear hcell
      obtain ⟨g, hg⟩ : ∃ g, g = byteAt L v := ⟨_, rfl⟩
      rw [← hg] at HA HC
      have HG := Lib.hid hg
      clear hg
      by_cases hneg : L < 8 * K
      · have d2 : decide ((L : Int) - (8 * (K : Int)) < 0) = true := decide_eq_true (by omega)
        go_wp2_with fail
        go_loop [4] (fun i => ∃ p : Nat, p ≤ L ∧ i = .int .i64 (p : Int)) (fun i => L - (intOf i).toNat)
        case atStart => exact ⟨0, by omega, rfl⟩
        case round =>
          obtain ⟨p, hp, rfl⟩ := hrel
          by_cases hpL : p < L
          · have hcp := HC.out p hpL
            generalize g p = y at hcp
            by_cases hy : y = 0
            · subst hy
              go_wp2_with fail
              go_round
              case rel => exact ⟨p + 1, by omega, by go_num⟩
              case measure => simp [intOf]; omega
            · have hy0 : (((y : Nat) : Int) == 0) = false := by simp; omega
              go_wp2_with fail
              go_ret
              exact ⟨⟨p, rfl⟩, by rw [← HG.out]; exact HA.out, HM.out⟩
          · obtain rfl : p = L := by omega
            go_wp2_with fail
            go_ret
            exact ⟨⟨p, rfl⟩, by rw [← HG.out]; exact HA.out, HM.out⟩
      · have d2 : decide ((L : Int) - (8 * (K : Int)) < 0) = false := decide_eq_false (by omega)
        have hq : ∃ q : Nat, q ≤ L ∧ (L : Int) - ((8 * K : Nat) : Int) = (q : Int) := ⟨L - 8 * K, by omega, by omega⟩
        obtain ⟨q, hqL, hqe⟩ := hq
        have d3 : decide ((q : Int) < 0) = false := decide_eq_false (by omega)
        rw [hqe]
        clear hqe d2
        go_wp2_with fail
        go_loop [4] (fun i => ∃ p : Nat, p ≤ L ∧ i = .int .i64 (p : Int)) (fun i => L - (intOf i).toNat)
        case atStart => exact ⟨q, hqL, rfl⟩
        case round =>
          obtain ⟨p, hp, rfl⟩ := hrel
          by_cases hpL : p < L
          · have hcp := HC.out p hpL
            generalize g p = y at hcp
            by_cases hy : y = 0
            · subst hy
              go_wp2_with fail
              go_round
              case rel => exact ⟨p + 1, by omega, by go_num⟩
              case measure => simp [intOf]; omega
            · have hy0 : (((y : Nat) : Int) == 0) = false := by simp; omega
              go_wp2_with fail
              go_ret
              exact ⟨⟨p, rfl⟩, by rw [← HG.out]; exact HA.out, HM.out⟩
          · obtain rfl : p = L := by omega
            go_wp2_with fail
            go_ret
            exact ⟨⟨p, rfl⟩, by rw [← HG.out]; exact HA.out, HM.out⟩
set_option maxHeartbeats 400000 in
theorem fillBytes_any (p n c v bb L : Nat) (neg : Bool) (ax : Option Addr) (f g : Nat → Nat) (w : World) (hI : IntIs w p neg ax n c f v) (hn : n ≤ 100000) (hB : BArr w (some ⟨bb, 0, none⟩) L g) (hL : L ≤ 100000) (hL0 : 0 < L) (hv : v < 256 ^ L) (hne : ¬ BlkOf ax bb 0) (hpb : p ≠ bb) :
    Calls Tryz.prog 57 #[.pointer (some ⟨p, 0, none⟩), .slice (some ⟨bb, 0, none⟩) L L] w fun e w' => e = .returned (.slice (some ⟨bb, 0, none⟩) L L) ∧ BArr w' (some ⟨bb, 0, none⟩) L (byteAt L v) ∧ Mod (InB bb) w w' := by
  obtain ⟨w1, hcl, hB1, m1⟩ := clear_run w 0 bb 0 L L L g hB (by omega) hL0
  have hI1 := hI.mod m1 (fun o h => hpb h) (fun A hA o h => hne ⟨A, hA, h⟩)
  have c1 := hI1.c1
  have HB := Lib.hid (natBytes_any ax n c v bb L f w1 hI1.num hn (hB1.congrB fun j hj => by unfold over; rw [if_pos (by omega)]) hL hv hne)
  have M1 := Lib.hid m1
  clear hI hI1 hB hB1 m1
  go_enter Tryz.func57, Tryz.ntmps57
  go_wp2_with (simp only [hcl])
  refine HB.out.mono ?_
  rintro e w2 ⟨⟨i, rfl⟩, h1, h2⟩
  have H1 := Lib.hid h1
  clear h1
  go_wp2_with fail
  go_ret
  exact ⟨rfl, H1.out, M1.out.trans h2⟩
end Go.Proofs.YtpfmbfkhjapbbaaGreatDoor
