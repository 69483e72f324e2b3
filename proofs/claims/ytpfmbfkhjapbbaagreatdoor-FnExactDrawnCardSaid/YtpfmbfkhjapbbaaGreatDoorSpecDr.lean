/-
  spec.Drawn: the first chunk below the order, if there is one. Condition: a slice of bytes.
-/
import Derived.Test.YtpfmbfkhjapbbaaGreatDoorDrw2
set_option linter.unusedVariables false
set_option linter.unusedSimpArgs false
namespace Go.Proofs.YtpfmbfkhjapbbaaGreatDoor
open Go Go.RowKit

/-- What spec.Drawn returns: the first chunk below the order and true; or false. -/
def DrRet (w : World) (k N : Nat) (f : Nat → Nat) (e : Ending) (w' : World) : Prop :=
  Mod NoP w w' ∧ ((∃ (q b' c' : Nat) (f' : Nat → Nat), e = .returned (.tuple #[.slice (some ⟨b', 0, none⟩) (lenK k) c', .bool true]) ∧ BArr w' (some ⟨b', 0, none⟩) c' f' ∧ lenK k ≤ c' ∧ (∀ j, j < lenK k → f' j = ch k f q j) ∧ DrawnAt k N f q) ∨ e = .returned (.tuple #[.slice none 0 0, .bool false]))

set_option maxRecDepth 100000 in
set_option maxHeartbeats 2000000 in
theorem specDrawn_any (k : Nat) (hk : k ≤ 2) (a : Option Addr) (N c : Nat) (f : Nat → Nat) (w : World) (hX : BSl w a N f) (hf : ∀ j, j < N → f j < 256) (hN : N ≤ 1048576) (hNc : N ≤ c) :
    Calls Tryz.prog 15 #[.int .i64 k, .slice a N c] w (DrRet w k N f) := by
  have hl := lenK_le k hk
  obtain ⟨i0, hinf, hz0, hz1, hz2⟩ := info5'
  have HX := Lib.hid hX
  have HF := Lib.hid hf
  clear hX hf
  go_enter Tryz.func15, Tryz.ntmps15
  go_wp2_with fail
  refine (curveOf_any k hk _).mono ?_
  rintro e w1 ⟨rfl, m1⟩
  go_upto_region 2 with (refine wpList_store_row rfl 65 (.tmp 6) (.tmp 10) rfl w1.heap.size (cvK k).toArray rfl rfl 65 zl65.toArray (heap_alloc_new w1 _) size65 (zl65_sizeK k) (cvK_one k) ?_)
  generalize hw2 : World.setRow _ w1.heap.size (cvK k).toArray = w2
  have hz := heap_alloc_new w1 (.cells zl65.toArray 65 (0, 0))
  have h2 : w2.heap[w1.heap.size]? = some (.cells (cvK k).toArray 65 (0, 0)) := by rw [← hw2]; exact setRow_heap _ _ zl65.toArray _ 65 (0, 0) hz
  have m2 : Mod NoP w w2 := by
    rw [← hw2]
    have := m1.size
    exact (m1.alloc (.cells zl65.toArray 65 (0, 0))).trans' (setRow_mod (t := 65) hz (by rw [zl65_sizeK k])) fun q r hq h => by unfold InB at h; omega
  clear hw2 hz m1
  generalize w1.heap.size = b7 at *
  have asz : w2.cell? ⟨b7, 45, none⟩ = some (.int .i64 (lenK k)) := by rw [cell?_of_heap h2]; rfl
  have M2 := Lib.hid m2
  have Hinf := Lib.hid hinf
  have Hz0 := Lib.hid hz0
  have Hz1 := Lib.hid hz1
  clear h2 m2 hinf hz0 hz1
  go_wp2_with fail
  go_loopw [7, 8] (fun p ck wr => ∃ i x : Nat, p = .int .i64 (x : Int) ∧ x ≤ N ∧ Hid (x = lenK k * i ∧ (∀ j, j < i → ordK k ≤ beN (ch k f j) (lenK k)) ∧ Mod NoP w2 wr)) (fun p _ _ => N - (intOf p).toNat)
  case atStart => exact ⟨0, 0, rfl, by omega, by omega, fun j hj => by omega, .refl _ _⟩
  case round =>
    obtain ⟨i, x, rfl, hx, hR⟩ := hrel
    have asr := hR.out.2.2.cell_some asz fun h => h
    have HLK := Lib.hid (show lenK k = lenK k from rfl)
    by_cases hfit : x + lenK k ≤ N
    · obtain ⟨b, o, rfl, hB⟩ : ∃ b o, a = some ⟨b, o, none⟩ ∧ Bts w b o N f := by
        rcases HX.out with ⟨_, h⟩ | h
        · omega
        · exact h
      have hBr := (hB.mod M2.out fun _ _ h => h).mod hR.out.2.2 fun _ _ h => h
      have hbx := bts_from hBr x (lenK k) hfit
      have HBX := Lib.hid hbx
      have hIS := fun b3 c3 f3 w3 (h : Bts w3 b3 0 (lenK k) f3) (h2 : ∀ j, j < lenK k → f3 j < 256) => isScalar_any k hk (some ⟨b3, 0, none⟩) (lenK k) c3 f3 w3 (.inr ⟨b3, 0, rfl, h⟩) h2 (by omega)
      have HIS := Lib.hid hIS
      obtain ⟨L, hL⟩ : ∃ L, L = lenK k := ⟨_, rfl⟩
      have HL := Lib.hid hL
      rw [← hL] at hfit asr hl HBX HIS
      have hs := fun W => slice22_range b o N c x (x + L) (by omega) hfit hNc (x : Int) ((x : Int) + (L : Int)) rfl (by omega) W
      rw [show x + L - x = L by omega] at hs
      have asr2 := ((Mod.refl NoP wr).alloc (.cells #[] 5 (0, 0))).cell_some asr fun h => h
      clear hB hBr hbx hIS HLK hL
      go_wp2_with (at_builtin; refine wpList_append_g rfl (.tmp 22) (.tmp 29) 22 5 rfl i0 (.int .u8 0) Tryz.underlying22 Hinf.out Hz0.out rfl Hz1.out hz2 (some ⟨wr.heap.size, 0, none⟩) 0 0 (fun _ => .int .u8 0) rfl ?hA (Nat.le_refl _) b (o + x) L (c - x) rfl (fun j => Bt (f (x + j))) ?hx (by omega) (by omega) ?hK)
      case hA => exact .inr ⟨_, _, _, rfl, heap_alloc_new wr _, rfl, fun j hj => by omega⟩
      case hx => exact fun j hj => ⟨((Mod.refl NoP wr).alloc _).cell_some (HBX.out j hj) fun x => x, rfl⟩
      case hK =>
        intro a' c2 g' w3 hap
        obtain ⟨b', c3, f3, he3, hA3, hc3, hf3, hb3, m3⟩ := append_new hap (by omega)
        obtain ⟨rfl, rfl⟩ : a' = some ⟨b', 0, none⟩ ∧ c2 = c3 := by simpa using he3
        have hc0 := (hA3.cell (show 0 < c2 by omega)).1
        have hfr0 := (hA3.cell (show 0 < c2 by omega)).2
        have hL0 : 0 < L := by omega
        have hf0 : f3 0 < 256 := by rw [hf3 0 hL0]; exact HF.out _ (by omega)
        have HA3 := Lib.hid hA3
        have HF3 := Lib.hid hf3
        have M3 := Lib.hid m3
        have HR := Lib.hid hR.out
        clear he3 hA3 hf3 m3 hap hR asr asr2
        by_cases hk2 : k = 2
        · have dk : ((k : Int) == 2) = true := by simp; omega
          have HK2 := Lib.hid hk2
          have hand := and_top1 (f3 0) hf0
          obtain ⟨z, hz⟩ : ∃ z, z = f3 0 % 2 := ⟨_, rfl⟩
          rw [← hz] at hand
          obtain ⟨y, hy⟩ : ∃ y, y = f3 0 := ⟨_, rfl⟩
          rw [← hy] at hand hc0
          have HZ := Lib.hid hz
          have HY := Lib.hid hy
          clear hz hy hf0 hk2
          go_wp2_with fail
          obtain ⟨hA4, m4⟩ := HA3.out.store (show 0 < c2 by omega) z
          have hg : ∀ j, j < L → (fun j => if j = 0 then z else f3 j) j = ch k f i j := fun j hj => by
            show (if j = 0 then z else f3 j) = _
            unfold ch
            by_cases h0 : j = 0
            · have ht : topK k = 2 := by rw [HK2.out]; rfl
              rw [if_pos h0, if_pos h0, HZ.out, HF3.out 0 hL0, ht, HR.out.1, Nat.add_zero]
            · rw [if_neg h0, if_neg h0, HF3.out j hj, HR.out.1]
          generalize (fun j => if j = 0 then z else f3 j) = g4 at *
          have m34 : Mod NoP wr (w3.setCell ⟨b', 0, none⟩ (Bt z)) := M3.out.trans' m4 fun k o hk h => by unfold InB at h; omega
          generalize w3.setCell ⟨b', 0, none⟩ (Bt z) = w4 at *
          have hgl : ∀ j, j < L → g4 j < 256 := fun j hj => by rw [hg j hj]; exact ch_lt HF.out (by rw [Nat.mul_add, Nat.mul_one, ← HR.out.1, ← HL.out]; exact hfit) (by rw [← HL.out]; omega) (by rw [← HL.out]; exact hj)
          have hbn : beN g4 L = beN (ch k f i) L := beN_congr hg
          refine (HIS.out b' c2 g4 w4 (fun j hj => hA4.bts j (by omega)) hgl).mono ?_
          rintro e w5 ⟨r, rfl, hr, m5⟩
          rw [hbn] at hr
          have HA4 := Lib.hid (hA4.mod m5 (Off.noP _))
          have HG := Lib.hid hg
          have HRR := Lib.hid hr
          have M5 := Lib.hid (m34.trans m5)
          clear hA4 hg hgl hbn hr m5 m4 m34
          cases r with
          | true =>
            have hlt := (HRR.out.1 rfl).2
            have HLT := Lib.hid hlt
            clear HRR hlt
            go_wp2_with fail
            go_ret2
            refine ⟨M2.out.trans (HR.out.2.2.trans M5.out), .inl ⟨i, b', c2, g4, by rw [← HL.out]; rfl, HA4.out, by rw [← HL.out]; omega, fun j hj => HG.out j (by rw [HL.out]; exact hj), by rw [Nat.mul_add, Nat.mul_one, ← HR.out.1, ← HL.out]; exact hfit, ?_, HR.out.2.1⟩⟩
            rw [← HL.out]; exact HLT.out
          | false =>
            have hge : ordK k ≤ beN (ch k f i) L := by
              rcases Nat.lt_or_ge (beN (ch k f i) L) (ordK k) with h | h
              · have := HRR.out.2 ⟨by first | trivial | rfl | exact HL.out, h⟩
                cases this
              · exact h
            have HGE := Lib.hid hge
            clear HRR hge
            have asr5 := (HR.out.2.2.trans M5.out).cell_some asz fun h => h
            rw [← HL.out] at asr5
            go_wp2_with fail
            go_roundw
            case rel =>
              refine ⟨i + 1, x + L, by go_num, hfit, by rw [Nat.mul_add, Nat.mul_one, ← HR.out.1, ← HL.out], fun j hj => ?_, HR.out.2.2.trans M5.out⟩
              rcases Nat.lt_or_eq_of_le (Nat.le_of_lt_succ hj) with h | rfl
              · exact HR.out.2.1 j h
              · rw [← HL.out]; exact HGE.out
            case measure => simp [intOf]; omega
        · have dk : ((k : Int) == 2) = false := by simp; omega
          have HK2 := Lib.hid hk2
          clear hk2
          go_wp2_with fail
          have hg : ∀ j, j < L → f3 j = ch k f i j := fun j hj => by
            unfold ch
            by_cases h0 : j = 0
            · rw [if_pos h0, h0, HF3.out 0 hL0]
              have ht : topK k = 256 := by
                have := HK2.out
                obtain rfl | rfl : k = 0 ∨ k = 1 := by omega
                · rfl
                · rfl
              rw [ht, ← HR.out.1, Nat.add_zero]
              rw [Nat.mod_eq_of_lt (HF.out _ (by omega))]
            · rw [if_neg h0, HF3.out j hj, HR.out.1]
          have hgl : ∀ j, j < L → f3 j < 256 := fun j hj => by rw [hg j hj]; exact ch_lt HF.out (by rw [Nat.mul_add, Nat.mul_one, ← HR.out.1, ← HL.out]; exact hfit) (by rw [← HL.out]; omega) (by rw [← HL.out]; exact hj)
          have hbn : beN f3 L = beN (ch k f i) L := beN_congr hg
          refine (HIS.out b' c2 f3 w3 (fun j hj => HA3.out.bts j (by omega)) hgl).mono ?_
          rintro e w5 ⟨r, rfl, hr, m5⟩
          rw [hbn] at hr
          have HA4 := Lib.hid (HA3.out.mod m5 (Off.noP _))
          have HG := Lib.hid hg
          have HRR := Lib.hid hr
          have M5 := Lib.hid (M3.out.trans m5)
          clear hg hgl hbn hr m5
          cases r with
          | true =>
            have hlt := (HRR.out.1 rfl).2
            have HLT := Lib.hid hlt
            clear HRR hlt
            go_wp2_with fail
            go_ret2
            refine ⟨M2.out.trans (HR.out.2.2.trans M5.out), .inl ⟨i, b', c2, f3, by rw [← HL.out]; rfl, HA4.out, by rw [← HL.out]; omega, fun j hj => HG.out j (by rw [HL.out]; exact hj), by rw [Nat.mul_add, Nat.mul_one, ← HR.out.1, ← HL.out]; exact hfit, ?_, HR.out.2.1⟩⟩
            rw [← HL.out]; exact HLT.out
          | false =>
            have hge : ordK k ≤ beN (ch k f i) L := by
              rcases Nat.lt_or_ge (beN (ch k f i) L) (ordK k) with h | h
              · have := HRR.out.2 ⟨by first | trivial | rfl | exact HL.out, h⟩
                cases this
              · exact h
            have HGE := Lib.hid hge
            clear HRR hge
            have asr5 := (HR.out.2.2.trans M5.out).cell_some asz fun h => h
            rw [← HL.out] at asr5
            go_wp2_with fail
            go_roundw
            case rel =>
              refine ⟨i + 1, x + L, by go_num, hfit, by rw [Nat.mul_add, Nat.mul_one, ← HR.out.1, ← HL.out], fun j hj => ?_, HR.out.2.2.trans M5.out⟩
              rcases Nat.lt_or_eq_of_le (Nat.le_of_lt_succ hj) with h | rfl
              · exact HR.out.2.1 j h
              · rw [← HL.out]; exact HGE.out
            case measure => simp [intOf]; omega
    · have M := Lib.hid (M2.out.trans hR.out.2.2)
      have d1 : decide ((x : Int) + (lenK k : Int) ≤ (N : Int)) = false := decide_eq_false (by omega)
      clear hR HLK
      go_wp2_with fail
      go_ret2
      exact ⟨M.out, .inr rfl⟩
end Go.Proofs.YtpfmbfkhjapbbaaGreatDoor
