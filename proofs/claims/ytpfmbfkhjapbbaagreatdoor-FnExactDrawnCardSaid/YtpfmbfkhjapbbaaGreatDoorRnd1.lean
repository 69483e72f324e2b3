/-
  cggroup's randomInt of a stream: the first chunk, of as many bits as the order has, that is below the order. Condition: there is one.
-/
import Derived.Test.YtpfmbfkhjapbbaaGreatDoorStrm2
set_option linter.unusedVariables false
set_option linter.unusedSimpArgs false
namespace Go.Proofs.YtpfmbfkhjapbbaaGreatDoor
open Go Go.RowKit

theorem pow_cap {L : Nat} (m : Nat) (h : L ≤ 8 * m) : 256 ^ L ≤ B64 ^ m := by
  rw [show B64 = 256 ^ 8 from rfl, ← Nat.pow_mul]
  exact Nat.pow_le_pow_right (by omega) h

def topK : Nat → Nat | 2 => 2 | _ => 256
/-- Byte j of chunk i of the bytes f, of which the first keeps only as many bits as the order has. -/
def ch (k : Nat) (f : Nat → Nat) (i j : Nat) : Nat := if j = 0 then f (lenK k * i) % topK k else f (lenK k * i + j)
/-- Chunk q is the first below the order. -/
def DrawnAt (k N : Nat) (f : Nat → Nat) (q : Nat) : Prop := lenK k * (q + 1) ≤ N ∧ beN (ch k f q) (lenK k) < ordK k ∧ ∀ i, i < q → ordK k ≤ beN (ch k f i) (lenK k)

theorem ord_bits (k : Nat) (hk : k ≤ 2) : 2 ^ (bitsK k - 1) ≤ ordK k - 1 ∧ ordK k - 1 < 2 ^ bitsK k ∧ 1 ≤ ordK k ∧ ordK k < 256 ^ lenK k := by
  obtain rfl | rfl | rfl : k = 0 ∨ k = 1 ∨ k = 2 := by omega
  all_goals decide +kernel
theorem bits_len (k : Nat) (hk : k ≤ 2) : (bitsK k + 7) / 8 = lenK k ∧ bitsK k ≤ 521 ∧ 256 ≤ bitsK k ∧ ((bitsK k % 8 = 0 ∧ topK k = 256) ∨ (bitsK k % 8 = 1 ∧ topK k = 2)) := by
  obtain rfl | rfl | rfl : k = 0 ∨ k = 1 ∨ k = 2 := by omega
  all_goals decide

theorem ch_lt {k N : Nat} {f : Nat → Nat} (hf : ∀ j, j < N → f j < 256) {i : Nat} (h : lenK k * (i + 1) ≤ N) (hl : 0 < lenK k) {j : Nat} (hj : j < lenK k) : ch k f i j < 256 := by
  unfold ch
  rw [Nat.mul_add] at h
  split
  · exact Nat.lt_of_le_of_lt (Nat.mod_le _ _) (hf _ (by omega))
  · exact hf _ (by omega)

/-- The state at the head of the loop: i chunks have been read. -/
structure RndSt (w wr : World) (k s b o N c d nb i : Nat) : Prop where
  str : ∃ o' m' c', StrIs wr s b o' m' c' ∧ o' = o + lenK k * i ∧ m' = N - lenK k * i ∧ c' = c - lenK k * i
  buf : ∃ g, BArr wr (some ⟨d, 0, none⟩) (lenK k) g
  num : ∃ a n cc f v, IntIs wr nb false a n cc f v ∧ v < 256 ^ lenK k ∧ (∀ A, a = some A → w.heap.size ≤ A.block ∧ A.block ≠ d)
  mod : Mod (InB s) w wr

theorem and_top8 (y : Nat) (hy : y < 256) : bits .and .u8 (y : Int) 255 = ((y % 256 : Nat) : Int) := by
  have h := (bits_nat .u8 8 (by decide) (fun n h h' => by rw [IntKind.wrap_u8]; omega) y 255 (by omega) (by omega)).1
  rw [show (255 : Nat) = 2 ^ 8 - 1 from rfl, Nat.and_two_pow_sub_one_eq_mod] at h
  exact h
theorem and_top1 (y : Nat) (hy : y < 256) : bits .and .u8 (y : Int) 1 = ((y % 2 : Nat) : Int) := by
  have h := (bits_nat .u8 8 (by decide) (fun n h h' => by rw [IntKind.wrap_u8]; omega) y 1 (by omega) (by omega)).1
  rw [show (1 : Nat) = 2 ^ 1 - 1 from rfl, Nat.and_two_pow_sub_one_eq_mod] at h
  exact h

/-- How many bytes a stream has left. -/
def leftOf (w : World) (s : Nat) : Nat := match w.cell? ⟨s, 0, none⟩ with | some (.slice _ m _) => m | _ => 0
theorem StrIs.left {w : World} {s b o m c : Nat} (h : StrIs w s b o m c) : leftOf w s = m := by
  unfold leftOf
  rw [cell?_of_heap h]; rfl

set_option maxRecDepth 100000 in
set_option maxHeartbeats 2000000 in
theorem randomInt_any (k : Nat) (hk : k ≤ 2) (s b o N c mp nm cm q : Nat) (am : Option Addr) (fm f : Nat → Nat) (w : World) (hS : StrIs w s b o N c) (hB : Bts w b o N f) (hf : ∀ j, j < N → f j < 256) (hNc : N ≤ c) (hN : N ≤ 1048576)
    (hM : IntIs w mp false am nm cm fm (ordK k)) (hsb : s ≠ b) (hsm : s ≠ mp) (hsa : ∀ A, am = some A → A.block ≠ s) (hq : DrawnAt k N f q) :
    Calls Tryz.prog 245 #[.iface 71 (.pointer (some ⟨s, 0, none⟩)), .pointer (some ⟨mp, 0, none⟩)] w fun e w' =>
      ∃ (p : Nat) (a : Option Addr) (n cc : Nat) (g : Nat → Nat), e = .returned (.tuple #[.pointer (some ⟨p, 0, none⟩), .nilIface]) ∧ IntIs w' p false a n cc g (beN (ch k f q) (lenK k)) ∧ w.heap.size ≤ p ∧ (∀ A, a = some A → w.heap.size ≤ A.block) ∧ Mod (InB s) w w' := by
  obtain ⟨hb1, hb2, ho1, ho2⟩ := ord_bits k hk
  obtain ⟨hl1, hl2, hl3, hl4⟩ := bits_len k hk
  have hlen := lenK_le k hk
  have hmlt := lt_of_heap hM.cells
  have hslt := lt_of_heap (show w.heap[s]? = _ from hS)
  have hblt : b < w.heap.size := lt_of_cell? (hB 0 (by have := hq.1; rw [Nat.mul_add] at this; omega))
  have hnm : nm ≤ 100 := hM.num.len_le (Nat.lt_of_lt_of_le ho2 (pow_cap 100 (by omega)))
  have HSG := Lib.hid (sign_any mp nm cm (ordK k) false am fm w hM (by omega))
  have HM := Lib.hid hM
  have HS := Lib.hid hS
  have HB := Lib.hid hB
  have HF := Lib.hid hf
  have HQ := Lib.hid hq
  have HO := Lib.hid (And.intro hb1 (And.intro hb2 (And.intro ho1 ho2)))
  clear hS hB hf hM hq hb1 hb2 ho1 ho2
  go_enter Tryz.func245, Tryz.ntmps245
  go_wp2_with fail
  refine HSG.out.mono ?_
  rintro e w' ⟨rfl, hw'⟩
  obtain rfl := hw'.symm
  go_wp2_with fail
  have hI0 : IntIs (w.alloc (Obj.cells #[.bool false, .slice none 0 0] 51)) w.heap.size false none 0 0 (fun _ => 0) 0 := ⟨heap_alloc_new w _, .zero (.nil _ _), fun A hA => (by cases hA)⟩
  refine (intSetUint64_any _ 0 0 0 1 false none _ _ hI0 (by unfold B64; omega)).mono ?_
  rintro e w1 ⟨rfl, a1, n1, c1, f1, hI1, m1, hfr1⟩
  have hm1 : Mod NoP w w1 := ((Mod.refl NoP w).alloc _).trans' m1 fun k o hk h => by
    rcases h with h | ⟨A, hA, _⟩
    · omega
    · cases hA
  have hn1 : n1 ≤ 100 := hI1.num.len_le (m := 100) (by unfold B64; decide)
  have ha1 : ∀ A, a1 = some A → w.heap.size ≤ A.block := fun A hA => by
    rcases hfr1 with rfl | ⟨x, e, hx⟩
    · cases hA
    · have : A.block = x := congrArg Addr.block (Option.some.inj (hA.symm.trans e))
      simp at hx
      omega
  have hsz1 := hm1.size
  have hM1 := HM.out.mod hm1 (fun _ h => h) (Off.noP _)
  have hSub := intSub_any w.heap.size mp w.heap.size n1 c1 nm cm n1 c1 1 (ordK k) 1 false a1 am a1 f1 fm f1 w1 hI1 hM1 hI1 (by omega) (by omega) HO.out.2.2.1
  have HSUB := Lib.hid hSub
  have HM1 := Lib.hid hm1
  clear hI0 hI1 m1 hSub hM1 hm1 HSG
  go_wp2_with fail
  refine HSUB.out.mono ?_
  rintro e w2 ⟨rfl, a2, n2, c2, f2, hI2, m2, hfr2⟩
  have hm2 : Mod NoP w w2 := HM1.out.trans' m2 fun k o hk h => by
    rcases h with h | ⟨A, hA, h⟩
    · omega
    · have := ha1 A hA; omega
  have hn2 : n2 ≤ 100 := hI2.num.len_le (Nat.lt_of_le_of_lt (Nat.sub_le _ 1) (Nat.lt_of_lt_of_le HO.out.2.2.2 (pow_cap 100 (by omega))))
  have ha2 : ∀ A, a2 = some A → w.heap.size ≤ A.block := fun A hA => by
    rcases hfr2 with rfl | ⟨x, e, hx⟩
    · exact ha1 A hA
    · have : A.block = x := congrArg Addr.block (Option.some.inj (hA.symm.trans e))
      omega
  have hBL := intBitLen_any w.heap.size n2 c2 (ordK k - 1) (bitsK k - 1) false a2 f2 w2 hI2 (by omega) HO.out.1 (by rw [show bitsK k - 1 + 1 = bitsK k by omega]; exact HO.out.2.1)
  rw [show bitsK k - 1 + 1 = bitsK k by omega] at hBL
  have HBL := Lib.hid hBL
  have HI2 := Lib.hid hI2
  have HM2 := Lib.hid hm2
  clear hI2 m2 hm2 HSUB HM1 hBL
  go_wp2_with fail
  refine HBL.out.mono ?_
  rintro e w' ⟨rfl, hw'⟩
  obtain rfl := hw'.symm
  obtain ⟨bits, hbits⟩ : ∃ x, x = bitsK k := ⟨_, rfl⟩
  obtain ⟨L, hL⟩ : ∃ x, x = lenK k := ⟨_, rfl⟩
  rw [← hbits]
  rw [← hbits, ← hL] at hl1
  rw [← hbits] at hl2 hl3 hl4
  rw [← hL] at hlen
  have e7 : ((bits : Int) + 7) / 8 = (L : Int) := by omega
  have hb0 : ((bits : Int) == 0) = false := by simp; omega
  have hmk := fun u => makeSlice22 L L (Nat.le_refl _) (by omega) u (L : Int) (L : Int) rfl rfl
  have HL := Lib.hid hL
  have HT := Lib.hid hl4
  have hcase : (bits : Int) % 8 = 0 ∨ (bits : Int) % 8 = 1 := by omega
  clear hbits hL hl4 HBL
  have hsz2 := HM2.out.size
  have hm3 : Mod NoP w (w2.alloc (zerosB L)) := HM2.out.alloc _
  have hst0 : RndSt w (w2.alloc (zerosB L)) k s b o N c w2.heap.size w.heap.size 0 := by
    refine ⟨⟨o, N, c, ?_, by omega, by omega, by omega⟩, ⟨fun _ => 0, by rw [← HL.out]; exact barr_zeros w2 L⟩, ⟨a2, n2, c2, f2, ordK k - 1, HI2.out.mod ((Mod.refl NoP w2).alloc _) (fun _ h => h) (Off.noP _), by have := HO.out; omega, fun A hA => ⟨ha2 A hA, ?_⟩⟩, hm3.of_none⟩
    · show (w2.alloc (zerosB L)).heap[s]? = _
      rw [hm3.heap hslt fun _ h => h]; exact HS.out
    · have h := HI2.out.num.arr
      rw [hA] at h
      obtain ⟨x, y, z⟩ := A
      have := h.lt
      show x ≠ _
      omega
  have HST := Lib.hid hst0
  generalize hnb : w.heap.size = nb at *
  generalize hd : w2.heap.size = d at *
  have hdn : nb < d := by
    have := lt_of_heap HI2.out.cells
    omega
  clear hst0 hm3 HI2 HM2 ha1 ha2 hfr1 hfr2 hsz1 hn1 hn2
  rcases hcase with e8 | e8
  all_goals
    go_wp2_with fail
    generalize hw3 : w2.alloc (zerosB L) = w3 at *
    clear hw3
    simp only [e7, e8]
    have E8 := Lib.hid e8
    clear e7 e8
    go_loopw [4, 5] (fun pr er wr => pr = .pointer (some ⟨nb, 0, none⟩) ∧ er = .nilIface ∧ ∃ i, i ≤ q ∧ Hid (RndSt w wr k s b o N c d nb i)) (fun _ _ wr => leftOf wr s)
    case atStart => exact ⟨rfl, rfl, 0, by omega, HST⟩
    case round =>
      obtain ⟨rfl, rfl, i, hi, hR⟩ := hrel
      have hiL : lenK k * (i + 1) ≤ N := Nat.le_trans (Nat.mul_le_mul_left _ (by omega)) HQ.out.1
      obtain ⟨o', m', c', hS', ho', hm', hc'⟩ := hR.out.str
      obtain ⟨g, hD⟩ := hR.out.buf
      have hk0 : 0 < lenK k := by have := HL.out; omega
      have hLi : lenK k * i + lenK k ≤ N := by rw [Nat.mul_add, Nat.mul_one] at hiL; exact hiL
      have hBi : Bts wr b o' m' (fun j => f (lenK k * i + j)) := by
        have h := (bts_from HB.out (lenK k * i) (N - lenK k * i) (by omega)).mod hR.out.mod fun _ _ h => hsb h.symm
        rw [ho', hm']; exact h
      have hrf := readFull_any s b o' m' c' d (lenK k) (fun j => f (lenK k * i + j)) g wr hS' hBi (by omega) hD (by have := HL.out; omega) (by omega) (by omega) hsb (by omega) (by omega)
      rw [← HL.out] at hrf
      have HRF := Lib.hid hrf
      clear hrf hBi hD hS'
      go_wp2_with fail
      refine HRF.out.mono ?_
      rintro e w4 ⟨rfl, hA4, ⟨o4, hS4, ho4⟩, m4⟩
      have hc0 : w4.cell? ⟨d, 0, none⟩ = some (Bt (f (L * i))) := (hA4.cell (show 0 < L by omega)).1
      have hf0 := (hA4.cell (show 0 < L by omega)).2
      have hy : f (L * i) < 256 := HF.out _ (by rw [HL.out]; omega)
      have HA4 := Lib.hid hA4
      have HS4 := Lib.hid hS4
      have HO4 := Lib.hid ho4
      have M4 := Lib.hid m4
      clear hA4 hS4 ho4 m4 HRF
      obtain ⟨y, hyv⟩ : ∃ y, y = f (L * i) := ⟨_, rfl⟩
      rw [← hyv] at hc0 hy
      have HY := Lib.hid hyv
      obtain ⟨z, hz⟩ : ∃ z, z = y % topK k := ⟨_, rfl⟩
      first
        | (have hmask : Go.bits .and .u8 (y : Int) 255 = (z : Int) := by
            have ht : topK k = 256 := by have := HT.out; have := E8.out; omega
            rw [and_top8 y hy, hz, ht])
        | (have hmask : Go.bits .and .u8 (y : Int) 1 = (z : Int) := by
            have ht : topK k = 2 := by have := HT.out; have := E8.out; omega
            rw [and_top1 y hy, hz, ht])
      have HZ := Lib.hid hz
      clear hyv hz
      go_wp2_with fail
      obtain ⟨hA5, m5⟩ := HA4.out.store (show 0 < L by omega) z
      have hA5' : BArr (w4.setCell ⟨d, 0, none⟩ (Bt z)) (some ⟨d, 0, none⟩) L (ch k f i) := hA5.congrB fun j hj => by
        unfold ch
        rw [← HL.out]
        by_cases hj0 : j = 0
        · rw [if_pos hj0, if_pos hj0, HZ.out, HY.out]
        · rw [if_neg hj0, if_neg hj0]
      obtain ⟨a, n, cc, ff, v, hI, hv, ha0⟩ := hR.out.num
      have ha : ∀ A, a = some A → nb ≤ A.block ∧ A.block ≠ d := fun A hA => by rw [← hnb]; exact ha0 A hA
      clear ha0
      have hI5 := (hI.mod M4.out (fun o h => by rcases h with h | h <;> omega) (fun A hA o h => by have := ha A hA; rcases h with h | h <;> omega)).mod m5 (fun o h => by unfold InB at h; omega) (fun A hA o h => by have := ha A hA; unfold InB at h; omega)
      have hsb5 := intSetBytes_any nb n cc v d 0 L L false a ff (ch k f i) _ hI5 hA5'.bts (fun j hj => ch_lt HF.out hiL hk0 (by rw [← HL.out]; exact hj)) (by omega) (by omega) (Nat.le_refl _) (fun ⟨A, hA, h⟩ => (ha A hA).2 h)
      refine hsb5.mono ?_
      rintro e w6 ⟨rfl, a6, n6, c6, f6, hI6, m6, hfr6⟩
      have m05 : Mod (InB s) w (w4.setCell ⟨d, 0, none⟩ (Bt z)) := (hR.out.mod.trans' M4.out fun k o hk h => by
        rcases h with h | h
        · exact h
        · omega).trans' m5 fun k o hk h => by unfold InB at h; omega
      have hsz5 := m5.size
      have hd5 : d < (w4.setCell ⟨d, 0, none⟩ (Bt z)).heap.size := hA5.lt
      have m06 : Mod (InB s) w w6 := m05.trans' m6 fun k o hk h => by
        rcases h with h | ⟨A, hA, h⟩
        · omega
        · have := ha A hA; omega
      have ha6 : ∀ A, a6 = some A → nb ≤ A.block ∧ A.block ≠ d := fun A hA => by
        rcases hfr6 with rfl | ⟨x, e, hx⟩
        · exact ha A hA
        · have : A.block = x := congrArg Addr.block (Option.some.inj (hA.symm.trans e))
          omega
      have hv6 : beN (ch k f i) L < 256 ^ L := beN_lt fun j hj => ch_lt HF.out hiL hk0 (by rw [← HL.out]; exact hj)
      have hn6 : n6 ≤ 100 := hI6.num.len_le (Nat.lt_of_lt_of_le hv6 (pow_cap 100 (by omega)))
      have hM6 := HM.out.mod m06 (fun o h => hsm h.symm) (fun A hA o h => hsa A hA h)
      have hcmp := intCmp_any nb mp n6 c6 nm cm (beN (ch k f i) L) (ordK k) a6 am f6 fm w6 hI6 hM6 (by omega) (by omega) (by omega)
      have hS6 : StrIs w6 s b o4 (m' - L) (c' - L) := by
        show w6.heap[s]? = _
        have h5 : (w4.setCell ⟨d, 0, none⟩ (Bt z)).heap[s]? = some (.cells #[.slice (some ⟨b, o4, none⟩) (m' - L) (c' - L)] 73 (0, 0)) := by rw [m5.heap (lt_of_heap (show w4.heap[s]? = _ from HS4.out)) (fun o h => by unfold InB at h; omega)]; exact HS4.out
        rw [m6.heap (lt_of_heap h5) (fun o h => by
          rcases h with h | ⟨A, hA, h⟩
          · omega
          · have := ha A hA; omega), h5]
      have hA6 : BArr w6 (some ⟨d, 0, none⟩) L (ch k f i) := hA5'.mod m6 fun A hA o h => by
        obtain rfl := Option.some.inj hA
        rcases h with h | ⟨A, hA, h⟩
        · exact absurd h (by show d ≠ nb; omega)
        · exact (ha A hA).2 h
      have HI6 := Lib.hid hI6
      have HA6 := Lib.hid ha6
      have HS6 := Lib.hid hS6
      have HB6 := Lib.hid hA6
      have M06 := Lib.hid m06
      have HC := Lib.hid hcmp
      have HV6 := Lib.hid hv6
      clear hI6 ha6 hS6 hA6 m06 hcmp hv6 hA5 hA5' m5 hI hI5 m6 m05 hM6 hsb5 ha hfr6 hc0 hf0 HS4 HA4 M4
      rcases Nat.lt_or_eq_of_le hi with hlt | rfl
      · have hge := HQ.out.2.2 i hlt
        rw [← HL.out] at hge
        have hcv : decide (cmpV (beN (ch k f i) L) (ordK k) < 0) = false := by
          rcases Nat.lt_or_eq_of_le hge with h | h
          · rw [cmpV_gt h]; rfl
          · rw [h, cmpV_eq]; rfl
        generalize hcve : cmpV (beN (ch k f i) L) (ordK k) = cv at *
        clear hcve hge
        go_wp2_with fail
        refine HC.out.mono ?_
        rintro e w7 ⟨rfl, qq, hw7⟩
        have HW7 := Lib.hid hw7
        clear hw7
        go_wp2_with fail
        go_roundw
        case rel =>
          refine ⟨rfl, rfl, i + 1, hlt, ?_⟩
          have hmore : lenK k * (i + 1 + 1) ≤ N := Nat.le_trans (Nat.mul_le_mul_left _ (by omega)) HQ.out.1
          rw [Nat.mul_add, Nat.mul_one, Nat.mul_add, Nat.mul_one] at hmore
          have hL' := HL.out
          rw [HW7.out]
          refine ⟨⟨o4, m' - L, c' - L, HS6.out, ?_, ?_, ?_⟩, ⟨_, by rw [← HL.out]; exact HB6.out.mod ((Mod.refl NoP w6).drewN qq) (fun A hA o h => h)⟩, ⟨a6, n6, c6, f6, _, HI6.out.mod ((Mod.refl NoP w6).drewN qq) (fun o h => h) (Off.noP _), by rw [← HL.out]; exact HV6.out, fun A hA => by rw [hnb]; exact HA6.out A hA⟩, M06.out.drewN qq⟩
          · have := HO4.out (by omega)
            rw [Nat.mul_add, Nat.mul_one]
            omega
          · rw [Nat.mul_add, Nat.mul_one]; omega
          · rw [Nat.mul_add, Nat.mul_one]; omega
        case measure =>
          have hL' := HL.out
          have h7 : StrIs w7 s b o4 (m' - L) (c' - L) := by
            show w7.heap[s]? = _
            rw [HW7.out]; exact HS6.out
          obtain ⟨o1, m1, c1, hw1, h1, h2, h3⟩ := hR.out.str
          rw [h7.left, hw1.left]
          omega
      · have hlt := HQ.out.2.1
        rw [← HL.out] at hlt
        have hcv := cmpV_lt hlt
        rw [hcv] at HC
        clear hcv hlt
        go_wp2_with fail
        refine HC.out.mono ?_
        rintro e w7 ⟨rfl, qq, hw7⟩
        have HW7 := Lib.hid hw7
        clear hw7
        go_wp2_with fail
        go_ret2
        refine ⟨nb, a6, n6, c6, f6, rfl, ?_, by rw [hnb]; exact Nat.le_refl _, fun A hA => by rw [hnb]; exact (HA6.out A hA).1, ?_⟩
        · rw [HW7.out, ← HL.out]; exact HI6.out.mod ((Mod.refl NoP w6).drewN qq) (fun o h => h) (Off.noP _)
        · rw [HW7.out]; exact M06.out.drewN qq
end Go.Proofs.YtpfmbfkhjapbbaaGreatDoor
