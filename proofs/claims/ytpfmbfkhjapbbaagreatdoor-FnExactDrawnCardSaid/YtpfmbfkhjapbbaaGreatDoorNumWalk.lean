/-
  laws.FnExactNumber, walked: it returns true and turns no cell that was there. Conditions: io.EOF holds an errors.errorString's pointer; the number below 2^64.
-/
import Derived.Test.YtpfmbfkhjapbbaaGreatDoorSpecScl
set_option linter.unusedVariables false
set_option linter.unusedSimpArgs false
namespace Go.Proofs.YtpfmbfkhjapbbaaGreatDoor
open Go Go.RowKit

/-! ### the plain law: bytes of numbers -/
theorem beN_congr {f g : Nat → Nat} {n : Nat} (h : ∀ j, j < n → f j = g j) : beN f n = beN g n := by
  induction n with
  | zero => rfl
  | succ n ih => simp only [beN]; rw [ih fun j hj => h j (by omega), h n (by omega)]

theorem beN_byteAt (n v : Nat) : beN (byteAt n v) n = v % 256 ^ n := by
  have key : ∀ i, i ≤ n → beN (byteAt n v) i = v / 256 ^ (n - i) % 256 ^ i := by
    intro i
    induction i with
    | zero => intro _; simp [beN, Nat.mod_one]
    | succ i ih =>
      intro hi
      simp only [beN]
      rw [ih (by omega)]
      unfold byteAt
      have h1 : n - i = n - (i + 1) + 1 := by omega
      have h2 : n - 1 - i = n - (i + 1) := by omega
      rw [h1, h2, Nat.pow_succ, ← Nat.div_div_eq_div_mul, Nat.pow_succ, Nat.mul_comm (256 ^ i) 256, Nat.mod_mul]
      omega
  rw [key n (Nat.le_refl _)]
  simp

theorem be8_byteAt (v j : Nat) (hj : j < 8) : be8 v j = byteAt 8 v j := by
  unfold be8 byteAt
  rw [show (256 : Nat) = 2 ^ 8 from rfl, ← Nat.pow_mul]
  congr 3
  omega

/-- The bytes of a number below 2^64 in n of them. -/
theorem over_be8 (n v j : Nat) (hn : 8 ≤ n) (hv : v < B64) (hj : j < n) : over (fun _ => 0) (n - 8) 8 (be8 v) j = byteAt n v j := by
  unfold over
  by_cases h : n - 8 ≤ j
  · rw [if_pos (by omega), be8_byteAt _ _ (by omega)]
    unfold byteAt
    congr 3
    omega
  · rw [if_neg (by omega)]
    unfold byteAt
    have h1 : v < 256 ^ (n - 1 - j) := Nat.lt_of_lt_of_le hv (by
      have : B64 = 256 ^ 8 := by decide
      rw [this]
      exact Nat.pow_le_pow_right (by omega) (by omega))
    rw [Nat.div_eq_of_lt h1]

/-- append(b, x) of one byte, to a row that the program owns. -/
theorem append_push {wr w' : World} {o : Obj} {blk mm c x : Nat} {g : Nat → Nat} {X : Int} {a' : Option Addr} {c2 : Nat} {g' : Nat → Value}
    (h : Appended (wr.alloc o) w' (some ⟨blk, 0, none⟩) mm c 1 (fun j => Bt (g j)) (fun _ => .int .u8 X) (.int .u8 0) a' c2 g') (hX : X = ((x : Nat) : Int)) :
    ∃ (blk' : Nat) (g2 : Nat → Nat), a' = some ⟨blk', 0, none⟩ ∧ BArr w' (some ⟨blk', 0, none⟩) c2 g2 ∧ mm + 1 ≤ c2 ∧ (∀ j, j < mm → g2 j = g j) ∧ g2 mm = x ∧ (blk' = blk ∨ wr.heap.size ≤ blk') ∧ Mod (InB blk) wr w' := by
  subst hX
  obtain ⟨harr, hle, hold, hnew, hsp, hm, hhere⟩ := h
  have hb : ∃ b', a' = some ⟨b', 0, none⟩ ∧ (b' = blk ∨ wr.heap.size ≤ b') := by
    rcases hhere with rfl | ⟨k, hk, h2⟩
    · exact ⟨_, rfl, .inl rfl⟩
    · exact ⟨k, hk, .inr (by simp at h2; omega)⟩
  obtain ⟨b', rfl, hb'⟩ := hb
  refine ⟨b', fun j => if j < mm then g j else if j = mm then x else match g' j with | .int _ n => n.toNat | _ => 0, rfl, ?_, hle, fun j hj => by simp [hj], by simp, hb', ((Mod.refl (InB blk) wr).alloc o).trans' hm fun k i hk h => ?_⟩
  · rcases harr with ⟨h, _⟩ | ⟨b, C, t, h1, h2, h3, h4⟩
    · cases h
    · refine .inr ⟨b, C, t, h1, h2, h3, fun j hj => ?_⟩
      rw [h4 j hj]
      by_cases hjn : j < mm
      · simp [hold j hjn, hjn]
      · by_cases hje : j = mm
        · have := hnew 0 (by omega)
          rw [Nat.add_zero] at this
          simp [hje, this]
        · rcases hsp j (by omega) hj with ⟨h, _⟩ | h
          · simp [h, hjn, hje]
          · simp [h, hjn, hje]
  · obtain ⟨A, hA, rfl⟩ := h
    obtain rfl := Option.some.inj hA
    rfl

set_option maxRecDepth 100000 in
set_option maxHeartbeats 2000000 in
theorem law5_walk (k : Int) (v : Nat) (hv : v < B64) (w : World) (ea : Addr) (hE : Eof w ea) :
    Calls Tryz.prog 5 #[.int .i64 k, .int .u64 v] w fun e w' => e = .returned (.bool true) ∧ Mod NoP w w' := by
  by_cases hk : (decide (0 ≤ k) && decide (k ≤ 2)) = true
  · have hk' := hk
    simp only [Bool.and_eq_true, decide_eq_true_eq] at hk'
    obtain ⟨q, rfl⟩ : ∃ q : Nat, k = q := ⟨k.toNat, by omega⟩
    have hq : q ≤ 2 := by omega
    have hl := lenK_le q hq
    obtain ⟨i0, hinf, hz0, hz1, hz2⟩ := info5'
    have Hinf := Lib.hid hinf
    have Hz0 := Lib.hid hz0
    have Hz1 := Lib.hid hz1
    clear hinf hz0 hz1
    go_enter Tryz.func5, Tryz.ntmps5
    go_wp2_with fail
    refine (isCurve_any _ _).mono ?_
    rintro e w1 ⟨rfl, rfl⟩
    rw [hk]
    go_wp2_with fail
    have hA0 : BArr (w1.alloc (.cells #[] 5 (0, 0))) (some ⟨w1.heap.size, 0, none⟩) 0 (be8 v) := .inr ⟨_, _, _, rfl, heap_alloc_new w1 _, rfl, fun j hj => by omega⟩
    have m0 : Mod NoP w1 (w1.alloc (.cells #[] 5 (0, 0))) := (Mod.refl _ _).alloc _
    have Hm0 := Lib.hid m0
    have HA0 := Lib.hid hA0
    clear m0 hA0
    have hle := Nat.le_refl w1.heap.size
    have HE := Lib.hid hE
    clear hE
    go_loopw [5, 6] (fun s i wr => ∃ (t blk c : Nat) (g : Nat → Nat), t ≤ 8 ∧ i = .int .i64 ((t : Int) - 1) ∧ s = .slice (some ⟨blk, 0, none⟩) (8 - t) c ∧ BArr wr (some ⟨blk, 0, none⟩) c g ∧ 8 - t ≤ c ∧ (∀ j, j < 8 - t → g j = be8 v j) ∧ w1.heap.size ≤ blk ∧ Mod NoP w1 wr) (fun _ i _ => (intOf i + 1).toNat)
    case atStart => exact ⟨8, w1.heap.size, 0, _, by omega, rfl, rfl, HA0.out, by omega, fun j hj => by omega, hle, Hm0.out⟩
    case round =>
      obtain ⟨t1, blk, c, g, ht, rfl, rfl, hA, hc, hg, hblk, hm⟩ := hrel
      by_cases h0 : 0 < t1
      · obtain ⟨t, rfl⟩ : ∃ t, t1 = t + 1 := ⟨t1 - 1, by omega⟩
        rw [show (((t + 1 : Nat) : Int) - 1) = (t : Int) by omega]
        have kg : decide ((t : Int) ≥ 0) = true := decide_eq_true (by omega)
        have e1 : IntKind.i64.wrap (8 * (t : Int)) = 8 * (t : Int) := IntWalk.i64_in _ (by omega)
        have e2 : (8 - (t + 1)) + 1 = 8 - t := by omega
        have hbv : (v : Int) / 2 ^ (8 * t) % 256 = ((be8 v (8 - (t + 1)) : Nat) : Int) := by
          unfold be8
          rw [show 56 - 8 * (8 - (t + 1)) = 8 * t by omega]
          simp
        have HBV := Lib.hid hbv
        have HA := Lib.hid hA
        have HG := Lib.hid hg
        have Hm := Lib.hid hm
        clear hA hg hm hbv
        have hlen : 8 - (t + 1) ≤ 7 := by omega
        generalize hmm : 8 - (t + 1) = mm at *
        go_wp2_with (at_builtin; refine wpList_append_g rfl (.tmp 15) (.tmp 22) 22 5 rfl i0 (.int .u8 0) Tryz.underlying22 Hinf.out Hz0.out rfl Hz1.out hz2 (some ⟨blk, 0, none⟩) mm c (fun j => Bt (g j)) rfl ?hA hc wr.heap.size 0 1 1 rfl (fun _ => .int .u8 ((v : Int) / 2 ^ (8 * t) % 256)) ?hx (by omega) (by omega) ?hK)
        case hA => exact HA.out.mod ((Mod.refl NoP wr).alloc _) fun A hA o h => h
        case hx => exact fun j hj => ⟨by rw [Nat.zero_add, cell?_of_heap (heap_alloc_new wr _), show j = 0 by omega]; simp, rfl⟩
        case hK =>
          intro a' c2 g' w' hap
          go_wp2_with fail
          obtain ⟨blk', g2, rfl, hA2, hc2, hg2, hgm, hb2, hm2⟩ := append_push hap HBV.out
          refine ⟨⟨t, blk', c2, g2, by omega, rfl, rfl, hA2, by omega, fun j hj => ?_, ?_, Hm.out.trans' hm2 fun k o hk h => by unfold InB at h; omega⟩, by simp [intOf]⟩
          · by_cases hj2 : j < mm
            · rw [hg2 j hj2, HG.out j hj2]
            · rw [show j = mm by omega, hgm]
          · have := Hm.out.size
            omega
      · obtain rfl : t1 = 0 := by omega
        have HM := Lib.hid hm
        have hB : Bts wr blk 0 8 g := fun j hj => hA.bts j (by omega)
        have HB := Lib.hid hB
        have HG := Lib.hid hg
        clear hA hm hB hg
        go_wp2_with fail
        refine (number_any q hq v hv _ ea (HM.out.cell_some HE.out fun h => h)).mono ?_
        rintro e w2 ⟨b1, c1, f1, rfl, k1, k2, k3, k4, k5⟩
        have K1 := Lib.hid k1
        have K3 := Lib.hid k3
        clear k1 k3
        go_wp2_with fail
        refine (scalarOf_spec q hq blk 0 8 c g _ (HB.out.mod k5 fun _ _ h => h) (fun j hj => by rw [HG.out j (by omega)]; exact Nat.mod_lt _ (by omega)) (by omega)).mono ?_
        rintro e w3 ⟨b2, rfl, h1, h2, h3⟩
        have hX : Bts w3 b1 0 (lenK q) f1 := fun j hj => h3.cell_some (K1.out.bts j (by omega)) fun h => h
        have hY : Bts w3 b2 0 (lenK q) (byteAt (lenK q) (beN g 8 % ordK q)) := fun j hj => h1.bts j hj
        have hXY := fun w4 (m : Mod NoP w3 w4) => equal_any b1 0 (lenK q) c1 b2 0 (lenK q) (lenK q) f1 (byteAt (lenK q) (beN g 8 % ordK q)) w4 (hX.mod m fun _ _ h => h) (hY.mod m fun _ _ h => h) (by omega)
        have HXY := Lib.hid hXY
        have hfin : ∀ j, j < lenK q → f1 j = byteAt (lenK q) (beN g 8 % ordK q) j := fun j hj => by
          have ho := ordK_facts q hq
          have hvo : v < ordK q := Nat.lt_of_lt_of_le hv (Nat.le_of_lt (Nat.lt_of_le_of_lt (by decide +kernel) ho.1))
          rw [K3.out j hj, over_be8 _ v j (by omega) hv hj, beN_congr (g := byteAt 8 v) fun j hj => by rw [HG.out j (by omega), be8_byteAt v j hj], beN_byteAt, Nat.mod_eq_of_lt (show v < 256 ^ 8 from hv), Nat.mod_eq_of_lt hvo]
        have HF := Lib.hid hfin
        have mall := (HM.out.trans k5).trans h3
        clear hX hY hXY hfin h1
        generalize byteAt (lenK q) (beN g 8 % ordK q) = f2 at *
        generalize lenK q = len at *
        go_wp2_with fail
        refine (HXY.out _ (Mod.refl _ _)).mono ?_
        rintro e w4 ⟨⟨r, rfl, hr⟩, m4⟩
        obtain rfl : r = true := hr.2 (by first | exact ⟨rfl, HF.out⟩ | exact ⟨trivial, HF.out⟩)
        clear hr
        go_wp2_with fail
        go_ret
        exact ⟨rfl, mall.trans m4⟩
  · have hk2 : (decide (0 ≤ k) && decide (k ≤ 2)) = false := by simpa using hk
    go_enter Tryz.func5, Tryz.ntmps5
    go_wp2_with fail
    refine (isCurve_any _ _).mono ?_
    rintro e w1 ⟨rfl, rfl⟩
    rw [hk2]
    go_wp2_with fail
    go_ret
    exact ⟨rfl, Mod.refl _ _⟩
end Go.Proofs.YtpfmbfkhjapbbaaGreatDoor
