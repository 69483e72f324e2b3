/-
  laws.FnExactReadScalar, walked: it returns true and turns no cell that was there. Conditions: io.EOF holds an errors.errorString's pointer; a slice of bytes.
-/
import Derived.Test.YtpfmbfkhjapbbaaGreatDoorSpecRd
set_option linter.unusedVariables false
set_option linter.unusedSimpArgs false
namespace Go.Proofs.YtpfmbfkhjapbbaaGreatDoor
open Go Go.RowKit

/-- The post of a law: true, and nothing that was there has turned. -/
def LawRet (w : World) (e : Ending) (w' : World) : Prop := e = .returned (.bool true) ∧ Mod NoP w w'

set_option maxRecDepth 100000 in
set_option maxHeartbeats 2000000 in
theorem law8_walk (k : Int) (a : Option Addr) (n c : Nat) (f : Nat → Nat) (w : World) (ea : Addr) (hE : Eof w ea) (hX : BSl w a n f) (hf : ∀ j, j < n → f j < 256) :
    Calls Tryz.prog 8 #[.int .i64 k, .slice a n c] w (LawRet w) := by
  by_cases h1 : 2147483647 < n
  · have d1 : decide ((n : Int) > 2147483647) = true := decide_eq_true (by omega)
    clear hX hE
    go_enter Tryz.func8, Tryz.ntmps8
    go_wp2_with fail
    go_ret
    exact ⟨rfl, Mod.refl _ _⟩
  have d1 : decide ((n : Int) > 2147483647) = false := decide_eq_false (by omega)
  by_cases h2 : 4096 < n
  · have d2 : decide ((n : Int) > 4096) = true := decide_eq_true (by omega)
    clear hX hE
    go_enter Tryz.func8, Tryz.ntmps8
    go_wp2_with fail
    go_ret
    exact ⟨rfl, Mod.refl _ _⟩
  have d2 : decide ((n : Int) > 4096) = false := decide_eq_false (by omega)
  by_cases hk2 : (decide (0 ≤ k) && decide (k ≤ 2)) = false
  · clear hX hE
    go_enter Tryz.func8, Tryz.ntmps8
    go_wp2_with fail
    refine (isCurve_any _ _).mono ?_
    rintro e w1 ⟨rfl, rfl⟩
    rw [hk2]
    go_wp2_with fail
    go_ret
    exact ⟨rfl, Mod.refl _ _⟩
  have hk : (decide (0 ≤ k) && decide (k ≤ 2)) = true := by simpa using hk2
  have hk' := hk
  simp only [Bool.and_eq_true, decide_eq_true_eq] at hk'
  obtain ⟨q, rfl⟩ : ∃ q : Nat, k = q := ⟨k.toNat, by omega⟩
  have hq : q ≤ 2 := by omega
  have hl := lenK_le q hq
  have HX := Lib.hid hX
  have HE := Lib.hid hE
  clear hX hE
  go_enter Tryz.func8, Tryz.ntmps8
  go_wp2_with fail
  refine (isCurve_any _ _).mono ?_
  rintro e w1 ⟨rfl, rfl⟩
  rw [hk]
  go_wp2_with fail
  refine (readScalar_any q hq a n c f w1 ea HE.out HX.out hf (by omega)).mono ?_
  rintro e w2 ⟨m2, hr⟩
  have hS := isScalar_any q hq a n c f w2 (HX.out.nop m2) hf (by omega)
  have HS := Lib.hid hS
  clear hS
  rcases hr with ⟨hn, hlt, b', c', f', z, rfl, hB, hc, hff, hz⟩ | ⟨hno, v, z, rfl⟩
  · obtain ⟨b, o, rfl, hXb⟩ : ∃ b o, a = some ⟨b, o, none⟩ ∧ Bts w1 b o n f := by
      rcases HX.out with ⟨_, h⟩ | h
      · omega
      · exact h
    have HN := Lib.hid hn
    have HP := Lib.hid (And.intro hn hlt)
    have HB := Lib.hid hB
    have HF := Lib.hid hff
    have HZ := Lib.hid hz
    have HXB := Lib.hid hXb
    clear hn hlt hB hff hz hXb HX
    go_wp2_with fail
    refine HS.out.mono ?_
    rintro e w3 ⟨r, rfl, hr, m3⟩
    obtain rfl : r = true := hr.2 HP.out
    clear hr
    have hXY := equal_any b' 0 (lenK q) c' b o n c f' f w3 (fun j hj => m3.cell_some (HB.out.bts j (by omega)) fun h => h) ((HXB.out.mod m2 fun _ _ h => h).mod m3 fun _ _ h => h) (by omega)
    have HXY := Lib.hid hXY
    clear hXY
    go_wp2_with fail
    refine HXY.out.mono ?_
    rintro e w4 ⟨⟨r, rfl, hr⟩, m4⟩
    obtain rfl : r = true := hr.2 ⟨HN.out.symm, HF.out⟩
    clear hr
    have hZ := specIsZero_any b o n c f w4 (((HXB.out.mod m2 fun _ _ h => h).mod m3 fun _ _ h => h).mod m4 fun _ _ h => h) (by omega)
    have HZ2 := Lib.hid hZ
    clear hZ
    go_wp2_with fail
    refine HZ2.out.mono ?_
    rintro e w5 ⟨r, rfl, hr, m5⟩
    have hzr : z = r := by
      have := HZ.out
      rw [← HN.out] at this
      exact Bool.eq_iff_iff.2 (this.trans hr.symm)
    subst hzr
    clear hr
    go_wp2_with fail
    go_ret
    refine ⟨?_, ((m2.trans m3).trans m4).trans m5⟩
    cases z <;> rfl
  · have HP := Lib.hid hno
    clear hno HX
    go_wp2_with fail
    refine HS.out.mono ?_
    rintro e w3 ⟨r, rfl, hr, m3⟩
    obtain rfl : r = false := by
      cases r with
      | false => rfl
      | true => exact absurd (hr.1 rfl) HP.out
    clear hr
    go_wp2_with fail
    go_ret
    exact ⟨rfl, m2.trans m3⟩
end Go.Proofs.YtpfmbfkhjapbbaaGreatDoor
