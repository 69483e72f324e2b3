/-
  laws.FnExactDrawn, walked: it returns true and turns no cell that was there. Conditions: io.EOF holds an errors.errorString's pointer; a slice of bytes.
-/
import Derived.Test.YtpfmbfkhjapbbaaGreatDoorSpecDr
import Derived.Test.YtpfmbfkhjapbbaaGreatDoorRdWalk
set_option linter.unusedVariables false
set_option linter.unusedSimpArgs false
namespace Go.Proofs.YtpfmbfkhjapbbaaGreatDoor
open Go Go.RowKit

theorem byteAt_ch {k N q : Nat} {f : Nat → Nat} (hf : ∀ j, j < N → f j < 256) (hl : 0 < lenK k) (hq : DrawnAt k N f q) : ∀ j, j < lenK k → byteAt (lenK k) (beN (ch k f q) (lenK k)) j = ch k f q j :=
  byteAt_beN fun j hj => ch_lt hf hq.1 hl hj

set_option maxRecDepth 100000 in
set_option maxHeartbeats 2000000 in
theorem law4_walk (k : Int) (a : Option Addr) (n c : Nat) (f : Nat → Nat) (w : World) (ea : Addr) (hE : Eof w ea) (hX : BSl w a n f) (hf : ∀ j, j < n → f j < 256) (hnc : n ≤ c) :
    Calls Tryz.prog 4 #[.int .i64 k, .slice a n c] w (LawRet w) := by
  by_cases h1 : 2147483647 < n
  · have d1 : decide ((n : Int) > 2147483647) = true := decide_eq_true (by omega)
    clear hX hE
    go_enter Tryz.func4, Tryz.ntmps4
    go_wp2_with fail
    go_ret
    exact ⟨rfl, Mod.refl _ _⟩
  have d1 : decide ((n : Int) > 2147483647) = false := decide_eq_false (by omega)
  by_cases h2 : 4096 < n
  · have d2 : decide ((n : Int) > 4096) = true := decide_eq_true (by omega)
    clear hX hE
    go_enter Tryz.func4, Tryz.ntmps4
    go_wp2_with fail
    go_ret
    exact ⟨rfl, Mod.refl _ _⟩
  have d2 : decide ((n : Int) > 4096) = false := decide_eq_false (by omega)
  by_cases hk2 : (decide (0 ≤ k) && decide (k ≤ 2)) = false
  · clear hX hE
    go_enter Tryz.func4, Tryz.ntmps4
    go_wp2_with fail
    refine (isCurve_any _ _).mono ?_
    rintro e w1 ⟨rfl, rfl⟩
    rw [hk2]
    go_wp2_with fail
    go_ret
    exact ⟨rfl, Mod.refl _ _⟩
  have hk : (decide (0 ≤ k) && decide (k ≤ 2)) = true := by simpa using hk2
  have hk' := hk
  simp only [Bool.and_eq_true, decide_eq_true_eq] at hk'
  obtain ⟨q, rfl⟩ : ∃ q : Nat, k = q := ⟨k.toNat, by omega⟩
  have hq : q ≤ 2 := by omega
  have hl := lenK_le q hq
  have HX := Lib.hid hX
  have HE := Lib.hid hE
  have HF := Lib.hid hf
  clear hX hE hf
  go_enter Tryz.func4, Tryz.ntmps4
  go_wp2_with fail
  refine (isCurve_any _ _).mono ?_
  rintro e w1 ⟨rfl, rfl⟩
  rw [hk]
  go_wp2_with fail
  refine (specDrawn_any q hq a n c f w1 HX.out HF.out (by omega) hnc).mono ?_
  rintro e w2 ⟨m2, hr⟩
  rcases hr with ⟨i, b', c', f', rfl, hB, hc, hff, hD⟩ | rfl
  · obtain ⟨b, o, rfl, hXb⟩ : ∃ b o, a = some ⟨b, o, none⟩ ∧ Bts w1 b o n f := by
      rcases HX.out with ⟨_, h⟩ | h
      · have := hD.1
        rw [h, Nat.mul_add] at this
        omega
      · exact h
    have hdr := drawn_any q hq b o n c i f w2 ea (m2.cell_some HE.out fun h => h) (hXb.mod m2 fun _ _ h => h) HF.out (by omega) hD
    have hba := byteAt_ch HF.out (by omega) hD
    have HDR := Lib.hid hdr
    have HBA := Lib.hid hba
    have HB := Lib.hid hB
    have HFF := Lib.hid hff
    clear hdr hba hB hff hD hXb HX
    go_wp2_with fail
    refine HDR.out.mono ?_
    rintro e w3 ⟨b3, c3, f3, rfl, hA3, hc3, hf3, hb3, m3⟩
    have hXY := equal_any b3 0 (lenK q) c3 b' 0 (lenK q) c' f3 f' w3 (fun j hj => hA3.bts j (by omega)) (fun j hj => m3.cell_some (HB.out.bts j (by omega)) fun h => h) (by omega)
    have HXY := Lib.hid hXY
    have HF3 := Lib.hid hf3
    clear hXY hA3 hf3
    go_wp2_with fail
    refine HXY.out.mono ?_
    rintro e w4 ⟨⟨r, rfl, hr⟩, m4⟩
    obtain rfl : r = true := hr.2 ⟨by first | trivial | rfl, fun j hj => by rw [HF3.out j hj, HBA.out j hj, HFF.out j hj]⟩
    clear hr
    go_wp2_with fail
    go_ret
    exact ⟨rfl, (m2.trans m3).trans m4⟩
  · go_wp2_with fail
    go_ret
    exact ⟨rfl, m2⟩
end Go.Proofs.YtpfmbfkhjapbbaaGreatDoor
