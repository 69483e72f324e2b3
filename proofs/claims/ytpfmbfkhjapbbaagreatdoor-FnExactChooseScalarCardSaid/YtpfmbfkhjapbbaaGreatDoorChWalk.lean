/-
  impl.ChooseScalar and laws.FnExactChooseScalar, walked. Conditions: io.EOF holds an errors.errorString's pointer; slices of bytes.
-/
import Derived.Test.YtpfmbfkhjapbbaaGreatDoorChoose3
import Derived.Test.YtpfmbfkhjapbbaaGreatDoorRdWalk
set_option linter.unusedVariables false
set_option linter.unusedSimpArgs false
namespace Go.Proofs.YtpfmbfkhjapbbaaGreatDoor
open Go Go.RowKit

/-- impl.ChooseScalar of two scalars: a copy of the one that is told, and true. -/
def ChRet (w : World) (k : Nat) (h : Nat → Nat) (e : Ending) (w' : World) : Prop :=
  Mod NoP w w' ∧ ∃ (b' c' : Nat) (f' : Nat → Nat), e = .returned (.tuple #[.slice (some ⟨b', 0, none⟩) (lenK k) c', .bool true]) ∧ BArr w' (some ⟨b', 0, none⟩) c' f' ∧ lenK k ≤ c' ∧ ∀ j, j < lenK k → f' j = h j

theorem fromLo_nop {lo : Nat} {w w' w0 : World} (h : Mod NoP w0 w) (m : Mod (FromLo lo) w w') (hl : w0.heap.size ≤ lo) : Mod NoP w0 w' := h.trans' m fun b o hb h => by unfold FromLo at h; omega

set_option maxRecDepth 100000 in
set_option maxHeartbeats 2000000 in
theorem chooseScalar_any (k : Nat) (hk : k ≤ 2) (y : Int) (hy : y = 0 ∨ y = 1) (a b : Option Addr) (n c n' c' : Nat) (f f' : Nat → Nat) (mov : Bool) (w : World) (ea : Addr) (hE : Eof w ea)
    (hX : BSl w a n f) (hX' : BSl w b n' f') (hf : ∀ j, j < n → f j < 256) (hf' : ∀ j, j < n' → f' j < 256) (hn : n ≤ 1048576) (hn' : n' ≤ 1048576) (hP : n = lenK k ∧ beN f n < ordK k) (hP' : n' = lenK k ∧ beN f' n' < ordK k) :
    Calls Tryz.prog 26 #[.int .i64 k, .int .i64 y, .slice a n c, .slice b n' c', .bool mov] w (ChRet w k (if y = 1 then f' else f)) := by
  have HX := Lib.hid hX
  have HX' := Lib.hid hX'
  have HP := Lib.hid hP
  have HP' := Lib.hid hP'
  clear hX hX' hP hP'
  unfold ChRet
  generalize hh : (if y = 1 then f' else f) = h
  have HH := Lib.hid hh
  clear hh
  go_enter Tryz.func26, Tryz.ntmps26
  go_wp2_with fail
  refine (groupOf_any k hk _ ea hE).mono ?_
  rintro e w1 ⟨g, rfl, hG, m1⟩
  have HG := Lib.hid hG
  clear hG
  have hSO := scalarOf_any k hk g _ a n c f w1 HG.out (HX.out.nop m1) hf hn
  have HSO := Lib.hid hSO
  clear hSO
  go_wp2_with fail
  refine HSO.out.mono ?_
  rintro e w2 ⟨p, r, rfl, hr, hs, m2⟩
  obtain rfl : r = true := hr.2 HP.out
  obtain ⟨cp, fp, hSp, hfp⟩ := hs rfl
  have HSp := Lib.hid (hSp.lower m1.size)
  have HFp := Lib.hid hfp
  clear hr hs hSp hfp
  have hSO' := scalarOf_any k hk g _ b n' c' f' w2 (HG.out.mod m2 nop) ((HX'.out.nop m1).nop m2) hf' hn'
  have HSO' := Lib.hid hSO'
  clear hSO'
  go_wp2_with fail
  refine HSO'.out.mono ?_
  rintro e w3 ⟨q, r, rfl, hr, hs, m3⟩
  obtain rfl : r = true := hr.2 HP'.out
  obtain ⟨cq, fq, hSq, hfq⟩ := hs rfl
  have m13 : Mod NoP w w3 := (m1.trans m2).trans m3
  have HSq := Lib.hid (hSq.lower (m1.trans m2).size)
  have HFq := Lib.hid hfq
  have HSp3 := Lib.hid (HSp.out.mod m3 nop)
  have HG3 := Lib.hid ((HG.out.mod m2 nop).mod m3 nop)
  have HM := Lib.hid m13
  clear hr hs hSq hfq m13 m2 m3 HSp HX HX' HSO HSO'
  cases mov with
  | true =>
    have hmv : Calls Tryz.prog 298 #[.pointer (some ⟨p, 0, none⟩), .int .i64 y, .iface 290 (.pointer (some ⟨q, 0, none⟩))] w3 (Moved w3 w.heap.size k p g (if y = 1 then fq else fp) (.iface 290 (.pointer (some ⟨p, 0, none⟩)))) := by
      rcases hy with rfl | rfl
      · exact cmov_no k hk g _ _ p q _ _ fp fq w3 HG3.out HSp3.out HSq.out
      · exact cmov_yes k hk g _ _ p q _ _ fp fq w3 HG3.out HSp3.out HSq.out
    have HMV := Lib.hid hmv
    clear hmv
    go_wp2_with fail
    refine HMV.out.mono ?_
    rintro e w4 ⟨rfl, ⟨c4, f4, hS4, hf4⟩, m4⟩
    have HS4 := Lib.hid hS4
    have HF4 := Lib.hid hf4
    clear hS4 hf4
    go_wp2_with fail
    refine (bytesOf_any k hk g _ p c4 f4 w4 HS4.out).mono ?_
    rintro e w5 ⟨b5, c5, f5, rfl, h1, h2, h3, h4, m5⟩
    have H1 := Lib.hid h1
    have H3 := Lib.hid h3
    clear h1 h3
    go_wp2_with fail
    go_ret2
    refine ⟨(fromLo_nop HM.out m4 (Nat.le_refl _)).trans m5, b5, c5, f5, rfl, H1.out, h2, fun j hj => ?_⟩
    rw [H3.out j hj, HF4.out j hj, ← HH.out]
    by_cases hy1 : y = 1
    · rw [if_pos hy1, if_pos hy1]; exact HFq.out j hj
    · rw [if_neg hy1, if_neg hy1]; exact HFp.out j hj
  | false =>
    have hns := newScalar_any k hk g _ w3 HG3.out
    have HNS := Lib.hid hns
    clear hns
    go_wp2_with fail
    refine HNS.out.mono ?_
    rintro e w4 ⟨s, rfl, hS, m4⟩
    have hlt : w.heap.size ≤ w3.heap.size := HM.out.size
    have hql : q < w3.heap.size := by obtain ⟨_, _, _, _, h, _⟩ := HSq.out; exact lt_of_heap h
    have hpl : p < w3.heap.size := by obtain ⟨_, _, _, _, h, _⟩ := HSp3.out; exact lt_of_heap h
    have hap : ∀ a, w4.cell? ⟨s, 2, none⟩ = some (.slice (some ⟨a, 0, none⟩) (lenK k) (lenK k)) → a ≠ p ∧ a ≠ q := fun a ha => by
      obtain ⟨i', s', a', hg', h1, _, _, hc, _, _, _, _, hla⟩ := sclIs_cells hS
      rw [hc] at ha
      obtain rfl : a' = a := by simpa using ha
      exact ⟨by omega, by omega⟩
    have hsl : Calls Tryz.prog 299 #[.pointer (some ⟨s, 0, none⟩), .int .i64 y, .iface 290 (.pointer (some ⟨q, 0, none⟩)), .iface 290 (.pointer (some ⟨p, 0, none⟩))] w4 (Moved w4 w.heap.size k s g (if y = 1 then fq else fp) (.iface 290 (.pointer (some ⟨s, 0, none⟩)))) := by
      rcases hy with rfl | rfl
      · exact cselect_no k hk g _ _ s q p _ _ _ (fun _ => 0) fq fp w4 (HG3.out.mod m4 nop) (hS.lower hlt) (HSq.out.mod m4 nop) (HSp3.out.mod m4 nop) hap
      · exact cselect_yes k hk g _ _ s q p _ _ _ (fun _ => 0) fq fp w4 (HG3.out.mod m4 nop) (hS.lower hlt) (HSq.out.mod m4 nop) (HSp3.out.mod m4 nop) hap
    have HSL := Lib.hid hsl
    clear hsl hap hS
    go_wp2_with fail
    refine HSL.out.mono ?_
    rintro e w5 ⟨rfl, ⟨c4, f4, hS4, hf4⟩, m5⟩
    have HS4 := Lib.hid hS4
    have HF4 := Lib.hid hf4
    clear hS4 hf4
    go_wp2_with fail
    refine (bytesOf_any k hk g _ s c4 f4 w5 HS4.out).mono ?_
    rintro e w6 ⟨b5, c5, f5, rfl, h1, h2, h3, h4, m6⟩
    have H1 := Lib.hid h1
    have H3 := Lib.hid h3
    clear h1 h3
    go_wp2_with fail
    go_ret2
    refine ⟨(fromLo_nop (HM.out.trans m4) m5 (Nat.le_refl _)).trans m6, b5, c5, f5, rfl, H1.out, h2, fun j hj => ?_⟩
    rw [H3.out j hj, HF4.out j hj, ← HH.out]
    by_cases hy1 : y = 1
    · rw [if_pos hy1, if_pos hy1]; exact HFq.out j hj
    · rw [if_neg hy1, if_neg hy1]; exact HFp.out j hj

set_option maxRecDepth 100000 in
set_option maxHeartbeats 2000000 in
theorem law9_walk (k y : Int) (a : Option Addr) (n c : Nat) (f : Nat → Nat) (b : Option Addr) (n' c' : Nat) (f' : Nat → Nat) (mov : Bool) (w : World) (ea : Addr) (hE : Eof w ea)
    (hX : BSl w a n f) (hf : ∀ j, j < n → f j < 256) (hX' : BSl w b n' f') (hf' : ∀ j, j < n' → f' j < 256) :
    Calls Tryz.prog 9 #[.int .i64 k, .int .i64 y, .slice a n c, .slice b n' c', .bool mov] w (LawRet w) := by
  by_cases h1 : 2147483647 < n
  · have d1 : decide ((n : Int) > 2147483647) = true := decide_eq_true (by omega)
    clear hX hX' hE
    go_enter Tryz.func9, Tryz.ntmps9
    go_wp2_with fail
    go_ret
    exact ⟨rfl, Mod.refl _ _⟩
  have d1 : decide ((n : Int) > 2147483647) = false := decide_eq_false (by omega)
  by_cases h1' : 2147483647 < n'
  · have d1' : decide ((n' : Int) > 2147483647) = true := decide_eq_true (by omega)
    clear hX hX' hE
    go_enter Tryz.func9, Tryz.ntmps9
    go_wp2_with fail
    go_ret
    exact ⟨rfl, Mod.refl _ _⟩
  have d1' : decide ((n' : Int) > 2147483647) = false := decide_eq_false (by omega)
  by_cases h2 : 4096 < n
  · have d2 : decide ((n : Int) > 4096) = true := decide_eq_true (by omega)
    clear hX hX' hE
    go_enter Tryz.func9, Tryz.ntmps9
    go_wp2_with fail
    go_ret
    exact ⟨rfl, Mod.refl _ _⟩
  have d2 : decide ((n : Int) > 4096) = false := decide_eq_false (by omega)
  by_cases h2' : 4096 < n'
  · have d2' : decide ((n' : Int) > 4096) = true := decide_eq_true (by omega)
    clear hX hX' hE
    go_enter Tryz.func9, Tryz.ntmps9
    go_wp2_with fail
    go_ret
    exact ⟨rfl, Mod.refl _ _⟩
  have d2' : decide ((n' : Int) > 4096) = false := decide_eq_false (by omega)
  by_cases hy0 : y < 0
  · have d3 : decide (y < 0) = true := decide_eq_true hy0
    clear hX hX' hE
    go_enter Tryz.func9, Tryz.ntmps9
    go_wp2_with fail
    go_ret
    exact ⟨rfl, Mod.refl _ _⟩
  have d3 : decide (y < 0) = false := decide_eq_false hy0
  by_cases hy1 : y > 1
  · have d4 : decide (y > 1) = true := decide_eq_true hy1
    clear hX hX' hE
    go_enter Tryz.func9, Tryz.ntmps9
    go_wp2_with fail
    go_ret
    exact ⟨rfl, Mod.refl _ _⟩
  have d4 : decide (y > 1) = false := decide_eq_false hy1
  by_cases hk2 : (decide (0 ≤ k) && decide (k ≤ 2)) = false
  · clear hX hX' hE
    go_enter Tryz.func9, Tryz.ntmps9
    go_wp2_with fail
    refine (isCurve_any _ _).mono ?_
    rintro e w1 ⟨rfl, rfl⟩
    rw [hk2]
    go_wp2_with fail
    go_ret
    exact ⟨rfl, Mod.refl _ _⟩
  have hk : (decide (0 ≤ k) && decide (k ≤ 2)) = true := by simpa using hk2
  have hk' := hk
  simp only [Bool.and_eq_true, decide_eq_true_eq] at hk'
  obtain ⟨q, rfl⟩ : ∃ q : Nat, k = q := ⟨k.toNat, by omega⟩
  have hq : q ≤ 2 := by omega
  have hl := lenK_le q hq
  have hy : y = 0 ∨ y = 1 := by omega
  have HX := Lib.hid hX
  have HX' := Lib.hid hX'
  have HE := Lib.hid hE
  clear hX hX' hE
  go_enter Tryz.func9, Tryz.ntmps9
  go_wp2_with fail
  refine (isCurve_any _ _).mono ?_
  rintro e w1 ⟨rfl, rfl⟩
  rw [hk]
  go_wp2_with fail
  refine (isScalar_any q hq a n c f w1 HX.out hf (by omega)).mono ?_
  rintro e w2 ⟨r, rfl, hr, m2⟩
  cases r with
  | false =>
    clear hr
    go_wp2_with fail
    go_ret
    exact ⟨rfl, m2⟩
  | true =>
    have HP := Lib.hid (hr.1 rfl)
    have hS := isScalar_any q hq b n' c' f' w2 (HX'.out.nop m2) hf' (by omega)
    have HS := Lib.hid hS
    clear hr hS
    go_wp2_with fail
    refine HS.out.mono ?_
    rintro e w3 ⟨r, rfl, hr, m3⟩
    cases r with
    | false =>
      clear hr
      go_wp2_with fail
      go_ret
      exact ⟨rfl, m2.trans m3⟩
    | true =>
      have HP' := Lib.hid (hr.1 rfl)
      have hC := chooseScalar_any q hq y hy a b n c n' c' f f' mov w3 ea ((m2.trans m3).cell_some HE.out fun h => h) (HX.out.nop (m2.trans m3)) (HX'.out.nop (m2.trans m3)) hf hf' (by omega) (by omega) HP.out HP'.out
      have HC := Lib.hid hC
      have M := Lib.hid (m2.trans m3)
      clear hr hC HS
      go_wp2_with fail
      refine HC.out.mono ?_
      rintro e w4 ⟨m4, b4, c4, f4, rfl, hB, hc4, hf4⟩
      have HB := Lib.hid hB
      have HF := Lib.hid hf4
      clear hB hf4
      rcases hy with rfl | rfl
      · obtain ⟨ba, oa, rfl, hXa⟩ : ∃ ba oa, a = some ⟨ba, oa, none⟩ ∧ Bts w4 ba oa n f := by
          rcases HX.out.nop (M.out.trans m4) with ⟨_, h⟩ | h
          · have := HP.out.1; omega
          · exact h
        have hXY := fun w5 (m : Mod NoP w4 w5) => equal_any b4 0 (lenK q) c4 ba oa n c f4 f w5 (fun j hj => m.cell_some (HB.out.bts j (by omega)) fun h => h) (hXa.mod m fun _ _ h => h) (by omega)
        have HXY := Lib.hid hXY
        clear hXY hXa
        go_wp2_with fail
        refine (HXY.out _ (Mod.refl NoP w4)).mono ?_
        rintro e w5 ⟨⟨r, rfl, hr⟩, m5⟩
        obtain rfl : r = true := hr.2 ⟨HP.out.1.symm, fun j hj => by rw [HF.out j hj]; rfl⟩
        clear hr
        go_wp2_with fail
        go_ret
        exact ⟨rfl, (M.out.trans m4).trans m5⟩
      · obtain ⟨ba, oa, rfl, hXa⟩ : ∃ ba oa, b = some ⟨ba, oa, none⟩ ∧ Bts w4 ba oa n' f' := by
          rcases HX'.out.nop (M.out.trans m4) with ⟨_, h⟩ | h
          · have := HP'.out.1; omega
          · exact h
        have hXY := fun w5 (m : Mod NoP w4 w5) => equal_any b4 0 (lenK q) c4 ba oa n' c' f4 f' w5 (fun j hj => m.cell_some (HB.out.bts j (by omega)) fun h => h) (hXa.mod m fun _ _ h => h) (by omega)
        have HXY := Lib.hid hXY
        clear hXY hXa
        go_wp2_with fail
        refine (HXY.out _ (Mod.refl NoP w4)).mono ?_
        rintro e w5 ⟨⟨r, rfl, hr⟩, m5⟩
        obtain rfl : r = true := hr.2 ⟨HP'.out.1.symm, fun j hj => by rw [HF.out j hj]; rfl⟩
        clear hr
        go_wp2_with fail
        go_ret
        exact ⟨rfl, (M.out.trans m4).trans m5⟩
end Go.Proofs.YtpfmbfkhjapbbaaGreatDoor
