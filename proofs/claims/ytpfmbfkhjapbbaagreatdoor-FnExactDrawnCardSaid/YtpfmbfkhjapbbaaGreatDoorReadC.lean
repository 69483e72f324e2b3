/-
  A scalar out of bytes, the rest: UnmarshalBinary, impl.scalarOf, impl.ReadScalar. Conditions: io.EOF holds an errors.errorString's pointer; rows of at most 2^20 bytes.
-/
import Derived.Test.YtpfmbfkhjapbbaaGreatDoorReadB
set_option linter.unusedVariables false
set_option linter.unusedSimpArgs false
namespace Go.Proofs.YtpfmbfkhjapbbaaGreatDoor
open Go Go.RowKit

/-- A slice of bytes as it comes in: nil, or a row. -/
def BSl (w : World) (a : Option Addr) (n : Nat) (f : Nat → Nat) : Prop := (a = none ∧ n = 0) ∨ ∃ b o, a = some ⟨b, o, none⟩ ∧ Bts w b o n f
theorem BSl.mod {w w' : World} {a : Option Addr} {n : Nat} {f : Nat → Nat} {M : Places} (h : BSl w a n f) (hm : Mod M w w') (hd : ∀ b o, M b o → w.heap.size ≤ b) : BSl w' a n f := by
  rcases h with h | ⟨b, o, rfl, hb⟩
  · exact .inl h
  · exact .inr ⟨b, o, rfl, hb.mod hm fun j hj h => by have := hd _ _ h; have := lt_of_cell? (hb j hj); omega⟩
theorem BSl.nop {w w' : World} {a : Option Addr} {n : Nat} {f : Nat → Nat} (h : BSl w a n f) (hm : Mod NoP w w') : BSl w' a n f := h.mod hm fun _ _ h => h.elim

set_option maxRecDepth 100000 in
theorem unmarshalBinary_no (k : Nat) (p c n : Nat) (a : Option Addr) (f : Nat → Nat) (w : World) (M : Places)
    (hu : ∀ b o, a = some ⟨b, o, none⟩ → Calls Tryz.prog 317 #[.pointer (some ⟨p, 0, none⟩), .slice a n c] w fun e w' => e = .returned (.bool false) ∧ Mod M w w') (ha : ∀ A, a = some A → ∃ b o, A = ⟨b, o, none⟩) :
    Calls Tryz.prog 312 #[.pointer (some ⟨p, 0, none⟩), .slice a n c] w fun e w' => (∃ s, e = .returned (.iface 298 (.string s))) ∧ Mod M w w' := by
  have q22 : ∀ (w : World) (a : Option Addr) (n c n' c' : Nat), (binOp .eql 22 (.slice a n c) (.slice none n' c')).run Tryz.prog w = .ok (.bool a.isNone) w := fun w a n c n' c' => Lib.run_eql_slice_nil w _ _ a n c n' c' Tryz.underlying22
  cases a with
  | none =>
    clear hu ha
    go_enter Tryz.func312, Tryz.ntmps312
    go_wp2_with fail
    go_ret
    exact ⟨⟨_, rfl⟩, Mod.refl _ _⟩
  | some A =>
    obtain ⟨b, o, rfl⟩ := ha A rfl
    have H := Lib.hid (hu b o rfl)
    clear hu ha
    go_enter Tryz.func312, Tryz.ntmps312
    go_wp2_with fail
    refine H.out.mono ?_
    rintro e w' ⟨rfl, m⟩
    go_wp2_with fail
    go_ret
    exact ⟨⟨_, rfl⟩, m⟩

set_option maxRecDepth 100000 in
theorem unmarshalBinary_yes (p c n b o : Nat) (w : World) (R : World → Prop)
    (hu : Calls Tryz.prog 317 #[.pointer (some ⟨p, 0, none⟩), .slice (some ⟨b, o, none⟩) n c] w fun e w' => e = .returned (.bool true) ∧ R w') :
    Calls Tryz.prog 312 #[.pointer (some ⟨p, 0, none⟩), .slice (some ⟨b, o, none⟩) n c] w fun e w' => e = .returned .nilIface ∧ R w' := by
  have q22 : ∀ (w : World) (a : Option Addr) (n c n' c' : Nat), (binOp .eql 22 (.slice a n c) (.slice none n' c')).run Tryz.prog w = .ok (.bool a.isNone) w := fun w a n c n' c' => Lib.run_eql_slice_nil w _ _ a n c n' c' Tryz.underlying22
  have H := Lib.hid hu
  clear hu
  go_enter Tryz.func312, Tryz.ntmps312
  go_wp2_with fail
  refine H.out.mono ?_
  rintro e w' ⟨rfl, m⟩
  go_wp2_with fail
  go_ret
  exact ⟨rfl, m⟩

/-- What scalarOf returns: a scalar where the bytes are one. -/
def ScOf (w : World) (lo k n : Nat) (g : Value) (f : Nat → Nat) (e : Ending) (w' : World) : Prop :=
  ∃ (p : Nat) (r : Bool), e = .returned (.tuple #[.iface 290 (.pointer (some ⟨p, 0, none⟩)), .bool r]) ∧ (r = true ↔ n = lenK k ∧ beN f n < ordK k) ∧
    (r = true → ∃ c f', SclIs w' w.heap.size k p g c f' ∧ ∀ j, j < lenK k → f' j = f j) ∧ Mod NoP w w'

theorem grp_block {w : World} {lo k : Nat} {g : Value} (h : GrpIs w lo k g) : ∀ x r, g = .agg #[x, .slice (some ⟨r, 0, none⟩) (lenK k) (lenK k)] → r < w.heap.size := by
  obtain ⟨gp, go, hge, _, _, _, hgb⟩ := h
  intro x r hr
  rw [hge] at hr
  obtain ⟨_, rfl⟩ : _ ∧ go = r := by simpa using hr
  exact hgb.lt

set_option maxRecDepth 100000 in
set_option maxHeartbeats 1000000 in
theorem scalarOf_any (k : Nat) (hk : k ≤ 2) (g : Value) (lo : Nat) (a : Option Addr) (n c : Nat) (f : Nat → Nat) (w : World) (hG : GrpIs w lo k g) (hX : BSl w a n f) (hf : ∀ j, j < n → f j < 256) (hn : n ≤ 1048576) :
    Calls Tryz.prog 42 #[.iface 108 g, .slice a n c] w (ScOf w lo k n g f) := by
  have hgb := grp_block hG
  have HG := Lib.hid hG
  have hNS := newScalar_any k hk g lo w hG
  have HNS := Lib.hid hNS
  clear hNS hG
  go_enter Tryz.func42, Tryz.ntmps42
  go_wp2_with fail
  refine HNS.out.mono ?_
  rintro e w1 ⟨p, rfl, hS, m1⟩
  have hG1 := HG.out.mod m1 nop
  have hX1 := hX.nop m1
  obtain ⟨_, _, _, _, _, _, _, _, hlp, _⟩ := id hS
  have hpe : ∀ b o, a = some ⟨b, o, none⟩ → 0 < n → b ≠ p := fun b o e h => by
    rcases hX with ⟨h1, _⟩ | ⟨b', o', h1, h2⟩
    · rw [h1] at e; cases e
    · rw [h1] at e
      obtain ⟨rfl, rfl⟩ : b' = b ∧ o' = o := by simpa using e
      have := lt_of_cell? (h2 0 h)
      omega
  have hU : ∀ b o, a = some ⟨b, o, none⟩ → ∀ w2, Mod NoP w1 w2 → Calls Tryz.prog 317 #[.pointer (some ⟨p, 0, none⟩), .slice (some ⟨b, o, none⟩) n c] w2 (Unm w2 w.heap.size k p n g f) := fun b o e w2 m => by
    refine unmarshal_any k hk g w.heap.size lo p c (lenK k) (fun _ => 0) b o n f w2 (hG1.mod m nop) (hS.mod m nop) ?_ hf (fun h => hpe b o e h) (fun x r h => by have := hgb x r h; omega) (by have := m1.size; have := m.size; omega) hn
    rcases hX1.nop m with ⟨h1, _⟩ | ⟨b', o', h1, h2⟩
    · rw [h1] at e; cases e
    · rw [h1] at e
      obtain ⟨rfl, rfl⟩ : b' = b ∧ o' = o := by simpa using e
      exact h2
  have hform : ∀ A, a = some A → ∃ b o, A = ⟨b, o, none⟩ := fun A e => by
    rcases hX with ⟨h1, _⟩ | ⟨b', o', h1, h2⟩
    · rw [h1] at e; cases e
    · rw [h1] at e
      exact ⟨b', o', (Option.some.inj e).symm⟩
  have hlen := (lenK_le k hk).2
  have hnil : a = none → n = 0 := fun e => by
    rcases hX with ⟨_, h1⟩ | ⟨b', o', h1, h2⟩
    · exact h1
    · rw [h1] at e; cases e
  unfold ScOf
  by_cases hP : n = lenK k ∧ beN f n < ordK k
  · obtain ⟨b, o, rfl⟩ : ∃ b o, a = some ⟨b, o, none⟩ := by
      cases a with
      | none => have := hnil rfl; omega
      | some A => obtain ⟨b, o, rfl⟩ := hform A rfl; exact ⟨b, o, rfl⟩
    have hY : ∀ w2, Mod NoP w1 w2 → Calls Tryz.prog 312 #[.pointer (some ⟨p, 0, none⟩), .slice (some ⟨b, o, none⟩) n c] w2 fun e w' => e = .returned .nilIface ∧ (∃ c f', SclIs w' w.heap.size k p g c f' ∧ ∀ j, j < lenK k → f' j = f j) ∧ Mod (InB p) w2 w' := fun w2 m =>
      unmarshalBinary_yes p c n b o w2 (fun w' => (∃ c f', SclIs w' w.heap.size k p g c f' ∧ ∀ j, j < lenK k → f' j = f j) ∧ Mod (InB p) w2 w') ((hU b o rfl w2 m).mono fun e w' ⟨r, he, hr, hs, hm⟩ => by
        have hr' := hr.2 hP
        subst hr'
        exact ⟨he, hs rfl, hm⟩)
    have HY := Lib.hid hY
    have HP := Lib.hid hP
    have M1 := Lib.hid m1
    clear hY hU hS hG1 hX1 hX hP hform hnil hpe HNS HG hgb
    go_wp2_with fail
    go_region_with (go_at_call 312; refine (HY.out _ ?_).mono ?_; ((first | exact Mod.refl NoP w1 | exact (Mod.refl NoP w1).drew | exact (Mod.refl NoP w1).drewN _)); rintro e w2 ⟨rfl, hs, m2⟩)
    all_goals (go_wp2_with fail)
    all_goals (go_ret2)
    all_goals exact ⟨p, true, rfl, ⟨fun _ => HP.out, fun _ => rfl⟩, fun _ => hs, (M1.out.drew.trans' m2 fun q o hq h => by unfold InB at h; omega)⟩
  · have hY : ∀ w2, Mod NoP w1 w2 → Calls Tryz.prog 312 #[.pointer (some ⟨p, 0, none⟩), .slice a n c] w2 fun e w' => (∃ s, e = .returned (.iface 298 (.string s))) ∧ Mod (InB p) w2 w' := fun w2 m =>
      unmarshalBinary_no k p c n a f w2 (InB p) (fun b o e => by
        subst e
        exact (hU b o rfl w2 m).mono fun e w' ⟨r, he, hr, hs, hm⟩ => by
          have hr' : r = false := by
            cases r with
            | false => rfl
            | true => exact absurd (hr.1 rfl) hP
          subst hr'
          exact ⟨he, hm⟩) hform
    have HY := Lib.hid hY
    have HP := Lib.hid hP
    have M1 := Lib.hid m1
    clear hY hU hS hG1 hX1 hX hP hform hnil hpe HNS HG hgb
    go_wp2_with fail
    go_region_with (go_at_call 312; refine (HY.out _ ?_).mono ?_; ((first | exact Mod.refl NoP w1 | exact (Mod.refl NoP w1).drew | exact (Mod.refl NoP w1).drewN _)); rintro e w2 ⟨⟨s, rfl⟩, m2⟩)
    all_goals (go_wp2_with fail)
    all_goals (go_ret2)
    all_goals exact ⟨p, false, rfl, ⟨fun h => (by cases h), fun h => absurd h HP.out⟩, fun h => (by cases h), (M1.out.drew.trans' m2 fun q o hq h => by unfold InB at h; omega)⟩

theorem ScOf.mono {w w0 w' : World} {lo k n : Nat} {g : Value} {f : Nat → Nat} {e : Ending} (h : ScOf w lo k n g f e w') (m : Mod NoP w0 w) : ScOf w0 lo k n g f e w' := by
  obtain ⟨p, r, he, hr, hs, hm⟩ := h
  exact ⟨p, r, he, hr, fun hh => by
    obtain ⟨c, f', hS, hf⟩ := hs hh
    exact ⟨c, f', hS.lower m.size, hf⟩, m.trans hm⟩

/-- What impl.ReadScalar returns: the bytes again, whether they are 0, and true; or false. -/
def RdRet (w : World) (k n : Nat) (f : Nat → Nat) (e : Ending) (w' : World) : Prop :=
  Mod NoP w w' ∧ ((n = lenK k ∧ beN f n < ordK k ∧ ∃ (b' c' : Nat) (f' : Nat → Nat) (z : Bool), e = .returned (.tuple #[.slice (some ⟨b', 0, none⟩) (lenK k) c', .bool z, .bool true]) ∧ BArr w' (some ⟨b', 0, none⟩) c' f' ∧ lenK k ≤ c' ∧ (∀ j, j < lenK k → f' j = f j) ∧ (z = true ↔ ∀ j, j < lenK k → f j = 0)) ∨
    (¬ (n = lenK k ∧ beN f n < ordK k) ∧ ∃ v z, e = .returned (.tuple #[v, z, .bool false])))

set_option maxRecDepth 100000 in
set_option maxHeartbeats 1000000 in
theorem readScalar_any (k : Nat) (hk : k ≤ 2) (a : Option Addr) (n c : Nat) (f : Nat → Nat) (w : World) (ea : Addr) (hE : Eof w ea) (hX : BSl w a n f) (hf : ∀ j, j < n → f j < 256) (hn : n ≤ 1048576) :
    Calls Tryz.prog 25 #[.int .i64 k, .slice a n c] w (RdRet w k n f) := by
  have hl := lenK_le k hk
  have HX := Lib.hid hX
  clear hX
  go_enter Tryz.func25, Tryz.ntmps25
  go_wp2_with fail
  refine (groupOf_any k hk _ ea hE).mono ?_
  rintro e w1 ⟨g, rfl, hG, m1⟩
  have hSO := scalarOf_any k hk g _ a n c f w1 hG (HX.out.nop m1) hf hn
  have HG := Lib.hid hG
  have HSO := Lib.hid hSO
  clear hG hSO
  go_wp2_with fail
  refine HSO.out.mono ?_
  rintro e w2 ⟨p, r, rfl, hr, hs, m2⟩
  cases r with
  | false =>
    have Hr := Lib.hid hr
    have M := Lib.hid (m1.trans m2)
    clear hr hs m1 m2 HSO
    go_wp2_with fail
    refine bodyPost_ret (results_tmp3 rfl _ _ _) rfl ?_
    exact ⟨M.out, .inr ⟨fun h => (by have := Hr.out.2 h; cases this), _, _, rfl⟩⟩
  | true =>
    obtain ⟨cs, fs, hS, hfs⟩ := hs rfl
    have hP := hr.1 rfl
    have HP := Lib.hid hP
    have HF := Lib.hid hfs
    have HS := Lib.hid hS
    have HG2 := Lib.hid (HG.out.mod m2 nop)
    have M := Lib.hid (m1.trans m2)
    clear hr hs m1 hS hP hfs HSO
    go_wp2_with fail
    refine (bytesOf_any k hk g _ p cs fs w2 HS.out).mono ?_
    rintro e w3 ⟨b', c', f', rfl, h1, h2, h3, h4, m3⟩
    have H1 := Lib.hid h1
    have H3 := Lib.hid h3
    have HZ := Lib.hid (sclIsZero_any k hk g _ _ p cs fs w3 (HG2.out.mod m3 nop) (HS.out.mod m3 nop) (fun j hj => by rw [HF.out j hj, ← HP.out.1] at *; exact hf j (by have := HP.out.1; omega)))
    clear h1 h3
    go_wp2_with fail
    refine HZ.out.mono ?_
    rintro e w4 ⟨z, rfl, hz, m4⟩
    have Hz := Lib.hid hz
    clear hz
    go_wp2_with fail
    refine bodyPost_ret (results_tmp3 rfl _ _ _) rfl ?_
    refine ⟨(M.out.trans m3).trans m4, .inl ⟨HP.out.1, HP.out.2, b', c', f', z, rfl, H1.out.mod m4 (fun _ _ _ h => h), h2, fun j hj => by rw [H3.out j hj, HF.out j hj], Hz.out.trans ?_⟩⟩
    exact ⟨fun h j hj => by rw [← HF.out j hj]; exact h j hj, fun h j hj => by rw [HF.out j hj]; exact h j hj⟩
end Go.Proofs.YtpfmbfkhjapbbaaGreatDoor
