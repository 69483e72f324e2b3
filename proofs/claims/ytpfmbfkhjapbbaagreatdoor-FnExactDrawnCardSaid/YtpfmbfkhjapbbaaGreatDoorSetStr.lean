/-
  big's Int.SetString on a text of digits, and elliptic's bigFromDecimal, bigFromHex: a new Int of the number that the text tells. Conditions: 1 to 1000 digits; io.EOF holds an errors.errorString's pointer.
-/
import Derived.Test.YtpfmbfkhjapbbaaGreatDoorScanHex
set_option linter.unusedVariables false
set_option linter.unusedSimpArgs false
namespace Go.Proofs.YtpfmbfkhjapbbaaGreatDoor
open Go Go.RowKit

/-- Block p is a big.Int: its sign and its magnitude m. -/
structure IntIs (w : World) (p : Nat) (neg : Bool) (a : Option Addr) (n c : Nat) (f : Nat → Nat) (m : Nat) : Prop where
  cells : w.heap[p]? = some (.cells #[.bool neg, .slice a n c] 51 (0, 0))
  num : NatIs w a n c f m
  apart : ∀ A, a = some A → A.block ≠ p

theorem IntIs.mod {w w' : World} {p : Nat} {neg : Bool} {a : Option Addr} {n c : Nat} {f : Nat → Nat} {m : Nat} {M : Places} (h : IntIs w p neg a n c f m) (hm : Mod M w w') (hp : ∀ o, ¬ M p o) (ha : Off a M) : IntIs w' p neg a n c f m :=
  ⟨by rw [hm.heap (lt_of_heap h.cells) hp, h.cells], h.num.mod hm ha, h.apart⟩

theorem heap_set {w : World} {b : Nat} {C : Array Value} {t : TypeId} {fr : Nat × Nat} (h : w.heap[b]? = some (.cells C t fr)) (o : Nat) (v : Value) : (w.setCell ⟨b, o, none⟩ v).heap[b]? = some (.cells (C.setIfInBounds o v) t fr) := by
  simp [World.setCell, Array.getElem?_modify, h]
theorem heap_set_other {w : World} {b k : Nat} (h : k ≠ b) (o : Nat) (v : Value) : (w.setCell ⟨b, o, none⟩ v).heap[k]? = w.heap[k]? := Below.heap_setCell w ⟨b, o, none⟩ v k h

/-- What nat.scan is asked for. -/
def Scans (base : Int) (s : ByteArray) (v : Nat) : Prop :=
  ∀ (rb : Nat) (w : World) (ea : Addr), Rd w rb s 0 → Eof w ea → 0 < rb →
    Calls Tryz.prog 122 #[.slice none 0 0, .iface 149 (.pointer (some ⟨rb, 0, none⟩)), .int .i64 base, .bool false] w fun e w' =>
      ∃ (a : Option Addr) (n c : Nat) (f : Nat → Nat) (bb cc : Int), e = .returned (.tuple #[.slice a n c, .int .i64 bb, .int .i64 cc, .nilIface]) ∧ NatIs w' a n c f v ∧ (a = none ∨ Fresh w a) ∧ Mod (InB rb) w w' ∧ Rd w' rb s s.size

theorem scans10 {s : ByteArray} {D : Nat → Nat} (hD : ∀ j, (h : j < s.size) → s[j].toNat = 48 + D j ∧ D j < 10) (hs : 0 < s.size) (hs2 : s.size ≤ 1000) : Scans 10 s (numOf 10 D s.size) :=
  fun rb w ea hR hE hrb => (scan10 rb s w ea D hD hR hE hs hs2 hrb).mono fun e w' ⟨a, n, c, f, h⟩ => ⟨a, n, c, f, _, _, h⟩

theorem scans16 {s : ByteArray} {D C : Nat → Nat} (hC : ∀ j, (h : j < s.size) → s[j].toNat = C j) (hD : ∀ j, j < s.size → (C j = 48 + D j ∧ D j < 10) ∨ (C j = 87 + D j ∧ 10 ≤ D j ∧ D j < 16)) (hs : 0 < s.size) (hs2 : s.size ≤ 1000) : Scans 16 s (numOf 16 D s.size) :=
  fun rb w ea hR hE hrb => (scan16 rb s w ea D C hC hD hR hE hs hs2 hrb).mono fun e w' ⟨a, n, c, f, h⟩ => ⟨a, n, c, f, _, _, h⟩

/-- Int.scan into a new Int. -/
def ScanPost (p rb : Nat) (s : ByteArray) (v : Nat) (w : World) (e : Ending) (w' : World) : Prop :=
  ∃ (a : Option Addr) (n c : Nat) (f : Nat → Nat) (bb : Int), e = .returned (.tuple #[.pointer (some ⟨p, 0, none⟩), .int .i64 bb, .nilIface]) ∧ IntIs w' p false a n c f v ∧ (a = none ∨ Fresh w a) ∧ Mod (fun k _ => k = p ∨ k = rb) w w' ∧ Rd w' rb s s.size

set_option maxHeartbeats 400000 in
theorem int_scan (p rb : Nat) (s : ByteArray) (w : World) (ea : Addr) (base : Int) (v : Nat) (hsc : Scans base s v) (hR : Rd w rb s 0) (hE : Eof w ea) (hs : 0 < s.size) (hs2 : s.size ≤ 1000) (h1 : s[0].toNat ≠ 45) (h2 : s[0].toNat ≠ 43) (hrb : 0 < rb)
    (hp : w.heap[p]? = some (.cells #[.bool false, .slice none 0 0] 51 (0, 0))) (hpr : p ≠ rb) :
    Calls Tryz.prog 108 #[.pointer (some ⟨p, 0, none⟩), .iface 149 (.pointer (some ⟨rb, 0, none⟩)), .int .i64 base] w (ScanPost p rb s v w) := by
  have hpl := lt_of_heap hp
  go_enter Tryz.func108, Tryz.ntmps108
  go_wp2_with fail
  refine (scanSign_any rb s _ hR (by omega) hs h1 h2).mono ?_
  rintro e w1 ⟨rfl, hR1, hm1⟩
  have hp1 : w1.heap[p]? = some (.cells #[.bool false, .slice none 0 0] 51 (0, 0)) := by rw [hm1.heap hpl (fun o h => hpr h), hp]
  have c1 : w1.cell? ⟨p, 1, none⟩ = some (.slice none 0 0) := by rw [cell?_of_heap hp1]; rfl
  go_wp2_with fail
  refine (hsc rb _ ea hR1 (hm1.cell_some hE fun h => by unfold InB at h; omega) hrb).mono ?_
  rintro e w2 ⟨a, n, c, f, bb, cc, rfl, hN, hhere, hm2, hR2⟩
  have hp2 : w2.heap[p]? = some (.cells #[.bool false, .slice none 0 0] 51 (0, 0)) := by rw [hm2.heap (lt_of_heap hp1) (fun o h => hpr h), hp1]
  have c20 : w2.cell? ⟨p, 0, none⟩ = some (.bool false) := by rw [cell?_of_heap hp2]; rfl
  have c21 : w2.cell? ⟨p, 1, none⟩ = some (.slice none 0 0) := by rw [cell?_of_heap hp2]; rfl
  have f20 := free_of_heap hp2 0
  have f21 := free_of_heap hp2 1
  have HN := Lib.hid hN
  clear hN
  go_wp2_with fail
  all_goals
    go_ret3
    have h4 := heap_set (heap_set hp2 1 (.slice a n c)) 0 (.bool false)
    have hpo : ∀ A, a = some A → A.block ≠ p := by
      intro A hA
      rcases hhere with rfl | ⟨k, e, hk⟩
      · cases hA
      · have h5 : A.block = k := congrArg Addr.block (Option.some.inj (hA.symm.trans e))
        have := hm1.size
        omega
    have hmm : Mod (fun k _ => k = p ∨ k = rb) w2 ((w2.setCell ⟨p, 1, none⟩ (.slice a n c)).setCell ⟨p, 0, none⟩ (.bool false)) :=
      ((mod_own w2 p 1 _).mono fun _ _ _ h => .inl h).trans ((mod_own _ p 0 _).mono fun _ _ _ h => .inl h)
    have hw2 : Mod (fun k _ => k = p ∨ k = rb) w w2 := (hm1.trans hm2).mono fun _ _ _ h => .inr h
    refine ⟨a, n, c, f, bb, rfl, ⟨h4, HN.out.mod hmm fun A hA o => ?_, hpo⟩, ?_, hw2.trans hmm, ?_⟩
    · have h5 := hpo A hA
      intro h6
      rcases h6 with h6 | h6
      · exact h5 h6
      · rcases hhere with rfl | ⟨k, e, hk⟩
        · cases hA
        · have h7 : A.block = k := congrArg Addr.block (Option.some.inj (hA.symm.trans e))
          obtain ⟨q, hq⟩ := hR1
          have := lt_of_heap hq
          omega
    · rcases hhere with h | h
      · exact .inl h
      · exact .inr (h.mono hm1.size)
    · obtain ⟨q, hq⟩ := hR2
      exact ⟨q, by rw [heap_set_other (Ne.symm hpr), heap_set_other (Ne.symm hpr), hq]⟩

set_option maxHeartbeats 400000 in
theorem setFromScanner_any (p rb : Nat) (s : ByteArray) (w : World) (ea : Addr) (base : Int) (v : Nat) (hsc : Scans base s v) (hR : Rd w rb s 0) (hE : Eof w ea) (hs : 0 < s.size) (hs2 : s.size ≤ 1000) (h1 : s[0].toNat ≠ 45) (h2 : s[0].toNat ≠ 43) (hrb : 0 < rb) (hp0 : 0 < p)
    (hp : w.heap[p]? = some (.cells #[.bool false, .slice none 0 0] 51 (0, 0))) (hpr : p ≠ rb) :
    Calls Tryz.prog 88 #[.pointer (some ⟨p, 0, none⟩), .iface 149 (.pointer (some ⟨rb, 0, none⟩)), .int .i64 base] w fun e w' =>
      ∃ (a : Option Addr) (n c : Nat) (f : Nat → Nat), e = .returned (.tuple #[.pointer (some ⟨p, 0, none⟩), .bool true]) ∧ IntIs w' p false a n c f v ∧ (a = none ∨ Fresh w a) ∧ Mod (fun k _ => k = p ∨ k = rb) w w' := by
  have hpl := lt_of_heap hp
  have hneq := eof_neq ea
  have hrl : rb < w.heap.size := by obtain ⟨q, hq⟩ := hR; exact lt_of_heap hq
  go_enter Tryz.func88, Tryz.ntmps88
  go_wp2_with fail
  refine (int_scan p rb s _ ea base v hsc hR hE hs hs2 h1 h2 hrb hp hpr).mono ?_
  rintro e w1 ⟨a, n, c, f, bb, rfl, hI, hhere, hm1, hR1⟩
  have hE1 : Eof w1 ea := hm1.cell_some hE (by rintro (h | h) <;> omega)
  go_wp2_with fail
  refine (readByte_end rb s _ _ hR1 (by omega) hE1 ⟨_, _, rfl⟩ hrb).mono ?_
  rintro e w2 ⟨rfl, hR2, hm2⟩
  have hE2 : w2.cell? ⟨0, 0, none⟩ = some (.iface 254 (.pointer (some ea))) := hm2.cell_some hE1 fun h => by unfold InB at h; omega
  have hI2 : IntIs w2 p false a n c f v := hI.mod hm2 (fun o h => hpr h) (off_reader hhere hrl)
  clear hI
  go_wp2_with fail
  go_ret2
  exact ⟨a, n, c, f, rfl, hI2, hhere, hm1.trans (hm2.mono fun _ _ _ h => .inr h)⟩

set_option maxHeartbeats 400000 in
theorem setString_any (p : Nat) (s : ByteArray) (w : World) (ea : Addr) (base : Int) (v : Nat) (hsc : Scans base s v) (hE : Eof w ea) (hs : 0 < s.size) (hs2 : s.size ≤ 1000) (h1 : s[0].toNat ≠ 45) (h2 : s[0].toNat ≠ 43) (hp0 : 0 < p)
    (hp : w.heap[p]? = some (.cells #[.bool false, .slice none 0 0] 51 (0, 0))) :
    Calls Tryz.prog 79 #[.pointer (some ⟨p, 0, none⟩), .string s, .int .i64 base] w fun e w' =>
      ∃ (a : Option Addr) (n c : Nat) (f : Nat → Nat), e = .returned (.tuple #[.pointer (some ⟨p, 0, none⟩), .bool true]) ∧ IntIs w' p false a n c f v ∧ (a = none ∨ Fresh w a) ∧ Mod (InB p) w w' := by
  have hpl := lt_of_heap hp
  go_enter Tryz.func79, Tryz.ntmps79
  go_wp2_with fail
  refine (newReader_any s _).mono ?_
  rintro e w1 ⟨rfl, rfl⟩
  go_wp2_with fail
  refine (setFromScanner_any p w.heap.size s _ ea base v hsc ⟨-1, heap_alloc_new w _⟩ ?_ hs hs2 h1 h2 (by omega) hp0 (by rw [heap_alloc_old w _ hpl, hp]) (by omega)).mono ?_
  · exact ((Mod.refl NoP w).alloc _).cell_some hE fun h => h
  rintro e w2 ⟨a, n, c, f, rfl, hI, hhere, hm2⟩
  go_wp2_with fail
  go_ret2
  refine ⟨a, n, c, f, rfl, hI, ?_, ((Mod.refl (InB p) w).alloc _).trans' hm2 fun k o hk h => ?_⟩
  · rcases hhere with h | h
    · exact .inl h
    · exact .inr (h.mono (by simp))
  · rcases h with h | h
    · exact h
    · omega

theorem bigFromDecimal_any (s : ByteArray) (w : World) (ea : Addr) (v : Nat) (hsc : Scans 10 s v) (hE : Eof w ea) (hs : 0 < s.size) (hs2 : s.size ≤ 1000) (h1 : s[0].toNat ≠ 45) (h2 : s[0].toNat ≠ 43) :
    Calls Tryz.prog 85 #[.string s] w fun e w' =>
      ∃ (a : Option Addr) (n c : Nat) (f : Nat → Nat), e = .returned (.pointer (some ⟨w.heap.size, 0, none⟩)) ∧ IntIs w' w.heap.size false a n c f v ∧ (a = none ∨ Fresh w a) ∧ Mod NoP w w' := by
  have h0 : 0 < w.heap.size := lt_of_cell? hE
  go_enter Tryz.func85, Tryz.ntmps85
  go_wp2_with fail
  refine (setString_any w.heap.size s _ ea 10 v hsc (((Mod.refl NoP w).alloc _).cell_some hE fun h => h) hs hs2 h1 h2 h0 (heap_alloc_new w _)).mono ?_
  rintro e w2 ⟨a, n, c, f, rfl, hI, hhere, hm2⟩
  go_wp2_with fail
  go_ret
  refine ⟨a, n, c, f, rfl, hI, ?_, ((Mod.refl NoP w).alloc _).trans' hm2 fun k o hk h => ?_⟩
  · rcases hhere with h | h
    · exact .inl h
    · exact .inr (h.mono (by simp))
  · unfold InB at h; omega

theorem bigFromHex_any (s : ByteArray) (w : World) (ea : Addr) (v : Nat) (hsc : Scans 16 s v) (hE : Eof w ea) (hs : 0 < s.size) (hs2 : s.size ≤ 1000) (h1 : s[0].toNat ≠ 45) (h2 : s[0].toNat ≠ 43) :
    Calls Tryz.prog 86 #[.string s] w fun e w' =>
      ∃ (a : Option Addr) (n c : Nat) (f : Nat → Nat), e = .returned (.pointer (some ⟨w.heap.size, 0, none⟩)) ∧ IntIs w' w.heap.size false a n c f v ∧ (a = none ∨ Fresh w a) ∧ Mod NoP w w' := by
  have h0 : 0 < w.heap.size := lt_of_cell? hE
  go_enter Tryz.func86, Tryz.ntmps86
  go_wp2_with fail
  refine (setString_any w.heap.size s _ ea 16 v hsc (((Mod.refl NoP w).alloc _).cell_some hE fun h => h) hs hs2 h1 h2 h0 (heap_alloc_new w _)).mono ?_
  rintro e w2 ⟨a, n, c, f, rfl, hI, hhere, hm2⟩
  go_wp2_with fail
  go_ret
  refine ⟨a, n, c, f, rfl, hI, ?_, ((Mod.refl NoP w).alloc _).trans' hm2 fun k o hk h => ?_⟩
  · rcases hhere with h | h
    · exact .inl h
    · exact .inr (h.mono (by simp))
  · unfold InB at h; omega
end Go.Proofs.YtpfmbfkhjapbbaaGreatDoor
