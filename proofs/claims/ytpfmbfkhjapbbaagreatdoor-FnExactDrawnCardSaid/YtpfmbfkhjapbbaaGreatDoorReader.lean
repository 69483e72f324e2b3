/-
  strings.Reader: NewReader, ReadByte, UnreadByte; big's scanSign on a text that begins with no sign. Conditions: the text is shorter than 2^40 bytes; the variable io.EOF holds what it holds.
-/
import Derived.Test.YtpfmbfkhjapbbaaGreatDoorRsh
set_option linter.unusedVariables false
set_option linter.unusedSimpArgs false
namespace Go.Proofs.YtpfmbfkhjapbbaaGreatDoor
open Go Go.RowKit

/-- Block rb is a reader of the text s, of which pos bytes are read. -/
def Rd (w : World) (rb : Nat) (s : ByteArray) (pos : Nat) : Prop := ∃ q, w.heap[rb]? = some (.cells #[.string s, .int .i64 (pos : Int), .int .i64 q] 169 (0, 0))

theorem Rd.mod {w w' : World} {rb : Nat} {s : ByteArray} {pos : Nat} {M : Places} (h : Rd w rb s pos) (hm : Mod M w w') (hd : ∀ o, ¬ M rb o) : Rd w' rb s pos := by
  obtain ⟨q, hq⟩ := h
  exact ⟨q, by rw [hm.heap (lt_of_heap hq) hd, hq]⟩

theorem Rd.of_cells {w w' : World} {rb : Nat} {s : ByteArray} {pos pos' : Nat} {q : Int} (h : Rd w rb s pos) (hm : Mod (InB rb) w w') (h0 : w'.cell? ⟨rb, 0, none⟩ = some (.string s)) (h1 : w'.cell? ⟨rb, 1, none⟩ = some (.int .i64 (pos' : Int)))
    (h2 : w'.cell? ⟨rb, 2, none⟩ = some (.int .i64 q)) : Rd w' rb s pos' := by
  obtain ⟨q0, hq⟩ := h
  obtain ⟨C', hb, hs, _⟩ := hm.cells hq
  refine ⟨q, ?_⟩
  rw [cell?_of_heap hb] at h0 h1 h2
  rw [hb]
  have : C' = #[.string s, .int .i64 (pos' : Int), .int .i64 q] := by
    apply Array.ext_getElem?
    intro j
    match j with
    | 0 => simpa using h0
    | 1 => simpa using h1
    | 2 => simpa using h2
    | j + 3 => rw [Array.getElem?_eq_none (by rw [hs]; simp), Array.getElem?_eq_none (by simp)]
  rw [this]

theorem mod_own (w : World) (b o : Nat) (v : Value) : Mod (InB b) w (w.setCell ⟨b, o, none⟩ v) := (setCell_mod w b o v).mono fun _ _ _ h => h.1

theorem rd_back {w : World} {rb : Nat} {s : ByteArray} {pos : Nat} (h : Rd w rb s pos) (n : Nat) :
    Rd ((w.setCell ⟨rb, 2, none⟩ (.int .i64 (-1))).drewN n) rb s pos ∧ Mod (InB rb) w ((w.setCell ⟨rb, 2, none⟩ (.int .i64 (-1))).drewN n) := by
  have hm : Mod (InB rb) w ((w.setCell ⟨rb, 2, none⟩ (.int .i64 (-1))).drewN n) := (mod_own w rb 2 _).drewN n
  refine ⟨?_, hm⟩
  have hR := h
  obtain ⟨q, hq⟩ := h
  have h0 : w.cell? ⟨rb, 0, none⟩ = some (.string s) := by rw [cell?_of_heap hq]; rfl
  have h1 : w.cell? ⟨rb, 1, none⟩ = some (.int .i64 (pos : Int)) := by rw [cell?_of_heap hq]; rfl
  have h2 : w.cell? ⟨rb, 2, none⟩ = some (.int .i64 q) := by rw [cell?_of_heap hq]; rfl
  refine hR.of_cells (q := -1) hm ?_ ?_ ?_
  · rw [World.cell?_drewN, cell_other (.inr (by decide))]; exact h0
  · rw [World.cell?_drewN, cell_other (.inr (by decide))]; exact h1
  · rw [World.cell?_drewN]; exact cell_same h2 _

theorem rd_to {w : World} {rb : Nat} {s : ByteArray} {pos : Nat} (h : Rd w rb s pos) (p : Nat) :
    Rd (w.setCell ⟨rb, 1, none⟩ (.int .i64 (p : Int))) rb s p ∧ Mod (InB rb) w (w.setCell ⟨rb, 1, none⟩ (.int .i64 (p : Int))) := by
  have hm : Mod (InB rb) w (w.setCell ⟨rb, 1, none⟩ (.int .i64 (p : Int))) := mod_own w rb 1 _
  refine ⟨?_, hm⟩
  have hR := h
  obtain ⟨q, hq⟩ := h
  have h0 : w.cell? ⟨rb, 0, none⟩ = some (.string s) := by rw [cell?_of_heap hq]; rfl
  have h1 : w.cell? ⟨rb, 1, none⟩ = some (.int .i64 (pos : Int)) := by rw [cell?_of_heap hq]; rfl
  have h2 : w.cell? ⟨rb, 2, none⟩ = some (.int .i64 q) := by rw [cell?_of_heap hq]; rfl
  refine hR.of_cells (q := q) hm ?_ ?_ ?_
  · rw [cell_other (.inr (by decide))]; exact h0
  · exact cell_same h1 _
  · rw [cell_other (.inr (by decide))]; exact h2

/-- Of a post that speaks of the reader behind the call. -/
def RdPost (rb : Nat) (s : ByteArray) (p : Nat) (w w' : World) : Prop := Rd w' rb s p ∧ Mod (InB rb) w w'

set_option maxHeartbeats 400000 in
theorem readByte_any (rb pos : Nat) (s : ByteArray) (w : World) (h : Rd w rb s pos) (hp : pos < s.size) (hs : s.size < 1099511627776) :
    Calls Tryz.prog 292 #[.pointer (some ⟨rb, 0, none⟩)] w fun e w' => e = .returned (.tuple #[.int .u8 (s[pos].toNat : Int), .nilIface]) ∧ Rd w' rb s (pos + 1) ∧ Mod (InB rb) w w' := by
  have hR := Lib.hid h
  obtain ⟨q, hq⟩ := h
  have h0 : w.cell? ⟨rb, 0, none⟩ = some (.string s) := by rw [cell?_of_heap hq]; rfl
  have h1 : w.cell? ⟨rb, 1, none⟩ = some (.int .i64 (pos : Int)) := by rw [cell?_of_heap hq]; rfl
  have h2 : w.cell? ⟨rb, 2, none⟩ = some (.int .i64 q) := by rw [cell?_of_heap hq]; rfl
  have f0 := free_of_heap hq 0
  have f1 := free_of_heap hq 1
  have f2 := free_of_heap hq 2
  clear hq
  go_enter Tryz.func292, Tryz.ntmps292
  go_wp2_with fail
  go_quiet (fail)
  go_wp2_with fail
  go_quiet (fail)
  go_wp2_with fail
  go_ret2
  have hb := rd_back hR.out
  exact ⟨rfl, (rd_to (hb _).1 (pos + 1)).1, (hb _).2.trans (rd_to (hb _).1 (pos + 1)).2⟩

/-- At the text's end: io.EOF's value, whatever it is. -/
theorem readByte_end (rb : Nat) (s : ByteArray) (w : World) (v : Value) (h : Rd w rb s s.size) (hs : s.size < 1099511627776) (hv : w.cell? ⟨0, 0, none⟩ = some v) (h1v : ∃ t a, v = .iface t (.pointer (some a))) (hrb : 0 < rb) :
    Calls Tryz.prog 292 #[.pointer (some ⟨rb, 0, none⟩)] w fun e w' => e = .returned (.tuple #[.int .u8 0, v]) ∧ Rd w' rb s s.size ∧ Mod (InB rb) w w' := by
  have hR := Lib.hid h
  obtain ⟨t, a, rfl⟩ := h1v
  obtain ⟨q, hq⟩ := h
  have h0 : w.cell? ⟨rb, 0, none⟩ = some (.string s) := by rw [cell?_of_heap hq]; rfl
  have h1 : w.cell? ⟨rb, 1, none⟩ = some (.int .i64 (s.size : Int)) := by rw [cell?_of_heap hq]; rfl
  have h2 : w.cell? ⟨rb, 2, none⟩ = some (.int .i64 q) := by rw [cell?_of_heap hq]; rfl
  have f0 := free_of_heap hq 0
  have f1 := free_of_heap hq 1
  have f2 := free_of_heap hq 2
  clear hq
  go_enter Tryz.func292, Tryz.ntmps292
  go_wp2_with fail
  go_quiet (fail)
  go_wp2_with fail
  go_quiet (fail)
  go_wp2_with fail
  go_ret2
  have hb := rd_back hR.out
  refine ⟨rfl, ?_⟩
  simp only [World.drewN_drewN]
  exact hb _

theorem unreadByte_any (rb pos : Nat) (s : ByteArray) (w : World) (h : Rd w rb s (pos + 1)) (hs : s.size < 1099511627776) (hp : pos < s.size) :
    Calls Tryz.prog 293 #[.pointer (some ⟨rb, 0, none⟩)] w fun e w' => e = .returned .nilIface ∧ Rd w' rb s pos ∧ Mod (InB rb) w w' := by
  have hR := Lib.hid h
  obtain ⟨q, hq⟩ := h
  have h0 : w.cell? ⟨rb, 0, none⟩ = some (.string s) := by rw [cell?_of_heap hq]; rfl
  have h1 : w.cell? ⟨rb, 1, none⟩ = some (.int .i64 ((pos + 1 : Nat) : Int)) := by rw [cell?_of_heap hq]; rfl
  have h2 : w.cell? ⟨rb, 2, none⟩ = some (.int .i64 q) := by rw [cell?_of_heap hq]; rfl
  have f0 := free_of_heap hq 0
  have f1 := free_of_heap hq 1
  have f2 := free_of_heap hq 2
  clear hq
  have hb := Lib.hid (rd_back hR.out)
  go_enter Tryz.func293, Tryz.ntmps293
  go_wp2_with fail
  go_ret
  refine ⟨rfl, ?_⟩
  have h3 := rd_to (hb.out 0).1 pos
  exact ⟨h3.1, (hb.out 0).2.trans h3.2⟩

/-- scanSign at a text that begins with no sign: it leaves the reader at the text's head. -/
theorem scanSign_any (rb : Nat) (s : ByteArray) (w : World) (h : Rd w rb s 0) (hs : s.size < 1099511627776) (hp : 0 < s.size) (h1 : s[0].toNat ≠ 45) (h2 : s[0].toNat ≠ 43) :
    Calls Tryz.prog 121 #[.iface 149 (.pointer (some ⟨rb, 0, none⟩))] w fun e w' => e = .returned (.tuple #[.bool false, .nilIface]) ∧ Rd w' rb s 0 ∧ Mod (InB rb) w w' := by
  have e1 : (((s[0].toNat : Nat) : Int) == 45) = false := by simp; omega
  have e2 : (((s[0].toNat : Nat) : Int) == 43) = false := by simp; omega
  generalize hx : s[0].toNat = x at *
  have Hx := Lib.hid hx
  clear hx
  go_enter Tryz.func121, Tryz.ntmps121
  go_wp2_with fail
  refine (readByte_any rb 0 s _ h hp hs).mono ?_
  rw [Hx.out]
  rintro e w1 ⟨rfl, hR1, hm1⟩
  go_wp2_with fail
  refine (unreadByte_any rb 0 s _ hR1 hs hp).mono ?_
  rintro e w2 ⟨rfl, hR2, hm2⟩
  go_wp2_with fail
  go_ret2
  exact ⟨rfl, hR2, hm1.trans hm2⟩

theorem newReader_any (s : ByteArray) (w : World) :
    Calls Tryz.prog 89 #[.string s] w fun e w' => e = .returned (.pointer (some ⟨w.heap.size, 0, none⟩)) ∧ w' = w.alloc (.cells #[.string s, .int .i64 0, .int .i64 (-1)] 169 (0, 0)) := by
  go_enter Tryz.func89, Tryz.ntmps89
  go_wp2_with fail
  go_ret
  exact ⟨rfl, rfl⟩
end Go.Proofs.YtpfmbfkhjapbbaaGreatDoor
