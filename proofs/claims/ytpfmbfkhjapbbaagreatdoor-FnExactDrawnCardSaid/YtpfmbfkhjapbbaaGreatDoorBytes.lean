/-
  Rows of bytes: make([]byte, n), an append of a row of bytes, slices.Clone of a row of bytes. Conditions: the rows are there, at most 2^20 bytes.
-/
import Derived.Test.YtpfmbfkhjapbbaaGreatDoorAppend
import Derived.KernelRfl
set_option linter.unusedVariables false
set_option linter.unusedSimpArgs false
namespace Go.Proofs.YtpfmbfkhjapbbaaGreatDoor
open Go Go.RowKit

/-- A whole array of bytes. -/
abbrev BArr (w : World) (a : Option Addr) (c : Nat) (f : Nat → Nat) : Prop := ArrG w a c fun j => Bt (f j)
/-- A row of bytes, wherever it lies: cells o .. o+n of block b. -/
def Bts (w : World) (b o n : Nat) (f : Nat → Nat) : Prop := ∀ j, j < n → w.cell? ⟨b, o + j, none⟩ = some (Bt (f j))

theorem Bts.mod {w w' : World} {b o n : Nat} {f : Nat → Nat} {M : Places} (h : Bts w b o n f) (hm : Mod M w w') (hd : ∀ j, j < n → ¬ M b (o + j)) : Bts w' b o n f :=
  fun j hj => hm.cell_some (h j hj) (hd j hj)
theorem BArr.bts {w : World} {b c : Nat} {f : Nat → Nat} (h : BArr w (some ⟨b, 0, none⟩) c f) : Bts w b 0 c f := fun j hj => by rw [Nat.zero_add]; exact (h.cell hj).1

theorem info5 : (Tryz.prog.info? 5).map (fun i => (i.zero, i.size, i.bytes)) = some (some (.int .u8 0), 1, 1) := by kernel_rfl
theorem info5' : ∃ i, Tryz.prog.info? 5 = some i ∧ i.zero = some (.int .u8 0) ∧ i.size = 1 ∧ i.bytes ≤ 8 := by
  obtain ⟨i0, hi, hz0, hz1, hz2⟩ := info_parts info5
  exact ⟨i0, hi, hz0, hz1, by omega⟩

/-- A new array of c bytes 0. -/
def zerosB (c : Nat) : Obj := .cells (madeCells #[.int .u8 0] c) 5 (0, 0)
theorem barr_zeros (w : World) (c : Nat) : BArr (w.alloc (zerosB c)) (some ⟨w.heap.size, 0, none⟩) c (fun _ => 0) :=
  .inr ⟨w.heap.size, _, _, rfl, heap_alloc_new w _, size_madeCells _ _, fun j hj => by simp [madeCells, hj, Nat.mod_one]⟩

theorem makeSlice22 (l c : Nat) (hlc : l ≤ c) (hc : c ≤ 2097152) (u : World) (L K : Int) (hL : L = l) (hK : K = c) :
    (Instr.makeSlice 22 (.int .i64 L) (.int .i64 K)).run Tryz.prog u = .ok (.slice (some ⟨u.heap.size, 0, none⟩) l c) (u.alloc (zerosB c)) := by
  subst hL; subst hK
  obtain ⟨i0, hi, hz0, hz1, hz2⟩ := info_parts info5
  have h := run_make (P := Tryz.prog) u 22 5 i0 (.int .u8 0) Tryz.underlying22 hi hz0 .i64 .i64 (l : Int) (c : Int) (by omega) (by omega) (by rw [hz2]; omega) (by omega)
  simpa [hz1, Value.cells, zerosB] using h

/-- What 'append([]byte{}, x...)' comes to. -/
def Copied (w : World) (n : Nat) (f : Nat → Nat) (e : Ending) (w' : World) : Prop :=
  ∃ (b' c' : Nat) (f' : Nat → Nat), e = .returned (.slice (some ⟨b', 0, none⟩) n c') ∧ BArr w' (some ⟨b', 0, none⟩) c' f' ∧ n ≤ c' ∧ (∀ j, j < n → f' j = f j) ∧ w.heap.size ≤ b' ∧ Mod NoP w w'

theorem append_new {w w' : World} {o : Obj} {n : Nat} {g : Nat → Value} {f : Nat → Nat} {a' : Option Addr} {c' : Nat} {g' : Nat → Value} (h : Appended (w.alloc o) w' (some ⟨w.heap.size, 0, none⟩) 0 0 n g (fun j => Bt (f j)) (.int .u8 0) a' c' g') (hn : 0 < n) :
    Copied w n f (.returned (.slice a' n c')) w' := by
  obtain ⟨harr, hle, hold, hnew, hsp, hm, hhere⟩ := h
  have hb : ∃ b', a' = some ⟨b', 0, none⟩ ∧ w.heap.size ≤ b' := by
    rcases hhere with rfl | ⟨k, hk, h2⟩
    · exact ⟨_, rfl, Nat.le_refl _⟩
    · exact ⟨k, hk, by simp at h2; omega⟩
  obtain ⟨b', rfl, hb'⟩ := hb
  refine ⟨b', c', fun j => if j < n then f j else 0, rfl, ?_, by omega, fun j hj => by simp [hj], hb', ((Mod.refl NoP w).alloc o).trans' hm fun k i hk h => ?_⟩
  · rcases harr with ⟨h, _⟩ | ⟨b, C, t, h1, h2, h3, h4⟩
    · cases h
    · refine .inr ⟨b, C, t, h1, h2, h3, fun j hj => ?_⟩
      rw [h4 j hj]
      by_cases hjn : j < n
      · have := hnew j hjn
        rw [Nat.zero_add] at this
        simp [this, hjn]
      · rcases hsp j (by omega) hj with h | h
        · omega
        · simp [h, hjn]
  · obtain ⟨A, hA, rfl⟩ := h
    obtain rfl := Option.some.inj hA
    simp at hk

set_option maxRecDepth 100000 in
/-- slices.Clone of a row of bytes. -/
theorem clone_any (b o n c : Nat) (f : Nat → Nat) (w : World) (h : Bts w b o n f) (hn0 : 0 < n) (hn : n ≤ 1048576) :
    Calls Tryz.prog 314 #[.slice (some ⟨b, o, none⟩) n c] w (Copied w n f) := by
  obtain ⟨i0, hinf, hz0, hz1, hz2⟩ := info5'
  have q22 : ∀ (w : World) (a : Option Addr) (n c n' c' : Nat), (binOp .eql 22 (.slice a n c) (.slice none n' c')).run Tryz.prog w = .ok (.bool a.isNone) w := fun w a n c n' c' => Lib.run_eql_slice_nil w _ _ a n c n' c' Tryz.underlying22
  go_enter Tryz.func314, Tryz.ntmps314
  go_wp2_with (at_builtin; refine wpList_append_g rfl (.tmp 5) (.tmp 6) 22 5 rfl i0 (.int .u8 0) Tryz.underlying22 hinf hz0 rfl hz1 hz2 (some ⟨w.heap.size, 0, none⟩) 0 0 (fun _ => .int .u8 0) rfl ?hA (Nat.le_refl _) b o n c rfl (fun j => Bt (f j)) ?hx (by omega) hn0 ?hK)
  case hA => exact .inr ⟨_, _, _, rfl, heap_alloc_new w _, rfl, fun j hj => by omega⟩
  case hx => exact fun j hj => ⟨((Mod.refl NoP w).alloc _).cell_some (h j hj) fun x => x, rfl⟩
  case hK =>
    intro a' c' g' w' hap
    go_wp2_with fail
    go_ret
    exact append_new hap hn0
theorem box2 (w : World) (x y : Value) (t : TypeId) : (w.alloc (.cells #[x, y] t (0, 0))).cell? ⟨w.heap.size, 0, none⟩ = some x ∧ (w.alloc (.cells #[x, y] t (0, 0))).cell? ⟨w.heap.size, 1, none⟩ = some y :=
  ⟨by rw [cell?_of_heap (heap_alloc_new w _)]; simp, by rw [cell?_of_heap (heap_alloc_new w _)]; simp⟩
theorem held2 {w0 w' : World} {b : Nat} {x y : Value} (h0 : w0.cell? ⟨b, 0, none⟩ = some x) (h1 : w0.cell? ⟨b, 1, none⟩ = some y) (m : Mod NoP w0 w') : w'.cell? ⟨b, 0, none⟩ = some x ∧ w'.cell? ⟨b, 1, none⟩ = some y ∧ Mod NoP w0 w' :=
  ⟨m.cell_some h0 fun h => h, m.cell_some h1 fun h => h, m⟩
end Go.Proofs.YtpfmbfkhjapbbaaGreatDoor
