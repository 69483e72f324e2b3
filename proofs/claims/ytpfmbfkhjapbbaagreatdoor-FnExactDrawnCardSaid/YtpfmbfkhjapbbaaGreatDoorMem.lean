/-
  Words and memory: what the other texts of this seat say of the heap: which places a step may turn ('Mod'), that a row of cells holds words ('Vec', 'Arr'), the number that words make ('val'). No condition; no program in sight.
-/
import Derived.WalkKit
import Derived.Deep.Draws
namespace Go.Proofs.YtpfmbfkhjapbbaaGreatDoor
open Go Go.RowKit

/-- 2^64, kept behind a name. -/
def B64 : Nat := 18446744073709551616
theorem B64_eq : B64 = 18446744073709551616 := rfl
theorem B64_pos : 0 < B64 := by decide
theorem B64_pow : B64 = 2 ^ 64 := by decide

abbrev U (n : Nat) : Value := .int .u64 (n : Int)
abbrev Bt (n : Nat) : Value := .int .u8 (n : Int)

abbrev Places := Nat → Nat → Prop
def InR (b o n : Nat) : Places := fun k j => k = b ∧ o ≤ j ∧ j < o + n
def InB (b : Nat) : Places := fun k _ => k = b
def NoP : Places := fun _ _ => False

/-- A block behind a step that turns at most the places m of it. -/
def ObjMod (m : Nat → Prop) (o o' : Option Obj) : Prop :=
  o' = o ∨ ∃ C C' t fr, o = some (.cells C t fr) ∧ o' = some (.cells C' t fr) ∧ C'.size = C.size ∧ ∀ j, ¬ m j → C'[j]? = C[j]?

theorem ObjMod.refl (m : Nat → Prop) (o : Option Obj) : ObjMod m o o := .inl rfl

theorem ObjMod.trans {m : Nat → Prop} {a b c : Option Obj} (h : ObjMod m a b) (k : ObjMod m b c) : ObjMod m a c := by
  rcases h with rfl | ⟨C, C', t, fr, h1, h2, h3, h4⟩
  · exact k
  · rcases k with rfl | ⟨D, D', t', fr', k1, k2, k3, k4⟩
    · exact .inr ⟨C, C', t, fr, h1, h2, h3, h4⟩
    · rw [h2] at k1
      obtain ⟨rfl, rfl, rfl⟩ : C' = D ∧ t = t' ∧ fr = fr' := by simpa using k1
      exact .inr ⟨C, D', t, fr, h1, k2, k3.trans h3, fun j hj => (k4 j hj).trans (h4 j hj)⟩

theorem ObjMod.mono {m m' : Nat → Prop} {a b : Option Obj} (h : ObjMod m a b) (hm : ∀ j, m j → m' j) : ObjMod m' a b := by
  rcases h with rfl | ⟨C, C', t, fr, h1, h2, h3, h4⟩
  · exact .inl rfl
  · exact .inr ⟨C, C', t, fr, h1, h2, h3, fun j hj => h4 j fun h => hj (hm j h)⟩

theorem ObjMod.eq_of_none {m : Nat → Prop} {a b : Option Obj} (h : ObjMod m a b) (hm : ∀ j, ¬ m j) : b = a := by
  rcases h with rfl | ⟨C, C', t, fr, h1, h2, h3, h4⟩
  · rfl
  · have : C' = C := Array.ext_getElem? fun j => h4 j (hm j)
    rw [h2, h1, this]

/-- Between w and w' at most the places M of w's own blocks have turned; the streams are as they were; no block has gone. -/
structure Mod (M : Places) (w w' : World) : Prop where
  os : w'.os = w.os
  tape : w'.tape = w.tape
  output : w'.output = w.output
  size : w.heap.size ≤ w'.heap.size
  obj : ∀ k, k < w.heap.size → ObjMod (M k) w.heap[k]? w'.heap[k]?

theorem Mod.refl (M : Places) (w : World) : Mod M w w := ⟨rfl, rfl, rfl, Nat.le_refl _, fun _ _ => .refl _ _⟩

theorem Mod.trans' {M M' : Places} {a b c : World} (h : Mod M a b) (k : Mod M' b c) (hm : ∀ k o, k < a.heap.size → M' k o → M k o) : Mod M a c :=
  ⟨k.os.trans h.os, k.tape.trans h.tape, k.output.trans h.output, Nat.le_trans h.size k.size, fun i hi => (h.obj i hi).trans ((k.obj i (Nat.lt_of_lt_of_le hi h.size)).mono fun j hj => hm i j hi hj)⟩

theorem Mod.trans {M : Places} {a b c : World} (h : Mod M a b) (k : Mod M b c) : Mod M a c := h.trans' k fun _ _ _ x => x

theorem Mod.mono {M M' : Places} {a b : World} (h : Mod M a b) (hm : ∀ k o, k < a.heap.size → M k o → M' k o) : Mod M' a b :=
  ⟨h.os, h.tape, h.output, h.size, fun i hi => (h.obj i hi).mono fun j hj => hm i j hi hj⟩

theorem Mod.of_none {M : Places} {a b : World} (h : Mod NoP a b) : Mod M a b := h.mono fun _ _ _ x => x.elim

theorem Mod.drew {M : Places} {a w : World} (h : Mod M a w) : Mod M a w.drew := ⟨h.os, h.tape, h.output, h.size, h.obj⟩
theorem Mod.drewN {M : Places} {a w : World} (h : Mod M a w) (n : Nat) : Mod M a (w.drewN n) := ⟨h.os, h.tape, h.output, h.size, h.obj⟩

theorem Mod.alloc {M : Places} {a w : World} (h : Mod M a w) (o : Obj) : Mod M a (w.alloc o) :=
  h.trans' (M' := NoP) ⟨rfl, rfl, rfl, by simp, fun k hk => .inl (by show (w.heap.push o)[k]? = _; rw [Array.getElem?_push, if_neg (by omega)])⟩ fun _ _ _ x => x.elim

theorem setCell_mod (w : World) (b o : Nat) (v : Value) : Mod (fun k j => k = b ∧ j = o) w (w.setCell ⟨b, o, none⟩ v) := by
  refine ⟨rfl, rfl, rfl, by simp, fun k hk => ?_⟩
  simp only [World.setCell, Array.getElem?_modify]
  by_cases hb : b = k
  · subst hb
    simp only [if_true]
    cases hh : w.heap[b]? with
    | none => exact .inl rfl
    | some x =>
      cases x with
      | cells C t fr =>
        refine .inr ⟨C, C.setIfInBounds o v, t, fr, rfl, rfl, by simp, fun j hj => ?_⟩
        rw [Array.getElem?_setIfInBounds, if_neg (by intro e; subst e; simp at hj)]
      | _ => exact .inl rfl
  · rw [if_neg hb]; exact .inl rfl

theorem Mod.setCell {M : Places} {a w : World} (h : Mod M a w) {b o : Nat} (hm : b < a.heap.size → M b o) (v : Value) : Mod M a (w.setCell ⟨b, o, none⟩ v) :=
  h.trans' (setCell_mod w b o v) fun k j hk hkj => by obtain ⟨rfl, rfl⟩ := hkj; exact hm hk

theorem Mod.heap {M : Places} {a w : World} (h : Mod M a w) {k : Nat} (hk : k < a.heap.size) (hm : ∀ o, ¬ M k o) : w.heap[k]? = a.heap[k]? := (h.obj k hk).eq_of_none hm

theorem cell?_of_heap {w : World} {b : Nat} {C : Array Value} {t : TypeId} {fr : Nat × Nat} (h : w.heap[b]? = some (.cells C t fr)) (o : Nat) : w.cell? ⟨b, o, none⟩ = C[o]? := by
  simp [World.cell?, h]
theorem frozen?_of_heap {w : World} {b : Nat} {C : Array Value} {t : TypeId} {lo hi : Nat} (h : w.heap[b]? = some (.cells C t (lo, hi))) (o : Nat) : w.frozen? ⟨b, o, none⟩ = (decide (lo ≤ o) && decide (o < hi)) := by
  simp [World.frozen?, h]
theorem free_of_heap {w : World} {b : Nat} {C : Array Value} {t : TypeId} (h : w.heap[b]? = some (.cells C t (0, 0))) (o : Nat) : w.frozen? ⟨b, o, none⟩ = false := by
  simp [World.frozen?, h]
theorem heap_of_cell? {w : World} {b o : Nat} {v : Value} (h : w.cell? ⟨b, o, none⟩ = some v) : ∃ C t fr, w.heap[b]? = some (.cells C t fr) ∧ C[o]? = some v := by
  unfold World.cell? at h
  split at h
  · rename_i c e fr hb
    exact ⟨c, e, fr, hb, by simpa using h⟩
  · simp at h
theorem cell_same {w : World} {b o : Nat} {u : Value} (h : w.cell? ⟨b, o, none⟩ = some u) (v : Value) : (w.setCell ⟨b, o, none⟩ v).cell? ⟨b, o, none⟩ = some v := World.cell?_setCell_same (h := h) ..
theorem cell_other {w : World} {b o b' o' : Nat} (h : b ≠ b' ∨ o ≠ o') (v : Value) : (w.setCell ⟨b, o, none⟩ v).cell? ⟨b', o', none⟩ = w.cell? ⟨b', o', none⟩ := World.cell?_setCell_other (h := by intro e; simp at e; omega) ..
theorem heap_alloc_new (w : World) (o : Obj) : (w.alloc o).heap[w.heap.size]? = some o := by
  show (w.heap.push o)[w.heap.size]? = _
  simp
theorem heap_alloc_old (w : World) (o : Obj) {k : Nat} (h : k < w.heap.size) : (w.alloc o).heap[k]? = w.heap[k]? := Below.heap_alloc w o k h
theorem lt_of_heap {w : World} {b : Nat} {x : Obj} (h : w.heap[b]? = some x) : b < w.heap.size := (Array.getElem?_eq_some_iff.1 h).1
theorem lt_of_cell? {w : World} {b o : Nat} {v : Value} (h : w.cell? ⟨b, o, none⟩ = some v) : b < w.heap.size := by
  obtain ⟨C, t, fr, hb, _⟩ := heap_of_cell? h
  exact lt_of_heap hb

/-- A block of cells, behind the step: as many cells of the same type and mark; those beyond M as they were. -/
theorem Mod.cells {M : Places} {a w : World} (h : Mod M a w) {k : Nat} {C : Array Value} {t : TypeId} {fr : Nat × Nat} (hk : a.heap[k]? = some (.cells C t fr)) :
    ∃ C', w.heap[k]? = some (.cells C' t fr) ∧ C'.size = C.size ∧ ∀ j, ¬ M k j → C'[j]? = C[j]? := by
  rcases h.obj k (lt_of_heap hk) with e | ⟨D, D', t', fr', h1, h2, h3, h4⟩
  · exact ⟨C, by rw [e, hk], rfl, fun _ _ => rfl⟩
  · rw [hk] at h1
    obtain ⟨rfl, rfl, rfl⟩ : C = D ∧ t = t' ∧ fr = fr' := by simpa using h1
    exact ⟨D', h2, h3, h4⟩

theorem Mod.cell {M : Places} {a w : World} (h : Mod M a w) {k o : Nat} (hk : k < a.heap.size) (hm : ¬ M k o) : w.cell? ⟨k, o, none⟩ = a.cell? ⟨k, o, none⟩ := by
  rcases h.obj k hk with e | ⟨D, D', t', fr', h1, h2, h3, h4⟩
  · simp [World.cell?, e]
  · simp [World.cell?, h1, h2, h4 o hm]

theorem Mod.cell_some {M : Places} {a w : World} (h : Mod M a w) {k o : Nat} {v : Value} (hc : a.cell? ⟨k, o, none⟩ = some v) (hm : ¬ M k o) : w.cell? ⟨k, o, none⟩ = some v := by
  rw [h.cell (lt_of_cell? hc) hm, hc]

/-- A cell is still a cell, whatever it holds. -/
theorem Mod.cell_there {M : Places} {a w : World} (h : Mod M a w) {k o : Nat} {v : Value} (hc : a.cell? ⟨k, o, none⟩ = some v) : ∃ u, w.cell? ⟨k, o, none⟩ = some u := by
  obtain ⟨C, t, fr, hb, hC⟩ := heap_of_cell? hc
  obtain ⟨C', hb', hs, _⟩ := h.cells hb
  have ho : o < C'.size := by rw [hs]; exact (Array.getElem?_eq_some_iff.1 hC).1
  exact ⟨C'[o], by rw [cell?_of_heap hb', Array.getElem?_eq_getElem ho]⟩

theorem Mod.frozen {M : Places} {a w : World} (h : Mod M a w) {k o : Nat} (hk : k < a.heap.size) : w.frozen? ⟨k, o, none⟩ = a.frozen? ⟨k, o, none⟩ := by
  rcases h.obj k hk with e | ⟨D, D', t', fr', h1, h2, h3, h4⟩
  · simp [World.frozen?, e]
  · simp [World.frozen?, h1, h2]

theorem Mod.free {M : Places} {a w : World} (h : Mod M a w) {k o : Nat} {v : Value} (hc : a.cell? ⟨k, o, none⟩ = some v) (hf : a.frozen? ⟨k, o, none⟩ = false) : w.frozen? ⟨k, o, none⟩ = false := by
  rw [h.frozen (lt_of_cell? hc), hf]

theorem Mod.below {w w' : World} (h : Mod NoP w w') : Below w.heap.size w w' :=
  ⟨h.os, h.tape, h.output, h.size, fun _ hk => h.heap hk fun _ x => x⟩

/-! ### rows of words -/
/-- Cells o .. o+n of block b hold the words f; none is frozen. -/
def Vec (w : World) (b o n : Nat) (f : Nat → Nat) : Prop :=
  ∀ j, j < n → w.cell? ⟨b, o + j, none⟩ = some (U (f j)) ∧ w.frozen? ⟨b, o + j, none⟩ = false ∧ f j < B64

theorem Vec.mod {w w' : World} {b o n : Nat} {f : Nat → Nat} {M : Places} (h : Vec w b o n f) (hm : Mod M w w') (hd : ∀ j, j < n → ¬ M b (o + j)) : Vec w' b o n f :=
  fun j hj => ⟨hm.cell_some (h j hj).1 (hd j hj), hm.free (h j hj).1 (h j hj).2.1, (h j hj).2.2⟩

theorem Vec.sub {w : World} {b o n : Nat} {f : Nat → Nat} (h : Vec w b o n f) (k m : Nat) (hk : k + m ≤ n) : Vec w b (o + k) m (fun j => f (k + j)) :=
  fun j hj => by have := h (k + j) (by omega); rwa [← Nat.add_assoc] at this

theorem Vec.take {w : World} {b o n : Nat} {f : Nat → Nat} (h : Vec w b o n f) {m : Nat} (hk : m ≤ n) : Vec w b o m f := fun j hj => h j (by omega)

theorem Vec.congr {w : World} {b o n : Nat} {f g : Nat → Nat} (h : Vec w b o n f) (hg : ∀ j, j < n → g j = f j) : Vec w b o n g := fun j hj => by rw [hg j hj]; exact h j hj

theorem Vec.drewN {w : World} {b o n : Nat} {f : Nat → Nat} (h : Vec w b o n f) (m : Nat) : Vec (w.drewN m) b o n f := h

/-- A whole array of c words: the address of a slice that starts at its head. -/
def Arr (w : World) (a : Option Addr) (c : Nat) (f : Nat → Nat) : Prop :=
  (a = none ∧ c = 0) ∨ ∃ b C t, a = some ⟨b, 0, none⟩ ∧ w.heap[b]? = some (.cells C t (0, 0)) ∧ C.size = c ∧ ∀ j, j < c → C[j]? = some (U (f j)) ∧ f j < B64

theorem Arr.nil (w : World) (f : Nat → Nat) : Arr w none 0 f := .inl ⟨rfl, rfl⟩

/-- The block of an array is none of the places M. -/
def Off (a : Option Addr) (M : Places) : Prop := ∀ A, a = some A → ∀ o, ¬ M A.block o

theorem Arr.mod {w w' : World} {a : Option Addr} {c : Nat} {f : Nat → Nat} {M : Places} (h : Arr w a c f) (hm : Mod M w w') (hd : Off a M) : Arr w' a c f := by
  rcases h with ⟨rfl, rfl⟩ | ⟨b, C, t, rfl, hb, hs, hc⟩
  · exact .inl ⟨rfl, rfl⟩
  · refine .inr ⟨b, C, t, rfl, ?_, hs, hc⟩
    rw [hm.heap (lt_of_heap hb) (hd _ rfl), hb]

theorem Arr.vec {w : World} {b : Nat} {c : Nat} {f : Nat → Nat} (h : Arr w (some ⟨b, 0, none⟩) c f) : Vec w b 0 c f := by
  rcases h with ⟨h, _⟩ | ⟨b', C, t, e, hb, hs, hc⟩
  · cases h
  · obtain rfl : b = b' := by simpa using e
    intro j hj
    exact ⟨by rw [cell?_of_heap hb, Nat.zero_add]; exact (hc j hj).1, free_of_heap hb _, (hc j hj).2⟩

/-- Behind a step that turns places of the array's own block: the array holds what its cells hold now. -/
theorem Arr.turned {w w' : World} {b : Nat} {c : Nat} {f g : Nat → Nat} {M : Places} (h : Arr w (some ⟨b, 0, none⟩) c f) (hm : Mod M w w') (hg : Vec w' b 0 c g) : Arr w' (some ⟨b, 0, none⟩) c g := by
  rcases h with ⟨h, _⟩ | ⟨b', C, t, e, hb, hs, hc⟩
  · cases h
  · obtain rfl : b = b' := by simpa using e
    obtain ⟨C', hb', hs', _⟩ := hm.cells hb
    refine .inr ⟨b, C', t, rfl, hb', hs'.trans hs, fun j hj => ?_⟩
    have := hg j hj
    rw [cell?_of_heap hb', Nat.zero_add] at this
    exact ⟨this.1, this.2.2⟩

theorem Arr.drewN {w : World} {a : Option Addr} {c : Nat} {f : Nat → Nat} (h : Arr w a c f) (n : Nat) : Arr (w.drewN n) a c f := h
theorem Arr.congr {w : World} {a : Option Addr} {c : Nat} {f g : Nat → Nat} (h : Arr w a c f) (hg : ∀ j, j < c → g j = f j) : Arr w a c g := by
  rcases h with h | ⟨b, C, t, rfl, hb, hs, hc⟩
  · exact .inl h
  · exact .inr ⟨b, C, t, rfl, hb, hs, fun j hj => by rw [hg j hj]; exact hc j hj⟩
theorem Arr.lt {w : World} {b o : Nat} {c : Nat} {s : Option Nat} {f : Nat → Nat} (h : Arr w (some ⟨b, o, s⟩) c f) : b < w.heap.size := by
  rcases h with ⟨h, _⟩ | ⟨b', C, t, e, hb, hs, hc⟩
  · cases h
  · obtain ⟨rfl, rfl, rfl⟩ : b = b' ∧ o = 0 ∧ s = none := by simpa using e
    exact lt_of_heap hb
theorem Arr.form {w : World} {a : Option Addr} {c : Nat} {f : Nat → Nat} (h : Arr w a c f) (hc : 0 < c) : ∃ b, a = some ⟨b, 0, none⟩ := by
  rcases h with ⟨_, h⟩ | ⟨b, C, t, e, _⟩
  · omega
  · exact ⟨b, e⟩

/-- A new array. -/
theorem Arr.fresh (w : World) (C : Array Value) (t : TypeId) (c : Nat) (f : Nat → Nat) (hs : C.size = c) (hc : ∀ j, j < c → C[j]? = some (U (f j)) ∧ f j < B64) :
    Arr (w.alloc (.cells C t (0, 0))) (some ⟨w.heap.size, 0, none⟩) c f :=
  .inr ⟨w.heap.size, C, t, rfl, heap_alloc_new w _, hs, hc⟩

/-! ### the number that words make, the lowest first -/
def val (f : Nat → Nat) : Nat → Nat
  | 0 => 0
  | n + 1 => val f n + f n * B64 ^ n

theorem val_congr {f g : Nat → Nat} {n : Nat} (h : ∀ j, j < n → f j = g j) : val f n = val g n := by
  induction n with
  | zero => rfl
  | succ n ih => simp only [val]; rw [ih fun j hj => h j (by omega), h n (by omega)]

theorem pow_pos (n : Nat) : 0 < B64 ^ n := Nat.pow_pos B64_pos

theorem val_lt {f : Nat → Nat} {n : Nat} (h : ∀ j, j < n → f j < B64) : val f n < B64 ^ n := by
  induction n with
  | zero => simp [val]
  | succ n ih =>
    have h1 := ih fun j hj => h j (by omega)
    have h2 : f n * B64 ^ n ≤ (B64 - 1) * B64 ^ n := Nat.mul_le_mul_right _ (by have := h n (by omega); omega)
    have h3 : (B64 - 1) * B64 ^ n + B64 ^ n = B64 ^ (n + 1) := by
      rw [← Nat.succ_mul, Nat.succ_eq_add_one, Nat.sub_add_cancel B64_pos, Nat.pow_succ, Nat.mul_comm]
    simp only [val]; omega

theorem val_add (f : Nat → Nat) (n m : Nat) : val f (n + m) = val f n + B64 ^ n * val (fun j => f (n + j)) m := by
  induction m with
  | zero => simp [val]
  | succ m ih =>
    rw [← Nat.add_assoc]
    simp only [val]
    rw [ih, Nat.mul_add, Nat.pow_add]
    have : f (n + m) * (B64 ^ n * B64 ^ m) = B64 ^ n * (f (n + m) * B64 ^ m) := by ac_rfl
    omega

theorem val_zero {f : Nat → Nat} {n : Nat} (h : ∀ j, j < n → f j = 0) : val f n = 0 := by
  induction n with
  | zero => rfl
  | succ n ih => simp only [val]; rw [ih fun j hj => h j (by omega), h n (by omega)]; simp

theorem val_one (f : Nat → Nat) : val f 1 = f 0 := by simp [val]

theorem le_val_of_top {f : Nat → Nat} {n : Nat} (h : f n ≠ 0) : B64 ^ n ≤ val f (n + 1) := by
  simp only [val]
  have : 1 * B64 ^ n ≤ f n * B64 ^ n := Nat.mul_le_mul_right _ (by omega)
  omega

/-- Words at the top that are 0 do not count. -/
theorem val_drop {f : Nat → Nat} {n m : Nat} (hm : m ≤ n) (h : ∀ j, m ≤ j → j < n → f j = 0) : val f n = val f m := by
  obtain ⟨d, rfl⟩ : ∃ d, n = m + d := ⟨n - m, by omega⟩
  rw [val_add, val_zero (n := d) fun j hj => h (m + j) (by omega) (by omega)]
  simp

end Go.Proofs.YtpfmbfkhjapbbaaGreatDoor
