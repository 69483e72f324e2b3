/-
  A run of cells written into a whole array of bytes: copy, clear, append(s, make([]byte, n)...), slices.Grow of a full row. Conditions: the rows are there, at most 2^20 bytes.
-/
import Derived.Test.YtpfmbfkhjapbbaaGreatDoorBytes
import Derived.Lib.AppendZerosOnto
import Derived.Lib.SliceRun
import Derived.IntWalk
set_option linter.unusedVariables false
set_option linter.unusedSimpArgs false
namespace Go.Proofs.YtpfmbfkhjapbbaaGreatDoor
open Go Go.RowKit

/-- The bytes f with n bytes g laid over them from o on. -/
def over (f : Nat → Nat) (o n : Nat) (g : Nat → Nat) (j : Nat) : Nat := if o ≤ j ∧ j < o + n then g (j - o) else f j

theorem row_set {w : World} {b c o n : Nat} {f g : Nat → Nat} {C : Array Value} {t : TypeId} (hb : w.heap[b]? = some (.cells C t (0, 0))) (hs : C.size = c) (hc : ∀ j, j < c → C[j]? = some (Bt (f j))) (hfit : o + n ≤ c)
    (cs : List Value) (hl : cs.length = n) (hcs : ∀ j, j < n → cs[j]? = some (Bt (g j))) :
    BArr (w.setRow b (C.toList.take o ++ cs ++ C.toList.drop (o + cs.length)).toArray) (some ⟨b, 0, none⟩) c (over f o n g) ∧ Mod (InB b) w (w.setRow b (C.toList.take o ++ cs ++ C.toList.drop (o + cs.length)).toArray) := by
  have hh := setRow_heap w b C (C.toList.take o ++ cs ++ C.toList.drop (o + cs.length)).toArray t (0, 0) hb
  have hsz : (C.toList.take o ++ cs ++ C.toList.drop (o + cs.length)).length = c := by simp; omega
  refine ⟨.inr ⟨b, _, t, rfl, hh, by simpa using hsz, fun j hj => ?_⟩, rfl, rfl, rfl, by simp, fun k hk => ?_⟩
  · have hcj := hc j hj
    rw [List.getElem?_toArray, List.append_assoc, List.getElem?_append]
    simp only [List.length_take, Array.length_toList, hs, Nat.min_eq_left (show o ≤ c by omega)]
    unfold over
    by_cases h1' : j < o
    · rw [if_pos h1', if_neg (by omega)]
      simp [h1', hcj]
    · rw [if_neg h1', List.getElem?_append]
      by_cases h2' : j < o + n
      · rw [if_pos (by omega), if_pos (by omega), hcs _ (by omega)]
      · rw [if_neg (by omega), if_neg (by omega)]
        simp only [List.getElem?_drop, Array.getElem?_toList]
        rw [show o + cs.length + (j - o - cs.length) = j by omega, hcj]
  · by_cases hkb : k = b
    · subst hkb
      exact .inr ⟨C, _, t, (0, 0), hb, hh, by simpa [hs] using hsz, fun j hj => (hj rfl).elim⟩
    · exact .inl (setRow_other w b k _ hkb)

theorem size5 : (Tryz.prog.info? 5).map (·.size) = some 1 := by kernel_rfl

/-- copy(d, s): the least of the two lengths. -/
theorem copy_run (w : World) (ty : TypeId) (b o dLen dCap c : Nat) (f : Nat → Nat) (hA : BArr w (some ⟨b, 0, none⟩) c f) (hfit : o + dLen ≤ c) (sb so sLen sCap : Nat) (g : Nat → Nat) (hsrc : Bts w sb so sLen g) :
    ∃ w', (Builtin.copy_ #[22, 22] ty #[.slice (some ⟨b, o, none⟩) dLen dCap, .slice (some ⟨sb, so, none⟩) sLen sCap]).run Tryz.prog w = .ok (.int .i64 (Nat.min sLen dLen : Nat)) w' ∧ BArr w' (some ⟨b, 0, none⟩) c (over f o (Nat.min sLen dLen) g) ∧ Mod (InB b) w w' := by
  rcases hA with ⟨h, _⟩ | ⟨b', C, t, e, hb, hs, hc⟩
  · cases h
  obtain rfl : b = b' := by simpa using e
  have hmin : Nat.min sLen dLen ≤ sLen ∧ Nat.min sLen dLen ≤ dLen := ⟨Nat.min_le_left _ _, Nat.min_le_right _ _⟩
  generalize hn : Nat.min sLen dLen = n at *
  have hcs : ∀ j, j < n → ((List.range n).map fun j => Bt (g j))[j]? = some (Bt (g j)) := fun j hj => by simp [hj]
  have hr := run_copy_row (P := Tryz.prog) w 22 22 ty 5 b o dLen dCap ⟨sb, so, none⟩ sLen sCap C t ((List.range n).map fun j => Bt (g j)) Tryz.underlying22 size5 hb (by simp [hn]) (fun j v hv => by
    obtain ⟨hj, rfl⟩ : j < n ∧ Bt (g j) = v := by
      rw [List.getElem?_map, Option.map_eq_some_iff] at hv
      obtain ⟨k, hk, rfl⟩ := hv
      obtain ⟨hj, rfl⟩ := List.getElem?_eq_some_iff.1 hk
      simp at hj
      simp [hj]
    rw [Addr.add_lit]
    exact hsrc j (by omega)) (by simp; omega) (by
    intro v hv
    obtain ⟨j, _, rfl⟩ := List.mem_map.1 hv
    rfl)
  have hset := row_set hb hs hc (o := o) (n := n) (g := g) (by omega) ((List.range n).map fun j => Bt (g j)) (by simp) hcs
  refine ⟨_, ?_, hset.1, hset.2⟩
  rw [hr]
  simp [goInt]

theorem wpList_copy {ops : Array Oper} {rest : List Oper} {o : Oper} {av : Act} {Q : Exit → Act → World → Prop} {w : World} (hgd : o.guard = none) (d s : Operand) (t t' : TypeId)
    (ho : o.op = .call { callee := .builtin .copy, args := #[d, s], argTypes := #[t, t'] }) (vd vs : Value) (hd : av.eval d = vd) (hs : av.eval s = vs) {v' : Value} {w' : World}
    (hr : (Builtin.copy_ #[t, t'] o.type #[vd, vs]).run Tryz.prog w = .ok v' w') (hK : wpList Tryz.prog ops Q rest (av.put o.dst v') w') : wpList Tryz.prog ops Q (o :: rest) av w := by
  refine wpList_plain hgd fun K hK' => ?_
  unfold Oper.wp execOp
  simp only [ho, resolve, invoke, builtin, Sem.run_bind, Sem.run_pure, Result.andThen_ok, List.map_toArray, List.map_cons, List.map_nil, hd, hs, hr]
  exact hK' _ _ hK

theorem wpList_clear {ops : Array Oper} {rest : List Oper} {o : Oper} {av : Act} {Q : Exit → Act → World → Prop} {w : World} (hgd : o.guard = none) (d : Operand) (t : TypeId)
    (ho : o.op = .call { callee := .builtin .clear, args := #[d], argTypes := #[t] }) (vd : Value) (hd : av.eval d = vd) {v' : Value} {w' : World}
    (hr : (Builtin.clear_ #[t] o.type #[vd]).run Tryz.prog w = .ok v' w') (hK : wpList Tryz.prog ops Q rest (av.put o.dst v') w') : wpList Tryz.prog ops Q (o :: rest) av w := by
  refine wpList_plain hgd fun K hK' => ?_
  unfold Oper.wp execOp
  simp only [ho, resolve, invoke, builtin, Sem.run_bind, Sem.run_pure, Result.andThen_ok, List.map_toArray, List.map_cons, List.map_nil, hd, hr]
  exact hK' _ _ hK

theorem zero5 (w : World) : (zeroValue 5).run Tryz.prog w = .ok (.int .u8 0) w := by kernel_rfl

/-- clear(s). -/
theorem clear_run (w : World) (ty : TypeId) (b o n cap c : Nat) (f : Nat → Nat) (hA : BArr w (some ⟨b, 0, none⟩) c f) (hfit : o + n ≤ c) (hn : 0 < n) :
    ∃ w', (Builtin.clear_ #[22] ty #[.slice (some ⟨b, o, none⟩) n cap]).run Tryz.prog w = .ok (.tuple #[]) w' ∧ BArr w' (some ⟨b, 0, none⟩) c (over f o n fun _ => 0) ∧ Mod (InB b) w w' := by
  rcases hA with ⟨h, _⟩ | ⟨b', C, t, e, hb, hs, hc⟩
  · cases h
  obtain rfl : b = b' := by simpa using e
  have hzc : (Builtin.zeroCells (Value.cells (.int .u8 0)) n).toList = List.replicate n (.int .u8 0) := by
    simp [Builtin.zeroCells, Value.cells]
    apply List.ext_getElem
    · simp
    · intro i h1 h2
      simp [Nat.mod_one]
  have hst := run_storeCells_at Tryz.prog b o t (List.replicate n (.int .u8 0)) 0 C w hb (by simp; omega) (by intro v hv'; rw [List.eq_of_mem_replicate hv']; rfl)
  have hset := row_set hb hs hc (o := o) (n := n) (g := fun _ => 0) hfit (List.replicate n (.int .u8 0)) (by simp) (fun j hj => by simp [hj])
  refine ⟨_, ?_, hset.1, hset.2⟩
  simp only [Nat.add_zero] at hst
  obtain ⟨m, rfl⟩ : ∃ m, n = m + 1 := ⟨n - 1, by omega⟩
  simp [Builtin.clear_, run_underlying Tryz.underlying22, zero5, hzc, hst]

/-- append(s, make([]byte, k)...) of a full row. -/
theorem appendZeros_run (w : World) (ty : TypeId) (b n k : Nat) (f : Nat → Nat) (hA : BArr w (some ⟨b, 0, none⟩) n f) (hk : 0 < k) (hn : n ≤ 1048576) (hk2 : k ≤ 1048576) :
    ∃ c w', (Builtin.append_ #[22, 3] ty #[.slice (some ⟨b, 0, none⟩) n n, .int .i64 k]).run Tryz.prog w = .ok (.slice (some ⟨w.heap.size, 0, none⟩) (n + k) c) w' ∧ n + k ≤ c ∧ BArr w' (some ⟨w.heap.size, 0, none⟩) c (over (fun _ => 0) 0 n f) ∧ Mod NoP w w' := by
  obtain ⟨i0, hi, hz0, hz1, hz2⟩ := info_parts info5
  have hold : (Builtin.firstCells i0.size n (.slice (some ⟨b, 0, none⟩) n n)).run Tryz.prog w.drew = .ok ((List.range n).map fun j => Bt (f j)).toArray w.drew := by
    refine run_firstCells_some (P := Tryz.prog) w.drew i0.size n ⟨b, 0, none⟩ n n _ (by simp [hz1]) fun j v hv => ?_
    obtain ⟨hj, rfl⟩ : j < n ∧ Bt (f j) = v := by
      rw [List.getElem?_map, Option.map_eq_some_iff] at hv
      obtain ⟨k, hk, rfl⟩ := hv
      obtain ⟨hj, rfl⟩ := List.getElem?_eq_some_iff.1 hk
      simp at hj
      simp [hj]
    rw [Addr.add_lit, Nat.zero_add]
    exact (hA.cell hj).1
  have hr := Lib.run_append_grow_zeros (P := Tryz.prog) w 22 3 ty 5 i0 (.int .u8 0) .i64 .i64 Tryz.underlying22 Tryz.underlying3 hi hz0 (some ⟨b, 0, none⟩) n n _ hold k hk (by omega) (by omega) (by omega) (by rw [hz2]; omega) (by have := growslice_fits (need := n + k) (old := n) (bytes := 1) (by omega) (by omega); rw [hz2]; exact this)
  have hge := grownCap_ge w (n + k) n 5
  refine ⟨_, _, hr, hge, ?_, ((Mod.refl _ w).drew).alloc _⟩
  refine .inr ⟨_, _, _, rfl, heap_alloc_new w.drew _, ?_, fun j hj => ?_⟩
  · simp [size_zeroCells, Value.cells]; omega
  · rw [Array.append_assoc, Array.getElem?_append]
    simp only [List.size_toArray, List.length_map, List.length_range]
    unfold over
    by_cases h1' : j < n
    · rw [if_pos h1', if_pos (by omega)]
      simp [h1']
    · rw [if_neg h1', if_neg (by omega), Array.getElem?_append]
      simp only [size_zeroCells, Value.cells]
      split
      · rename_i h2
        simp only [Array.size_singleton, Nat.mul_one] at h2
        exact getElem?_zeroCells (.int .u8 0) rfl _ _ (by omega)
      · rename_i h2
        simp only [Array.size_singleton, Nat.mul_one] at h2 ⊢
        exact getElem?_zeroCells (.int .u8 0) rfl _ _ (by omega)

/-- slices.Grow(s, k) of a full row. -/
theorem grow_full (b n k : Nat) (f : Nat → Nat) (w : World) (hA : BArr w (some ⟨b, 0, none⟩) n f) (hk : 0 < k) (hn : n ≤ 1048576) (hk2 : k ≤ 1048576) :
    Calls Tryz.prog 315 #[.slice (some ⟨b, 0, none⟩) n n, .int .i64 k] w fun e w' => ∃ c, e = .returned (.slice (some ⟨w.heap.size, 0, none⟩) n c) ∧ n + k ≤ c ∧ BArr w' (some ⟨w.heap.size, 0, none⟩) c (over (fun _ => 0) 0 n f) ∧ Mod NoP w w' := by
  have h1 : decide ((k : Int) < 0) = false := decide_eq_false (by omega)
  have h2 : decide ((k : Int) > 0) = true := decide_eq_true (by omega)
  have h3 : wrap64 ((n : Int) - (n : Int)) = 0 := by rw [Int.sub_self]; kernel_rfl
  have h4 : wrap64 ((k : Int) - 0) = k := by rw [Int.sub_zero]; unfold wrap64; omega
  obtain ⟨c, w', hr, hc, hB, hm⟩ := appendZeros_run w 22 b n k f hA hk hn hk2
  have HB := Lib.hid hB
  have hn0 : (0 : Int) ≤ n := by omega
  have hnn : (n : Int) ≤ ((n + k : Nat) : Int) := by omega
  have hnc : (n : Int) ≤ (c : Int) := by omega
  have hnk : n ≤ n + k := by omega
  have hnc' : n ≤ c := by omega
  clear hB hA
  go_enter Tryz.func315, Tryz.ntmps315
  go_wp2_with (at_builtin; refine Lib.wpList_append_run _ rfl (.tmp 20) (.tmp 21) 22 3 rfl _ _ rfl rfl _ _ hr ?_)
  go_ret
  exact ⟨c, rfl, hc, HB.out, hm⟩
end Go.Proofs.YtpfmbfkhjapbbaaGreatDoor
