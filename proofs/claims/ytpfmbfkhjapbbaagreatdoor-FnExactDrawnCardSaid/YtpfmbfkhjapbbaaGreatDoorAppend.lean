/-
  The built-in append on a whole array of one-cell elements that the program owns: in place or in new memory, every cell up to the capacity told. Conditions: the array and the appended row are there; the new length's bytes at most 2^47.
-/
import Derived.Test.YtpfmbfkhjapbbaaGreatDoorNats
set_option linter.unusedVariables false
set_option linter.unusedSimpArgs false
namespace Go.Proofs.YtpfmbfkhjapbbaaGreatDoor
open Go Go.RowKit

/-- A whole array of c one-cell elements g: the address of a slice that starts at its head. -/
def ArrG (w : World) (a : Option Addr) (c : Nat) (g : Nat → Value) : Prop :=
  (a = none ∧ c = 0) ∨ ∃ b C t, a = some ⟨b, 0, none⟩ ∧ w.heap[b]? = some (.cells C t (0, 0)) ∧ C.size = c ∧ ∀ j, j < c → C[j]? = some (g j)

theorem Arr.toG {w : World} {a : Option Addr} {c : Nat} {f : Nat → Nat} (h : Arr w a c f) : ArrG w a c (fun j => U (f j)) := by
  rcases h with h | ⟨b, C, t, h1, h2, h3, h4⟩
  · exact .inl h
  · exact .inr ⟨b, C, t, h1, h2, h3, fun j hj => (h4 j hj).1⟩

theorem ArrG.toArr {w : World} {a : Option Addr} {c : Nat} {g : Nat → Value} {f : Nat → Nat} (h : ArrG w a c g) (hg : ∀ j, j < c → g j = U (f j) ∧ f j < B64) : Arr w a c f := by
  rcases h with h | ⟨b, C, t, h1, h2, h3, h4⟩
  · exact .inl h
  · exact .inr ⟨b, C, t, h1, h2, h3, fun j hj => ⟨by rw [h4 j hj, (hg j hj).1], (hg j hj).2⟩⟩

theorem ArrG.mod {w w' : World} {a : Option Addr} {c : Nat} {g : Nat → Value} {M : Places} (h : ArrG w a c g) (hm : Mod M w w') (hd : Off a M) : ArrG w' a c g := by
  rcases h with ⟨rfl, rfl⟩ | ⟨b, C, t, rfl, hb, hs, hc⟩
  · exact .inl ⟨rfl, rfl⟩
  · exact .inr ⟨b, C, t, rfl, by rw [hm.heap (lt_of_heap hb) (hd _ rfl), hb], hs, hc⟩

theorem ArrG.cell {w : World} {b : Nat} {c : Nat} {g : Nat → Value} (h : ArrG w (some ⟨b, 0, none⟩) c g) {j : Nat} (hj : j < c) : w.cell? ⟨b, j, none⟩ = some (g j) ∧ w.frozen? ⟨b, j, none⟩ = false := by
  rcases h with ⟨h, _⟩ | ⟨b', C, t, e, hb, hs, hc⟩
  · cases h
  · obtain rfl : b = b' := by simpa using e
    exact ⟨by rw [cell?_of_heap hb]; exact hc j hj, free_of_heap hb _⟩

theorem ArrG.form {w : World} {a : Option Addr} {c : Nat} {g : Nat → Value} (h : ArrG w a c g) (hc : 0 < c) : ∃ b, a = some ⟨b, 0, none⟩ := by
  rcases h with ⟨_, h⟩ | ⟨b, C, t, e, _⟩
  · omega
  · exact ⟨b, e⟩

theorem ArrG.lt {w : World} {b o : Nat} {c : Nat} {s : Option Nat} {g : Nat → Value} (h : ArrG w (some ⟨b, o, s⟩) c g) : b < w.heap.size := by
  rcases h with ⟨h, _⟩ | ⟨b', C, t, e, hb, hs, hc⟩
  · cases h
  · obtain ⟨rfl, rfl, rfl⟩ : b = b' ∧ o = 0 ∧ s = none := by simpa using e
    exact lt_of_heap hb

/-- What append comes to. -/
structure Appended (w w' : World) (a : Option Addr) (n c m : Nat) (g h : Nat → Value) (z : Value) (a' : Option Addr) (c' : Nat) (g' : Nat → Value) : Prop where
  arr : ArrG w' a' c' g'
  le : n + m ≤ c'
  old : ∀ j, j < n → g' j = g j
  new : ∀ j, j < m → g' (n + j) = h j
  spare : ∀ j, n + m ≤ j → j < c' → (g' j = g j ∧ j < c) ∨ g' j = z
  mod : Mod (BlkOf a) w w'
  here : a' = a ∨ Fresh w a'

theorem getElem?_zeroCells (z : Value) (hz : z.cells = #[z]) (n j : Nat) (hj : j < n) : (Builtin.zeroCells z.cells n)[j]? = some z := by
  simp [Builtin.zeroCells, hz, hj, Nat.mod_one]

theorem run_append_g (w : World) (t ty e : TypeId) (i : TypeInfo) (z : Value) (ht : Tryz.prog.underlying t = some (.slice e)) (hi : Tryz.prog.info? e = some i) (hz : i.zero = some z) (hzc : z.cells = #[z]) (hsz : i.size = 1) (hb8 : i.bytes ≤ 8)
    (a : Option Addr) (n c : Nat) (g : Nat → Value) (hA : ArrG w a c g) (hn : n ≤ c) (bx ox m cx : Nat) (h : Nat → Value) (hx : ∀ j, j < m → w.cell? ⟨bx, ox + j, none⟩ = some (h j) ∧ (h j).oneCell' = true) (hm : n + m ≤ 1099511627776) (hm0 : 0 < m) :
    ∃ a' c' g' w', (Builtin.append_ #[t, t] ty #[.slice a n c, .slice (some ⟨bx, ox, none⟩) m cx]).run Tryz.prog w = .ok (.slice a' (n + m) c') w' ∧ Appended w w' a n c m g h z a' c' g' := by
  have hl : ((List.range m).map h).length = m * i.size := by simp [hsz]
  have hnews : ∀ j u, ((List.range m).map h)[j]? = some u → w.cell? ((⟨bx, ox, none⟩ : Addr).add j) = some u := by
    intro j u hu
    obtain ⟨hj, rfl⟩ : j < m ∧ h j = u := by
      rw [List.getElem?_map, Option.map_eq_some_iff] at hu
      obtain ⟨k, hk, rfl⟩ := hu
      obtain ⟨hj, rfl⟩ := List.getElem?_eq_some_iff.1 hk
      simp at hj
      simp [hj]
    rw [Addr.add_lit]
    exact (hx j hj).1
  have h1 : ∀ u ∈ (List.range m).map h, u.oneCell' = true := by
    intro u hu
    obtain ⟨j, hj, rfl⟩ := List.mem_map.1 hu
    exact (hx j (by simpa using hj)).2
  have hbytes : (n + m) * i.bytes ≤ 140737488355328 := by
    have := Nat.mul_le_mul hm hb8
    omega
  rcases hA with ⟨rfl, rfl⟩ | ⟨b, C, tb, rfl, hb, hs, hc⟩
  · obtain rfl : n = 0 := by omega
    have hr := run_append_nil (P := Tryz.prog) w t ty e i z ht hi hz ⟨bx, ox, none⟩ m cx _ hl hnews hm0 (by omega) (by simp at hbytes; omega)
    have hge := grownCap_ge w m 0 e
    simp only [Nat.zero_add] at *
    refine ⟨_, _, fun j => if j < m then h j else z, _, hr, ?_, by omega, fun j hj => by omega, fun j hj => by simp [hj], fun j hj _ => .inr (by simp; omega), ?_, .inr ⟨_, rfl, Nat.le_refl _⟩⟩
    · refine .inr ⟨w.heap.size, _, _, rfl, heap_alloc_new w.drew _, by simp [size_zeroCells, hzc]; omega, fun j hj => ?_⟩
      rw [Array.getElem?_append]
      split
      · rename_i hlt
        have hlt' : j < m := by simpa using hlt
        simp [hlt']
      · rename_i hlt
        have hlt' : ¬ j < m := by simpa using hlt
        rw [getElem?_zeroCells z hzc _ _ (by simp; omega)]
        simp [hlt']
    · exact ((Mod.refl _ w).drew).alloc _
  · by_cases hroom : n + m ≤ c
    · have hf := run_firstCells_some (P := Tryz.prog) w i.size m ⟨bx, ox, none⟩ m cx _ hl hnews
      have hst := run_storeCells_at Tryz.prog b n tb ((List.range m).map h) 0 C w hb (by simp; omega) h1
      simp only [Nat.add_zero] at hst
      have hr : (Builtin.append_ #[t, t] ty #[.slice (some ⟨b, 0, none⟩) n c, .slice (some ⟨bx, ox, none⟩) m cx]).run Tryz.prog w =
          .ok (.slice (some ⟨b, 0, none⟩) (n + m) c) (w.setRow b (C.toList.take n ++ (List.range m).map h ++ C.toList.drop (n + ((List.range m).map h).length)).toArray) := by
        simp [Builtin.append_, run_underlying ht, sizeOf, typeInfo, hi, hsz, Builtin.lenOf, hroom] at hf hst ⊢
        simp [hf, hst, Addr.add_lit]
      have hh := setRow_heap w b C (C.toList.take n ++ (List.range m).map h ++ C.toList.drop (n + ((List.range m).map h).length)).toArray tb (0, 0) hb
      refine ⟨_, _, fun j => if j < n then g j else if j < n + m then h (j - n) else g j, _, hr, ?_, hroom, fun j hj => by simp [hj], fun j hj => by simp [hj]; omega, fun j hj hjc => .inl ⟨?_, hjc⟩, ?_, .inl rfl⟩
      · refine .inr ⟨b, _, _, rfl, hh, by simp; omega, fun j hj => ?_⟩
        have hcj := hc j hj
        rw [List.getElem?_toArray, List.append_assoc, List.getElem?_append]
        simp only [List.length_take, Array.length_toList, hs, Nat.min_eq_left hn, List.length_map, List.length_range]
        by_cases h1' : j < n
        · simp [h1', hcj]
        · rw [if_neg h1', List.getElem?_append]
          simp only [List.length_map, List.length_range]
          by_cases h2' : j < n + m
          · rw [if_pos (by omega)]
            simp [h1', h2', show j - n < m by omega]
          · rw [if_neg (by omega)]
            simp [h1', h2']
            rw [show n + m + (j - n - m) = j by omega, hcj]
      · rw [if_neg (by omega), if_neg (by omega)]
      · refine ⟨rfl, rfl, rfl, by simp, fun k hk => ?_⟩
        by_cases hkb : k = b
        · subst hkb
          refine .inr ⟨C, _, tb, (0, 0), hb, hh, by simp; omega, fun j hj => (hj ⟨_, rfl, rfl⟩).elim⟩
        · exact .inl (setRow_other w b k _ hkb)
    · have holds : ∀ j u, ((List.range n).map g)[j]? = some u → w.cell? ((⟨b, 0, none⟩ : Addr).add j) = some u := by
        intro j u hu
        obtain ⟨hj, rfl⟩ : j < n ∧ g j = u := by
          rw [List.getElem?_map, Option.map_eq_some_iff] at hu
          obtain ⟨k, hk, rfl⟩ := hu
          obtain ⟨hj, rfl⟩ := List.getElem?_eq_some_iff.1 hk
          simp at hj
          simp [hj]
        rw [Addr.add_lit, Nat.zero_add, cell?_of_heap hb]
        exact hc j (by omega)
      have hr := run_append_grow (P := Tryz.prog) w t ty e i z ht hi hz ⟨b, 0, none⟩ n c ((List.range n).map g) (by simp [hsz]) holds ⟨bx, ox, none⟩ m cx _ hl hnews (by omega) (by omega) (growslice_fits (by omega) hbytes)
      have hge := grownCap_ge w (n + m) c e
      refine ⟨_, _, fun j => if j < n then g j else if j < n + m then h (j - n) else z, _, hr, ?_, hge, fun j hj => by simp [hj], fun j hj => by simp [hj]; omega, fun j hj _ => .inr (by rw [if_neg (by omega), if_neg (by omega)]), ?_, .inr ⟨_, rfl, Nat.le_refl _⟩⟩
      · refine .inr ⟨w.heap.size, _, _, rfl, heap_alloc_new w.drew _, by simp [size_zeroCells, hzc]; omega, fun j hj => ?_⟩
        rw [Array.append_assoc, Array.getElem?_append]
        simp only [List.size_toArray, List.length_map, List.length_range]
        by_cases h1' : j < n
        · simp [h1']
        · rw [if_neg h1', Array.getElem?_append]
          simp only [List.size_toArray, List.length_map, List.length_range]
          by_cases h2' : j < n + m
          · rw [if_pos (by omega)]
            simp [h1', h2', show j - n < m by omega]
          · rw [if_neg (by omega), getElem?_zeroCells z hzc _ _ (by omega)]
            simp [h1', h2']
      · exact ((Mod.refl _ w).drew).alloc _

theorem wpList_append_g {ops : Array Oper} {rest : List Oper} {o : Oper} {av : Act} {Q : Exit → Act → World → Prop} {w : World} (hgd : o.guard = none) (s x : Operand) (t e : TypeId)
    (ho : o.op = .call { callee := .builtin .append, args := #[s, x], argTypes := #[t, t] })
    (i : TypeInfo) (z : Value) (ht : Tryz.prog.underlying t = some (.slice e)) (hi : Tryz.prog.info? e = some i) (hz : i.zero = some z) (hzc : z.cells = #[z]) (hsz : i.size = 1) (hb8 : i.bytes ≤ 8)
    (a : Option Addr) (n c : Nat) (g : Nat → Value) (hs : av.eval s = .slice a n c) (hA : ArrG w a c g) (hn : n ≤ c) (bx ox m cx : Nat) (hxv : av.eval x = .slice (some ⟨bx, ox, none⟩) m cx)
    (h : Nat → Value) (hx : ∀ j, j < m → w.cell? ⟨bx, ox + j, none⟩ = some (h j) ∧ (h j).oneCell' = true) (hm : n + m ≤ 1099511627776) (hm0 : 0 < m)
    (hK : ∀ a' c' g' w', Appended w w' a n c m g h z a' c' g' → wpList Tryz.prog ops Q rest (av.put o.dst (.slice a' (n + m) c')) w') : wpList Tryz.prog ops Q (o :: rest) av w := by
  refine wpList_plain hgd fun K hK' => ?_
  obtain ⟨a', c', g', w', hr, hap⟩ := run_append_g w t o.type e i z ht hi hz hzc hsz hb8 a n c g hA hn bx ox m cx h hx hm hm0
  unfold Oper.wp execOp
  simp only [ho, resolve, invoke, builtin, Sem.run_bind, Sem.run_pure, Result.andThen_ok, List.map_toArray, List.map_cons, List.map_nil, hs, hxv, hr]
  exact hK' _ _ (hK a' c' g' w' hap)
end Go.Proofs.YtpfmbfkhjapbbaaGreatDoor
