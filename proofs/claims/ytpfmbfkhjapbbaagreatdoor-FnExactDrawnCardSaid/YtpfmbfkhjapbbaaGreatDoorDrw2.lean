/-
  impl.Drawn, walked: the bytes of the first chunk below the order. Conditions: there is one; io.EOF holds an errors.errorString's pointer.
-/
/-
  impl.Drawn, walked: the bytes of the first chunk below the order. Conditions: there is one; io.EOF holds an errors.errorString's pointer.
-/
import Derived.Test.YtpfmbfkhjapbbaaGreatDoorRnd2
import Derived.Deep.RegionLaw
set_option linter.unusedVariables false
set_option linter.unusedSimpArgs false
namespace Go.Proofs.YtpfmbfkhjapbbaaGreatDoor
open Go Go.RowKit

theorem Mod.empty {w w' : World} {x : Nat} {t : TypeId} {fr : Nat × Nat} (h : Mod (BlkOf (some ⟨x, 0, none⟩)) w w') (hx : w.heap[x]? = some (.cells #[] t fr)) : Mod NoP w w' := by
  refine ⟨h.os, h.tape, h.output, h.size, fun k hk => ?_⟩
  by_cases e : k = x
  · subst e
    obtain ⟨C', h1, h2, _⟩ := h.cells hx
    have : C' = #[] := Array.eq_empty_of_size_eq_zero (by simpa using h2)
    rw [h1, hx, this]
    exact .inl rfl
  · exact (h.obj k hk).mono fun j hj => by
      obtain ⟨A, hA, h2⟩ := hj
      obtain rfl := Option.some.inj hA
      exact absurd h2.symm e

theorem step_append_new {ops : Array Oper} {o : Oper} {av : Act} {w : World} {K : Act → World → Prop} {Q : Exit → Act → World → Prop} {E : Prop}
    (hg : o.guard = none) (s x : Operand) (hop : o.op = Op.call { callee := Callee.builtin Builtin.append, args := #[s, x], argTypes := #[22, 22] })
    (y b ob n c : Nat) (t : TypeId) (f : Nat → Nat) (hs : av.eval s = .slice (some ⟨y, 0, none⟩) 0 0) (hx : av.eval x = .slice (some ⟨b, ob, none⟩) n c)
    (hE : w.heap[y]? = some (.cells #[] t (0, 0))) (hB : Bts w b ob n f) (hn : 0 < n) (hn2 : n ≤ 1048576)
    (hK : ∀ sb sc f' w', BArr w' (some ⟨sb, 0, none⟩) sc f' → n ≤ sc → (∀ j, j < n → f' j = f j) → w.heap.size ≤ sb → Mod NoP w w' → K (av.put o.dst (.slice (some ⟨sb, 0, none⟩) n sc)) w') :
    if Region.wanted o (yielded ops av.tmps) = true then Oper.wp Tryz.prog o av w K Q else E := by
  have hw : Region.wanted o (yielded ops av.tmps) = true := by simp [Region.wanted, hg]
  rw [if_pos hw]
  obtain ⟨i0, hi, hz0, hz1, hz2⟩ := info5'
  obtain ⟨a', c', g', w', hrun, hap⟩ := run_append_g w 22 o.type 5 i0 (.int .u8 0) Tryz.underlying22 hi hz0 rfl hz1 hz2 (some ⟨y, 0, none⟩) 0 0 (fun _ => .int .u8 0) (.inr ⟨_, _, _, rfl, hE, rfl, fun j hj => by omega⟩) (Nat.le_refl _) b ob n c (fun j => Bt (f j)) (fun j hj => ⟨hB j hj, rfl⟩) (by omega) hn
  rw [Nat.zero_add] at hrun
  have hm := hap.mod.empty hE
  have hfr : Fresh w a' := by
    rcases hap.here with rfl | h
    · have h1 := hap.arr
      have h2 := hap.le
      rcases h1 with ⟨h, _⟩ | ⟨b', C, tt, e, hb, hs', _⟩
      · cases h
      · obtain rfl : y = b' := by simpa using e
        rw [hm.heap (lt_of_heap hE) (fun _ h => h), hE] at hb
        have : C = #[] := by simp at hb; exact hb.1
        rw [this] at hs'
        simp at hs'
        omega
    · exact h
  obtain ⟨sb, rfl, hsb⟩ := hfr
  unfold Oper.wp
  simp [execOp, hop, resolve, invoke, builtin, hs, hx, hrun, Result.andThen]
  refine hK sb c' (fun j => if j < n then f j else 0) w' ?_ (by have := hap.le; omega) (fun j hj => by simp [hj]) hsb hm
  rcases hap.arr with ⟨h, _⟩ | ⟨b2, C, tt, h1, h2, h3, h4⟩
  · cases h
  · refine .inr ⟨b2, C, tt, h1, h2, h3, fun j hj => ?_⟩
    rw [h4 j hj]
    by_cases hjn : j < n
    · have := hap.new j hjn
      rw [Nat.zero_add] at this
      simp [this, hjn]
    · rcases hap.spare j (by omega) hj with h | h
      · omega
      · simp [h, hjn]

theorem ch_congr {k N : Nat} {f f' : Nat → Nat} (h : ∀ j, j < N → f' j = f j) {i : Nat} (hi : lenK k * (i + 1) ≤ N) (hl : 0 < lenK k) : beN (ch k f' i) (lenK k) = beN (ch k f i) (lenK k) := beN_congr fun j hj => by
  rw [Nat.mul_add] at hi
  unfold ch
  split
  · rw [h _ (by omega)]
  · rw [h _ (by omega)]

theorem DrawnAt.congr {k N q : Nat} {f f' : Nat → Nat} (hl : 0 < lenK k) (h : ∀ j, j < N → f' j = f j) (hq : DrawnAt k N f q) : DrawnAt k N f' q := by
  obtain ⟨h1, h2, h3⟩ := hq
  refine ⟨h1, by rw [ch_congr h h1 hl]; exact h2, fun i hi => ?_⟩
  rw [ch_congr h (Nat.le_trans (Nat.mul_le_mul_left _ (by omega)) h1) hl]
  exact h3 i hi


theorem methodRnd (W : World) (g : Value) : (method 424 108 g "RandomScalar").run Tryz.prog W = .ok (241, g) W := by kernel_rfl
theorem aheadRnd (W : World) (g : Value) : (nilAhead 424 108 g "RandomScalar").run Tryz.prog W = .ok (some false) W := by kernel_rfl

theorem step_do {ops : Array Oper} {o : Oper} {av : Act} {w : World} {K : Act → World → Prop} {Q : Exit → Act → World → Prop} {E : Prop} (hg : o.guard = none) (h : Oper.wp Tryz.prog o av w K Q) :
    if Region.wanted o (yielded ops av.tmps) = true then Oper.wp Tryz.prog o av w K Q else E := by
  rw [if_pos (by simp [Region.wanted, hg])]; exact h

set_option maxRecDepth 100000 in
set_option maxHeartbeats 4000000 in
theorem drawn_any (k : Nat) (hk : k ≤ 2) (b o N c q : Nat) (f : Nat → Nat) (w : World) (ea : Addr) (hE : Eof w ea) (hB : Bts w b o N f) (hf : ∀ j, j < N → f j < 256) (hN : N ≤ 1048576) (hq : DrawnAt k N f q) :
    Calls Tryz.prog 16 #[.int .i64 k, .slice (some ⟨b, o, none⟩) N c] w (Copied w (lenK k) (byteAt (lenK k) (beN (ch k f q) (lenK k)))) := by
  have hl := lenK_le k hk
  have hN0 : 0 < N := by have := hq.1; rw [Nat.mul_add] at this; omega
  have hGO := fun w1 (m : Mod NoP w w1) => groupOf_any k hk w1 ea (m.cell_some hE fun h => h)
  have hBm := fun w1 (m : Mod NoP w w1) => hB.mod m fun _ _ h => h
  have HGO := Lib.hid hGO
  have HB := Lib.hid hBm
  have HRS : Hid (∀ w2 w5 g lo sb sc (f' : Nat → Nat) s, GrpIs w2 lo k g → Mod NoP w2 w5 → w2.heap.size ≤ s → StrIs w5 s sb 0 N sc → Bts w5 sb 0 N f' → (∀ j, j < N → f' j = f j) → N ≤ sc → s ≠ sb →
      Calls Tryz.prog 241 #[g, .iface 71 (.pointer (some ⟨s, 0, none⟩))] w5 fun e w' => ∃ p, e = .returned (.iface 290 (.pointer (some ⟨p, 0, none⟩))) ∧ SclIs w' w5.heap.size k p g (lenK k) (byteAt (lenK k) (beN (ch k f q) (lenK k))) ∧ Mod (InB s) w5 w') := by
    intro w2 w5 g lo sb sc f' s h1 h2 h3 h4 h5 h6 h7 h8
    have h := randomScalar_any k hk g lo s sb 0 N sc q f' w2 w5 h1 h2 (.inr h3) h4 h5 (fun j hj => by rw [h6 j hj]; exact hf j hj) h7 hN h8 (hq.congr (by omega) h6)
    rw [ch_congr h6 hq.1 (by omega)] at h
    exact h
  clear hGO hBm hE hB hf hq
  have hE0 := fun (w1 : World) => heap_alloc_new w1 (.cells #[] 5 (0, 0))
  have HE0 := Lib.hid hE0
  clear hE0
  have hBO := fun g lo p c w6 (hS : SclIs w6 lo k p g c (byteAt (lenK k) (beN (ch k f q) (lenK k)))) => bytesOf_any k hk g lo p c _ w6 hS
  have HBO := Lib.hid hBO
  clear hBO
  generalize byteAt (lenK k) (beN (ch k f q) (lenK k)) = F at *
  generalize lenK k = len at *
  go_enter Tryz.func16, Tryz.ntmps16
  go_wp2_with fail
  have hme := fun W g => methodRnd W g
  have hna := fun W g => aheadRnd W g
  go_region_law (first
    | (refine step_append_new rfl (.tmp 7) (.tmp 8) rfl _ b o N c 5 f rfl rfl ?hE ?hB hN0 hN ?_; (case hE => first | exact HE0.out _ | (rw [m1.heap (by simp) (fun _ h => h)]; exact HE0.out w.drew)); (case hB => first | exact HB.out _ ((((Mod.refl NoP w).drew).trans m1).alloc _) | exact HB.out _ ((((Mod.refl NoP w).drew).alloc _).trans m1)); intro sb sc f' w3 hA3 hc3 hf3 hb3 m3)
    | (refine step_do rfl ?_; go_simp; (first
      | (go_at_call 31; refine (HGO.out _ ?_).mono ?_; ((first | exact (Mod.refl NoP w).drew | exact ((Mod.refl NoP w).drew).alloc _)); rintro e w1 ⟨g, rfl, hG, m1⟩)
      | (go_at_call 30; refine (HBO.out g _ p _ w6 hS).mono ?_; rintro e w7 ⟨b', c', f2, rfl, h1, h2, h3, h4, h5⟩)
      | (go_at_call 241; refine (HRS.out w1 _ g _ sb sc f' _ hG ?hm ?hs (heap_alloc_new w3 _) (fun j hj => BArr.bts (ArrG.mod hA3 ((Mod.refl NoP w3).alloc _) (Off.noP _)) j (by omega)) hf3 hc3 (by have := hA3.lt; omega)).mono ?_; (case hm => first | exact (((Mod.refl NoP w1).alloc _).trans m3).alloc _ | exact m3.alloc _); (case hs => (have h9 := m3.size; try simp at h9); omega); rintro e w6 ⟨p, rfl, hS, m6⟩))))
  all_goals (go_wp2_with fail)
  all_goals go_ret
  all_goals
    have mb : Mod NoP w w3 := by
      first
        | exact ((((Mod.refl NoP w).drew).trans m1).alloc _).trans m3
        | exact ((((Mod.refl NoP w).drew).alloc _).trans m1).trans m3
    have mc : Mod NoP w (w3.alloc (Obj.cells #[.slice (some ⟨sb, 0, none⟩) N sc] 73)) := mb.alloc _
    have md : Mod NoP w w6 := mc.trans' m6 fun k o hk h => by unfold InB at h; have := mb.size; omega
    exact Copied.mono ⟨b', c', f2, rfl, h1, h2, h3, h4, h5⟩ md
end Go.Proofs.YtpfmbfkhjapbbaaGreatDoor
