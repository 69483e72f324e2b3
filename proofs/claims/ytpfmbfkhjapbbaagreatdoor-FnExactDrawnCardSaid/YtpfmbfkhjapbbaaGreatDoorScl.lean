/-
  A scalar set to a number, and its bytes: bePutUint64, SetUint64, MarshalBinary, impl.bytesOf, impl.Number. Condition: io.EOF holds an errors.errorString's pointer.
-/
import Derived.Test.YtpfmbfkhjapbbaaGreatDoorGroups
import Derived.Test.YtpfmbfkhjapbbaaGreatDoorRowSet
set_option linter.unusedVariables false
set_option linter.unusedSimpArgs false
namespace Go.Proofs.YtpfmbfkhjapbbaaGreatDoor
open Go Go.RowKit

theorem BArr.store {w : World} {b c : Nat} {f : Nat → Nat} (h : BArr w (some ⟨b, 0, none⟩) c f) {j : Nat} (hj : j < c) (v : Nat) : BArr (w.setCell ⟨b, j, none⟩ (Bt v)) (some ⟨b, 0, none⟩) c (fun i => if i = j then v else f i) ∧ Mod (InB b) w (w.setCell ⟨b, j, none⟩ (Bt v)) := by
  rcases h with ⟨h, _⟩ | ⟨b', C, t, e, hb, hs, hc⟩
  · cases h
  obtain rfl : b = b' := by simpa using e
  refine ⟨.inr ⟨b, _, t, rfl, heap_set hb j (Bt v), by simpa using hs, fun i hi => ?_⟩, (setCell_mod w b j (Bt v)).mono fun _ _ _ h => h.1⟩
  rw [Array.getElem?_setIfInBounds]
  by_cases hij : j = i
  · subst hij
    simp [hs, hi]
  · rw [if_neg hij, hc i hi]
    simp [Ne.symm hij]

theorem over_zero (f : Nat → Nat) (o : Nat) (g : Nat → Nat) : over f o 0 g = f := by
  funext j
  unfold over
  rw [if_neg (by omega)]

theorem over_step (f : Nat → Nat) (o k : Nat) (g : Nat → Nat) : (fun i => if i = o + k then g k else over f o k g i) = over f o (k + 1) g := by
  funext j
  unfold over
  by_cases h : j = o + k
  · subst h
    rw [if_pos rfl, if_pos (by omega)]
    congr 1
    omega
  · rw [if_neg h]
    by_cases h2 : o ≤ j ∧ j < o + k
    · rw [if_pos h2, if_pos (by omega)]
    · rw [if_neg h2, if_neg (by omega)]

theorem over_zeros (o n : Nat) : over (fun _ => 0) o n (fun _ => 0) = fun _ => 0 := by
  funext j
  unfold over
  split <;> rfl

/-- Byte i of 8, the highest first. -/
def be8 (v i : Nat) : Nat := v / 2 ^ (56 - 8 * i) % 256

set_option maxRecDepth 100000 in
theorem bePut_any (b o c cap : Nat) (f : Nat → Nat) (v : Nat) (w : World) (hA : BArr w (some ⟨b, 0, none⟩) c f) (hfit : o + 8 ≤ c) :
    Calls Tryz.prog 316 #[.slice (some ⟨b, o, none⟩) 8 cap, .int .u64 v] w fun e w' => e = .returned (.tuple #[]) ∧ BArr w' (some ⟨b, 0, none⟩) c (over f o 8 (be8 v)) ∧ Mod (InB b) w w' := by
  have c7 := (hA.cell (show o + 7 < c by omega)).1
  have HA := Lib.hid hA
  clear hA
  go_enter Tryz.func316, Tryz.ntmps316
  go_wp2_with fail
  go_loopw [4] (fun i wr => ∃ k : Nat, k ≤ 8 ∧ i = .int .i64 (k : Int) ∧ BArr wr (some ⟨b, 0, none⟩) c (over f o k (be8 v)) ∧ Mod (InB b) w wr) (fun i _ => 8 - (intOf i).toNat)
  case atStart => exact ⟨0, by omega, rfl, by rw [over_zero]; exact HA.out, Mod.refl _ _⟩
  case round =>
    obtain ⟨k, hk, rfl, hB, hm⟩ := hrel
    by_cases hlt : k < 8
    · have hck := hB.cell (show o + k < c by omega)
      have hck1 := hck.1
      have hck2 := hck.2
      have HB := Lib.hid hB
      have Hm := Lib.hid hm
      clear hck hB hm
      generalize over f o k (be8 v) (o + k) = x at *
      have d1 : decide ((k : Int) < 8) = true := decide_eq_true (by omega)
      have e1 : IntKind.i64.wrap (8 * (k : Int)) = 8 * (k : Int) := IntWalk.i64_in _ (by omega)
      have e2 : IntKind.i64.wrap (56 - 8 * (k : Int)) = 56 - 8 * (k : Int) := IntWalk.i64_in _ (by omega)
      go_wp2_with fail
      go_roundw
      case rel =>
        have hst := HB.out.store (show o + k < c by omega) (be8 v k)
        rw [over_step] at hst
        have hbv : (v : Int) / 2 ^ (56 - 8 * k) % 256 = ((be8 v k : Nat) : Int) := by unfold be8; simp
        exact ⟨k + 1, by omega, by simp, by rw [hbv]; exact hst.1, by rw [hbv]; exact Hm.out.trans hst.2⟩
      case measure => simp [intOf]; omega
    · go_wp2_with fail
      go_end0
      obtain rfl : k = 8 := by omega
      exact ⟨rfl, hB, hm⟩

set_option maxRecDepth 100000 in
set_option maxHeartbeats 1000000 in
theorem setUint64_any (k : Nat) (hk : k ≤ 2) (g : Value) (lo p : Nat) (v : Nat) (w : World) (hG : GrpIs w lo k g) (hS : SclIs w lo k p g (lenK k) (fun _ => 0)) (hv : v < B64) (hlo : lo ≤ w.heap.size) :
    Calls Tryz.prog 310 #[.pointer (some ⟨p, 0, none⟩), .int .u64 v] w fun e w' => ∃ c, e = .returned (.iface 290 (.pointer (some ⟨p, 0, none⟩))) ∧ SclIs w' lo k p g c (over (fun _ => 0) (lenK k - 8) 8 (be8 v)) ∧ Mod (InB p) w w' := by
  have hl := lenK_le k hk
  obtain ⟨i, s, a, rfl, hp, hA, hc, hap, hlp, hla⟩ := hS
  have hB : ∀ w1, Mod NoP w w1 → Calls Tryz.prog 244 #[.agg #[i, s]] w1 fun e w' => e = .returned (.int .i64 (lenK k)) ∧ Mod NoP w1 w' := fun w1 m => byteSize_any k hk _ lo w1 (hG.mod m nop)
  clear hG
  unfold SclIs
  generalize lenK k = len at *
  have HB := Lib.hid hB
  clear hB
  have hpl := lt_of_heap hp
  have hal := hA.lt
  have c0 : w.cell? ⟨p, 0, none⟩ = some i := by rw [cell?_of_heap hp]; rfl
  have c1 : w.cell? ⟨p, 1, none⟩ = some s := by rw [cell?_of_heap hp]; rfl
  have HA := Lib.hid hA
  clear hA
  have e1 : wrap64 ((len : Int) - 8) = ((len - 8 : Nat) : Int) := by unfold wrap64; omega
  have b0 : (0 : Int) ≤ ((len - 8 : Nat) : Int) := by omega
  have b1 : ((len - 8 : Nat) : Int) ≤ (len : Int) := by omega
  have b2 : len - 8 ≤ len := by omega
  have b3 : len - (len - 8) = 8 := by omega
  go_enter Tryz.func310, Tryz.ntmps310
  go_wp2_with fail
  refine (HB.out _ (Mod.refl NoP w)).mono ?_
  rintro e w1 ⟨rfl, m1⟩
  have hp1 : w1.heap[p]? = some (.cells #[i, s, .slice (some ⟨a, 0, none⟩) len len] 295 (0, 0)) := by rw [m1.heap hpl (fun _ h => h), hp]
  have c12 : w1.cell? ⟨p, 2, none⟩ = some (.slice (some ⟨a, 0, none⟩) len len) := by rw [cell?_of_heap hp1]; rfl
  have hA1 := HA.out.mod m1 (fun A hA o h => h)
  clear c0 c1
  go_wp2_with fail
  refine (grow_full a len len _ _ hA1 (by omega) (by omega) (by omega)).mono ?_
  rintro e w2 ⟨c', rfl, hc', hA2, m2⟩
  have hp2 : w2.heap[p]? = some (.cells #[i, s, .slice (some ⟨a, 0, none⟩) len len] 295 (0, 0)) := by rw [m2.heap (lt_of_heap hp1) (fun _ h => h), hp1]
  have f2 := free_of_heap hp2 2
  have c22 : w2.cell? ⟨p, 2, none⟩ = some (.slice (some ⟨a, 0, none⟩) len len) := by rw [cell?_of_heap hp2]; rfl
  have hs1 := m1.size
  have hs2 := m2.size
  generalize hnb : w1.heap.size = nb at *
  have hnp : nb ≠ p := by omega
  have hA3 := hA2.mod (mod_own w2 p 2 (.slice (some ⟨nb, 0, none⟩) len c')) (fun A hA o h => by obtain rfl := Option.some.inj hA; exact hnp h)
  obtain ⟨w4, hcl, hA4, m4⟩ := clear_run _ 0 nb 0 len c' c' _ hA3 (by omega) (by omega)
  have hp3 := heap_set hp2 2 (.slice (some ⟨nb, 0, none⟩) len c')
  have hp4 : w4.heap[p]? = some (.cells #[i, s, .slice (some ⟨nb, 0, none⟩) len c'] 295 (0, 0)) := by rw [m4.heap (lt_of_heap hp3) (fun _ h => hnp h.symm), hp3]; rfl
  have c32 : (w2.setCell ⟨p, 2, none⟩ (.slice (some ⟨nb, 0, none⟩) len c')).cell? ⟨p, 2, none⟩ = some (.slice (some ⟨nb, 0, none⟩) len c') := by rw [cell?_of_heap hp3]; rfl
  have c42 : w4.cell? ⟨p, 2, none⟩ = some (.slice (some ⟨nb, 0, none⟩) len c') := by rw [cell?_of_heap hp4]; rfl
  have m34 : Mod (InB p) w w4 := ((((m1.trans m2).of_none).trans (mod_own w2 p 2 _))).trans' m4 fun k o hk h => by unfold InB at h; omega
  have hle := m34.size
  have HA4 := Lib.hid hA4
  clear hA4 hA3 hA2 hA1 hp3 m4
  go_wp2_with (simp only [hcl])
  refine (bePut_any nb (len - 8) c' _ _ v w4 HA4.out (by omega)).mono ?_
  rintro e w5 ⟨rfl, hA5, m5⟩
  have HA5 := Lib.hid hA5
  clear hA5
  go_wp2_with fail
  go_ret
  have hp5 : w5.heap[p]? = some (.cells #[i, s, .slice (some ⟨nb, 0, none⟩) len c'] 295 (0, 0)) := by rw [m5.heap (lt_of_heap hp4) (fun _ h => hnp h.symm), hp4]
  refine ⟨c', rfl, ⟨i, s, nb, rfl, hp5, ?_, by omega, by omega, hlp, by omega⟩, m34.trans' m5 fun k o hk h => by unfold InB at h; omega⟩
  have h5 := HA5.out
  rwa [over_zeros, over_zeros] at h5

theorem Copied.mono {w w0 w' : World} {n : Nat} {f : Nat → Nat} {e : Ending} (h : Copied w n f e w') (hm : Mod NoP w0 w) : Copied w0 n f e w' := by
  obtain ⟨b', c', f', h1, h2, h3, h4, h5, h6⟩ := h
  exact ⟨b', c', f', h1, h2, h3, h4, by have := hm.size; omega, hm.trans h6⟩

theorem marshal_any (k : Nat) (hk : k ≤ 2) (g : Value) (lo p c : Nat) (f : Nat → Nat) (w : World) (hS : SclIs w lo k p g c f) :
    Calls Tryz.prog 305 #[.pointer (some ⟨p, 0, none⟩)] w fun e w' => ∃ (b' c' : Nat) (f' : Nat → Nat), e = .returned (.tuple #[.slice (some ⟨b', 0, none⟩) (lenK k) c', .nilIface]) ∧ BArr w' (some ⟨b', 0, none⟩) c' f' ∧ lenK k ≤ c' ∧ (∀ j, j < lenK k → f' j = f j) ∧ w.heap.size ≤ b' ∧ Mod NoP w w' := by
  have hl := lenK_le k hk
  obtain ⟨i, s, a, rfl, hp, hA, hc, hap, hlp, hla⟩ := hS
  have c2 : w.cell? ⟨p, 2, none⟩ = some (.slice (some ⟨a, 0, none⟩) (lenK k) c) := by rw [cell?_of_heap hp]; rfl
  have hb : Bts w a 0 (lenK k) f := fun j hj => hA.bts j (by omega)
  clear hp hA
  generalize lenK k = len at *
  go_enter Tryz.func305, Tryz.ntmps305
  go_wp2_with fail
  refine (clone_any a 0 len c f _ hb (by omega) (by omega)).mono ?_
  rintro e w1 ⟨b', c', f', rfl, h1, h2, h3, h4, h5⟩
  have H1 := Lib.hid h1
  have H3 := Lib.hid h3
  clear h1 h3
  go_wp2_with fail
  go_ret2
  exact ⟨b', c', f', rfl, H1.out, h2, H3.out, h4, h5⟩

theorem bytesOf_any (k : Nat) (hk : k ≤ 2) (g : Value) (lo p c : Nat) (f : Nat → Nat) (w : World) (hS : SclIs w lo k p g c f) :
    Calls Tryz.prog 30 #[.iface 290 (.pointer (some ⟨p, 0, none⟩))] w (Copied w (lenK k) f) := by
  have hl := lenK_le k hk
  obtain ⟨i0, hinf, hz0, hz1, hz2⟩ := info5'
  have hm := marshal_any k hk g lo p c f w hS
  clear hS
  generalize lenK k = len at *
  have Hinf := Lib.hid hinf
  have Hz0 := Lib.hid hz0
  have Hz1 := Lib.hid hz1
  clear hinf hz0 hz1
  go_enter Tryz.func30, Tryz.ntmps30
  go_wp2_with fail
  refine hm.mono ?_
  rintro e w1 ⟨b', c', f', rfl, h1, h2, h3, h4, h5⟩
  have hb : Bts w1 b' 0 len f' := fun j hj => h1.bts j (by omega)
  have H3 := Lib.hid h3
  clear h1 h3
  go_wp2_with (at_builtin; refine wpList_append_g rfl (.tmp 10) (.tmp 11) 22 5 rfl i0 (.int .u8 0) Tryz.underlying22 Hinf.out Hz0.out rfl Hz1.out hz2 (some ⟨w1.heap.size, 0, none⟩) 0 0 (fun _ => .int .u8 0) rfl ?hA (Nat.le_refl _) b' 0 len c' rfl (fun j => Bt (f' j)) ?hx (by omega) (by omega) ?hK)
  case hA => exact .inr ⟨_, _, _, rfl, heap_alloc_new w1 _, rfl, fun j hj => by omega⟩
  case hx => exact fun j hj => ⟨((Mod.refl NoP w1).alloc _).cell_some (hb j hj) fun x => x, rfl⟩
  case hK =>
    intro a' c2 g' w' hap
    go_wp2_with fail
    go_ret
    obtain ⟨b2, c3, f2, k1, k2, k3, k4, k5, k6⟩ := append_new hap (by omega)
    exact (Copied.mono ⟨b2, c3, f2, k1, k2, k3, fun j hj => (k4 j hj).trans (H3.out j hj), k5, k6⟩ h5)

theorem number_any (k : Nat) (hk : k ≤ 2) (v : Nat) (hv : v < B64) (w : World) (ea : Addr) (hE : Eof w ea) :
    Calls Tryz.prog 17 #[.int .i64 k, .int .u64 v] w (Copied w (lenK k) (over (fun _ => 0) (lenK k - 8) 8 (be8 v))) := by
  go_enter Tryz.func17, Tryz.ntmps17
  go_wp2_with fail
  refine (groupOf_any k hk _ ea hE).mono ?_
  rintro e w1 ⟨g, rfl, hG, m1⟩
  have HG := Lib.hid hG
  clear hG
  go_wp2_with fail
  refine (newScalar_any k hk g _ _ HG.out).mono ?_
  rintro e w2 ⟨p, rfl, hS, m2⟩
  have hs := m1.size
  have HG2 := Lib.hid (HG.out.mod m2 nop)
  have HS := Lib.hid (hS.lower hs)
  clear hS HG
  go_wp2_with fail
  refine (setUint64_any k hk g _ p v _ HG2.out HS.out hv (by have := m2.size; omega)).mono ?_
  rintro e w3 ⟨c, rfl, hS, m3⟩
  have HS3 := Lib.hid hS
  clear hS
  go_wp2_with fail
  refine (bytesOf_any k hk g _ p c _ _ HS3.out).mono ?_
  rintro e w4 ⟨b', c', f', rfl, h1, h2, h3, h4, h5⟩
  obtain ⟨_, _, _, _, _, _, _, _, hlp, _⟩ := id HS3.out
  have m13 : Mod NoP w w3 := (m1.trans m2).trans' m3 fun k o hk h => by unfold InB at h; omega
  have H1 := Lib.hid h1
  have H3 := Lib.hid h3
  clear h1 h3
  go_wp2_with fail
  go_ret
  exact Copied.mono ⟨b', c', f', rfl, H1.out, h2, H3.out, h4, h5⟩ m13
end Go.Proofs.YtpfmbfkhjapbbaaGreatDoor
