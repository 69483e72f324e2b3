/-
  A scalar out of bytes: wScl's IsZero, unmarshal, UnmarshalBinary; impl.scalarOf, impl.ReadScalar. Conditions: io.EOF holds an errors.errorString's pointer; rows of at most 2^20 bytes.
-/
import Derived.Test.YtpfmbfkhjapbbaaGreatDoorReadA
set_option linter.unusedVariables false
set_option linter.unusedSimpArgs false
namespace Go.Proofs.YtpfmbfkhjapbbaaGreatDoor
open Go Go.RowKit

/-- A bool that tells whether p. -/
def TellsW (p : Prop) (M : Places) (w : World) (e : Ending) (w' : World) : Prop := ∃ r : Bool, e = .returned (.bool r) ∧ (r = true ↔ p) ∧ Mod M w w'

theorem strOf_beq {f g : Nat → Nat} {n : Nat} (h : ¬ strOf f n = strOf g n) : ((strOf f n).toList == (strOf g n).toList) = false := by
  refine beq_eq_false_iff_ne.2 fun he => h ?_
  rw [ByteArray.toList_eq, ByteArray.toList_eq] at he
  exact ByteArray.ext (Array.toList_inj.mp he)

theorem compare_yes (bx ox cx by_ oy cy n : Nat) (f g : Nat → Nat) (w : World) (hX : Bts w bx ox n f) (hY : Bts w by_ oy n g) (h : strOf f n = strOf g n) :
    Calls Tryz.prog 313 #[.slice (some ⟨bx, ox, none⟩) n cx, .slice (some ⟨by_, oy, none⟩) n cy] w fun e w' => e = .returned (.int .i64 1) ∧ w' = w := by
  have c1 := conv_run bx ox n cx f w hX
  have c2 := conv_run by_ oy n cy g w hY
  rw [h] at c1
  generalize strOf g n = s at *
  clear h hX hY
  go_enter Tryz.func313, Tryz.ntmps313
  go_wp2_with fail
  go_ret
  exact ⟨rfl, rfl⟩

theorem compare_no (bx ox cx by_ oy cy n : Nat) (f g : Nat → Nat) (w : World) (hX : Bts w bx ox n f) (hY : Bts w by_ oy n g) (h : ¬ strOf f n = strOf g n) :
    Calls Tryz.prog 313 #[.slice (some ⟨bx, ox, none⟩) n cx, .slice (some ⟨by_, oy, none⟩) n cy] w fun e w' => e = .returned (.int .i64 0) ∧ w' = w := by
  have c1 := conv_run bx ox n cx f w hX
  have c2 := conv_run by_ oy n cy g w hY
  have hne := strOf_beq h
  generalize strOf g n = s at *
  generalize strOf f n = t at *
  clear h hX hY
  go_enter Tryz.func313, Tryz.ntmps313
  go_wp2_with fail
  go_ret
  exact ⟨rfl, rfl⟩

/-- 1 if the rows are the same, else 0. -/
def cmpI (f g : Nat → Nat) (n : Nat) : Int := if strOf f n = strOf g n then 1 else 0
theorem compare_any (bx ox cx by_ oy cy n : Nat) (f g : Nat → Nat) (w : World) (hX : Bts w bx ox n f) (hY : Bts w by_ oy n g) :
    Calls Tryz.prog 313 #[.slice (some ⟨bx, ox, none⟩) n cx, .slice (some ⟨by_, oy, none⟩) n cy] w fun e w' => e = .returned (.int .i64 (cmpI f g n)) ∧ w' = w := by
  unfold cmpI
  by_cases h : strOf f n = strOf g n
  · rw [if_pos h]; exact compare_yes bx ox cx by_ oy cy n f g w hX hY h
  · rw [if_neg h]; exact compare_no bx ox cx by_ oy cy n f g w hX hY h

theorem sclIs_cells {w : World} {lo k p : Nat} {g : Value} {c : Nat} {f : Nat → Nat} (h : SclIs w lo k p g c f) : ∃ i s a, g = .agg #[i, s] ∧ w.heap[p]? = some (.cells #[i, s, .slice (some ⟨a, 0, none⟩) (lenK k) c] 295 (0, 0)) ∧ w.cell? ⟨p, 0, none⟩ = some i ∧ w.cell? ⟨p, 1, none⟩ = some s ∧ w.cell? ⟨p, 2, none⟩ = some (.slice (some ⟨a, 0, none⟩) (lenK k) c) ∧ BArr w (some ⟨a, 0, none⟩) c f ∧ lenK k ≤ c ∧ a ≠ p ∧ lo ≤ p ∧ lo ≤ a := by
  obtain ⟨i, s, a, h1, h2, h3, h4, h5, h6, h7⟩ := h
  exact ⟨i, s, a, h1, h2, by rw [cell?_of_heap h2]; rfl, by rw [cell?_of_heap h2]; rfl, by rw [cell?_of_heap h2]; rfl, h3, h4, h5, h6, h7⟩

theorem ord_lt (k : Nat) (hk : k ≤ 2) : ordK k < 256 ^ lenK k := by
  obtain rfl | rfl | rfl : k = 0 ∨ k = 1 ∨ k = 2 := by omega
  all_goals decide +kernel

theorem held3 {w0 w' : World} {b : Nat} {x y z : Value} (h0 : w0.cell? ⟨b, 0, none⟩ = some x) (h1 : w0.cell? ⟨b, 1, none⟩ = some y) (h2 : w0.cell? ⟨b, 2, none⟩ = some z) (m : Mod NoP w0 w') :
    w'.cell? ⟨b, 0, none⟩ = some x ∧ w'.cell? ⟨b, 1, none⟩ = some y ∧ w'.cell? ⟨b, 2, none⟩ = some z ∧ Mod NoP w0 w' :=
  ⟨m.cell_some h0 fun h => h, m.cell_some h1 fun h => h, m.cell_some h2 fun h => h, m⟩

set_option maxRecDepth 100000 in
set_option maxHeartbeats 2000000 in
theorem sclIsZero_any (k : Nat) (hk : k ≤ 2) (g : Value) (lo lo' p c : Nat) (f : Nat → Nat) (w : World) (hG : GrpIs w lo' k g) (hS : SclIs w lo k p g c f) (hf : ∀ j, j < lenK k → f j < 256) :
    Calls Tryz.prog 304 #[.pointer (some ⟨p, 0, none⟩)] w (TellsW (∀ j, j < lenK k → f j = 0) NoP w) := by
  have hl := (lenK_le k hk).1
  obtain ⟨i, s, a, rfl, hp, c0, c1, c2, hA, hc, hap, hlp, hla⟩ := sclIs_cells hS
  have hB : ∀ w1, Mod NoP w w1 → Calls Tryz.prog 244 #[.agg #[i, s]] w1 fun e w' => e = .returned (.int .i64 (lenK k)) ∧ Mod NoP w1 w' := fun w1 m => byteSize_any k hk _ lo' w1 (hG.mod m nop)
  have hb : Bts w a 0 (lenK k) f := fun j hj => hA.bts j (by omega)
  clear hS hG hA hp
  generalize lenK k = len at *
  have HB := Lib.hid hB
  have Hb := Lib.hid hb
  clear hB hb
  have hz : ∀ u, Mod NoP w u → Bts (u.alloc (zerosB len)) u.heap.size 0 len (fun _ => 0) := fun u m j hj => (barr_zeros u len).bts j hj
  have hcm : ∀ u, Mod NoP w u → Calls Tryz.prog 313 #[.slice (some ⟨a, 0, none⟩) len c, .slice (some ⟨u.heap.size, 0, none⟩) len len] (u.alloc (zerosB len)) fun e w' => e = .returned (.int .i64 (cmpI f (fun _ => 0) len)) ∧ w' = u.alloc (zerosB len) := fun u m =>
    compare_any a 0 c u.heap.size 0 len len f (fun _ => 0) _ (Hb.out.mod (m.alloc _) fun _ _ h => h) (hz u m)
  have HC := Lib.hid hcm
  clear hcm hz
  have hiff : cmpI f (fun _ => 0) len = 1 ∧ (∀ j, j < len → f j = 0) ∨ cmpI f (fun _ => 0) len = 0 ∧ ¬ (∀ j, j < len → f j = 0) := by
    have h1 := strOf_eq (f := f) (g := fun _ => 0) (n := len) hf (fun _ _ => by omega)
    unfold cmpI
    by_cases h : strOf f len = strOf (fun _ => 0) len
    · rw [if_pos h]; exact .inl ⟨rfl, h1.1 h⟩
    · rw [if_neg h]; exact .inr ⟨rfl, fun h2 => h (h1.2 h2)⟩
  have Hiff := Lib.hid hiff
  clear hiff
  generalize cmpI f (fun _ => 0) len = y at *
  have hmk := fun u => makeSlice22 len len (Nat.le_refl _) (by omega) u (len : Int) (len : Int) rfl rfl
  go_enter Tryz.func304, Tryz.ntmps304
  go_wp2_with fail
  go_region_held3 (fun w' => w'.cell? ⟨p, 0, none⟩ = some i ∧ w'.cell? ⟨p, 1, none⟩ = some s ∧ w'.cell? ⟨p, 2, none⟩ = some (.slice (some ⟨a, 0, none⟩) len c) ∧ Mod NoP w w') ((first | exact held3 c0 c1 c2 ((Mod.refl NoP w).drew) | (have m2 := m1; go_split_ands; refine held3 c0 c1 c2 ?_; first | (refine Mod.trans ?_ m2; assumption) | (refine Mod.alloc ?_ _; assumption) | assumption | (trace_state; fail)) | (go_split_ands; refine held3 c0 c1 c2 ?_; first | (refine Mod.alloc ?_ _; assumption) | assumption | (trace_state; fail))))
    (first | (go_at_call 244; refine (HB.out _ ?_).mono ?_; (first | assumption | (go_split_ands; assumption) | exact (Mod.refl NoP w).drew); rintro e w1 ⟨rfl, m1⟩) | (go_at_call 313; refine (HC.out _ ?_).mono ?_; (first | assumption | exact Mod.trans (by assumption) m1 | exact ((Mod.refl NoP w).drew).trans m1 | (go_split_ands; first | assumption | exact Mod.trans (by assumption) m1)); rintro e w2 ⟨rfl, hw2⟩))
  go_wp2_with fail
  go_ret
  refine ⟨_, rfl, ?_, ?_⟩
  · rcases Hiff.out with ⟨h1, h2⟩ | ⟨h1, h2⟩
    · subst h1
      exact ⟨fun _ => h2, fun _ => rfl⟩
    · subst h1
      exact ⟨fun h => (by simp at h), fun h => absurd h h2⟩
  · exact ((Mod.refl NoP w).drew.trans m1).alloc _

theorem over_all {f g : Nat → Nat} {n j : Nat} (h : j < n) : over f 0 n g j = g j := by unfold over; rw [if_pos (by omega)]; simp

/-- The three cells of a scalar, stored. -/
def set3 (w : World) (p : Nat) (x y z : Value) : World := ((w.setCell ⟨p, 0, none⟩ x).setCell ⟨p, 1, none⟩ y).setCell ⟨p, 2, none⟩ z
theorem set3_fold (w : World) (p : Nat) (x y z : Value) : ((w.setCell ⟨p, 0, none⟩ x).setCell ⟨p, 1, none⟩ y).setCell ⟨p, 2, none⟩ z = set3 w p x y z := rfl
theorem set3_own (w : World) (p : Nat) (x y z : Value) : Mod (InB p) w (set3 w p x y z) := ((mod_own w p 0 x).trans (mod_own _ p 1 y)).trans (mod_own _ p 2 z)
theorem set3_heap {w : World} {p : Nat} {a b c : Value} {t : TypeId} {fr : Nat × Nat} (h : w.heap[p]? = some (.cells #[a, b, c] t fr)) (x y z : Value) : (set3 w p x y z).heap[p]? = some (.cells #[x, y, z] t fr) :=
  heap_set (heap_set (heap_set h 0 x) 1 y) 2 z

/-- What unmarshal leaves of the scalar: one of these bytes, where it answers yes. -/
def Unm (w : World) (lo k p n : Nat) (g : Value) (f : Nat → Nat) (e : Ending) (w' : World) : Prop :=
  ∃ r : Bool, e = .returned (.bool r) ∧ (r = true ↔ n = lenK k ∧ beN f n < ordK k) ∧ (r = true → ∃ c f', SclIs w' lo k p g c f' ∧ ∀ j, j < lenK k → f' j = f j) ∧ Mod (InB p) w w'

set_option maxRecDepth 100000 in
set_option maxHeartbeats 400000 in
theorem unmarshal_any (k : Nat) (hk : k ≤ 2) (g : Value) (lo lo' p c cs : Nat) (fs : Nat → Nat) (b o n : Nat) (f : Nat → Nat) (w : World) (hG : GrpIs w lo' k g) (hS : SclIs w lo k p g cs fs) (hX : Bts w b o n f) (hf : ∀ j, j < n → f j < 256) (hbp : 0 < n → b ≠ p) (hgp : ∀ x r, g = .agg #[x, .slice (some ⟨r, 0, none⟩) (lenK k) (lenK k)] → r ≠ p) (hlo : lo ≤ w.heap.size) (hn : n ≤ 1048576) :
    Calls Tryz.prog 317 #[.pointer (some ⟨p, 0, none⟩), .slice (some ⟨b, o, none⟩) n c] w (Unm w lo k p n g f) := by
  have hl := lenK_le k hk
  obtain ⟨i, s, a, rfl, hp, c0, c1, c2, hA, hc, hap, hlp, hla⟩ := sclIs_cells hS
  have hZ : ∀ w1, Mod NoP w w1 → Calls Tryz.prog 243 #[.agg #[i, s]] w1 fun e w' => ∃ q, e = .returned (.pointer (some ⟨q, 0, none⟩)) ∧ SclIs w' w1.heap.size k q (.agg #[i, s]) (lenK k) (fun _ => 0) ∧ Mod NoP w1 w' := fun w1 m => zeroScalar_any k hk _ lo' w1 (hG.mod m nop)
  obtain ⟨gp, go, hge, hgpl, hgo, hgc, hgb⟩ := id hG
  have hgop : go ≠ p := hgp _ _ hge
  clear hgp
  obtain ⟨rfl, rfl⟩ : i = .iface 125 (.pointer (some ⟨gp, 0, none⟩)) ∧ s = .slice (some ⟨go, 0, none⟩) (lenK k) (lenK k) := by simpa using hge
  have hpl := lt_of_heap hp
  have hord := ord_lt k hk
  have HZ := Lib.hid hZ
  have HGB := Lib.hid hgb
  have HX := Lib.hid hX
  clear hZ hG hS hA hgb hX hge hgc
  go_enter Tryz.func317, Tryz.ntmps317
  go_wp2_with fail
  refine (HZ.out _ (Mod.refl NoP w)).mono ?_
  rintro e w1 ⟨q, rfl, hq, m1⟩
  obtain ⟨i', s', a', he', hq0, d0, d1, d2, hA', hc', haq', hlq, hla'⟩ := sclIs_cells hq
  obtain ⟨rfl, rfl⟩ : .iface 125 (.pointer (some ⟨gp, 0, none⟩)) = i' ∧ .slice (some ⟨go, 0, none⟩) (lenK k) (lenK k) = s' := by simpa using he'
  clear he' hq
  have hp1 : w1.heap[p]? = some (.cells #[.iface 125 (.pointer (some ⟨gp, 0, none⟩)), .slice (some ⟨go, 0, none⟩) (lenK k) (lenK k), .slice (some ⟨a, 0, none⟩) (lenK k) cs] 295 (0, 0)) := by rw [m1.heap hpl (fun _ h => h), hp]
  have f0 := free_of_heap hp1 0
  have f1 := free_of_heap hp1 1
  have f2 := free_of_heap hp1 2
  have p0 : w1.cell? ⟨p, 0, none⟩ = some (.iface 125 (.pointer (some ⟨gp, 0, none⟩))) := by rw [cell?_of_heap hp1]; rfl
  have p1 : w1.cell? ⟨p, 1, none⟩ = some (.slice (some ⟨go, 0, none⟩) (lenK k) (lenK k)) := by rw [cell?_of_heap hp1]; rfl
  have p2 : w1.cell? ⟨p, 2, none⟩ = some (.slice (some ⟨a, 0, none⟩) (lenK k) cs) := by rw [cell?_of_heap hp1]; rfl
  clear c0 c1 c2
  go_upto_region 2 with fail
  rw [set3_fold]
  have h3' := set3_heap hp1 (.iface 125 (.pointer (some ⟨gp, 0, none⟩))) (.slice (some ⟨go, 0, none⟩) (lenK k) (lenK k)) (.slice (some ⟨a', 0, none⟩) (lenK k) (lenK k))
  have m2 := set3_own w1 p (.iface 125 (.pointer (some ⟨gp, 0, none⟩))) (.slice (some ⟨go, 0, none⟩) (lenK k) (lenK k)) (.slice (some ⟨a', 0, none⟩) (lenK k) (lenK k))
  generalize set3 w1 p (.iface 125 (.pointer (some ⟨gp, 0, none⟩))) (.slice (some ⟨go, 0, none⟩) (lenK k) (lenK k)) (.slice (some ⟨a', 0, none⟩) (lenK k) (lenK k)) = w3 at *
  have hap' : a' ≠ p := by omega
  have hA3 := hA'.mod m2 fun A hA o h => by obtain rfl := Option.some.inj hA; exact hap' h
  have m3 : Mod (InB p) w w3 := m1.of_none.trans m2
  clear p0 p1 p2 f0 f1 f2 d0 d1 d2 hA' hp1 hq0 m2
  have hs1 := m1.size
  have hA'l := hA3.lt
  have q0 : w3.cell? ⟨p, 0, none⟩ = some (.iface 125 (.pointer (some ⟨gp, 0, none⟩))) := by rw [cell?_of_heap h3']; rfl
  have q1 : w3.cell? ⟨p, 1, none⟩ = some (.slice (some ⟨go, 0, none⟩) (lenK k) (lenK k)) := by rw [cell?_of_heap h3']; rfl
  have q2 : w3.cell? ⟨p, 2, none⟩ = some (.slice (some ⟨a', 0, none⟩) (lenK k) (lenK k)) := by rw [cell?_of_heap h3']; rfl
  have hX3 : Bts w3 b o n f := HX.out.mod m3 fun j hj h => hbp (by omega) h
  have hO3 : BArr w3 (some ⟨go, 0, none⟩) (lenK k) (byteAt (lenK k) (ordK k)) := HGB.out.mod m3 fun A hA i h => by obtain rfl := Option.some.inj hA; exact hgop h
  have hag : a' ≠ go := fun e => by have := HGB.out.lt; omega
  unfold Unm
  have hbo : beN (byteAt (lenK k) (ordK k)) (lenK k) = ordK k := beN_byteAt_of_lt hord
  have Hbo := Lib.hid hbo
  clear hbo hord
  by_cases hlt : n < lenK k
  · have d1 : decide ((n : Int) < (lenK k : Int)) = true := decide_eq_true (by omega)
    have hM := Lib.hid m3
    clear m3
    generalize hL : lenK k = len at *
    go_wp2_with fail
    go_ret
    exact ⟨false, rfl, ⟨fun h => (by cases h), fun h => (by omega)⟩, fun h => (by cases h), hM.out⟩
  · have d1 : decide ((n : Int) < (lenK k : Int)) = false := decide_eq_false (by omega)
    obtain ⟨w4, hcp, hA4, m4⟩ := copy_run w3 3 a' 0 (lenK k) (lenK k) (lenK k) (fun _ => 0) hA3 (by omega) b o n c f hX3
    rw [show Nat.min n (lenK k) = lenK k from Nat.min_eq_right (by omega)] at hcp hA4
    have h4 : w4.heap[p]? = some (.cells #[.iface 125 (.pointer (some ⟨gp, 0, none⟩)), .slice (some ⟨go, 0, none⟩) (lenK k) (lenK k), .slice (some ⟨a', 0, none⟩) (lenK k) (lenK k)] 295 (0, 0)) := by rw [m4.heap (lt_of_heap h3') (fun _ h => hap' h.symm), h3']
    have m34 : Mod (InB p) w w4 := m3.trans' m4 fun k' o' hk' h => by unfold InB at h; omega
    have hO4 : BArr w4 (some ⟨go, 0, none⟩) (lenK k) (byteAt (lenK k) (ordK k)) := hO3.mod m4 fun A hA i h => by obtain rfl := Option.some.inj hA; exact hag h.symm
    have r0 : w4.cell? ⟨p, 0, none⟩ = some (.iface 125 (.pointer (some ⟨gp, 0, none⟩))) := by rw [cell?_of_heap h4]; rfl
    have r1 : w4.cell? ⟨p, 1, none⟩ = some (.slice (some ⟨go, 0, none⟩) (lenK k) (lenK k)) := by rw [cell?_of_heap h4]; rfl
    have r2 : w4.cell? ⟨p, 2, none⟩ = some (.slice (some ⟨a', 0, none⟩) (lenK k) (lenK k)) := by rw [cell?_of_heap h4]; rfl
    have hfo : ∀ j, j < lenK k → over (fun _ => 0) 0 (lenK k) f j = f j := fun j hj => over_all hj
    have hls := isLess_any a' 0 (lenK k) go 0 (lenK k) (lenK k) (over (fun _ => 0) 0 (lenK k) f) (byteAt (lenK k) (ordK k))
    have hls1 : ∀ u, Calls Tryz.prog 318 #[.slice (some ⟨a', 0, none⟩) (lenK k) (lenK k), .slice (some ⟨go, 0, none⟩) (lenK k) (lenK k)] (w4.drewN u) fun e w' => e = .returned (.int .i64 (lessI (over (fun _ => 0) 0 (lenK k) f) (byteAt (lenK k) (ordK k)) (lenK k))) ∧ ∃ q, w' = (w4.drewN u).drewN q := fun u =>
      hls (w4.drewN u) (fun j hj => hA4.bts j hj) (fun j hj => hO4.bts j hj) (fun j hj => by rw [hfo j hj]; exact hf j (by omega)) (fun j hj => byteAt_lt _ _ _) (by omega) (by omega)
    have hval : lessI (over (fun _ => 0) 0 (lenK k) f) (byteAt (lenK k) (ordK k)) (lenK k) = 1 ∧ beN f (lenK k) < ordK k ∨ lessI (over (fun _ => 0) 0 (lenK k) f) (byteAt (lenK k) (ordK k)) (lenK k) = 0 ∧ ¬ beN f (lenK k) < ordK k := by
      unfold lessI
      rw [beN_congr hfo, Hbo.out]
      by_cases h : beN f (lenK k) < ordK k
      · rw [if_pos h]; exact .inl ⟨rfl, h⟩
      · rw [if_neg h]; exact .inr ⟨rfl, h⟩
    have hscl : SclIs w4 lo k p (.agg #[.iface 125 (.pointer (some ⟨gp, 0, none⟩)), .slice (some ⟨go, 0, none⟩) (lenK k) (lenK k)]) (lenK k) (over (fun _ => 0) 0 (lenK k) f) := ⟨_, _, a', rfl, h4, hA4, Nat.le_refl _, hap', hlp, by omega⟩
    have HS := Lib.hid hscl
    have HL := Lib.hid hls1
    have HV := Lib.hid hval
    have HM := Lib.hid m34
    have HF := Lib.hid hfo
    clear hscl hls1 hval m34 hfo hls hA4 hO4 hO3 hA3 hX3 m3 m4 Hbo h4 h3' HX HGB q0 q1 hp
    generalize lessI (over (fun _ => 0) 0 (lenK k) f) (byteAt (lenK k) (ordK k)) (lenK k) = y at *
    generalize hL : lenK k = len at *
    have HLen := Lib.hid hL
    clear hL
    rcases HV.out with ⟨hy, hy2⟩ | ⟨hy, hy2⟩
    · subst hy
      have Hy := Lib.hid hy2
      clear hy2 HV
      by_cases he : n = len
      · subst he
        go_wp2_with (refine wpList_copy rfl (.tmp 25) (.tmp 26) 22 22 rfl _ _ rfl rfl hcp ?_; go_simp)
        go_big_quiet ((go_at_call 318; exact Calls.quiet_of (HL.out _)))
        go_wp2_with fail
        go_ret
        exact ⟨true, rfl, ⟨fun _ => ⟨HLen.out.symm, Hy.out⟩, fun _ => rfl⟩, fun _ => ⟨_, _, HS.out.mod ((Mod.refl NoP _).drewN _) nop, fun j hj => HF.out j (by rw [HLen.out] at hj; exact hj)⟩, HM.out.drewN _⟩
      · have hb1 : ((n : Int) == (len : Int)) = false := by simp; omega
        have Hne := Lib.hid he
        clear he
        go_wp2_with (refine wpList_copy rfl (.tmp 25) (.tmp 26) 22 22 rfl _ _ rfl rfl hcp ?_; go_simp)
        go_big_quiet ((go_at_call 318; exact Calls.quiet_of (HL.out _)))
        go_wp2_with fail
        go_ret
        exact ⟨false, rfl, ⟨fun h => (by cases h), fun h => absurd (h.1.trans HLen.out) Hne.out⟩, fun h => (by cases h), HM.out.drewN _⟩
    · have hb : (y == 1) = false := by rw [hy]; rfl
      have Hy := Lib.hid hy2
      clear hy2 HV hy
      go_wp2_with (refine wpList_copy rfl (.tmp 25) (.tmp 26) 22 22 rfl _ _ rfl rfl hcp ?_; go_simp)
      go_big_quiet ((go_at_call 318; exact Calls.quiet_of (HL.out _)))
      go_wp2_with fail
      go_ret
      exact ⟨false, rfl, ⟨fun h => (by cases h), fun h => absurd (by have h2 := h.2; rw [h.1.trans HLen.out] at h2; exact h2) Hy.out⟩, fun h => (by cases h), HM.out.drewN _⟩
end Go.Proofs.YtpfmbfkhjapbbaaGreatDoor
