/-
  Numbers of many words (big's nat): make, norm, setWord, mulAddWW: which slice is returned and which number its words make. Conditions: the arrays are there, at most 2^20 words.
-/
import Derived.Test.YtpfmbfkhjapbbaaGreatDoorVecs
set_option linter.unusedVariables false
set_option linter.unusedSimpArgs false
namespace Go.Proofs.YtpfmbfkhjapbbaaGreatDoor
open Go Go.RowKit

/-- The places of a slice's block. -/
def BlkOf (a : Option Addr) : Places := fun k _ => ∃ A, a = some A ∧ A.block = k
/-- The slice lies in memory made since w. -/
def Fresh (w : World) (a : Option Addr) : Prop := ∃ k, a = some ⟨k, 0, none⟩ ∧ w.heap.size ≤ k

/-- The slice (a, n, c) is a number v: a whole array of words f, of which n count, the highest not 0. -/
structure NatIs (w : World) (a : Option Addr) (n c : Nat) (f : Nat → Nat) (v : Nat) : Prop where
  arr : Arr w a c f
  le : n ≤ c
  val : val f n = v
  top : n = 0 ∨ f (n - 1) ≠ 0

/-- What a function on numbers returns that may overwrite z: a number v, in z's array or in new memory; no other place has turned. -/
def NatRet (w : World) (z : Option Addr) (v : Nat) (e : Ending) (w' : World) : Prop :=
  ∃ a n c f, e = .returned (.slice a n c) ∧ NatIs w' a n c f v ∧ Mod (BlkOf z) w w' ∧ (a = z ∨ Fresh w a)

theorem Arr.words {w : World} {a : Option Addr} {c : Nat} {f : Nat → Nat} (h : Arr w a c f) : ∀ j, j < c → f j < B64 := by
  rcases h with ⟨_, rfl⟩ | ⟨b, C, t, rfl, hb, hs, hc⟩
  · intro j hj; omega
  · exact fun j hj => (hc j hj).2

theorem NatIs.small {w : World} {a : Option Addr} {n c : Nat} {f : Nat → Nat} {v : Nat} (h : NatIs w a n c f v) (hn : n ≠ 0) : B64 ^ (n - 1) ≤ v := by
  obtain ⟨m, rfl⟩ : ∃ m, n = m + 1 := ⟨n - 1, by omega⟩
  rw [← h.val]
  exact le_val_of_top (by have := h.top; simpa using this)

theorem NatIs.lt {w : World} {a : Option Addr} {n c : Nat} {f : Nat → Nat} {v : Nat} (h : NatIs w a n c f v) : v < B64 ^ n := by
  rw [← h.val]
  exact val_lt fun j hj => h.arr.words j (by have := h.le; omega)

/-- A number below 2^(64 m) has at most m words. -/
theorem NatIs.len_le {w : World} {a : Option Addr} {n c : Nat} {f : Nat → Nat} {v m : Nat} (h : NatIs w a n c f v) (hv : v < B64 ^ m) : n ≤ m := by
  by_cases hn : n = 0
  · omega
  · refine Classical.byContradiction fun hlt => ?_
    have h1 := h.small hn
    have h2 : B64 ^ m ≤ B64 ^ (n - 1) := Nat.pow_le_pow_right B64_pos (by omega)
    omega

theorem NatIs.zero_iff {w : World} {a : Option Addr} {n c : Nat} {f : Nat → Nat} {v : Nat} (h : NatIs w a n c f v) : n = 0 ↔ v = 0 := by
  constructor
  · rintro rfl; rw [← h.val]; rfl
  · rintro rfl
    refine Classical.byContradiction fun hn => ?_
    have h1 := h.small hn
    have := pow_pos (n - 1)
    omega

theorem NatIs.mod {w w' : World} {a : Option Addr} {n c : Nat} {f : Nat → Nat} {v : Nat} {M : Places} (h : NatIs w a n c f v) (hm : Mod M w w') (hd : Off a M) : NatIs w' a n c f v :=
  ⟨h.arr.mod hm hd, h.le, h.val, h.top⟩

theorem info121 : (Tryz.prog.info? 121).map (fun i => (i.zero, i.size, i.bytes)) = some (some (.int .u64 0), 1, 8) := by kernel_rfl

theorem make_old (a : Option Addr) (n c m : Nat) (w : World) (f : Nat → Nat) (hA : Arr w a c f) (hn : n ≤ c) (hm : m ≤ c) (hs : m ≤ 1048576) :
    Calls Tryz.prog 65 #[.slice a n c, .int .i64 (m : Int)] w fun e w' => e = .returned (.slice a m c) ∧ w' = w := by
  rcases hA with ⟨rfl, rfl⟩ | ⟨b, C, t, rfl, hb, hsz, hc⟩
  · obtain rfl : n = 0 := by omega
    obtain rfl : m = 0 := by omega
    go_enter Tryz.func65, Tryz.ntmps65
    go_wp2
    go_ret
    exact ⟨rfl, rfl⟩
  · go_enter Tryz.func65, Tryz.ntmps65
    go_wp2
    go_ret
    exact ⟨rfl, rfl⟩

/-- A new array of c words 0. -/
def zeros (c : Nat) : Obj := .cells (madeCells #[.int .u64 0] c) 121 (0, 0)
theorem arr_zeros (w : World) (c : Nat) : Arr (w.alloc (zeros c)) (some ⟨w.heap.size, 0, none⟩) c (fun _ => 0) :=
  Arr.fresh w _ _ c _ (size_madeCells _ _) fun j hj => ⟨by simp [madeCells, hj, Nat.mod_one], B64_pos⟩

theorem makeSlice49 (l c : Nat) (hlc : l ≤ c) (hc : c ≤ 2097152) (u : World) (L K : Int) (hL : L = l) (hK : K = c) :
    (Instr.makeSlice 49 (.int .i64 L) (.int .i64 K)).run Tryz.prog u = .ok (.slice (some ⟨u.heap.size, 0, none⟩) l c) (u.alloc (zeros c)) := by
  subst hL; subst hK
  obtain ⟨i0, hi, hz0, hz1, hz2⟩ := info_parts info121
  have h := run_make (P := Tryz.prog) u 49 121 i0 (.int .u64 0) Tryz.underlying49 hi hz0 .i64 .i64 (l : Int) (c : Int) (by omega) (by omega) (by rw [hz2]; omega) (by omega)
  simpa [hz1, Value.cells, zeros] using h

/-- The capacity of what 'make' makes anew. -/
def newCap (m : Nat) : Nat := if m = 1 then 1 else m + 4
theorem le_newCap (m : Nat) : m ≤ newCap m := by unfold newCap; split <;> omega

theorem make_new (a : Option Addr) (n c m : Nat) (w : World) (hm : c < m) (hs : m ≤ 1048576) :
    Calls Tryz.prog 65 #[.slice a n c, .int .i64 (m : Int)] w fun e w' => e = .returned (.slice (some ⟨w.heap.size, 0, none⟩) m (newCap m)) ∧ w' = w.alloc (zeros (newCap m)) := by
  have hmc : decide ((m : Int) ≤ (c : Int)) = false := decide_eq_false (by omega)
  by_cases h1 : m = 1
  · subst h1
    have hmk := fun u => makeSlice49 1 1 (by omega) (by omega) u 1 1 rfl rfl
    go_enter Tryz.func65, Tryz.ntmps65
    go_wp2
    go_ret
    exact ⟨rfl, rfl⟩
  · have hmk := fun u => makeSlice49 m (m + 4) (by omega) (by omega) u (m : Int) ((m : Int) + 4) rfl rfl
    have hb : ((m : Int) == 1) = false := by simp; omega
    go_enter Tryz.func65, Tryz.ntmps65
    go_wp2
    go_ret
    exact ⟨by simp [newCap, h1], by simp [newCap, h1]⟩

/-- make: the old array if there is room in it, a new one of zeros if not. -/
theorem make_any (a : Option Addr) (n c m : Nat) (w : World) (f : Nat → Nat) (hA : Arr w a c f) (hn : n ≤ c) (hs : m ≤ 1048576) :
    Calls Tryz.prog 65 #[.slice a n c, .int .i64 (m : Int)] w fun e w' => ∃ a' c' f', e = .returned (.slice a' m c') ∧ Arr w' a' c' f' ∧ m ≤ c' ∧ Mod NoP w w' ∧ (a' = a ∨ Fresh w a') := by
  by_cases hm : m ≤ c
  · exact (make_old a n c m w f hA hn hm hs).mono fun e w' ⟨he, hw⟩ => ⟨a, c, f, he, by rw [hw]; exact hA, hm, by rw [hw]; exact .refl _ _, .inl rfl⟩
  · exact (make_new a n c m w (by omega) hs).mono fun e w' ⟨he, hw⟩ =>
      ⟨_, _, fun _ => 0, he, hw ▸ arr_zeros w _, le_newCap m, hw ▸ (Mod.refl _ _).alloc _, .inr ⟨_, rfl, Nat.le_refl _⟩⟩

/-- What norm returns: the same array, fewer words, the same number. -/
def NormRet (w : World) (a : Option Addr) (n c : Nat) (f : Nat → Nat) (e : Ending) (w' : World) : Prop :=
  ∃ m, e = .returned (.slice a m c) ∧ w' = w ∧ m ≤ n ∧ NatIs w a m c f (val f n)
theorem NormRet.mk {w : World} {a : Option Addr} {n c : Nat} {f : Nat → Nat} (m : Nat) (hm : m ≤ n) (h : NatIs w a m c f (val f n)) : NormRet w a n c f (.returned (.slice a m c)) w :=
  ⟨m, rfl, rfl, hm, h⟩

theorem norm_any (a : Option Addr) (n c : Nat) (w : World) (f : Nat → Nat) (hA : Arr w a c f) (hn : n ≤ c) (hs : n ≤ 1048576) :
    Calls Tryz.prog 67 #[.slice a n c] w (NormRet w a n c f) := by
  rcases hA with ⟨rfl, rfl⟩ | ⟨b, C, t, rfl, hb, hsz, hc⟩
  · obtain rfl : n = 0 := by omega
    have hz : NatIs w none 0 0 f (val f 0) := ⟨.nil _ _, Nat.le_refl _, rfl, .inl rfl⟩
    have HZ := Lib.hid hz
    clear hz
    go_enter Tryz.func67, Tryz.ntmps67
    go_wp2
    go_loop [3] (fun i => i = .int .i64 0) (fun _ => 0)
    case atStart => rfl
    case round =>
      subst hrel
      go_wp2
      go_ret
      exact .mk 0 (Nat.le_refl _) HZ.out
  · have hA : Arr w (some ⟨b, 0, none⟩) c f := .inr ⟨b, C, t, rfl, hb, hsz, hc⟩
    have HA := Lib.hid hA
    have HC := Lib.hid hc
    clear hc hA
    go_enter Tryz.func67, Tryz.ntmps67
    go_wp2
    go_loop [3] (fun i => ∃ k : Nat, k ≤ n ∧ i = .int .i64 (k : Int) ∧ Hid (∀ j, k ≤ j → j < n → f j = 0)) (fun i => (intOf i).toNat)
    case atStart => exact ⟨n, Nat.le_refl _, rfl, fun j h1 h2 => by omega⟩
    case round =>
      obtain ⟨k, hk, rfl, hz⟩ := hrel
      by_cases hp : 0 < k
      · obtain ⟨m, rfl⟩ : ∃ m, k = m + 1 := ⟨k - 1, by omega⟩
        have hcell : w.cell? ⟨b, m, none⟩ = some (U (f m)) := by rw [cell?_of_heap hb]; exact (HC.out m (by omega)).1
        have HF : Hid (f m ≠ 0 → NatIs w (some ⟨b, 0, none⟩) (m + 1) c f (val f n)) := fun h => ⟨HA.out, by omega, (val_drop hk fun j h1 h2 => hz.out j h1 h2).symm, .inr (by simpa using h)⟩
        have HN : Hid (f m = 0 → ∀ j, m ≤ j → j < n → f j = 0) := fun h0 j h1 h2 => by
          by_cases e : j = m
          · rw [e]; exact h0
          · exact hz.out j (by omega) h2
        have HX : Hid (f m = f m) := rfl
        generalize hx : f m = x at hcell HF HN
        have Hx := Lib.hid hx
        clear hx
        by_cases h0 : x = 0
        · have hb0 : (((x : Nat) : Int) == 0) = true := by simp [h0]
          have HN' := Lib.hid (HN.out h0)
          clear h0 HN
          go_wp2
          go_round
          case rel => exact ⟨m, by omega, by go_num, HN'.out⟩
          case measure => simp [intOf]
        · have hb0 : (((x : Nat) : Int) == 0) = false := by simp; omega
          have HF' := Lib.hid (HF.out h0)
          clear h0 HF
          go_wp2
          go_ret
          exact .mk (m + 1) hk HF'.out
      · obtain rfl : k = 0 := by omega
        have HF : Hid (NatIs w (some ⟨b, 0, none⟩) 0 c f (val f n)) := ⟨HA.out, by omega, (val_drop hk fun j h1 h2 => hz.out j h1 h2).symm, .inl rfl⟩
        go_wp2
        go_ret
        exact .mk 0 hk HF.out

theorem NatRet.mk {w w' : World} {z a : Option Addr} {n c v : Nat} {f : Nat → Nat} (h : NatIs w' a n c f v) (hm : Mod (BlkOf z) w w') (hf : a = z ∨ Fresh w a) : NatRet w z v (.returned (.slice a n c)) w' :=
  ⟨a, n, c, f, rfl, h, hm, hf⟩

theorem NatIs.zero {w : World} {a : Option Addr} {c : Nat} {f : Nat → Nat} (h : Arr w a c f) : NatIs w a 0 c f 0 := ⟨h, Nat.zero_le _, rfl, .inl rfl⟩

/-- One word stored into an array. -/
def put (f : Nat → Nat) (i x : Nat) : Nat → Nat := fun j => if j = i then x else f j
theorem put_same (f : Nat → Nat) (i x : Nat) : put f i x i = x := by simp [put]
theorem put_other (f : Nat → Nat) {i j : Nat} (x : Nat) (h : j ≠ i) : put f i x j = f j := by simp [put, h]

theorem Arr.store {w : World} {b c : Nat} {f : Nat → Nat} (h : Arr w (some ⟨b, 0, none⟩) c f) {i x : Nat} (hx : x < B64) : Arr (w.setCell ⟨b, i, none⟩ (U x)) (some ⟨b, 0, none⟩) c (put f i x) := by
  refine h.turned (setCell_mod w b i (U x)) fun j hj => ?_
  have hv := h.vec j hj
  rw [Nat.zero_add] at *
  by_cases e : j = i
  · subst e
    exact ⟨by rw [put_same]; exact cell_same hv.1 _, by rw [World.frozen?_setCell]; exact hv.2.1, by rw [put_same]; exact hx⟩
  · exact ⟨by rw [put_other f x e, cell_other (.inr (Ne.symm e))]; exact hv.1, by rw [World.frozen?_setCell]; exact hv.2.1, by rw [put_other f x e]; exact hv.2.2⟩

theorem val_put_ge (f : Nat → Nat) {i x n : Nat} (h : n ≤ i) : val (put f i x) n = val f n := val_congr fun j hj => put_other f x (by omega)

/-- Behind 'make': a store into what was made does not reach beyond z's block. -/
theorem mod_store {w w1 : World} {z : Option Addr} {b i : Nat} (hm : Mod NoP w w1) (hf : some (⟨b, 0, none⟩ : Addr) = z ∨ Fresh w (some ⟨b, 0, none⟩)) (v : Value) : Mod (BlkOf z) w (w1.setCell ⟨b, i, none⟩ v) := by
  refine hm.of_none.setCell (fun hb => ?_) v
  rcases hf with rfl | ⟨k, e, hk⟩
  · exact ⟨_, rfl, rfl⟩
  · obtain rfl : b = k := congrArg Addr.block (Option.some.inj e)
    omega

theorem slice_zero (a : Option Addr) (n c : Nat) {w : World} {f : Nat → Nat} (hA : Arr w a c f) (hn : n ≤ c) :
    (Instr.slice 49 (.slice a n c) none (some (.int .i64 0)) none).run Tryz.prog w = .ok (.slice a 0 c) w := by
  rcases hA with ⟨rfl, rfl⟩ | ⟨b, C, t, rfl, hb, hsz, hc⟩
  · obtain rfl : n = 0 := by omega
    simp [go_sem]
  · simp [go_sem]

theorem setWord_any (a : Option Addr) (n c x : Nat) (w : World) (f : Nat → Nat) (hA : Arr w a c f) (hn : n ≤ c) (hx : x < B64) :
    Calls Tryz.prog 107 #[.slice a n c, U x] w (NatRet w a x) := by
  by_cases h0 : x = 0
  · subst h0
    have hs := slice_zero a n c hA hn
    have HN := Lib.hid (NatIs.zero hA)
    clear hA
    go_enter Tryz.func107, Tryz.ntmps107
    go_wp2
    go_ret
    exact .mk HN.out (.refl _ _) (.inl rfl)
  · have hb0 : (((x : Nat) : Int) == 0) = false := by simp; omega
    go_enter Tryz.func107, Tryz.ntmps107
    go_wp2_with fail
    refine (make_any a n c 1 _ f hA hn (by omega)).mono ?_
    rintro e w' ⟨a', c', f', rfl, hA', hm, hmod, hfr⟩
    obtain ⟨b, rfl⟩ := hA'.form (by omega)
    have hv := (hA'.vec) 0 (by omega)
    have hcell := hv.1
    have hfree := hv.2.1
    clear hv
    go_wp2
    go_ret
    have hst := hA'.store (i := 0) hx
    exact .mk ⟨hst, by omega, by rw [val_one, put_same], .inr (by simpa [put] using h0)⟩ (mod_store hmod hfr _) hfr

/-- The first m words of g, behind them f. -/
def splice (g : Nat → Nat) (m : Nat) (f : Nat → Nat) : Nat → Nat := fun j => if j < m then g j else f j
theorem splice_lt (g f : Nat → Nat) {m j : Nat} (h : j < m) : splice g m f j = g j := by simp [splice, h]
theorem splice_ge (g f : Nat → Nat) {m j : Nat} (h : m ≤ j) : splice g m f j = f j := by simp [splice]; omega
theorem val_splice (g f : Nat → Nat) {m n : Nat} (h : n ≤ m) : val (splice g m f) n = val g n := val_congr fun j hj => splice_lt g f (by omega)

/-- An array whose first m words have been written. -/
theorem Arr.wrote {w w' : World} {b c m : Nat} {f g : Nat → Nat} (h : Arr w (some ⟨b, 0, none⟩) c f) (hg : Vec w' b 0 m g) (hm : Mod (InR b 0 m) w w') : Arr w' (some ⟨b, 0, none⟩) c (splice g m f) := by
  refine h.turned hm fun j hj => ?_
  by_cases e : j < m
  · rw [splice_lt g f e]; exact hg j e
  · rw [splice_ge g f (by omega)]
    have hv := h.vec j hj
    exact ⟨hm.cell_some hv.1 (fun ⟨_, _, h3⟩ => by omega), hm.free hv.1 hv.2.1, hv.2.2⟩

theorem Off.none (M : Places) : Off none M := fun _ h => by cases h
theorem Off.noP (a : Option Addr) : Off a NoP := fun _ _ _ x => x

theorem mod_wrote {w w1 w2 : World} {z : Option Addr} {b o n : Nat} (hm : Mod NoP w w1) (hf : some (⟨b, 0, none⟩ : Addr) = z ∨ Fresh w (some ⟨b, 0, none⟩)) (h2 : Mod (InR b o n) w1 w2) : Mod (BlkOf z) w w2 := by
  refine (hm.of_none (M := BlkOf z)).trans' h2 fun k j hk ⟨e, _⟩ => ?_
  subst e
  rcases hf with rfl | ⟨k', e', hk'⟩
  · exact ⟨_, rfl, rfl⟩
  · obtain rfl : k = k' := congrArg Addr.block (Option.some.inj e')
    omega

theorem NormRet.ret {w w1 : World} {z a : Option Addr} {n c v : Nat} {f : Nat → Nat} {e : Ending} {w' : World} (h : NormRet w1 a n c f e w') (hv : val f n = v) (hm : Mod (BlkOf z) w w1) (hf : a = z ∨ Fresh w a) : NatRet w z v e w' := by
  obtain ⟨m, rfl, rfl, h1, h2⟩ := h
  exact .mk (hv ▸ h2) hm hf

set_option maxHeartbeats 400000 in
theorem mulAddWW_any (az ax : Option Addr) (nz cz nx cx y r vx : Nat) (w : World) (fz fx : Nat → Nat) (hZ : Arr w az cz fz) (hnz : nz ≤ cz) (hX : NatIs w ax nx cx fx vx) (hs : nx ≤ 1000000) (hy : y < B64) (hr : r < B64) :
    Calls Tryz.prog 136 #[.slice az nz cz, .slice ax nx cx, U y, U r] w (NatRet w az (vx * y + r)) := by
  by_cases hx0 : nx = 0
  · subst hx0
    have hv : vx = 0 := hX.zero_iff.1 rfl
    subst hv
    have hq := Lib.hid (show r = 0 * y + r by omega)
    go_enter Tryz.func136, Tryz.ntmps136
    go_wp2_with fail
    refine (setWord_any az nz cz r _ fz hZ hnz hr).mono ?_
    rintro e w' ⟨a, n, c, f, rfl, h1, h2, h3⟩
    go_wp2
    go_ret
    rw [← hq.out]
    exact .mk h1 h2 h3
  · have hnx : decide ((nx : Int) = 0) = false := decide_eq_false (by omega)
    have hnx' : ((nx : Int) == 0) = false := by simp; omega
    by_cases hy0 : y = 0
    · subst hy0
      have hq := Lib.hid (show r = vx * 0 + r by omega)
      go_enter Tryz.func136, Tryz.ntmps136
      go_wp2_with fail
      refine (setWord_any az nz cz r _ fz hZ hnz hr).mono ?_
      rintro e w' ⟨a, n, c, f, rfl, h1, h2, h3⟩
      go_wp2
      go_ret
      rw [← hq.out]
      exact .mk h1 h2 h3
    · have hyb : ((y : Int) == 0) = false := by simp; omega
      obtain ⟨bx, rfl⟩ := hX.arr.form (by have := hX.le; omega)
      go_enter Tryz.func136, Tryz.ntmps136
      go_wp2_with fail
      refine (make_any az nz cz (nx + 1) _ fz hZ hnz (by omega)).mono ?_
      rintro e w1 ⟨a', c', f', rfl, hA', hm, hmod, hfr⟩
      obtain ⟨b, rfl⟩ := hA'.form (by omega)
      have hX1 := hX.mod hmod (Off.noP _)
      go_wp2_with fail
      refine (mulAddVWW_any b 0 c' bx 0 cx nx y r fx f' _ (hX1.arr.vec.take hX1.le) (hA'.vec.take (by omega)) (by omega) hy hr (fun _ => .inl (Nat.le_refl _))).mono ?_
      rintro e w2 ⟨rfl, hw, hmod2⟩
      have hA2 := hA'.wrote hw hmod2
      have hv2 := hA2.vec nx (by omega)
      have hcell := hv2.1
      have hfree := hv2.2.1
      rw [Nat.zero_add] at hcell hfree
      clear hv2
      have hC : mulC fx y r nx < B64 := mulC_lt (fun j hj => hX.arr.words j (by have := hX.le; omega)) hy hr nx (Nat.le_refl _)
      have hA3 := hA2.store (i := nx) hC
      have hval : val (put (splice (mulW fx y r) nx f') nx (mulC fx y r nx)) (nx + 1) = vx * y + r := by
        have h1 := mul_val fx y r nx
        rw [hX.val] at h1
        rw [← h1]
        simp only [val]
        rw [put_same, val_put_ge _ (Nat.le_refl _), val_splice _ _ (Nat.le_refl _)]
      have HV := Lib.hid hval
      clear hval
      go_wp2_with fail
      refine (norm_any _ (nx + 1) c' _ _ hA3 hm (by omega)).mono ?_
      rintro e w4 hr4
      have hres : NatRet w az (vx * y + r) e w4 := by
        refine hr4.ret HV.out ?_ hfr
        refine (mod_wrote hmod hfr hmod2).setCell (fun hb => ?_) _
        rcases hfr with e' | ⟨k, e', hk⟩
        · exact ⟨_, e'.symm, rfl⟩
        · obtain rfl : b = k := congrArg Addr.block (Option.some.inj e')
          omega
      obtain ⟨a, n, c, f, rfl, h1, h2, h3⟩ := hres
      go_wp2
      go_ret
      exact .mk h1 h2 h3
end Go.Proofs.YtpfmbfkhjapbbaaGreatDoor
