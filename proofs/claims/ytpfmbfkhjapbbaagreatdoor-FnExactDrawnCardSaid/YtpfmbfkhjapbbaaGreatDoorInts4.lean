/-
  big's Int.BitLen, Sub. Conditions: at most 10^6 words; Sub: the signs are +, the second is no more than the first.
-/
/-
  big's Int.Cmp of two Ints that lie apart. Conditions: at most 10^6 words; the signs are +.
-/
import Derived.Test.YtpfmbfkhjapbbaaGreatDoorInts2
set_option linter.unusedVariables false
set_option linter.unusedSimpArgs false
namespace Go.Proofs.YtpfmbfkhjapbbaaGreatDoor
open Go Go.RowKit

theorem intBitLen_any (p n c v K : Nat) (neg : Bool) (a : Option Addr) (f : Nat → Nat) (w : World) (hI : IntIs w p neg a n c f v) (hn2 : n ≤ 1000000) (h1 : 2 ^ K ≤ v) (h2 : v < 2 ^ (K + 1)) :
    Calls Tryz.prog 226 #[.pointer (some ⟨p, 0, none⟩)] w fun e w' => e = .returned (.int .i64 ((K + 1 : Nat) : Int)) ∧ w' = w := by
  have c1 := hI.c1
  have hX := hI.num
  have hn : 0 < n := by
    have := hX.zero_iff
    have := Nat.two_pow_pos K
    omega
  obtain ⟨b, rfl⟩ := hX.arr.form (by have := hX.le; omega)
  have g1 := hX.ge hn
  have g2 := hX.lt
  have hv : v = val f (n - 1) + f (n - 1) * B64 ^ (n - 1) := by
    rw [← hX.val]
    obtain ⟨m, rfl⟩ : ∃ m, n = m + 1 := ⟨n - 1, by omega⟩
    rfl
  have hlo : val f (n - 1) < B64 ^ (n - 1) := val_lt fun j hj => hX.arr.words j (by have := hX.le; omega)
  have hq : f (n - 1) = v / B64 ^ (n - 1) := by
    rw [hv, Nat.add_mul_div_right _ _ (Nat.pow_pos B64_pos), Nat.div_eq_of_lt hlo, Nat.zero_add]
  rw [B64_pow, ← Nat.pow_mul] at g1 g2 hq
  have k1 : 64 * (n - 1) < K + 1 := (Nat.pow_lt_pow_iff_right (show 1 < 2 by omega)).1 (Nat.lt_of_le_of_lt g1 h2)
  have k2 : K < 64 * n := (Nat.pow_lt_pow_iff_right (show 1 < 2 by omega)).1 (Nat.lt_of_le_of_lt h1 g2)
  have t1 : 2 ^ (K - 64 * (n - 1)) ≤ f (n - 1) := by
    rw [hq, Nat.le_div_iff_mul_le (Nat.two_pow_pos _), ← Nat.pow_add, show K - 64 * (n - 1) + 64 * (n - 1) = K by omega]
    exact h1
  have t2 : f (n - 1) < 2 ^ (K - 64 * (n - 1) + 1) := by
    rw [hq]
    refine Nat.div_lt_of_lt_mul ?_
    rw [← Nat.pow_add, show 64 * (n - 1) + (K - 64 * (n - 1) + 1) = K + 1 by omega]
    exact h2
  have hb := bitLen_any b n c (K - 64 * (n - 1)) v f w hX hn hn2 (by omega) t1 t2
  rw [show 64 * (n - 1) + (K - 64 * (n - 1)) + 1 = K + 1 by omega] at hb
  have HB := Lib.hid hb
  clear hb hX hv hq hI t1 t2 g1 g2 h1 h2
  go_enter Tryz.func226, Tryz.ntmps226
  go_wp2_with fail
  refine HB.out.mono ?_
  rintro e w' ⟨rfl, rfl⟩
  go_wp2_with fail
  go_ret
  exact ⟨rfl, rfl⟩

theorem held_two {w0 w' : World} {p q : Nat} {x y : Value} (h0 : w0.cell? ⟨p, 1, none⟩ = some x) (h1 : w0.cell? ⟨q, 1, none⟩ = some y) (m : Mod NoP w0 w') : w'.cell? ⟨p, 1, none⟩ = some x ∧ w'.cell? ⟨q, 1, none⟩ = some y ∧ Mod NoP w0 w' :=
  ⟨m.cell_some h0 fun h => h, m.cell_some h1 fun h => h, m⟩

set_option maxRecDepth 100000 in
set_option maxHeartbeats 2000000 in
theorem intSub_any (pz px py nz cz nx cx ny cy vz vx vy : Nat) (neg : Bool) (az ax ay : Option Addr) (fz fx fy : Nat → Nat) (w : World) (hZ : IntIs w pz neg az nz cz fz vz) (hX : IntIs w px false ax nx cx fx vx) (hY : IntIs w py false ay ny cy fy vy)
    (hsx : nx ≤ 1000000) (hsy : ny ≤ 1000000) (hle : vy ≤ vx) :
    Calls Tryz.prog 91 #[.pointer (some ⟨pz, 0, none⟩), .pointer (some ⟨px, 0, none⟩), .pointer (some ⟨py, 0, none⟩)] w (IntRet w pz az false (vx - vy)) := by
  have z1 := hZ.c1
  have x0 := hX.c0
  have x1 := hX.c1
  have y0 := hY.c0
  have y1 := hY.c1
  have hcm := fun w1 (m : Mod NoP w w1) => cmp_any ax ay nx cx ny cy vx vy fx fy w1 (hX.num.mod m (Off.noP _)) (hY.num.mod m (Off.noP _)) hsx hsy
  have hsb := fun w1 (m : Mod NoP w w1) => natSub_any az ax ay nz cz nx cx ny cy vx vy w1 fz fx fy (hZ.num.arr.mod m (Off.noP _)) hZ.num.le (hX.num.mod m (Off.noP _)) (hY.num.mod m (Off.noP _)) hsx hle
  have HCM := Lib.hid hcm
  have HSB := Lib.hid hsb
  have HZ := Lib.hid hZ
  have hge : decide ((cmpV vx vy) ≥ (0 : Int)) = true := by
    rcases Nat.lt_or_eq_of_le hle with h | h
    · rw [cmpV_gt h]; rfl
    · rw [h, cmpV_eq]; rfl
  have hge2 : decide ((0 : Int) ≤ (cmpV vx vy)) = true := hge
  clear hcm hsb hZ hX hY
  generalize cmpV vx vy = cv at *
  go_enter Tryz.func91, Tryz.ntmps91
  go_wp2_with fail
  go_quiet (fail)
  have m1 : Mod NoP w (w.drewN nq) := (Mod.refl NoP w).drewN nq
  have M1 := Lib.hid m1
  replace z1 := m1.cell_some z1 fun h => h
  replace x0 := m1.cell_some x0 fun h => h
  replace x1 := m1.cell_some x1 fun h => h
  replace y0 := m1.cell_some y0 fun h => h
  replace y1 := m1.cell_some y1 fun h => h
  clear m1
  generalize w.drewN nq = w1 at *
  go_wp2_with fail
  go_quiet ((go_at_call 110; exact Calls.quiet_of (HCM.out _ (M1.out.drewN _))))
  have m2 : Mod NoP w (w1.drewN nq) := M1.out.drewN nq
  have M2 := Lib.hid m2
  replace z1 : (w1.drewN nq).cell? ⟨pz, 1, none⟩ = some (.slice az nz cz) := z1
  replace x1 : (w1.drewN nq).cell? ⟨px, 1, none⟩ = some (.slice ax nx cx) := x1
  replace y1 : (w1.drewN nq).cell? ⟨py, 1, none⟩ = some (.slice ay ny cy) := y1
  clear m2 M1 x0 y0 HCM
  generalize w1.drewN nq = w2 at *
  have hp2 : w2.heap[pz]? = some (.cells #[.bool neg, .slice az nz cz] 51 (0, 0)) := by rw [M2.out.heap (lt_of_heap HZ.out.cells) (fun _ h => h), HZ.out.cells]
  have HP2 := Lib.hid hp2
  have hsb := fun w3 (m : Mod NoP w2 w3) => HSB.out w3 (M2.out.trans m)
  have HSC := Lib.hid hsb
  clear HSB hp2 hsb
  have hret : ∀ w4 a' n' c' f', NatIs w4 a' n' c' f' (vx - vy) → Mod (BlkOf az) w2.drew w4 → (a' = az ∨ Fresh w2.drew a') → ∃ x, w4.heap[pz]? = some (.cells #[.bool neg, .slice az nz cz] 51 (0, 0)) ∧ x = 1 ∧ IntRet w pz az false (vx - vy) (.returned (.pointer (some ⟨pz, 0, none⟩))) ((w4.setCell ⟨pz, 1, none⟩ (.slice a' n' c')).setCell ⟨pz, 0, none⟩ (.bool false)) := fun w4 a' n' c' f' hN hm hf => by
    have mm : Mod (BlkOf az) w w4 := (M2.out.drew.of_none (M := BlkOf az)).trans hm
    have hp : w4.heap[pz]? = some (.cells #[.bool neg, .slice az nz cz] 51 (0, 0)) := by rw [mm.heap (lt_of_heap HZ.out.cells) HZ.out.offP, HZ.out.cells]
    have hf' : a' = az ∨ Fresh w a' := by
      rcases hf with h | h
      · exact .inl h
      · exact .inr (h.mono M2.out.size)
    exact ⟨1, hp, rfl, IntRet.mk (m := mm) hp (lt_of_heap HZ.out.cells) HZ.out.apart hN hf'⟩
  have HRET := Lib.hid hret
  clear hret M2 HZ
  go_wp2_with fail
  go_region_with (go_at_call 111; refine (HSC.out _ ?_).mono ?_; ((first | exact (Mod.refl NoP w2).drew | exact (Mod.refl NoP w2).drewN _)); rintro e w4 ⟨a', n', c', f', rfl, hN, hm, hf⟩; obtain ⟨x, hp, hx, hres⟩ := HRET.out w4 a' n' c' f' hN hm hf; have e0 : w4.cell? ⟨pz, 0, none⟩ = some (.bool neg) := (cell?_of_heap hp 0).trans rfl; have e1 : w4.cell? ⟨pz, 1, none⟩ = some (.slice az nz cz) := (cell?_of_heap hp 1).trans rfl; have f0 := free_of_heap hp 0; have f1 := free_of_heap hp 1; have RES := Lib.hid hres; clear hp hN hm hf hx hres)
  all_goals (go_wp2_with fail)
  all_goals go_ret
  all_goals exact RES.out


theorem info47 : ∃ j, Tryz.prog.info? 51 = some j ∧ j.size = 2 := by
  have h : (Tryz.prog.info? 51).map (·.size) = some 2 := by kernel_rfl
  cases hj : Tryz.prog.info? 51 with
  | none => rw [hj] at h; cases h
  | some j => rw [hj] at h; exact ⟨j, rfl, by simpa using h⟩

theorem ptr_apart {w : World} {bz bx : Nat} {C D : Array Value} {t u : TypeId} (hz : w.heap[bz]? = some (.cells C t (0, 0))) (hx : w.heap[bx]? = some (.cells D u (0, 0))) (al : bz ≠ bx) :
    (binOp .eql 47 (.pointer (some ⟨bz, 0, none⟩)) (.pointer (some ⟨bx, 0, none⟩))).run Tryz.prog w = .ok (.bool false) w := by
  obtain ⟨j, hj, hs⟩ := info47
  have h : ∀ d : Nat, (Op.equalIn (d + 1) 47 (.pointer (some ⟨bz, 0, none⟩)) (.pointer (some ⟨bx, 0, none⟩))).run Tryz.prog w = .ok false w := fun d => by
    simp [Op.equalIn, run_underlying Tryz.underlying47, sizeOf, typeInfo, hj, hs, run_sameAddr_other w (a := ⟨bz, 0, none⟩) (b := ⟨bx, 0, none⟩) (fun h => al (congrArg Addr.block h)) hz hx]
  simp only [binOp]
  simp [Op.equal, Op.maxDepth, h 9999]

set_option maxRecDepth 100000 in
set_option maxHeartbeats 1000000 in
theorem intCmp_any (px py nx cx ny cy vx vy : Nat) (ax ay : Option Addr) (fx fy : Nat → Nat) (w : World) (hX : IntIs w px false ax nx cx fx vx) (hY : IntIs w py false ay ny cy fy vy)
    (hsx : nx ≤ 1000000) (hsy : ny ≤ 1000000) (hne : px ≠ py) :
    Calls Tryz.prog 105 #[.pointer (some ⟨px, 0, none⟩), .pointer (some ⟨py, 0, none⟩)] w fun e w' => e = .returned (.int .i64 (cmpV vx vy)) ∧ ∃ q, w' = w.drewN q := by
  have x0 := hX.c0
  have x1 := hX.c1
  have y0 := hY.c0
  have y1 := hY.c1
  have hpt := ptr_apart hX.cells hY.cells hne
  have HCM := Lib.hid (fun q => cmp_any ax ay nx cx ny cy vx vy fx fy (w.drewN q) (hX.num.mod ((Mod.refl NoP w).drewN q) (Off.noP _)) (hY.num.mod ((Mod.refl NoP w).drewN q) (Off.noP _)) hsx hsy)
  clear hX hY
  generalize cmpV vx vy = cv at *
  go_enter Tryz.func105, Tryz.ntmps105
  go_wp2_with fail
  go_quiet (fail)
  replace x0 : (w.drewN nq).cell? ⟨px, 0, none⟩ = some (.bool false) := x0
  replace x1 : (w.drewN nq).cell? ⟨px, 1, none⟩ = some (.slice ax nx cx) := x1
  replace y1 : (w.drewN nq).cell? ⟨py, 1, none⟩ = some (.slice ay ny cy) := y1
  have hc : ∀ q, Calls Tryz.prog 110 #[.slice ax nx cx, .slice ay ny cy] ((w.drewN nq).drewN q) fun e w' => e = .returned (.int .i64 cv) ∧ ∃ k, w' = ((w.drewN nq).drewN q).drewN k := fun q => by
    rw [World.drewN_drewN]; exact HCM.out _
  have HC := Lib.hid hc
  have hq : ∀ q, ∃ k, (w.drewN nq).drewN q = w.drewN k := fun q => ⟨_, World.drewN_drewN ..⟩
  have HQ := Lib.hid hq
  clear HCM hc hq y0 hpt
  generalize w.drewN nq = w1 at *
  go_wp2_with fail
  go_quiet ((go_at_call 110; exact Calls.quiet_of (HC.out _)))
  replace x0 : (w1.drewN nq).cell? ⟨px, 0, none⟩ = some (.bool false) := x0
  obtain ⟨k, hk⟩ := HQ.out nq
  have HK := Lib.hid hk
  clear x1 y1 HC HQ hk
  generalize w1.drewN nq = w2 at *
  go_wp2_with fail
  go_ret
  exact ⟨rfl, k, HK.out⟩
end Go.Proofs.YtpfmbfkhjapbbaaGreatDoor
