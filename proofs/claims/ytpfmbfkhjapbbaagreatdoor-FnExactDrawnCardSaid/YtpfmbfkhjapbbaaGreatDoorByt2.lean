/-
  big's nat.setBytes, Int.SetBytes: the number of a row of bytes. Conditions: 1 to 100000 bytes, that lie apart from the number's own words.
-/
import Derived.Test.YtpfmbfkhjapbbaaGreatDoorByt1
import Derived.Test.YtpfmbfkhjapbbaaGreatDoorSpecRd
set_option linter.unusedVariables false
set_option linter.unusedSimpArgs false
namespace Go.Proofs.YtpfmbfkhjapbbaaGreatDoor
open Go Go.RowKit

theorem slice22_range (b o n c lo hi : Nat) (h1 : lo < hi) (h2 : hi ≤ n) (hn : n ≤ c) (L H : Int) (hL : L = lo) (hH : H = hi) (w : World) :
    (Instr.slice 22 (.slice (some ⟨b, o, none⟩) n c) (some (.int .i64 L)) (some (.int .i64 H)) none).run Tryz.prog w = .ok (.slice (some ⟨b, o + lo, none⟩) (hi - lo) (c - lo)) w := by
  subst hL hH
  have g1 : (0 : Int) ≤ (lo : Int) := by omega
  have g2 : (lo : Int) ≤ (hi : Int) := by omega
  have g3 : (hi : Int) ≤ (c : Int) := by omega
  have g4 : ¬ c = lo := by omega
  simp [go_sem, g1, g2, g3, g4]

/-- Word q of a row of n bytes, the last 8 bytes the lowest. -/
def wordB (f : Nat → Nat) (n q : Nat) : Nat := beN (fun j => f (n - 8 * q - 8 + j)) 8
theorem wordB_lt {f : Nat → Nat} {n q : Nat} (hf : ∀ j, j < n → f j < 256) (h : 8 * q + 8 ≤ n) : wordB f n q < B64 := by
  have := beN_lt (f := fun j => f (n - 8 * q - 8 + j)) (n := 8) fun j hj => hf _ (by omega)
  unfold wordB
  exact this
theorem val_wordB (f : Nat → Nat) (n : Nat) : ∀ k, 8 * k ≤ n → val (wordB f n) k = beN (fun j => f (n - 8 * k + j)) (8 * k)
  | 0, _ => rfl
  | k + 1, h => by
    have ih := val_wordB f n k (by omega)
    simp only [val]
    rw [ih, show 8 * (k + 1) = 8 + 8 * k by omega, beN_add]
    have e1 : beN (fun j => f (n - (8 + 8 * k) + j)) 8 = wordB f n k := beN_congr fun j _ => by congr 1; omega
    have e2 : beN (fun j => f (n - (8 + 8 * k) + (8 + j))) (8 * k) = beN (fun j => f (n - 8 * k + j)) (8 * k) := beN_congr fun j _ => by congr 1; omega
    have e3 : (256 : Nat) ^ (8 * k) = B64 ^ k := by rw [Nat.pow_mul]; rfl
    rw [e1, e2, e3]
    omega

theorem put_splice (W f : Nat → Nat) (k : Nat) : put (splice W k f) k (W k) = splice W (k + 1) f := by
  funext j
  unfold put splice
  by_cases e : j = k
  · subst e; simp
  · rw [if_neg e]
    by_cases h : j < k
    · rw [if_pos h, if_pos (by omega)]
    · rw [if_neg h, if_neg (by omega)]

set_option maxRecDepth 100000 in
set_option maxHeartbeats 2000000 in
theorem setBytes_any (az : Option Addr) (nz cz b o n c : Nat) (w : World) (fz f : Nat → Nat) (hZ : Arr w az cz fz) (hnz : nz ≤ cz) (hB : Bts w b o n f) (hf : ∀ j, j < n → f j < 256) (hn : 0 < n) (hn2 : n ≤ 100000) (hc : n ≤ c) (hne : ¬ BlkOf az b 0) :
    Calls Tryz.prog 46 #[.slice az nz cz, .slice (some ⟨b, o, none⟩) n c] w (NatRet w az (beN f n)) := by
  have hbl : b < w.heap.size := lt_of_cell? (hB 0 hn)
  have hm := make_any az nz cz ((n + 7) / 8) w fz hZ hnz (by omega)
  have HM := Lib.hid hm
  have e0 : ((n : Int) + 8 - 1) / 8 = (((n + 7) / 8 : Nat) : Int) := by omega
  clear hm hZ
  go_enter Tryz.func46, Tryz.ntmps46
  go_wp2_with fail
  rw [e0]
  refine HM.out.mono ?_
  rintro e w1 ⟨a', c', f', rfl, hA, hmc, hm1, hfr⟩
  obtain ⟨zb, rfl⟩ := hA.form (by omega)
  have hzb : zb ≠ b := by
    intro h
    subst h
    rcases hfr with h | ⟨k, h1, h2⟩
    · exact hne ⟨_, h.symm, rfl⟩
    · have : zb = k := congrArg Addr.block (Option.some.inj h1)
      omega
  have hB1 : Bts w1 b o n f := hB.mod hm1 fun _ _ h => h
  have hw8 : (n + 7) / 8 ≤ c' := hmc
  have hnw : n ≤ 8 * ((n + 7) / 8) := by omega
  have hnw2 : (n + 7) / 8 ≤ 20000 := by omega
  have hnw3 : 8 * ((n + 7) / 8) < n + 8 := by omega
  clear HM e0 hB hmc
  generalize (n + 7) / 8 = nw at *
  have HA := Lib.hid hA
  have HM1 := Lib.hid hm1
  have HB := Lib.hid hB1
  have HF := Lib.hid hf
  have HFR := Lib.hid hfr
  clear hA hm1 hB1 hf hfr
  go_wp2_with fail
  go_loopw [5, 6] (fun i k wr => ∃ K : Nat, 8 * K ≤ n ∧ i = .int .i64 ((n : Int) - 8 * (K : Int)) ∧ k = .int .i64 (K : Int) ∧ Hid (Arr wr (some ⟨zb, 0, none⟩) c' (splice (wordB f n) K f') ∧ Mod (InB zb) w1 wr)) (fun i _ _ => (intOf i).toNat)
  case atStart => exact ⟨0, by omega, by simp, rfl, by
    have e : splice (wordB f n) 0 f' = f' := by funext j; unfold splice; rw [if_neg (by omega)]
    rw [e]; exact ⟨HA.out, .refl _ _⟩⟩
  case round =>
    obtain ⟨K, hK, rfl, rfl, hinv⟩ := hrel
    by_cases hlt : 8 * K + 8 ≤ n
    · have hv := hinv.out.1.vec K (by omega)
      have hck := hv.1
      have hfk := hv.2.1
      rw [Nat.zero_add] at hck hfk
      have hbe := beWord_any b (o + (n - 8 * K - 8)) 8 (c - (n - 8 * K - 8)) (fun j => f (n - 8 * K - 8 + j)) wr ((bts_from HB.out (n - 8 * K - 8) 8 (by omega)).mod hinv.out.2 fun j _ h => hzb h.symm) (fun j hj => HF.out _ (by omega)) (by omega) (by omega)
      have HBE := Lib.hid hbe
      have hs := fun w => slice22_range b o n c (n - 8 * K - 8) (n - 8 * K) (by omega) (by omega) hc ((n : Int) - 8 * (K : Int) - 8) ((n : Int) - 8 * (K : Int)) (by omega) (by omega) w
      rw [show n - 8 * K - (n - 8 * K - 8) = 8 by omega] at hs
      clear hv hbe
      go_wp2_with fail
      refine HBE.out.mono ?_
      rintro e w2 ⟨rfl, q, hw2⟩
      replace hck : w2.cell? ⟨zb, K, none⟩ = some (U (splice (wordB f n) K f' K)) := by rw [hw2]; exact hck
      replace hfk : w2.frozen? ⟨zb, K, none⟩ = false := by rw [hw2]; exact hfk
      have hA2 : Arr w2 (some ⟨zb, 0, none⟩) c' (splice (wordB f n) K f') := by rw [hw2]; exact hinv.out.1.drewN q
      have hm2 : Mod (InB zb) w1 w2 := by rw [hw2]; exact hinv.out.2.drewN q
      have HA2 := Lib.hid hA2
      have HM2 := Lib.hid hm2
      have HW := Lib.hid (show beN (fun j => f (n - 8 * K - 8 + j)) 8 = wordB f n K from rfl)
      have HWL := Lib.hid (wordB_lt HF.out hlt)
      clear hw2 hA2 hm2 HBE hinv hs
      rw [HW.out]
      generalize hx : wordB f n K = x at *
      have HX := Lib.hid hx
      clear hx
      go_wp2_with fail
      go_roundw
      case rel =>
        refine ⟨K + 1, by omega, by congr 1; omega, by go_num, ?_⟩
        have hst := HA2.out.store (i := K) HWL.out
        rw [← HX.out, put_splice] at hst
        rw [← HX.out]
        exact ⟨hst, HM2.out.setCell (fun _ => rfl) _⟩
      case measure => simp [intOf]; omega
    · have d1 : decide (8 ≤ (n : Int) - 8 * (K : Int)) = false := decide_eq_false (by omega)
      have hval := val_wordB f n K hK
      have HVAL := Lib.hid hval
      have HINV := Lib.hid hinv.out
      clear hval hinv
      have hHres : ∀ g v, Arr v (some ⟨zb, 0, none⟩) c' g → Mod (InB zb) w1 v → val g nw = beN f n → Calls Tryz.prog 67 #[.slice (some ⟨zb, 0, none⟩) nw c'] v (NatRet w az (beN f n)) := fun g v hA hM hv => by
        refine (norm_any _ nw c' v g hA hw8 (by omega)).mono ?_
        rintro e w5 hr
        refine hr.ret hv ?_ HFR.out
        refine (HM1.out.of_none (M := BlkOf az)).trans' hM fun k o hk h => ?_
        unfold InB at h
        subst h
        exact blk_of HFR.out hk o
      have HRES := Lib.hid hHres
      clear hHres
      by_cases hr : n = 8 * K
      · obtain rfl : nw = K := by omega
        have d2 : decide ((n : Int) - 8 * (nw : Int) > 0) = false := decide_eq_false (by omega)
        have d3 : decide (0 < (n : Int) - 8 * (nw : Int)) = false := decide_eq_false (by omega)
        have hfin := HRES.out _ wr HINV.out.1 HINV.out.2 (by rw [val_splice _ _ (Nat.le_refl _), HVAL.out, ← hr]; exact beN_congr fun j _ => by congr 1; omega)
        have HFIN := Lib.hid hfin
        clear hfin
        go_wp2_with fail
        refine HFIN.out.mono ?_
        rintro e w4 ⟨a, n1, c1, f1, rfl, h1, h2, h3⟩
        have H1 := Lib.hid h1
        clear h1
        go_wp2_with fail
        go_ret
        exact .mk H1.out h2 h3
      · have d2 : decide ((n : Int) - 8 * (K : Int) > 0) = true := decide_eq_true (by omega)
        have d3 : decide (0 < (n : Int) - 8 * (K : Int)) = true := decide_eq_true (by omega)
        go_wp2_with fail
        have he : (n : Int) - 8 * (K : Int) = ((n - 8 * K : Nat) : Int) := by omega
        rw [he]
        have hr0 : 0 < n - 8 * K := by omega
        have hr8 : n - 8 * K < 8 := by omega
        have hrn : n = n - 8 * K + 8 * K := by omega
        clear d1 d2 d3 he hlt hr
        generalize hrr : n - 8 * K = r at *
        clear hrr
        obtain rfl : nw = K + 1 := by omega
        have hBr : ∀ j, j < r → wr.cell? ⟨b, o + j, none⟩ = some (Bt (f j)) := fun j hj => HINV.out.2.cell_some (HB.out j (by omega)) fun h => hzb h.symm
        have HBR := Lib.hid hBr
        have hvk := (HINV.out.1.vec K (by omega))
        rw [Nat.zero_add] at hvk
        have hcK := hvk.1
        have hfK := hvk.2.1
        clear hvk hBr
        go_loop [5, 7, 8] (fun i d s => ∃ t i' : Nat, i' + t = r ∧ i = .int .i64 (i' : Int) ∧ d = U (beN (fun j => f (i' + j)) t) ∧ s = .int .u64 ((8 * t : Nat) : Int)) (fun i _ _ => (intOf i).toNat)
        case atStart => exact ⟨0, r, by omega, rfl, rfl, rfl⟩
        case round =>
          obtain ⟨t, i', hit, rfl, rfl, rfl⟩ := hrel
          rcases Nat.eq_zero_or_pos i' with h0 | h0
          · subst h0
            obtain rfl : t = r := by omega
            have hlow : beN (fun j => f (0 + j)) t = beN f t := beN_congr fun j _ => by rw [Nat.zero_add]
            have hdl : beN (fun j => f (0 + j)) t < B64 := by
              have h1 := beN_lt (f := fun j => f (0 + j)) (n := t) fun j hj => HF.out _ (by omega)
              have h2 : 256 ^ t ≤ 256 ^ 8 := Nat.pow_le_pow_right (by omega) (by omega)
              exact Nat.lt_of_lt_of_le h1 h2
            have HLOW := Lib.hid hlow
            have HDL := Lib.hid hdl
            clear hlow hdl
            generalize beN (fun j => f (0 + j)) t = x at *
            go_wp2_with fail
            have hst := HINV.out.1.store (i := K) HDL.out
            refine (HRES.out _ _ hst (HINV.out.2.setCell (fun _ => rfl) _) ?_).mono ?_
            · simp only [val]
              rw [put_same, val_put_ge _ (Nat.le_refl _), val_splice _ _ (Nat.le_refl _), HVAL.out, HLOW.out]
              have h3 : beN f n = beN f t * 256 ^ (8 * K) + beN (fun j => f (t + j)) (8 * K) := by
                conv => lhs; rw [hrn]
                exact beN_add f t (8 * K)
              rw [h3, Nat.pow_mul, show (256 : Nat) ^ 8 = B64 from rfl]
              omega
            rintro e w4 ⟨a, n1, c1, f1, rfl, h1, h2, h3⟩
            have H1 := Lib.hid h1
            clear h1 hst
            go_wp2_with fail
            go_ret
            exact .mk H1.out h2 h3
          · obtain ⟨m, rfl⟩ : ∃ m, i' = m + 1 := ⟨i' - 1, by omega⟩
            have hcb := HBR.out m (by omega)
            have hl := beN_lt (f := fun j => f (m + 1 + j)) (n := t) fun j hj => HF.out _ (by omega)
            rw [show (256 : Nat) = 2 ^ 8 from rfl, ← Nat.pow_mul] at hl
            have hfm := HF.out m (by omega)
            have hor := shl_or _ _ t (by omega) hl hfm
            have hstep : beN (fun j => f (m + 1 + j)) t + f m * 2 ^ (8 * t) = beN (fun j => f (m + j)) (t + 1) := by
              rw [Nat.add_comm t 1, beN_add]
              have h2 : beN (fun j => f (m + (1 + j))) t = beN (fun j => f (m + 1 + j)) t := beN_congr fun j _ => by congr 1; omega
              rw [h2]
              simp only [beN, Nat.add_zero, Nat.zero_mul, Nat.zero_add]
              rw [show (256 : Nat) ^ t = 2 ^ (8 * t) by rw [Nat.pow_mul]]
              omega
            rw [hstep] at hor
            have HS := Lib.hid hstep
            clear hstep hl
            generalize hx : beN (fun j => f (m + 1 + j)) t = x at *
            generalize hy : f m = y at *
            clear hx hy
            go_wp2_with fail
            exact ⟨⟨t + 1, m, by omega, rfl, rfl, by congr 1⟩, by simp [intOf]⟩

set_option maxHeartbeats 400000 in
theorem intSetBytes_any (p nz cz m b o n c : Nat) (neg : Bool) (az : Option Addr) (fz f : Nat → Nat) (w : World) (hI : IntIs w p neg az nz cz fz m) (hB : Bts w b o n f) (hf : ∀ j, j < n → f j < 256) (hn : 0 < n) (hn2 : n ≤ 100000) (hc : n ≤ c) (hne : ¬ BlkOf az b 0) :
    Calls Tryz.prog 28 #[.pointer (some ⟨p, 0, none⟩), .slice (some ⟨b, o, none⟩) n c] w (IntRet w p az false (beN f n)) := by
  have h1 := hI.c1
  have HS := Lib.hid (setBytes_any az nz cz b o n c w fz f hI.num.arr hI.num.le hB hf hn hn2 hc hne)
  have HI := Lib.hid hI
  clear hI hB hf
  generalize beN f n = x at *
  go_enter Tryz.func28, Tryz.ntmps28
  go_wp2_with fail
  refine HS.out.mono ?_
  rintro e w1 ⟨a', n', c', f', rfl, hN, hm, hf⟩
  have hp : w1.heap[p]? = some (.cells #[.bool neg, .slice az nz cz] 51 (0, 0)) := by rw [hm.heap (lt_of_heap HI.out.cells) HI.out.offP, HI.out.cells]
  have e0 : w1.cell? ⟨p, 0, none⟩ = some (.bool neg) := by rw [cell?_of_heap hp]; rfl
  have e1 : w1.cell? ⟨p, 1, none⟩ = some (.slice az nz cz) := by rw [cell?_of_heap hp]; rfl
  have f0 := free_of_heap hp 0
  have f1 := free_of_heap hp 1
  have HN := Lib.hid hN
  have HP := Lib.hid hp
  clear hN hp h1
  go_wp2_with fail
  go_ret
  exact IntRet.mk (m := hm) HP.out (lt_of_heap HI.out.cells) HI.out.apart HN.out hf
end Go.Proofs.YtpfmbfkhjapbbaaGreatDoor
