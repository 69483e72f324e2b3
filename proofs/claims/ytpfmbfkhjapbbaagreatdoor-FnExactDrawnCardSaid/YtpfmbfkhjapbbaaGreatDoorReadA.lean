/-
  cggroup's plain twins of crypto/subtle (byte equality, selection, comparison), isLessThanBE, constantTimeCompare. Conditions: the rows are there, at most 2^20 bytes.
-/
import Derived.Test.YtpfmbfkhjapbbaaGreatDoorCmp
import Derived.Laws.BytesString
set_option linter.unusedVariables false
set_option linter.unusedSimpArgs false
namespace Go.Proofs.YtpfmbfkhjapbbaaGreatDoor
open Go Go.RowKit

theorem byteEq_yes (x : Nat) (w : World) : Calls Tryz.prog 319 #[Bt x, Bt x] w fun e w' => e = .returned (.int .i64 1) ∧ w' = w := by
  go_enter Tryz.func319, Tryz.ntmps319
  go_wp2_with fail
  go_ret
  exact ⟨rfl, rfl⟩
theorem byteEq_no (x y : Nat) (h : x ≠ y) (w : World) : Calls Tryz.prog 319 #[Bt x, Bt y] w fun e w' => e = .returned (.int .i64 0) ∧ w' = w := by
  have hne : ((x : Int) == (y : Int)) = false := by simp; omega
  go_enter Tryz.func319, Tryz.ntmps319
  go_wp2_with fail
  go_ret
  exact ⟨rfl, rfl⟩
theorem select_yes (x y : Int) (w : World) : Calls Tryz.prog 320 #[.int .i64 1, .int .i64 x, .int .i64 y] w fun e w' => e = .returned (.int .i64 x) ∧ w' = w := by
  go_enter Tryz.func320, Tryz.ntmps320
  go_wp2_with fail
  go_ret
  exact ⟨rfl, rfl⟩
theorem select_no (x y : Int) (w : World) : Calls Tryz.prog 320 #[.int .i64 0, .int .i64 x, .int .i64 y] w fun e w' => e = .returned (.int .i64 y) ∧ w' = w := by
  go_enter Tryz.func320, Tryz.ntmps320
  go_wp2_with fail
  go_ret
  exact ⟨rfl, rfl⟩
theorem le_yes (x y : Int) (h : x ≤ y) (w : World) : Calls Tryz.prog 321 #[.int .i64 x, .int .i64 y] w fun e w' => e = .returned (.int .i64 1) ∧ w' = w := by
  have h1 : decide (x ≤ y) = true := decide_eq_true h
  go_enter Tryz.func321, Tryz.ntmps321
  go_wp2_with fail
  go_ret
  exact ⟨rfl, rfl⟩
theorem le_no (x y : Int) (h : ¬ x ≤ y) (w : World) : Calls Tryz.prog 321 #[.int .i64 x, .int .i64 y] w fun e w' => e = .returned (.int .i64 0) ∧ w' = w := by
  have h1 : decide (x ≤ y) = false := decide_eq_false h
  go_enter Tryz.func321, Tryz.ntmps321
  go_wp2_with fail
  go_ret
  exact ⟨rfl, rfl⟩

/-- Nothing but answers of the tape has been drawn. -/
def Drew (w w' : World) : Prop := ∃ q, w' = w.drewN q
theorem Drew.refl (w : World) : Drew w w := ⟨0, rfl⟩
theorem Drew.more {w w' : World} (h : Drew w w') (m : Nat) : Drew w (w'.drewN m) := by
  obtain ⟨q, rfl⟩ := h
  exact ⟨q + m, by rw [World.drewN_drewN]⟩
theorem Drew.mod {w w' : World} (h : Drew w w') (M : Places) : Mod M w w' := by
  obtain ⟨q, rfl⟩ := h
  exact (Mod.refl M w).drewN q
theorem Drew.cell {w w' : World} (h : Drew w w') {b o : Nat} {v : Value} (hc : w.cell? ⟨b, o, none⟩ = some v) : w'.cell? ⟨b, o, none⟩ = some v := (h.mod NoP).cell_some hc fun x => x

/-- J: the first place from k on where the rows part, or the last place. -/
def FirstDiff (f g : Nat → Nat) (n k J : Nat) : Prop := J < n ∧ (∀ t, k ≤ t → t < J → f t = g t) ∧ (J = n - 1 ∨ f J ≠ g J)

theorem firstDiff_less {f g : Nat → Nat} {n J : Nat} (hf : ∀ j, j < n → f j < 256) (hg : ∀ j, j < n → g j < 256) (h : FirstDiff f g n 0 J) : (beN f n < beN g n) ↔ f J < g J := by
  obtain ⟨h1, h2, h3⟩ := h
  constructor
  · intro hlt
    rcases Nat.lt_trichotomy (f J) (g J) with h4 | h4 | h4
    · exact h4
    · rcases h3 with h3 | h3
      · have : beN f n = beN g n := beN_congr fun j hj => by
          by_cases e : j = J
          · rw [e, h4]
          · exact h2 j (by omega) (by omega)
        omega
      · exact absurd h4 h3
    · have := beN_lt_of_byte hg h1 (fun j hj => (h2 j (by omega) hj).symm) h4
      omega
  · intro hlt
    exact beN_lt_of_byte hf h1 (fun j hj => h2 j (by omega) hj) hlt

/-- 1 if the first number is less, else 0. -/
def lessI (f g : Nat → Nat) (n : Nat) : Int := if beN f n < beN g n then 1 else 0
theorem ret_i64 {a b : Int} (h : a = b) : Ending.returned (.int .i64 a) = .returned (.int .i64 b) := by rw [h]

set_option maxRecDepth 100000 in
set_option maxHeartbeats 1000000 in
theorem isLess_any (bx ox cx by_ oy cy n : Nat) (f g : Nat → Nat) (w : World) (hX : Bts w bx ox n f) (hY : Bts w by_ oy n g) (hf : ∀ j, j < n → f j < 256) (hg : ∀ j, j < n → g j < 256) (hn0 : 0 < n) (hn : n ≤ 1048576) :
    Calls Tryz.prog 318 #[.slice (some ⟨bx, ox, none⟩) n cx, .slice (some ⟨by_, oy, none⟩) n cy] w fun e w' => e = .returned (.int .i64 (lessI f g n)) ∧ ∃ q, w' = w.drewN q := by
  have hfd := fun J => firstDiff_less (J := J) hf hg
  have HFD := Lib.hid hfd
  have HF := Lib.hid hf
  have HG := Lib.hid hg
  clear hfd hf hg
  go_enter Tryz.func318, Tryz.ntmps318
  go_wp2_with fail
  go_loopw [5, 6] (fun j i wr => ∃ k J : Nat, k ≤ n ∧ i = .int .i64 ((k : Int) - 1) ∧ j = .int .i64 (J : Int) ∧ FirstDiff f g n k J ∧ Drew w wr) (fun _ i _ => (intOf i + 1).toNat)
  case atStart => exact ⟨n, n - 1, by omega, rfl, by congr 1; omega, ⟨by omega, fun t h1 h2 => by omega, .inl rfl⟩, .refl _⟩
  case round =>
    obtain ⟨k, J, hk, rfl, rfl, hd, hw⟩ := hrel
    have hJ := hd.1
    by_cases hlt : 0 < k
    · obtain ⟨m, rfl⟩ : ∃ m, k = m + 1 := ⟨k - 1, by omega⟩
      rw [show (((m + 1 : Nat) : Int) - 1) = (m : Int) by omega]
      have hcx := hw.cell (hX m (by omega))
      have hcy := hw.cell (hY m (by omega))
      have Hd := Lib.hid hd
      have Hw := Lib.hid hw
      have k0 : (0 : Int) ≤ (m : Int) := by omega
      have k1 : (m : Int) < (n : Int) := by omega
      have k2 : (m : Int).toNat = m := by omega
      have kg : decide ((m : Int) ≥ 0) = true := decide_eq_true (by omega)
      clear hd hw hX hY HF HG
      by_cases he : f m = g m
      · have HE : Hid (f m = g m) := he
        rw [he] at hcx
        clear he
        generalize hy : g m = y at hcx hcy
        clear hy
        go_wp2_with fail
        go_quiet ((go_at_call 319; exact Calls.quiet_of_same (byteEq_yes _ _)))
        go_wp2_with (go_at_call 320; refine (select_yes _ _ _).mono ?_; rintro e w' ⟨rfl, rfl⟩)
        go_roundw
        case rel => exact ⟨m, J, by omega, rfl, rfl, ⟨Hd.out.1, fun t h1 h2 => by
          by_cases e : t = m
          · rw [e]; exact HE.out
          · exact Hd.out.2.1 t (by omega) h2, Hd.out.2.2⟩, Hw.out.more _⟩
        case measure => simp [intOf]
      · have HE : Hid (f m ≠ g m) := he
        generalize hx : f m = x at hcx he
        generalize hy : g m = y at hcy he
        clear hx hy
        go_wp2_with fail
        go_quiet ((go_at_call 319; exact Calls.quiet_of_same (byteEq_no _ _ he _)))
        go_wp2_with (go_at_call 320; refine (select_no _ _ _).mono ?_; rintro e w' ⟨rfl, rfl⟩)
        go_roundw
        case rel => exact ⟨m, m, by omega, rfl, rfl, ⟨by omega, fun t h1 h2 => by omega, .inr HE.out⟩, Hw.out.more _⟩
        case measure => simp [intOf]
    · obtain rfl : k = 0 := by omega
      have hcx := hw.cell (hX J hJ)
      have hcy := hw.cell (hY J hJ)
      have HI := Lib.hid ((HFD.out J) hd)
      have Hw := Lib.hid hw
      have k0 : (0 : Int) ≤ (J : Int) := by omega
      have k1 : (J : Int) < (n : Int) := by omega
      have k2 : (J : Int).toNat = J := by omega
      clear hd hw hX hY HFD
      have hxl := HF.out J hJ
      have hyl := HG.out J hJ
      clear HF HG
      generalize hx : f J = x at hcx HI hxl
      generalize hy : g J = y at hcy HI hyl
      clear hx hy
      by_cases hxy : x < y
      · have hres := Lib.hid (show (1 : Int) = lessI f g n by unfold lessI; rw [if_pos (HI.out.2 hxy)])
        clear HI
        go_wp2_with fail
        go_quiet ((go_at_call 321; refine Calls.quiet_of_same (le_no _ _ ?_ _); omega))
        go_wp2_with fail
        go_ret
        exact ⟨ret_i64 hres.out, Hw.out.more _⟩
      · have hres := Lib.hid (show (0 : Int) = lessI f g n by unfold lessI; rw [if_neg (fun h => hxy (HI.out.1 h))])
        clear HI
        go_wp2_with fail
        go_quiet ((go_at_call 321; refine Calls.quiet_of_same (le_yes _ _ ?_ _); omega))
        go_wp2_with fail
        go_ret
        exact ⟨ret_i64 hres.out, Hw.out.more _⟩

/-- The text of n bytes. -/
def strOf (f : Nat → Nat) (n : Nat) : ByteArray := ((List.range n).map fun j => (f j : Int)).foldl (fun r m => r.push (UInt8.ofNat m.toNat)) ByteArray.empty

theorem strOf_succ (f : Nat → Nat) (n : Nat) : strOf f (n + 1) = (strOf f n).push (UInt8.ofNat (f n)) := by
  unfold strOf
  rw [List.range_succ, List.map_append, List.foldl_append]
  rfl
theorem strOf_size (f : Nat → Nat) : ∀ n, (strOf f n).size = n
  | 0 => rfl
  | n + 1 => by rw [strOf_succ, ByteArray.size_push, strOf_size f n]
theorem strOf_data (f : Nat → Nat) : ∀ n, (strOf f n).data.toList = (List.range n).map fun j => UInt8.ofNat (f j)
  | 0 => rfl
  | n + 1 => by
    rw [strOf_succ, List.range_succ, List.map_append, ← strOf_data f n]
    simp [ByteArray.push]

theorem strOf_eq {f g : Nat → Nat} {n : Nat} (hf : ∀ j, j < n → f j < 256) (hg : ∀ j, j < n → g j < 256) : strOf f n = strOf g n ↔ ∀ j, j < n → f j = g j := by
  constructor
  · intro h j hj
    have h1 := congrArg (fun s => s.data.toList[j]?) h
    simp only [strOf_data] at h1
    simp [hj] at h1
    have h2 := congrArg UInt8.toNat h1
    simp only [UInt8.toNat_ofNat'] at h2
    rw [Nat.mod_eq_of_lt (hf j hj), Nat.mod_eq_of_lt (hg j hj)] at h2
    exact h2
  · intro h
    unfold strOf
    congr 1
    apply List.map_congr_left
    intro j hj
    simp at hj
    rw [h j hj]

theorem conv_run (b o n c : Nat) (f : Nat → Nat) (w : World) (h : Bts w b o n f) : (convert 22 9 (.slice (some ⟨b, o, none⟩) n c)).run Tryz.prog w = .ok (.string (strOf f n)) w := by
  rw [run_convert_bytes_string w 22 9 5 _ n c Tryz.underlying22 Tryz.underlying5 Tryz.underlying9]
  unfold strOf
  refine run_bytesToString w _ n c _ ?_
  have := run_loadCells (P := Tryz.prog) w ⟨b, o, none⟩ n (fun j => Bt (f j)) fun j hj => by
    rw [Addr.add_lit]
    exact h j hj
  rw [this]
  congr 1
  apply Array.ext'
  simp
end Go.Proofs.YtpfmbfkhjapbbaaGreatDoor
