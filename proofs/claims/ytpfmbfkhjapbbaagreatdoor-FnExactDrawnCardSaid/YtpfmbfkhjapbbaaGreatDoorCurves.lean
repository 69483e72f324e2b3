/-
  elliptic's P256, P384, P521: a new CurveParams whose numbers are those of the curve; cggroup's orders by their bytes, its groups, and impl.groupOf. Condition: io.EOF holds an errors.errorString's pointer. Its lines that are alike from curve to curve were printed by a program (gencurves.py).
-/
import Derived.Test.YtpfmbfkhjapbbaaGreatDoorSetStr
import Derived.KernelRfl
import Derived.Handy
set_option linter.unusedVariables false
set_option linter.unusedSimpArgs false
namespace Go.Proofs.YtpfmbfkhjapbbaaGreatDoor
open Go Go.RowKit

/-- The bytes of a text, as numbers. -/
def chr (s : ByteArray) (j : Nat) : Nat := (s.data.getD j 0).toNat
def dig10 (s : ByteArray) (j : Nat) : Nat := chr s j - 48
def dig16 (s : ByteArray) (j : Nat) : Nat := if chr s j < 58 then chr s j - 48 else chr s j - 87
def ok10 (s : ByteArray) : Bool := decide (0 < s.size) && decide (s.size ≤ 1000) && (List.range s.size).all fun j => decide (48 ≤ chr s j) && decide (chr s j < 58)
def ok16 (s : ByteArray) : Bool := decide (0 < s.size) && decide (s.size ≤ 1000) && (List.range s.size).all fun j => (decide (48 ≤ chr s j) && decide (chr s j < 58)) || (decide (97 ≤ chr s j) && decide (chr s j < 103))

theorem chr_eq (s : ByteArray) (j : Nat) (h : j < s.size) : s[j].toNat = chr s j := by
  have h' : j < s.data.size := h
  unfold chr
  rw [Array.getD_eq_getD_getElem?, Array.getElem?_eq_getElem h']
  rfl

/-- A new Int v, as bigFromDecimal and bigFromHex return it. -/
def IntAt (w : World) (lo p v : Nat) : Prop := ∃ (a : Option Addr) (n c : Nat) (f : Nat → Nat), IntIs w p false a n c f v ∧ lo ≤ p ∧ ∀ A, a = some A → lo ≤ A.block
def NewInt (v : Nat) (w : World) (e : Ending) (w' : World) : Prop := e = .returned (.pointer (some ⟨w.heap.size, 0, none⟩)) ∧ IntAt w' w.heap.size w.heap.size v ∧ Mod NoP w w'

theorem IntAt.mod {w w' : World} {lo p v : Nat} (h : IntAt w lo p v) {M : Places} (hm : Mod M w w') (hM : ∀ k o, lo ≤ k → ¬ M k o) : IntAt w' lo p v := by
  obtain ⟨a, n, c, f, h1, h2, h3⟩ := h
  exact ⟨a, n, c, f, h1.mod hm (fun o => hM _ _ h2) fun A hA o => hM _ _ (h3 A hA), h2, h3⟩

theorem IntAt.lower {w : World} {lo lo' p v : Nat} (h : IntAt w lo p v) (hl : lo' ≤ lo) : IntAt w lo' p v := by
  obtain ⟨a, n, c, f, h1, h2, h3⟩ := h
  exact ⟨a, n, c, f, h1, by omega, fun A hA => by have := h3 A hA; omega⟩

theorem fresh_lo {w : World} {a : Option Addr} (h : a = none ∨ Fresh w a) : ∀ A, a = some A → w.heap.size ≤ A.block := by
  intro A hA
  rcases h with rfl | ⟨k, e, hk⟩
  · cases hA
  · have : A.block = k := congrArg Addr.block (Option.some.inj (hA.symm.trans e))
    omega

theorem dec_new (s : ByteArray) (h : ok10 s = true) (w : World) (ea : Addr) (hE : Eof w ea) : Calls Tryz.prog 85 #[.string s] w (NewInt (numOf 10 (dig10 s) s.size) w) := by
  simp only [ok10, Bool.and_eq_true, decide_eq_true_eq, List.all_eq_true, List.mem_range] at h
  obtain ⟨⟨h1, h2⟩, h3⟩ := h
  have h0 := h3 0 h1
  rw [← chr_eq s 0 h1] at h0
  refine (bigFromDecimal_any s w ea _ (scans10 (D := dig10 s) (fun j hj => ?_) h1 h2) hE h1 h2 (by omega) (by omega)).mono ?_
  · have := h3 j hj
    rw [chr_eq]
    unfold dig10
    omega
  · rintro e w' ⟨a, n, c, f, rfl, hI, hh, hm⟩
    exact ⟨rfl, ⟨a, n, c, f, hI, Nat.le_refl _, fresh_lo hh⟩, hm⟩

theorem hex_new (s : ByteArray) (h : ok16 s = true) (w : World) (ea : Addr) (hE : Eof w ea) : Calls Tryz.prog 86 #[.string s] w (NewInt (numOf 16 (dig16 s) s.size) w) := by
  simp only [ok16, Bool.and_eq_true, Bool.or_eq_true, decide_eq_true_eq, List.all_eq_true, List.mem_range] at h
  obtain ⟨⟨h1, h2⟩, h3⟩ := h
  have h0 := h3 0 h1
  rw [← chr_eq s 0 h1] at h0
  refine (bigFromHex_any s w ea _ (scans16 (D := dig16 s) (C := chr s) (fun j hj => chr_eq s j hj) (fun j hj => ?_) h1 h2) hE h1 h2 (by omega) (by omega)).mono ?_
  · have := h3 j hj
    unfold dig16
    split <;> omega
  · rintro e w' ⟨a, n, c, f, rfl, hI, hh, hm⟩
    exact ⟨rfl, ⟨a, n, c, f, hI, Nat.le_refl _, fresh_lo hh⟩, hm⟩

/-- Block p is a CurveParams of so many bits; its numbers lie beyond lo. -/
def CurveIs (w : World) (lo p bits P N B X Y : Nat) : Prop :=
  ∃ (bp bn bb bx bY : Nat) (nm : ByteArray), w.heap[p]? = some (.cells #[.pointer (some ⟨bp, 0, none⟩), .pointer (some ⟨bn, 0, none⟩), .pointer (some ⟨bb, 0, none⟩), .pointer (some ⟨bx, 0, none⟩), .pointer (some ⟨bY, 0, none⟩), .int .i64 bits, .string nm] 138 (0, 0)) ∧ lo ≤ p ∧
    IntAt w lo bp P ∧ IntAt w lo bn N ∧ IntAt w lo bb B ∧ IntAt w lo bx X ∧ IntAt w lo bY Y

theorem CurveIs.mod {w w' : World} {lo p bits P N B X Y : Nat} (h : CurveIs w lo p bits P N B X Y) {M : Places} (hm : Mod M w w') (hM : ∀ k o, lo ≤ k → ¬ M k o) : CurveIs w' lo p bits P N B X Y := by
  obtain ⟨bp, bn, bb, bx, bY, nm, h0, h1, h2, h3, h4, h5, h6⟩ := h
  exact ⟨bp, bn, bb, bx, bY, nm, by rw [hm.heap (lt_of_heap h0) (fun o => hM _ _ h1), h0], h1, h2.mod hm hM, h3.mod hm hM, h4.mod hm hM, h5.mod hm hM, h6.mod hm hM⟩

theorem nop {lo : Nat} : ∀ k o, lo ≤ k → ¬ NoP k o := fun _ _ _ h => h

def strP256P : ByteArray := { data := ([49, 49, 53, 55, 57, 50, 48, 56, 57, 50, 49, 48, 51, 53, 54, 50, 52, 56, 55, 54, 50, 54, 57, 55, 52, 52, 54, 57, 52, 57, 52, 48, 55, 53, 55, 51, 53, 51, 48].append [48, 56, 54, 49, 52, 51, 52, 49, 53, 50, 57, 48, 51, 49, 52, 49, 57, 53, 53, 51, 51, 54, 51, 49, 51, 48, 56, 56, 54, 55, 48, 57, 55, 56, 53, 51, 57, 53, 49]).toArray }
def strP256N : ByteArray := { data := ([49, 49, 53, 55, 57, 50, 48, 56, 57, 50, 49, 48, 51, 53, 54, 50, 52, 56, 55, 54, 50, 54, 57, 55, 52, 52, 54, 57, 52, 57, 52, 48, 55, 53, 55, 51, 53, 50, 57].append [57, 57, 54, 57, 53, 53, 50, 50, 52, 49, 51, 53, 55, 54, 48, 51, 52, 50, 52, 50, 50, 50, 53, 57, 48, 54, 49, 48, 54, 56, 53, 49, 50, 48, 52, 52, 51, 54, 57]).toArray }
def strP256B : ByteArray := { data := #[53, 97, 99, 54, 51, 53, 100, 56, 97, 97, 51, 97, 57, 51, 101, 55, 98, 51, 101, 98, 98, 100, 53, 53, 55, 54, 57, 56, 56, 54, 98, 99, 54, 53, 49, 100, 48, 54, 98, 48, 99, 99, 53, 51, 98, 48, 102, 54, 51, 98, 99, 101, 51, 99, 51, 101, 50, 55, 100, 50, 54, 48, 52, 98] }
def strP256X : ByteArray := { data := #[54, 98, 49, 55, 100, 49, 102, 50, 101, 49, 50, 99, 52, 50, 52, 55, 102, 56, 98, 99, 101, 54, 101, 53, 54, 51, 97, 52, 52, 48, 102, 50, 55, 55, 48, 51, 55, 100, 56, 49, 50, 100, 101, 98, 51, 51, 97, 48, 102, 52, 97, 49, 51, 57, 52, 53, 100, 56, 57, 56, 99, 50, 57, 54] }
def strP256Y : ByteArray := { data := #[52, 102, 101, 51, 52, 50, 101, 50, 102, 101, 49, 97, 55, 102, 57, 98, 56, 101, 101, 55, 101, 98, 52, 97, 55, 99, 48, 102, 57, 101, 49, 54, 50, 98, 99, 101, 51, 51, 53, 55, 54, 98, 51, 49, 53, 101, 99, 101, 99, 98, 98, 54, 52, 48, 54, 56, 51, 55, 98, 102, 53, 49, 102, 53] }
def nP256P : Nat := 115792089210356248762697446949407573530086143415290314195533631308867097853951
def nP256N : Nat := 115792089210356248762697446949407573529996955224135760342422259061068512044369
def nP256B : Nat := 41058363725152142129326129780047268409114441015993725554835256314039467401291
def nP256X : Nat := 48439561293906451759052585252797914202762949526041747995844080717082404635286
def nP256Y : Nat := 36134250956749795798585127919587881956611106672985015071877198253568414405109
theorem newP256P (w : World) (ea : Addr) (hE : Eof w ea) : Calls Tryz.prog 85 #[.string { data := ([49, 49, 53, 55, 57, 50, 48, 56, 57, 50, 49, 48, 51, 53, 54, 50, 52, 56, 55, 54, 50, 54, 57, 55, 52, 52, 54, 57, 52, 57, 52, 48, 55, 53, 55, 51, 53, 51, 48].append [48, 56, 54, 49, 52, 51, 52, 49, 53, 50, 57, 48, 51, 49, 52, 49, 57, 53, 53, 51, 51, 54, 51, 49, 51, 48, 56, 56, 54, 55, 48, 57, 55, 56, 53, 51, 57, 53, 49]).toArray }] w (NewInt nP256P w) := by
  have h := dec_new strP256P (by kernel_rfl) w ea hE
  rw [show numOf 10 (dig10 strP256P) strP256P.size = nP256P by kernel_rfl] at h
  exact h
theorem newP256N (w : World) (ea : Addr) (hE : Eof w ea) : Calls Tryz.prog 85 #[.string { data := ([49, 49, 53, 55, 57, 50, 48, 56, 57, 50, 49, 48, 51, 53, 54, 50, 52, 56, 55, 54, 50, 54, 57, 55, 52, 52, 54, 57, 52, 57, 52, 48, 55, 53, 55, 51, 53, 50, 57].append [57, 57, 54, 57, 53, 53, 50, 50, 52, 49, 51, 53, 55, 54, 48, 51, 52, 50, 52, 50, 50, 50, 53, 57, 48, 54, 49, 48, 54, 56, 53, 49, 50, 48, 52, 52, 51, 54, 57]).toArray }] w (NewInt nP256N w) := by
  have h := dec_new strP256N (by kernel_rfl) w ea hE
  rw [show numOf 10 (dig10 strP256N) strP256N.size = nP256N by kernel_rfl] at h
  exact h
theorem newP256B (w : World) (ea : Addr) (hE : Eof w ea) : Calls Tryz.prog 86 #[.string { data := #[53, 97, 99, 54, 51, 53, 100, 56, 97, 97, 51, 97, 57, 51, 101, 55, 98, 51, 101, 98, 98, 100, 53, 53, 55, 54, 57, 56, 56, 54, 98, 99, 54, 53, 49, 100, 48, 54, 98, 48, 99, 99, 53, 51, 98, 48, 102, 54, 51, 98, 99, 101, 51, 99, 51, 101, 50, 55, 100, 50, 54, 48, 52, 98] }] w (NewInt nP256B w) := by
  have h := hex_new strP256B (by kernel_rfl) w ea hE
  rw [show numOf 16 (dig16 strP256B) strP256B.size = nP256B by kernel_rfl] at h
  exact h
theorem newP256X (w : World) (ea : Addr) (hE : Eof w ea) : Calls Tryz.prog 86 #[.string { data := #[54, 98, 49, 55, 100, 49, 102, 50, 101, 49, 50, 99, 52, 50, 52, 55, 102, 56, 98, 99, 101, 54, 101, 53, 54, 51, 97, 52, 52, 48, 102, 50, 55, 55, 48, 51, 55, 100, 56, 49, 50, 100, 101, 98, 51, 51, 97, 48, 102, 52, 97, 49, 51, 57, 52, 53, 100, 56, 57, 56, 99, 50, 57, 54] }] w (NewInt nP256X w) := by
  have h := hex_new strP256X (by kernel_rfl) w ea hE
  rw [show numOf 16 (dig16 strP256X) strP256X.size = nP256X by kernel_rfl] at h
  exact h
theorem newP256Y (w : World) (ea : Addr) (hE : Eof w ea) : Calls Tryz.prog 86 #[.string { data := #[52, 102, 101, 51, 52, 50, 101, 50, 102, 101, 49, 97, 55, 102, 57, 98, 56, 101, 101, 55, 101, 98, 52, 97, 55, 99, 48, 102, 57, 101, 49, 54, 50, 98, 99, 101, 51, 51, 53, 55, 54, 98, 51, 49, 53, 101, 99, 101, 99, 98, 98, 54, 52, 48, 54, 56, 51, 55, 98, 102, 53, 49, 102, 53] }] w (NewInt nP256Y w) := by
  have h := hex_new strP256Y (by kernel_rfl) w ea hE
  rw [show numOf 16 (dig16 strP256Y) strP256Y.size = nP256Y by kernel_rfl] at h
  exact h

theorem curveP256 (w : World) (ea : Addr) (hE : Eof w ea) : Calls Tryz.prog 73 #[] w fun e w' => ∃ p, e = .returned (.pointer (some ⟨p, 0, none⟩)) ∧ CurveIs w' w.heap.size p 256 nP256P nP256N nP256B nP256X nP256Y ∧ Mod NoP w w' := by
  go_enter Tryz.func73, Tryz.ntmps73
  go_wp2_with fail
  refine (newP256P _ ea hE).mono ?_
  rintro e w1 ⟨rfl, i1, m1⟩
  have hE1 : Eof w1 ea := m1.cell_some hE fun h => h
  go_wp2_with fail
  refine (newP256N _ ea hE1).mono ?_
  rintro e w2 ⟨rfl, i2, m2⟩
  have hE2 : Eof w2 ea := m2.cell_some hE1 fun h => h
  have i12 := i1.mod m2 nop
  go_wp2_with fail
  refine (newP256B _ ea hE2).mono ?_
  rintro e w3 ⟨rfl, i3, m3⟩
  have hE3 : Eof w3 ea := m3.cell_some hE2 fun h => h
  have i13 := i12.mod m3 nop
  have i23 := i2.mod m3 nop
  go_wp2_with fail
  refine (newP256X _ ea hE3).mono ?_
  rintro e w4 ⟨rfl, i4, m4⟩
  have hE4 : Eof w4 ea := m4.cell_some hE3 fun h => h
  have i14 := i13.mod m4 nop
  have i24 := i23.mod m4 nop
  have i34 := i3.mod m4 nop
  go_wp2_with fail
  refine (newP256Y _ ea hE4).mono ?_
  rintro e w5 ⟨rfl, i5, m5⟩
  have s1 := m1.size
  have s2 := m2.size
  have s3 := m3.size
  have s4 := m4.size
  have s5 := m5.size
  have i15 := i14.mod m5 nop
  have i25 := i24.mod m5 nop
  have i35 := i34.mod m5 nop
  have i45 := i4.mod m5 nop
  clear i1 i12 i13 i14 i2 i23 i24 i3 i34 i4
  go_wp2_with fail
  go_ret
  have ma : ∀ o, Mod NoP w5 (w5.alloc o) := fun o => (Mod.refl NoP w5).alloc o
  refine ⟨_, rfl, ⟨_, _, _, _, _, _, heap_alloc_new _ _, by omega, ?_, ?_, ?_, ?_, ?_⟩, ((((m1.trans m2).trans m3).trans m4).trans m5).trans (ma _)⟩
  · exact (i15.mod (ma _) nop).lower (Nat.le_refl _)
  · exact (i25.mod (ma _) nop).lower (by omega)
  · exact (i35.mod (ma _) nop).lower (by omega)
  · exact (i45.mod (ma _) nop).lower (by omega)
  · exact (i5.mod (ma _) nop).lower (by omega)

def strP384P : ByteArray := { data := ([51, 57, 52, 48, 50, 48, 48, 54, 49, 57, 54, 51, 57, 52, 52, 55, 57, 50, 49, 50, 50, 55, 57, 48, 52, 48, 49, 48, 48, 49, 52, 51, 54, 49, 51, 56, 48, 53, 48, 55, 57, 55, 51, 57, 50, 55, 48, 52, 54, 53, 52, 52, 54, 54, 54, 55, 57, 52].append [56, 50, 57, 51, 52, 48, 52, 50, 52, 53, 55, 50, 49, 55, 55, 49, 52, 57, 54, 56, 55, 48, 51, 50, 57, 48, 52, 55, 50, 54, 54, 48, 56, 56, 50, 53, 56, 57, 51, 56, 48, 48, 49, 56, 54, 49, 54, 48, 54, 57, 55, 51, 49, 49, 50, 51, 49, 57]).toArray }
def strP384N : ByteArray := { data := ([51, 57, 52, 48, 50, 48, 48, 54, 49, 57, 54, 51, 57, 52, 52, 55, 57, 50, 49, 50, 50, 55, 57, 48, 52, 48, 49, 48, 48, 49, 52, 51, 54, 49, 51, 56, 48, 53, 48, 55, 57, 55, 51, 57, 50, 55, 48, 52, 54, 53, 52, 52, 54, 54, 54, 55, 57, 52].append [54, 57, 48, 53, 50, 55, 57, 54, 50, 55, 54, 53, 57, 51, 57, 57, 49, 49, 51, 50, 54, 51, 53, 54, 57, 51, 57, 56, 57, 53, 54, 51, 48, 56, 49, 53, 50, 50, 57, 52, 57, 49, 51, 53, 53, 52, 52, 51, 51, 54, 53, 51, 57, 52, 50, 54, 52, 51]).toArray }
def strP384B : ByteArray := { data := ([98, 51, 51, 49, 50, 102, 97, 55, 101, 50, 51, 101, 101, 55, 101, 52, 57, 56, 56, 101, 48, 53, 54, 98, 101, 51, 102, 56, 50, 100, 49, 57, 49, 56, 49, 100, 57, 99, 54, 101, 102, 101, 56, 49, 52, 49, 49, 50].append [48, 51, 49, 52, 48, 56, 56, 102, 53, 48, 49, 51, 56, 55, 53, 97, 99, 54, 53, 54, 51, 57, 56, 100, 56, 97, 50, 101, 100, 49, 57, 100, 50, 97, 56, 53, 99, 56, 101, 100, 100, 51, 101, 99, 50, 97, 101, 102]).toArray }
def strP384X : ByteArray := { data := ([97, 97, 56, 55, 99, 97, 50, 50, 98, 101, 56, 98, 48, 53, 51, 55, 56, 101, 98, 49, 99, 55, 49, 101, 102, 51, 50, 48, 97, 100, 55, 52, 54, 101, 49, 100, 51, 98, 54, 50, 56, 98, 97, 55, 57, 98, 57, 56].append [53, 57, 102, 55, 52, 49, 101, 48, 56, 50, 53, 52, 50, 97, 51, 56, 53, 53, 48, 50, 102, 50, 53, 100, 98, 102, 53, 53, 50, 57, 54, 99, 51, 97, 53, 52, 53, 101, 51, 56, 55, 50, 55, 54, 48, 97, 98, 55]).toArray }
def strP384Y : ByteArray := { data := ([51, 54, 49, 55, 100, 101, 52, 97, 57, 54, 50, 54, 50, 99, 54, 102, 53, 100, 57, 101, 57, 56, 98, 102, 57, 50, 57, 50, 100, 99, 50, 57, 102, 56, 102, 52, 49, 100, 98, 100, 50, 56, 57, 97, 49, 52, 55, 99].append [101, 57, 100, 97, 51, 49, 49, 51, 98, 53, 102, 48, 98, 56, 99, 48, 48, 97, 54, 48, 98, 49, 99, 101, 49, 100, 55, 101, 56, 49, 57, 100, 55, 97, 52, 51, 49, 100, 55, 99, 57, 48, 101, 97, 48, 101, 53, 102]).toArray }
def nP384P : Nat := 39402006196394479212279040100143613805079739270465446667948293404245721771496870329047266088258938001861606973112319
def nP384N : Nat := 39402006196394479212279040100143613805079739270465446667946905279627659399113263569398956308152294913554433653942643
def nP384B : Nat := 27580193559959705877849011840389048093056905856361568521428707301988689241309860865136260764883745107765439761230575
def nP384X : Nat := 26247035095799689268623156744566981891852923491109213387815615900925518854738050089022388053975719786650872476732087
def nP384Y : Nat := 8325710961489029985546751289520108179287853048861315594709205902480503199884419224438643760392947333078086511627871
theorem newP384P (w : World) (ea : Addr) (hE : Eof w ea) : Calls Tryz.prog 85 #[.string { data := ([51, 57, 52, 48, 50, 48, 48, 54, 49, 57, 54, 51, 57, 52, 52, 55, 57, 50, 49, 50, 50, 55, 57, 48, 52, 48, 49, 48, 48, 49, 52, 51, 54, 49, 51, 56, 48, 53, 48, 55, 57, 55, 51, 57, 50, 55, 48, 52, 54, 53, 52, 52, 54, 54, 54, 55, 57, 52].append [56, 50, 57, 51, 52, 48, 52, 50, 52, 53, 55, 50, 49, 55, 55, 49, 52, 57, 54, 56, 55, 48, 51, 50, 57, 48, 52, 55, 50, 54, 54, 48, 56, 56, 50, 53, 56, 57, 51, 56, 48, 48, 49, 56, 54, 49, 54, 48, 54, 57, 55, 51, 49, 49, 50, 51, 49, 57]).toArray }] w (NewInt nP384P w) := by
  have h := dec_new strP384P (by kernel_rfl) w ea hE
  rw [show numOf 10 (dig10 strP384P) strP384P.size = nP384P by kernel_rfl] at h
  exact h
theorem newP384N (w : World) (ea : Addr) (hE : Eof w ea) : Calls Tryz.prog 85 #[.string { data := ([51, 57, 52, 48, 50, 48, 48, 54, 49, 57, 54, 51, 57, 52, 52, 55, 57, 50, 49, 50, 50, 55, 57, 48, 52, 48, 49, 48, 48, 49, 52, 51, 54, 49, 51, 56, 48, 53, 48, 55, 57, 55, 51, 57, 50, 55, 48, 52, 54, 53, 52, 52, 54, 54, 54, 55, 57, 52].append [54, 57, 48, 53, 50, 55, 57, 54, 50, 55, 54, 53, 57, 51, 57, 57, 49, 49, 51, 50, 54, 51, 53, 54, 57, 51, 57, 56, 57, 53, 54, 51, 48, 56, 49, 53, 50, 50, 57, 52, 57, 49, 51, 53, 53, 52, 52, 51, 51, 54, 53, 51, 57, 52, 50, 54, 52, 51]).toArray }] w (NewInt nP384N w) := by
  have h := dec_new strP384N (by kernel_rfl) w ea hE
  rw [show numOf 10 (dig10 strP384N) strP384N.size = nP384N by kernel_rfl] at h
  exact h
theorem newP384B (w : World) (ea : Addr) (hE : Eof w ea) : Calls Tryz.prog 86 #[.string { data := ([98, 51, 51, 49, 50, 102, 97, 55, 101, 50, 51, 101, 101, 55, 101, 52, 57, 56, 56, 101, 48, 53, 54, 98, 101, 51, 102, 56, 50, 100, 49, 57, 49, 56, 49, 100, 57, 99, 54, 101, 102, 101, 56, 49, 52, 49, 49, 50].append [48, 51, 49, 52, 48, 56, 56, 102, 53, 48, 49, 51, 56, 55, 53, 97, 99, 54, 53, 54, 51, 57, 56, 100, 56, 97, 50, 101, 100, 49, 57, 100, 50, 97, 56, 53, 99, 56, 101, 100, 100, 51, 101, 99, 50, 97, 101, 102]).toArray }] w (NewInt nP384B w) := by
  have h := hex_new strP384B (by kernel_rfl) w ea hE
  rw [show numOf 16 (dig16 strP384B) strP384B.size = nP384B by kernel_rfl] at h
  exact h
theorem newP384X (w : World) (ea : Addr) (hE : Eof w ea) : Calls Tryz.prog 86 #[.string { data := ([97, 97, 56, 55, 99, 97, 50, 50, 98, 101, 56, 98, 48, 53, 51, 55, 56, 101, 98, 49, 99, 55, 49, 101, 102, 51, 50, 48, 97, 100, 55, 52, 54, 101, 49, 100, 51, 98, 54, 50, 56, 98, 97, 55, 57, 98, 57, 56].append [53, 57, 102, 55, 52, 49, 101, 48, 56, 50, 53, 52, 50, 97, 51, 56, 53, 53, 48, 50, 102, 50, 53, 100, 98, 102, 53, 53, 50, 57, 54, 99, 51, 97, 53, 52, 53, 101, 51, 56, 55, 50, 55, 54, 48, 97, 98, 55]).toArray }] w (NewInt nP384X w) := by
  have h := hex_new strP384X (by kernel_rfl) w ea hE
  rw [show numOf 16 (dig16 strP384X) strP384X.size = nP384X by kernel_rfl] at h
  exact h
theorem newP384Y (w : World) (ea : Addr) (hE : Eof w ea) : Calls Tryz.prog 86 #[.string { data := ([51, 54, 49, 55, 100, 101, 52, 97, 57, 54, 50, 54, 50, 99, 54, 102, 53, 100, 57, 101, 57, 56, 98, 102, 57, 50, 57, 50, 100, 99, 50, 57, 102, 56, 102, 52, 49, 100, 98, 100, 50, 56, 57, 97, 49, 52, 55, 99].append [101, 57, 100, 97, 51, 49, 49, 51, 98, 53, 102, 48, 98, 56, 99, 48, 48, 97, 54, 48, 98, 49, 99, 101, 49, 100, 55, 101, 56, 49, 57, 100, 55, 97, 52, 51, 49, 100, 55, 99, 57, 48, 101, 97, 48, 101, 53, 102]).toArray }] w (NewInt nP384Y w) := by
  have h := hex_new strP384Y (by kernel_rfl) w ea hE
  rw [show numOf 16 (dig16 strP384Y) strP384Y.size = nP384Y by kernel_rfl] at h
  exact h

theorem curveP384 (w : World) (ea : Addr) (hE : Eof w ea) : Calls Tryz.prog 69 #[] w fun e w' => ∃ p, e = .returned (.pointer (some ⟨p, 0, none⟩)) ∧ CurveIs w' w.heap.size p 384 nP384P nP384N nP384B nP384X nP384Y ∧ Mod NoP w w' := by
  go_enter Tryz.func69, Tryz.ntmps69
  go_wp2_with fail
  refine (newP384P _ ea hE).mono ?_
  rintro e w1 ⟨rfl, i1, m1⟩
  have hE1 : Eof w1 ea := m1.cell_some hE fun h => h
  go_wp2_with fail
  refine (newP384N _ ea hE1).mono ?_
  rintro e w2 ⟨rfl, i2, m2⟩
  have hE2 : Eof w2 ea := m2.cell_some hE1 fun h => h
  have i12 := i1.mod m2 nop
  go_wp2_with fail
  refine (newP384B _ ea hE2).mono ?_
  rintro e w3 ⟨rfl, i3, m3⟩
  have hE3 : Eof w3 ea := m3.cell_some hE2 fun h => h
  have i13 := i12.mod m3 nop
  have i23 := i2.mod m3 nop
  go_wp2_with fail
  refine (newP384X _ ea hE3).mono ?_
  rintro e w4 ⟨rfl, i4, m4⟩
  have hE4 : Eof w4 ea := m4.cell_some hE3 fun h => h
  have i14 := i13.mod m4 nop
  have i24 := i23.mod m4 nop
  have i34 := i3.mod m4 nop
  go_wp2_with fail
  refine (newP384Y _ ea hE4).mono ?_
  rintro e w5 ⟨rfl, i5, m5⟩
  have s1 := m1.size
  have s2 := m2.size
  have s3 := m3.size
  have s4 := m4.size
  have s5 := m5.size
  have i15 := i14.mod m5 nop
  have i25 := i24.mod m5 nop
  have i35 := i34.mod m5 nop
  have i45 := i4.mod m5 nop
  clear i1 i12 i13 i14 i2 i23 i24 i3 i34 i4
  go_wp2_with fail
  go_ret
  have ma : ∀ o, Mod NoP w5 (w5.alloc o) := fun o => (Mod.refl NoP w5).alloc o
  refine ⟨_, rfl, ⟨_, _, _, _, _, _, heap_alloc_new _ _, by omega, ?_, ?_, ?_, ?_, ?_⟩, ((((m1.trans m2).trans m3).trans m4).trans m5).trans (ma _)⟩
  · exact (i15.mod (ma _) nop).lower (Nat.le_refl _)
  · exact (i25.mod (ma _) nop).lower (by omega)
  · exact (i35.mod (ma _) nop).lower (by omega)
  · exact (i45.mod (ma _) nop).lower (by omega)
  · exact (i5.mod (ma _) nop).lower (by omega)

def strP521P : ByteArray := { data := (([54, 56, 54, 52, 55, 57, 55, 54, 54, 48, 49, 51, 48, 54, 48, 57, 55, 49, 52, 57, 56, 49, 57, 48, 48, 55, 57, 57, 48, 56, 49, 51, 57, 51, 50, 49, 55, 50, 54].append [57, 52, 51, 53, 51, 48, 48, 49, 52, 51, 51, 48, 53, 52, 48, 57, 51, 57, 52, 52, 54, 51, 52, 53, 57, 49, 56, 53, 53, 52, 51, 49, 56, 51, 51, 57, 55, 54, 53]).append ([54, 48, 53, 50, 49, 50, 50, 53, 53, 57, 54, 52, 48, 54, 54, 49, 52, 53, 52, 53, 53, 52, 57, 55, 55, 50, 57, 54, 51, 49, 49, 51, 57, 49, 52, 56, 48, 56, 53].append [56, 48, 51, 55, 49, 50, 49, 57, 56, 55, 57, 57, 57, 55, 49, 54, 54, 52, 51, 56, 49, 50, 53, 55, 52, 48, 50, 56, 50, 57, 49, 49, 49, 53, 48, 53, 55, 49, 53, 49])).toArray }
def strP521N : ByteArray := { data := (([54, 56, 54, 52, 55, 57, 55, 54, 54, 48, 49, 51, 48, 54, 48, 57, 55, 49, 52, 57, 56, 49, 57, 48, 48, 55, 57, 57, 48, 56, 49, 51, 57, 51, 50, 49, 55, 50, 54].append [57, 52, 51, 53, 51, 48, 48, 49, 52, 51, 51, 48, 53, 52, 48, 57, 51, 57, 52, 52, 54, 51, 52, 53, 57, 49, 56, 53, 53, 52, 51, 49, 56, 51, 51, 57, 55, 54, 53]).append ([53, 51, 57, 52, 50, 52, 53, 48, 53, 55, 55, 52, 54, 51, 51, 51, 50, 49, 55, 49, 57, 55, 53, 51, 50, 57, 54, 51, 57, 57, 54, 51, 55, 49, 51, 54, 51, 51, 50].append [49, 49, 49, 51, 56, 54, 52, 55, 54, 56, 54, 49, 50, 52, 52, 48, 51, 56, 48, 51, 52, 48, 51, 55, 50, 56, 48, 56, 56, 57, 50, 55, 48, 55, 48, 48, 53, 52, 52, 57])).toArray }
def strP521B : ByteArray := { data := (([48, 48, 53, 49, 57, 53, 51, 101, 98, 57, 54, 49, 56, 101, 49, 99, 57, 97, 49, 102, 57, 50, 57, 97, 50, 49, 97, 48, 98, 54, 56, 53, 52].append [48, 101, 101, 97, 50, 100, 97, 55, 50, 53, 98, 57, 57, 98, 51, 49, 53, 102, 51, 98, 56, 98, 52, 56, 57, 57, 49, 56, 101, 102, 49, 48, 57]).append ([101, 49, 53, 54, 49, 57, 51, 57, 53, 49, 101, 99, 55, 101, 57, 51, 55, 98, 49, 54, 53, 50, 99, 48, 98, 100, 51, 98, 98, 49, 98, 102, 48].append [55, 51, 53, 55, 51, 100, 102, 56, 56, 51, 100, 50, 99, 51, 52, 102, 49, 101, 102, 52, 53, 49, 102, 100, 52, 54, 98, 53, 48, 51, 102, 48, 48])).toArray }
def strP521X : ByteArray := { data := (([48, 48, 99, 54, 56, 53, 56, 101, 48, 54, 98, 55, 48, 52, 48, 52, 101, 57, 99, 100, 57, 101, 51, 101, 99, 98, 54, 54, 50, 51, 57, 53, 98].append [52, 52, 50, 57, 99, 54, 52, 56, 49, 51, 57, 48, 53, 51, 102, 98, 53, 50, 49, 102, 56, 50, 56, 97, 102, 54, 48, 54, 98, 52, 100, 51, 100]).append ([98, 97, 97, 49, 52, 98, 53, 101, 55, 55, 101, 102, 101, 55, 53, 57, 50, 56, 102, 101, 49, 100, 99, 49, 50, 55, 97, 50, 102, 102, 97, 56, 100].append [101, 51, 51, 52, 56, 98, 51, 99, 49, 56, 53, 54, 97, 52, 50, 57, 98, 102, 57, 55, 101, 55, 101, 51, 49, 99, 50, 101, 53, 98, 100, 54, 54])).toArray }
def strP521Y : ByteArray := { data := (([48, 49, 49, 56, 51, 57, 50, 57, 54, 97, 55, 56, 57, 97, 51, 98, 99, 48, 48, 52, 53, 99, 56, 97, 53, 102, 98, 52, 50, 99, 55, 100, 49].append [98, 100, 57, 57, 56, 102, 53, 52, 52, 52, 57, 53, 55, 57, 98, 52, 52, 54, 56, 49, 55, 97, 102, 98, 100, 49, 55, 50, 55, 51, 101, 54, 54]).append ([50, 99, 57, 55, 101, 101, 55, 50, 57, 57, 53, 101, 102, 52, 50, 54, 52, 48, 99, 53, 53, 48, 98, 57, 48, 49, 51, 102, 97, 100, 48, 55, 54].append [49, 51, 53, 51, 99, 55, 48, 56, 54, 97, 50, 55, 50, 99, 50, 52, 48, 56, 56, 98, 101, 57, 52, 55, 54, 57, 102, 100, 49, 54, 54, 53, 48])).toArray }
def nP521P : Nat := 6864797660130609714981900799081393217269435300143305409394463459185543183397656052122559640661454554977296311391480858037121987999716643812574028291115057151
def nP521N : Nat := 6864797660130609714981900799081393217269435300143305409394463459185543183397655394245057746333217197532963996371363321113864768612440380340372808892707005449
def nP521B : Nat := 1093849038073734274511112390766805569936207598951683748994586394495953116150735016013708737573759623248592132296706313309438452531591012912142327488478985984
def nP521X : Nat := 2661740802050217063228768716723360960729859168756973147706671368418802944996427808491545080627771902352094241225065558662157113545570916814161637315895999846
def nP521Y : Nat := 3757180025770020463545507224491183603594455134769762486694567779615544477440556316691234405012945539562144444537289428522585666729196580810124344277578376784
theorem newP521P (w : World) (ea : Addr) (hE : Eof w ea) : Calls Tryz.prog 85 #[.string { data := (([54, 56, 54, 52, 55, 57, 55, 54, 54, 48, 49, 51, 48, 54, 48, 57, 55, 49, 52, 57, 56, 49, 57, 48, 48, 55, 57, 57, 48, 56, 49, 51, 57, 51, 50, 49, 55, 50, 54].append [57, 52, 51, 53, 51, 48, 48, 49, 52, 51, 51, 48, 53, 52, 48, 57, 51, 57, 52, 52, 54, 51, 52, 53, 57, 49, 56, 53, 53, 52, 51, 49, 56, 51, 51, 57, 55, 54, 53]).append ([54, 48, 53, 50, 49, 50, 50, 53, 53, 57, 54, 52, 48, 54, 54, 49, 52, 53, 52, 53, 53, 52, 57, 55, 55, 50, 57, 54, 51, 49, 49, 51, 57, 49, 52, 56, 48, 56, 53].append [56, 48, 51, 55, 49, 50, 49, 57, 56, 55, 57, 57, 57, 55, 49, 54, 54, 52, 51, 56, 49, 50, 53, 55, 52, 48, 50, 56, 50, 57, 49, 49, 49, 53, 48, 53, 55, 49, 53, 49])).toArray }] w (NewInt nP521P w) := by
  have h := dec_new strP521P (by kernel_rfl) w ea hE
  rw [show numOf 10 (dig10 strP521P) strP521P.size = nP521P by kernel_rfl] at h
  exact h
theorem newP521N (w : World) (ea : Addr) (hE : Eof w ea) : Calls Tryz.prog 85 #[.string { data := (([54, 56, 54, 52, 55, 57, 55, 54, 54, 48, 49, 51, 48, 54, 48, 57, 55, 49, 52, 57, 56, 49, 57, 48, 48, 55, 57, 57, 48, 56, 49, 51, 57, 51, 50, 49, 55, 50, 54].append [57, 52, 51, 53, 51, 48, 48, 49, 52, 51, 51, 48, 53, 52, 48, 57, 51, 57, 52, 52, 54, 51, 52, 53, 57, 49, 56, 53, 53, 52, 51, 49, 56, 51, 51, 57, 55, 54, 53]).append ([53, 51, 57, 52, 50, 52, 53, 48, 53, 55, 55, 52, 54, 51, 51, 51, 50, 49, 55, 49, 57, 55, 53, 51, 50, 57, 54, 51, 57, 57, 54, 51, 55, 49, 51, 54, 51, 51, 50].append [49, 49, 49, 51, 56, 54, 52, 55, 54, 56, 54, 49, 50, 52, 52, 48, 51, 56, 48, 51, 52, 48, 51, 55, 50, 56, 48, 56, 56, 57, 50, 55, 48, 55, 48, 48, 53, 52, 52, 57])).toArray }] w (NewInt nP521N w) := by
  have h := dec_new strP521N (by kernel_rfl) w ea hE
  rw [show numOf 10 (dig10 strP521N) strP521N.size = nP521N by kernel_rfl] at h
  exact h
theorem newP521B (w : World) (ea : Addr) (hE : Eof w ea) : Calls Tryz.prog 86 #[.string { data := (([48, 48, 53, 49, 57, 53, 51, 101, 98, 57, 54, 49, 56, 101, 49, 99, 57, 97, 49, 102, 57, 50, 57, 97, 50, 49, 97, 48, 98, 54, 56, 53, 52].append [48, 101, 101, 97, 50, 100, 97, 55, 50, 53, 98, 57, 57, 98, 51, 49, 53, 102, 51, 98, 56, 98, 52, 56, 57, 57, 49, 56, 101, 102, 49, 48, 57]).append ([101, 49, 53, 54, 49, 57, 51, 57, 53, 49, 101, 99, 55, 101, 57, 51, 55, 98, 49, 54, 53, 50, 99, 48, 98, 100, 51, 98, 98, 49, 98, 102, 48].append [55, 51, 53, 55, 51, 100, 102, 56, 56, 51, 100, 50, 99, 51, 52, 102, 49, 101, 102, 52, 53, 49, 102, 100, 52, 54, 98, 53, 48, 51, 102, 48, 48])).toArray }] w (NewInt nP521B w) := by
  have h := hex_new strP521B (by kernel_rfl) w ea hE
  rw [show numOf 16 (dig16 strP521B) strP521B.size = nP521B by kernel_rfl] at h
  exact h
theorem newP521X (w : World) (ea : Addr) (hE : Eof w ea) : Calls Tryz.prog 86 #[.string { data := (([48, 48, 99, 54, 56, 53, 56, 101, 48, 54, 98, 55, 48, 52, 48, 52, 101, 57, 99, 100, 57, 101, 51, 101, 99, 98, 54, 54, 50, 51, 57, 53, 98].append [52, 52, 50, 57, 99, 54, 52, 56, 49, 51, 57, 48, 53, 51, 102, 98, 53, 50, 49, 102, 56, 50, 56, 97, 102, 54, 48, 54, 98, 52, 100, 51, 100]).append ([98, 97, 97, 49, 52, 98, 53, 101, 55, 55, 101, 102, 101, 55, 53, 57, 50, 56, 102, 101, 49, 100, 99, 49, 50, 55, 97, 50, 102, 102, 97, 56, 100].append [101, 51, 51, 52, 56, 98, 51, 99, 49, 56, 53, 54, 97, 52, 50, 57, 98, 102, 57, 55, 101, 55, 101, 51, 49, 99, 50, 101, 53, 98, 100, 54, 54])).toArray }] w (NewInt nP521X w) := by
  have h := hex_new strP521X (by kernel_rfl) w ea hE
  rw [show numOf 16 (dig16 strP521X) strP521X.size = nP521X by kernel_rfl] at h
  exact h
theorem newP521Y (w : World) (ea : Addr) (hE : Eof w ea) : Calls Tryz.prog 86 #[.string { data := (([48, 49, 49, 56, 51, 57, 50, 57, 54, 97, 55, 56, 57, 97, 51, 98, 99, 48, 48, 52, 53, 99, 56, 97, 53, 102, 98, 52, 50, 99, 55, 100, 49].append [98, 100, 57, 57, 56, 102, 53, 52, 52, 52, 57, 53, 55, 57, 98, 52, 52, 54, 56, 49, 55, 97, 102, 98, 100, 49, 55, 50, 55, 51, 101, 54, 54]).append ([50, 99, 57, 55, 101, 101, 55, 50, 57, 57, 53, 101, 102, 52, 50, 54, 52, 48, 99, 53, 53, 48, 98, 57, 48, 49, 51, 102, 97, 100, 48, 55, 54].append [49, 51, 53, 51, 99, 55, 48, 56, 54, 97, 50, 55, 50, 99, 50, 52, 48, 56, 56, 98, 101, 57, 52, 55, 54, 57, 102, 100, 49, 54, 54, 53, 48])).toArray }] w (NewInt nP521Y w) := by
  have h := hex_new strP521Y (by kernel_rfl) w ea hE
  rw [show numOf 16 (dig16 strP521Y) strP521Y.size = nP521Y by kernel_rfl] at h
  exact h

theorem curveP521 (w : World) (ea : Addr) (hE : Eof w ea) : Calls Tryz.prog 71 #[] w fun e w' => ∃ p, e = .returned (.pointer (some ⟨p, 0, none⟩)) ∧ CurveIs w' w.heap.size p 521 nP521P nP521N nP521B nP521X nP521Y ∧ Mod NoP w w' := by
  go_enter Tryz.func71, Tryz.ntmps71
  go_wp2_with fail
  refine (newP521P _ ea hE).mono ?_
  rintro e w1 ⟨rfl, i1, m1⟩
  have hE1 : Eof w1 ea := m1.cell_some hE fun h => h
  go_wp2_with fail
  refine (newP521N _ ea hE1).mono ?_
  rintro e w2 ⟨rfl, i2, m2⟩
  have hE2 : Eof w2 ea := m2.cell_some hE1 fun h => h
  have i12 := i1.mod m2 nop
  go_wp2_with fail
  refine (newP521B _ ea hE2).mono ?_
  rintro e w3 ⟨rfl, i3, m3⟩
  have hE3 : Eof w3 ea := m3.cell_some hE2 fun h => h
  have i13 := i12.mod m3 nop
  have i23 := i2.mod m3 nop
  go_wp2_with fail
  refine (newP521X _ ea hE3).mono ?_
  rintro e w4 ⟨rfl, i4, m4⟩
  have hE4 : Eof w4 ea := m4.cell_some hE3 fun h => h
  have i14 := i13.mod m4 nop
  have i24 := i23.mod m4 nop
  have i34 := i3.mod m4 nop
  go_wp2_with fail
  refine (newP521Y _ ea hE4).mono ?_
  rintro e w5 ⟨rfl, i5, m5⟩
  have s1 := m1.size
  have s2 := m2.size
  have s3 := m3.size
  have s4 := m4.size
  have s5 := m5.size
  have i15 := i14.mod m5 nop
  have i25 := i24.mod m5 nop
  have i35 := i34.mod m5 nop
  have i45 := i4.mod m5 nop
  clear i1 i12 i13 i14 i2 i23 i24 i3 i34 i4
  go_wp2_with fail
  go_ret
  have ma : ∀ o, Mod NoP w5 (w5.alloc o) := fun o => (Mod.refl NoP w5).alloc o
  refine ⟨_, rfl, ⟨_, _, _, _, _, _, heap_alloc_new _ _, by omega, ?_, ?_, ?_, ?_, ?_⟩, ((((m1.trans m2).trans m3).trans m4).trans m5).trans (ma _)⟩
  · exact (i15.mod (ma _) nop).lower (Nat.le_refl _)
  · exact (i25.mod (ma _) nop).lower (by omega)
  · exact (i35.mod (ma _) nop).lower (by omega)
  · exact (i45.mod (ma _) nop).lower (by omega)
  · exact (i5.mod (ma _) nop).lower (by omega)

end Go.Proofs.YtpfmbfkhjapbbaaGreatDoor
