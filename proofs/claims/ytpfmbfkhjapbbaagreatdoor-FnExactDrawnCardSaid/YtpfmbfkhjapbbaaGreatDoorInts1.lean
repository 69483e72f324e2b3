/-
  big's Int: Sign, SetUint64, Sub, Cmp. Conditions: normal numbers of at most 10^6 words; Sub: the signs are +, the second is no more than the first.
-/
import Derived.Test.YtpfmbfkhjapbbaaGreatDoorNats3
import Derived.Test.YtpfmbfkhjapbbaaGreatDoorCurves
set_option linter.unusedVariables false
set_option linter.unusedSimpArgs false
namespace Go.Proofs.YtpfmbfkhjapbbaaGreatDoor
open Go Go.RowKit

/-- The places of an Int: its own block and its words' block. -/
def IntP (p : Nat) (a : Option Addr) : Places := fun k o => k = p ∨ BlkOf a k o

/-- What a function returns that sets the Int p to (neg, v). -/
def IntRet (w : World) (p : Nat) (a : Option Addr) (neg : Bool) (v : Nat) (e : Ending) (w' : World) : Prop :=
  e = .returned (.pointer (some ⟨p, 0, none⟩)) ∧ ∃ a' n c f, IntIs w' p neg a' n c f v ∧ Mod (IntP p a) w w' ∧ (a' = a ∨ Fresh w a')

theorem IntIs.c0 {w : World} {p n c m : Nat} {neg : Bool} {a : Option Addr} {f : Nat → Nat} (h : IntIs w p neg a n c f m) : w.cell? ⟨p, 0, none⟩ = some (.bool neg) := by rw [cell?_of_heap h.cells]; rfl
theorem IntIs.c1 {w : World} {p n c m : Nat} {neg : Bool} {a : Option Addr} {f : Nat → Nat} (h : IntIs w p neg a n c f m) : w.cell? ⟨p, 1, none⟩ = some (.slice a n c) := by rw [cell?_of_heap h.cells]; rfl

theorem IntIs.offP {w : World} {p n c m : Nat} {neg : Bool} {a : Option Addr} {f : Nat → Nat} (h : IntIs w p neg a n c f m) : ∀ o, ¬ BlkOf a p o := fun o ⟨A, hA, hp⟩ => h.apart A hA hp

theorem set2 {w : World} {p : Nat} {x y : Value} {t : TypeId} (h : w.heap[p]? = some (.cells #[x, y] t (0, 0))) (u v : Value) : ((w.setCell ⟨p, 1, none⟩ v).setCell ⟨p, 0, none⟩ u).heap[p]? = some (.cells #[u, v] t (0, 0)) := by
  rw [heap_set (heap_set h 1 v) 0 u]; rfl
theorem set2' {w : World} {p : Nat} {x y : Value} {t : TypeId} (h : w.heap[p]? = some (.cells #[x, y] t (0, 0))) (v : Value) : (w.setCell ⟨p, 1, none⟩ v).heap[p]? = some (.cells #[x, v] t (0, 0)) := by
  rw [heap_set h 1 v]; rfl

theorem apart_of {w : World} {p : Nat} {a a' : Option Addr} (hp : p < w.heap.size) (h : ∀ A, a = some A → A.block ≠ p) (hf : a' = a ∨ Fresh w a') : ∀ A, a' = some A → A.block ≠ p := by
  intro A hA
  rcases hf with rfl | ⟨k, e, hk⟩
  · exact h A hA
  · have h5 : A.block = k := congrArg Addr.block (Option.some.inj (hA.symm.trans e))
    omega

/-- A nat has been made for z; the walk stores it and the sign. -/
theorem IntRet.mk {w w1 : World} {p : Nat} {x y : Value} {a a' : Option Addr} {n c v : Nat} {f : Nat → Nat} {neg : Bool} {m : Mod (BlkOf a) w w1}
    (hp : w1.heap[p]? = some (.cells #[x, y] 51 (0, 0))) (hlt : p < w.heap.size) (ha : ∀ A, a = some A → A.block ≠ p) (hN : NatIs w1 a' n c f v) (hf : a' = a ∨ Fresh w a') :
    IntRet w p a neg v (.returned (.pointer (some ⟨p, 0, none⟩))) ((w1.setCell ⟨p, 1, none⟩ (.slice a' n c)).setCell ⟨p, 0, none⟩ (.bool neg)) := by
  have hap := apart_of hlt ha hf
  have hmm : Mod (InB p) w1 ((w1.setCell ⟨p, 1, none⟩ (.slice a' n c)).setCell ⟨p, 0, none⟩ (.bool neg)) := (mod_own w1 p 1 _).trans (mod_own _ p 0 _)
  refine ⟨rfl, a', n, c, f, ⟨set2 hp _ _, hN.mod hmm fun A hA o h => hap A hA h, hap⟩, ?_, hf⟩
  exact (m.mono fun _ _ _ h => .inr h).trans (hmm.mono fun _ _ _ h => .inl h)

theorem sign_any (p n c m : Nat) (neg : Bool) (a : Option Addr) (f : Nat → Nat) (w : World) (hI : IntIs w p neg a n c f m) (hm : 0 < m) :
    Calls Tryz.prog 104 #[.pointer (some ⟨p, 0, none⟩)] w fun e w' => e = .returned (.int .i64 (if neg then -1 else 1)) ∧ w' = w := by
  have h0 := hI.c0
  have h1 := hI.c1
  have hb0 : ((n : Int) == 0) = false := by
    have := hI.num.zero_iff
    simp; omega
  clear hI
  cases neg <;>
  · go_enter Tryz.func104, Tryz.ntmps104
    go_wp2_with fail
    go_ret
    exact ⟨rfl, rfl⟩

theorem setU64_any (a : Option Addr) (n c x : Nat) (w : World) (f : Nat → Nat) (hA : Arr w a c f) (hn : n ≤ c) (hx : x < B64) :
    Calls Tryz.prog 87 #[.slice a n c, U x] w (NatRet w a x) := by
  have HS := Lib.hid (setWord_any a n c x w f hA hn hx)
  clear hA
  go_enter Tryz.func87, Tryz.ntmps87
  go_wp2_with fail
  refine HS.out.mono ?_
  rintro e w1 ⟨a', n', c', f', rfl, h1, h2, h3⟩
  have H1 := Lib.hid h1
  clear h1
  go_wp2_with fail
  go_ret
  exact .mk H1.out h2 h3

set_option maxHeartbeats 400000 in
theorem intSetUint64_any (p n c m x : Nat) (neg : Bool) (a : Option Addr) (f : Nat → Nat) (w : World) (hI : IntIs w p neg a n c f m) (hx : x < B64) :
    Calls Tryz.prog 133 #[.pointer (some ⟨p, 0, none⟩), U x] w (IntRet w p a false x) := by
  have h1 := hI.c1
  have HS := Lib.hid (setU64_any a n c x w f hI.num.arr hI.num.le hx)
  have HI := Lib.hid hI
  clear hI
  go_enter Tryz.func133, Tryz.ntmps133
  go_wp2_with fail
  refine HS.out.mono ?_
  rintro e w1 ⟨a', n', c', f', rfl, hN, hm, hf⟩
  have hp : w1.heap[p]? = some (.cells #[.bool neg, .slice a n c] 51 (0, 0)) := by rw [hm.heap (lt_of_heap HI.out.cells) HI.out.offP, HI.out.cells]
  have e0 : w1.cell? ⟨p, 0, none⟩ = some (.bool neg) := by rw [cell?_of_heap hp]; rfl
  have e1 : w1.cell? ⟨p, 1, none⟩ = some (.slice a n c) := by rw [cell?_of_heap hp]; rfl
  have f0 := free_of_heap hp 0
  have f1 := free_of_heap hp 1
  have HN := Lib.hid hN
  have HP := Lib.hid hp
  clear hN hp h1
  go_wp2_with fail
  go_ret
  exact IntRet.mk (m := hm) HP.out (lt_of_heap HI.out.cells) HI.out.apart HN.out hf
end Go.Proofs.YtpfmbfkhjapbbaaGreatDoor
