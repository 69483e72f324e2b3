/-
  A row's argument that is a slice: its length is within its capacity. No condition.
-/
import Derived.Test.YtpfmbfkhjapbbaaGreatDoorRowArgs
set_option linter.unusedVariables false
namespace Go.Proofs.YtpfmbfkhjapbbaaGreatDoor
open Go Go.ChangeShapes Go.WideShapes Go.ChangeAt Go.RowKit

set_option maxRecDepth 100000 in
theorem slice_len {W : World} {r : Reach} {b0 : Nat} {a : Option Addr} {n c : Nat} {f : Nat → Nat} (hval : Value.okWide Tryz.prog W r b0 22 (.slice a n c)) (hX : BSl W a n f) : n ≤ c := by
  unfold Value.okWide Cell.okWide at hval
  simp only [Tryz.underlying22] at hval
  unfold Cell.ok at hval
  simp only [Tryz.underlying22] at hval
  cases a with
  | none =>
    rcases hX with ⟨_, h⟩ | ⟨b, o, h, _⟩
    · omega
    · cases h
  | some A => exact hval.1
end Go.Proofs.YtpfmbfkhjapbbaaGreatDoor
