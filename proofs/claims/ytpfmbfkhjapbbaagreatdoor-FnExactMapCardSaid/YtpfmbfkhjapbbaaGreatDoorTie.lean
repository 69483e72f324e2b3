/-
  DERIVED. GIVEN WITH THE SEED: THE PROGRAM's TIES (one call each: nine closed facts by the kernel) AND EACH ROW's TIE, after the 31st guide's Derived/Test/Toyas{Tie, Card}.lean. No idea stands in it: it is a product of the set-up. Laid BY PROGRAM, IN A SANDBOX (cutbox-door.mjs). By AI agents, Wed Nov 11 2026. No macro, syntax, notation, axiom, sorry.
-/
import Derived.Test.YtpfmbfkhjapbbaaGreatDoorRows
import Derived.LaidByTextLater
import Derived.SevenTiedAt
import Derived.LaidSub
import Derived.LaidOnce
namespace Go.Proofs.YtpfmbfkhjapbbaaGreatDoor
open Go
set_option maxRecDepth 100000
theorem seatTie1 : Tryz.prog.laidByTextLater [("math/bits.deBruijn32tab", Rows.laid_math_bits_deBruijn32tab), ("math/bits.deBruijn64tab", Rows.laid_math_bits_deBruijn64tab), ("io.EOF", Rows.laid_io_EOF), ("loop.example/pub-pointsofhashes/pub/bigall.errNoDigits", Rows.laid_loop_example_pub_pointsofhashes_pub_bigall_errNoDigits), ("loop.example/pub-pointsofhashes/pub/bigall.errInvalSep", Rows.laid_loop_example_pub_pointsofhashes_pub_bigall_errInvalSep), ("loop.example/pub-pointsofhashes/pub/bigall.divRecursiveThreshold", Rows.laid_loop_example_pub_pointsofhashes_pub_bigall_divRecursiveThreshold), ("loop.example/pub-pointsofhashes/pub/bigall.karatsubaThreshold", Rows.laid_loop_example_pub_pointsofhashes_pub_bigall_karatsubaThreshold), ("loop.example/pub-pointsofhashes/pub/bigall.basicSqrThreshold", Rows.laid_loop_example_pub_pointsofhashes_pub_bigall_basicSqrThreshold), ("loop.example/pub-pointsofhashes/pub/bigall.karatsubaSqrThreshold", Rows.laid_loop_example_pub_pointsofhashes_pub_bigall_karatsubaSqrThreshold)] [.data, .data, .sentinel, .sentinel, .sentinel, .data, .data, .data, .data] true :=
  Program.laidByTextLater_by_one 92 8 65 (by kernel_rfl) (by kernel_rfl) (by kernel_rfl) (by kernel_rfl) (by kernel_rfl) (by kernel_rfl) (fun _ _ => by kernel_rfl)
theorem noOwnUnsafe : Tryz.pinned.checked.prog.headLifts.contains "ownunsafe" = false := by kernel_rfl
theorem tie : Tryz.prog.laidByTextLater [("io.EOF", Rows.laid_io_EOF), ("loop.example/pub-pointsofhashes/pub/bigall.errNoDigits", Rows.laid_loop_example_pub_pointsofhashes_pub_bigall_errNoDigits), ("loop.example/pub-pointsofhashes/pub/bigall.errInvalSep", Rows.laid_loop_example_pub_pointsofhashes_pub_bigall_errInvalSep)] [.sentinel, .sentinel, .sentinel] true :=
  Program.laidByTextLater.sub seatTie1 ["io.EOF", "loop.example/pub-pointsofhashes/pub/bigall.errNoDigits", "loop.example/pub-pointsofhashes/pub/bigall.errInvalSep"] (by kernel_rfl) (by kernel_rfl)
theorem fnExactReduced_row_tie : Rows.fnExactReducedRow.laidByTextAt .later Tryz.pinned [.sentinel, .sentinel, .sentinel] true :=
  OpenClaim.laidByTextAt_later rfl rfl tie noOwnUnsafe
theorem fnExactDrawn_row_tie : Rows.fnExactDrawnRow.laidByTextAt .later Tryz.pinned [.sentinel, .sentinel, .sentinel] true :=
  OpenClaim.laidByTextAt_later rfl rfl tie noOwnUnsafe
theorem fnExactNumber_row_tie : Rows.fnExactNumberRow.laidByTextAt .later Tryz.pinned [.sentinel, .sentinel, .sentinel] true :=
  OpenClaim.laidByTextAt_later rfl rfl tie noOwnUnsafe
theorem fnScalarBack_row_tie : Rows.fnScalarBackRow.laidByTextAt .later Tryz.pinned [.sentinel, .sentinel, .sentinel] true :=
  OpenClaim.laidByTextAt_later rfl rfl tie noOwnUnsafe
theorem fnExactReadScalar_row_tie : Rows.fnExactReadScalarRow.laidByTextAt .later Tryz.pinned [.sentinel, .sentinel, .sentinel] true :=
  OpenClaim.laidByTextAt_later rfl rfl tie noOwnUnsafe
theorem fnExactChooseScalar_row_tie : Rows.fnExactChooseScalarRow.laidByTextAt .later Tryz.pinned [.sentinel, .sentinel, .sentinel] true :=
  OpenClaim.laidByTextAt_later rfl rfl tie noOwnUnsafe
theorem fnExactScalar_row_tie : Rows.fnExactScalarRow.laidByTextAt .later Tryz.pinned [.sentinel, .sentinel, .sentinel] true :=
  OpenClaim.laidByTextAt_later rfl rfl tie noOwnUnsafe
theorem tie2 : Tryz.prog.laidByTextLater [("math/bits.deBruijn32tab", Rows.laid_math_bits_deBruijn32tab), ("math/bits.deBruijn64tab", Rows.laid_math_bits_deBruijn64tab), ("io.EOF", Rows.laid_io_EOF), ("loop.example/pub-pointsofhashes/pub/bigall.errNoDigits", Rows.laid_loop_example_pub_pointsofhashes_pub_bigall_errNoDigits), ("loop.example/pub-pointsofhashes/pub/bigall.errInvalSep", Rows.laid_loop_example_pub_pointsofhashes_pub_bigall_errInvalSep), ("loop.example/pub-pointsofhashes/pub/bigall.divRecursiveThreshold", Rows.laid_loop_example_pub_pointsofhashes_pub_bigall_divRecursiveThreshold), ("loop.example/pub-pointsofhashes/pub/bigall.karatsubaThreshold", Rows.laid_loop_example_pub_pointsofhashes_pub_bigall_karatsubaThreshold), ("loop.example/pub-pointsofhashes/pub/bigall.basicSqrThreshold", Rows.laid_loop_example_pub_pointsofhashes_pub_bigall_basicSqrThreshold), ("loop.example/pub-pointsofhashes/pub/bigall.karatsubaSqrThreshold", Rows.laid_loop_example_pub_pointsofhashes_pub_bigall_karatsubaSqrThreshold)] [.data, .data, .sentinel, .sentinel, .sentinel, .data, .data, .data, .data] true :=
  Program.laidByTextLater.sub seatTie1 ["math/bits.deBruijn32tab", "math/bits.deBruijn64tab", "io.EOF", "loop.example/pub-pointsofhashes/pub/bigall.errNoDigits", "loop.example/pub-pointsofhashes/pub/bigall.errInvalSep", "loop.example/pub-pointsofhashes/pub/bigall.divRecursiveThreshold", "loop.example/pub-pointsofhashes/pub/bigall.karatsubaThreshold", "loop.example/pub-pointsofhashes/pub/bigall.basicSqrThreshold", "loop.example/pub-pointsofhashes/pub/bigall.karatsubaSqrThreshold"] (by kernel_rfl) (by kernel_rfl)
theorem fnExactMap_row_tie : Rows.fnExactMapRow.laidByTextAt .later Tryz.pinned [.data, .data, .sentinel, .sentinel, .sentinel, .data, .data, .data, .data] true :=
  OpenClaim.laidByTextAt_later rfl rfl tie2 noOwnUnsafe
theorem fnExactReducedUpto_row_tie : Rows.fnExactReducedUptoRow.laidByTextAt .later Tryz.pinned [.sentinel, .sentinel, .sentinel] true :=
  OpenClaim.laidByTextAt_later rfl rfl tie noOwnUnsafe
theorem fnExactDrawnUpto_row_tie : Rows.fnExactDrawnUptoRow.laidByTextAt .later Tryz.pinned [.sentinel, .sentinel, .sentinel] true :=
  OpenClaim.laidByTextAt_later rfl rfl tie noOwnUnsafe
theorem fnExactNumberUpto_row_tie : Rows.fnExactNumberUptoRow.laidByTextAt .later Tryz.pinned [.sentinel, .sentinel, .sentinel] true :=
  OpenClaim.laidByTextAt_later rfl rfl tie noOwnUnsafe
theorem fnExactMapUpto_row_tie : Rows.fnExactMapUptoRow.laidByTextAt .later Tryz.pinned [.data, .data, .sentinel, .sentinel, .sentinel, .data, .data, .data, .data] true :=
  OpenClaim.laidByTextAt_later rfl rfl tie2 noOwnUnsafe
theorem fnScalarBackUpto_row_tie : Rows.fnScalarBackUptoRow.laidByTextAt .later Tryz.pinned [.sentinel, .sentinel, .sentinel] true :=
  OpenClaim.laidByTextAt_later rfl rfl tie noOwnUnsafe
theorem fnExactReadScalarUpto_row_tie : Rows.fnExactReadScalarUptoRow.laidByTextAt .later Tryz.pinned [.sentinel, .sentinel, .sentinel] true :=
  OpenClaim.laidByTextAt_later rfl rfl tie noOwnUnsafe
theorem fnExactChooseScalarUpto_row_tie : Rows.fnExactChooseScalarUptoRow.laidByTextAt .later Tryz.pinned [.sentinel, .sentinel, .sentinel] true :=
  OpenClaim.laidByTextAt_later rfl rfl tie noOwnUnsafe
theorem fnExactScalarUpto_row_tie : Rows.fnExactScalarUptoRow.laidByTextAt .later Tryz.pinned [.sentinel, .sentinel, .sentinel] true :=
  OpenClaim.laidByTextAt_later rfl rfl tie noOwnUnsafe
end Go.Proofs.YtpfmbfkhjapbbaaGreatDoor
