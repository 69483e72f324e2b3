/-
  laws.FnExactMap: its tied card. The row: FnExactMapRow.
-/
import Derived.Test.YtpfmbfkhjapbbaaGreatDoorCards
import Derived.Test.YtpfmbfkhjapbbaaGreatDoorTie
import Derived.Test.YtpfmbfkhjapbbaaGreatDoorFnExactMapRow
set_option linter.unusedVariables false
namespace Go.Proofs.YtpfmbfkhjapbbaaGreatDoor.fnExactMap
open Go Go.ChangeShapes Go.WideShapes Go.ChangeAt Go.RowKit
theorem byText:Rows.fnExactMapRow.wfByText (OpenSpec.ofChange Rows.fnExactMapSpec)=true:=by kernel_rfl
theorem main:Tryz.pinned.checked.prog.mainIs=some (true, "50ea38fbdd6c64e79d212abaa3a8c9a6e0990520e33b47fc5098aeefc4b0dbaf".toList):=by kernel_rfl
theorem goes:false=Rows.fnExactMapRow.goesBy Tryz.pinned.checked.prog:=by kernel_rfl
theorem card:Rows.FnExactMapCardSaid :=
  Claim7.holds_tied_plain_at .later [] _ _ _ _ said (fun _ h=>by cases h) byText (fun _ h=>by cases h) fnExactMap_row_tie rfl ⟨rfl,rfl⟩ main rfl plain goes
end Go.Proofs.YtpfmbfkhjapbbaaGreatDoor.fnExactMap
