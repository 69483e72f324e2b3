/-
  DERIVED. GIVEN WITH THE SEED: THE CARDS: each row of YtpfmbfkhjapbbaaGreatDoorRows.lean that lists a variable, with what it lists TIED to the program's text (the seventh form; the later family's looks); each row that meets fmt, with fmt's text TOLD by the authors' own Lean function (tested against real Go, not proved from fmt's source: count such statements apart). THE CARD IS WHAT COUNTS. Prove the row's statement (the work); the ties are given (YtpfmbfkhjapbbaaGreatDoorTie.lean); close each card by the builder's one call (the guide's Derived/Test/ToyasCard.lean, 'card_holds'). Laid BY PROGRAM, IN A SANDBOX (cutbox-door.mjs). By AI agents, Wed Nov 11 2026. No macro, syntax, notation, axiom, sorry.
-/
import Derived.Test.YtpfmbfkhjapbbaaGreatDoorRows
import GoSem.ClaimSeven
namespace Go.Proofs.YtpfmbfkhjapbbaaGreatDoor
namespace Rows

/-- THE TIED CARD OF 'laws.FnExactReduced'. -/
def fnExactReducedCard : Claim7 := { stood := { row := fnExactReducedRow, standIns := [], harness := (true, "50ea38fbdd6c64e79d212abaa3a8c9a6e0990520e33b47fc5098aeefc4b0dbaf"), looks := true }, kinds := [], alts := [], laidByText := true, laidKinds := [.sentinel, .sentinel, .sentinel], laidTests := true, laidLooks := .later }
def FnExactReducedCardSaid : Prop := Claim7.holds Tryz.pinned (.plain (OpenSpec.ofChange fnExactReducedSpec)) fnExactReducedCard

/-- THE TIED CARD OF 'laws.FnExactDrawn'. -/
def fnExactDrawnCard : Claim7 := { stood := { row := fnExactDrawnRow, standIns := [], harness := (true, "50ea38fbdd6c64e79d212abaa3a8c9a6e0990520e33b47fc5098aeefc4b0dbaf"), looks := true }, kinds := [], alts := [], laidByText := true, laidKinds := [.sentinel, .sentinel, .sentinel], laidTests := true, laidLooks := .later }
def FnExactDrawnCardSaid : Prop := Claim7.holds Tryz.pinned (.plain (OpenSpec.ofChange fnExactDrawnSpec)) fnExactDrawnCard

/-- THE TIED CARD OF 'laws.FnExactNumber'. -/
def fnExactNumberCard : Claim7 := { stood := { row := fnExactNumberRow, standIns := [], harness := (true, "50ea38fbdd6c64e79d212abaa3a8c9a6e0990520e33b47fc5098aeefc4b0dbaf"), looks := true }, kinds := [], alts := [], laidByText := true, laidKinds := [.sentinel, .sentinel, .sentinel], laidTests := true, laidLooks := .later }
def FnExactNumberCardSaid : Prop := Claim7.holds Tryz.pinned (.plain (OpenSpec.ofChange fnExactNumberSpec)) fnExactNumberCard

/-- THE TIED CARD OF 'laws.FnExactMap'. -/
def fnExactMapCard : Claim7 := { stood := { row := fnExactMapRow, standIns := [], harness := (true, "50ea38fbdd6c64e79d212abaa3a8c9a6e0990520e33b47fc5098aeefc4b0dbaf"), looks := true }, kinds := [], alts := [], laidByText := true, laidKinds := [.data, .data, .sentinel, .sentinel, .sentinel, .data, .data, .data, .data], laidTests := true, laidLooks := .later }
def FnExactMapCardSaid : Prop := Claim7.holds Tryz.pinned (.plain (OpenSpec.ofChange fnExactMapSpec)) fnExactMapCard

/-- THE TIED CARD OF 'laws.FnScalarBack'. -/
def fnScalarBackCard : Claim7 := { stood := { row := fnScalarBackRow, standIns := [], harness := (true, "50ea38fbdd6c64e79d212abaa3a8c9a6e0990520e33b47fc5098aeefc4b0dbaf"), looks := true }, kinds := [], alts := [], laidByText := true, laidKinds := [.sentinel, .sentinel, .sentinel], laidTests := true, laidLooks := .later }
def FnScalarBackCardSaid : Prop := Claim7.holds Tryz.pinned (.plain (OpenSpec.ofChange fnScalarBackSpec)) fnScalarBackCard

/-- THE TIED CARD OF 'laws.FnExactReadScalar'. -/
def fnExactReadScalarCard : Claim7 := { stood := { row := fnExactReadScalarRow, standIns := [], harness := (true, "50ea38fbdd6c64e79d212abaa3a8c9a6e0990520e33b47fc5098aeefc4b0dbaf"), looks := true }, kinds := [], alts := [], laidByText := true, laidKinds := [.sentinel, .sentinel, .sentinel], laidTests := true, laidLooks := .later }
def FnExactReadScalarCardSaid : Prop := Claim7.holds Tryz.pinned (.plain (OpenSpec.ofChange fnExactReadScalarSpec)) fnExactReadScalarCard

/-- THE TIED CARD OF 'laws.FnExactChooseScalar'. -/
def fnExactChooseScalarCard : Claim7 := { stood := { row := fnExactChooseScalarRow, standIns := [], harness := (true, "50ea38fbdd6c64e79d212abaa3a8c9a6e0990520e33b47fc5098aeefc4b0dbaf"), looks := true }, kinds := [], alts := [], laidByText := true, laidKinds := [.sentinel, .sentinel, .sentinel], laidTests := true, laidLooks := .later }
def FnExactChooseScalarCardSaid : Prop := Claim7.holds Tryz.pinned (.plain (OpenSpec.ofChange fnExactChooseScalarSpec)) fnExactChooseScalarCard

/-- THE TIED CARD OF 'laws.FnExactScalar'. -/
def fnExactScalarCard : Claim7 := { stood := { row := fnExactScalarRow, standIns := [], harness := (true, "50ea38fbdd6c64e79d212abaa3a8c9a6e0990520e33b47fc5098aeefc4b0dbaf"), looks := true }, kinds := [], alts := [], laidByText := true, laidKinds := [.sentinel, .sentinel, .sentinel], laidTests := true, laidLooks := .later }
def FnExactScalarCardSaid : Prop := Claim7.holds Tryz.pinned (.plain (OpenSpec.ofChange fnExactScalarSpec)) fnExactScalarCard

/-- THE SECOND FORM's CARD OF 'laws.FnExactReduced'. -/
def fnExactReducedUptoCard : Claim7 := { stood := { row := fnExactReducedUptoRow, standIns := [], harness := (true, "50ea38fbdd6c64e79d212abaa3a8c9a6e0990520e33b47fc5098aeefc4b0dbaf"), looks := true }, kinds := [], alts := [], laidByText := true, laidKinds := [.sentinel, .sentinel, .sentinel], laidTests := true, laidLooks := .later }
def FnExactReducedUptoCardSaid : Prop := Claim7.holds Tryz.pinned (.plain (OpenSpec.upto fnExactReducedSpec)) fnExactReducedUptoCard

/-- THE SECOND FORM's CARD OF 'laws.FnExactDrawn'. -/
def fnExactDrawnUptoCard : Claim7 := { stood := { row := fnExactDrawnUptoRow, standIns := [], harness := (true, "50ea38fbdd6c64e79d212abaa3a8c9a6e0990520e33b47fc5098aeefc4b0dbaf"), looks := true }, kinds := [], alts := [], laidByText := true, laidKinds := [.sentinel, .sentinel, .sentinel], laidTests := true, laidLooks := .later }
def FnExactDrawnUptoCardSaid : Prop := Claim7.holds Tryz.pinned (.plain (OpenSpec.upto fnExactDrawnSpec)) fnExactDrawnUptoCard

/-- THE SECOND FORM's CARD OF 'laws.FnExactNumber'. -/
def fnExactNumberUptoCard : Claim7 := { stood := { row := fnExactNumberUptoRow, standIns := [], harness := (true, "50ea38fbdd6c64e79d212abaa3a8c9a6e0990520e33b47fc5098aeefc4b0dbaf"), looks := true }, kinds := [], alts := [], laidByText := true, laidKinds := [.sentinel, .sentinel, .sentinel], laidTests := true, laidLooks := .later }
def FnExactNumberUptoCardSaid : Prop := Claim7.holds Tryz.pinned (.plain (OpenSpec.upto fnExactNumberSpec)) fnExactNumberUptoCard

/-- THE SECOND FORM's CARD OF 'laws.FnExactMap'. -/
def fnExactMapUptoCard : Claim7 := { stood := { row := fnExactMapUptoRow, standIns := [], harness := (true, "50ea38fbdd6c64e79d212abaa3a8c9a6e0990520e33b47fc5098aeefc4b0dbaf"), looks := true }, kinds := [], alts := [], laidByText := true, laidKinds := [.data, .data, .sentinel, .sentinel, .sentinel, .data, .data, .data, .data], laidTests := true, laidLooks := .later }
def FnExactMapUptoCardSaid : Prop := Claim7.holds Tryz.pinned (.plain (OpenSpec.upto fnExactMapSpec)) fnExactMapUptoCard

/-- THE SECOND FORM's CARD OF 'laws.FnScalarBack'. -/
def fnScalarBackUptoCard : Claim7 := { stood := { row := fnScalarBackUptoRow, standIns := [], harness := (true, "50ea38fbdd6c64e79d212abaa3a8c9a6e0990520e33b47fc5098aeefc4b0dbaf"), looks := true }, kinds := [], alts := [], laidByText := true, laidKinds := [.sentinel, .sentinel, .sentinel], laidTests := true, laidLooks := .later }
def FnScalarBackUptoCardSaid : Prop := Claim7.holds Tryz.pinned (.plain (OpenSpec.upto fnScalarBackSpec)) fnScalarBackUptoCard

/-- THE SECOND FORM's CARD OF 'laws.FnExactReadScalar'. -/
def fnExactReadScalarUptoCard : Claim7 := { stood := { row := fnExactReadScalarUptoRow, standIns := [], harness := (true, "50ea38fbdd6c64e79d212abaa3a8c9a6e0990520e33b47fc5098aeefc4b0dbaf"), looks := true }, kinds := [], alts := [], laidByText := true, laidKinds := [.sentinel, .sentinel, .sentinel], laidTests := true, laidLooks := .later }
def FnExactReadScalarUptoCardSaid : Prop := Claim7.holds Tryz.pinned (.plain (OpenSpec.upto fnExactReadScalarSpec)) fnExactReadScalarUptoCard

/-- THE SECOND FORM's CARD OF 'laws.FnExactChooseScalar'. -/
def fnExactChooseScalarUptoCard : Claim7 := { stood := { row := fnExactChooseScalarUptoRow, standIns := [], harness := (true, "50ea38fbdd6c64e79d212abaa3a8c9a6e0990520e33b47fc5098aeefc4b0dbaf"), looks := true }, kinds := [], alts := [], laidByText := true, laidKinds := [.sentinel, .sentinel, .sentinel], laidTests := true, laidLooks := .later }
def FnExactChooseScalarUptoCardSaid : Prop := Claim7.holds Tryz.pinned (.plain (OpenSpec.upto fnExactChooseScalarSpec)) fnExactChooseScalarUptoCard

/-- THE SECOND FORM's CARD OF 'laws.FnExactScalar'. -/
def fnExactScalarUptoCard : Claim7 := { stood := { row := fnExactScalarUptoRow, standIns := [], harness := (true, "50ea38fbdd6c64e79d212abaa3a8c9a6e0990520e33b47fc5098aeefc4b0dbaf"), looks := true }, kinds := [], alts := [], laidByText := true, laidKinds := [.sentinel, .sentinel, .sentinel], laidTests := true, laidLooks := .later }
def FnExactScalarUptoCardSaid : Prop := Claim7.holds Tryz.pinned (.plain (OpenSpec.upto fnExactScalarSpec)) fnExactScalarUptoCard
end Rows
end Go.Proofs.YtpfmbfkhjapbbaaGreatDoor
