/-
  DERIVED. GIVEN WITH THE SEED: THE CARDS: each row of YtgjmgneppecfgaaGreatDoorRows.lean that lists a variable, with what it lists TIED to the program's text (the seventh form; the later family's looks); each row that meets fmt, with fmt's text TOLD by the authors' own Lean function (tested against real Go, not proved from fmt's source: count such statements apart). THE CARD IS WHAT COUNTS. Prove the row's statement (the work); the ties are given (YtgjmgneppecfgaaGreatDoorTie.lean); close each card by the builder's one call (the guide's Derived/Test/ToyasCard.lean, 'card_holds'). Laid BY PROGRAM, IN A SANDBOX (cutbox-door.mjs). By AI agents, Wed Nov 11 2026. No macro, syntax, notation, axiom, sorry.
-/
import Derived.Test.YtgjmgneppecfgaaGreatDoorRows
import GoSem.ClaimSeven
namespace Go.Proofs.YtgjmgneppecfgaaGreatDoor
namespace Rows

/-- THE TIED CARD OF 'laws.FnFlattenBy'. -/
def fnFlattenByCard : Claim7 := { stood := { row := fnFlattenByRow, standIns := [], harness := (true, "35a97171611e48054f8e4a0cb64acb4f71c7d1918345445f263f7ab41466c7b6"), looks := true }, kinds := [], alts := [], laidByText := true, laidKinds := [.data, .pinned], laidTests := true, laidLooks := .later }
def FnFlattenByCardSaid : Prop := Claim7.holds Tryz.pinned (.plain (OpenSpec.ofChange fnFlattenBySpec)) fnFlattenByCard

/-- THE TIED CARD OF 'laws.FnMarshalBack'. -/
def fnMarshalBackCard : Claim7 := { stood := { row := fnMarshalBackRow, standIns := [], harness := (true, "35a97171611e48054f8e4a0cb64acb4f71c7d1918345445f263f7ab41466c7b6"), looks := true }, kinds := [], alts := [], laidByText := true, laidKinds := [.data, .pinned], laidTests := true, laidLooks := .later }
def FnMarshalBackCardSaid : Prop := Claim7.holds Tryz.pinned (.plain (OpenSpec.ofChange fnMarshalBackSpec)) fnMarshalBackCard

/-- THE TIED CARD OF 'laws.FnBase64Back'. -/
def fnBase64BackCard : Claim7 := { stood := { row := fnBase64BackRow, standIns := [], harness := (true, "35a97171611e48054f8e4a0cb64acb4f71c7d1918345445f263f7ab41466c7b6"), looks := true }, kinds := [], alts := [], laidByText := true, laidKinds := [.data, .pinned], laidTests := true, laidLooks := .later }
def FnBase64BackCardSaid : Prop := Claim7.holds Tryz.pinned (.plain (OpenSpec.ofChange fnBase64BackSpec)) fnBase64BackCard

/-- THE TIED CARD OF 'laws.FnFormat'. -/
def fnFormatCard : Claim7 := { stood := { row := fnFormatRow, standIns := [], harness := (true, "35a97171611e48054f8e4a0cb64acb4f71c7d1918345445f263f7ab41466c7b6"), looks := true }, kinds := [], alts := [], laidByText := true, laidKinds := [.data, .data, .pinned], laidTests := true, laidLooks := .later }
def FnFormatCardSaid : Prop := Claim7.holds Tryz.pinned (.plain (OpenSpec.ofChange fnFormatSpec)) fnFormatCard

/-- THE SECOND FORM's CARD OF 'laws.FnFlattenBy'. -/
def fnFlattenByUptoCard : Claim7 := { stood := { row := fnFlattenByUptoRow, standIns := [], harness := (true, "35a97171611e48054f8e4a0cb64acb4f71c7d1918345445f263f7ab41466c7b6"), looks := true }, kinds := [], alts := [], laidByText := true, laidKinds := [.data, .pinned], laidTests := true, laidLooks := .later }
def FnFlattenByUptoCardSaid : Prop := Claim7.holds Tryz.pinned (.plain (OpenSpec.upto fnFlattenBySpec)) fnFlattenByUptoCard

/-- THE SECOND FORM's CARD OF 'laws.FnMarshalBack'. -/
def fnMarshalBackUptoCard : Claim7 := { stood := { row := fnMarshalBackUptoRow, standIns := [], harness := (true, "35a97171611e48054f8e4a0cb64acb4f71c7d1918345445f263f7ab41466c7b6"), looks := true }, kinds := [], alts := [], laidByText := true, laidKinds := [.data, .pinned], laidTests := true, laidLooks := .later }
def FnMarshalBackUptoCardSaid : Prop := Claim7.holds Tryz.pinned (.plain (OpenSpec.upto fnMarshalBackSpec)) fnMarshalBackUptoCard

/-- THE SECOND FORM's CARD OF 'laws.FnBase64Back'. -/
def fnBase64BackUptoCard : Claim7 := { stood := { row := fnBase64BackUptoRow, standIns := [], harness := (true, "35a97171611e48054f8e4a0cb64acb4f71c7d1918345445f263f7ab41466c7b6"), looks := true }, kinds := [], alts := [], laidByText := true, laidKinds := [.data, .pinned], laidTests := true, laidLooks := .later }
def FnBase64BackUptoCardSaid : Prop := Claim7.holds Tryz.pinned (.plain (OpenSpec.upto fnBase64BackSpec)) fnBase64BackUptoCard

/-- THE SECOND FORM's CARD OF 'laws.FnFormat'. -/
def fnFormatUptoCard : Claim7 := { stood := { row := fnFormatUptoRow, standIns := [], harness := (true, "35a97171611e48054f8e4a0cb64acb4f71c7d1918345445f263f7ab41466c7b6"), looks := true }, kinds := [], alts := [], laidByText := true, laidKinds := [.data, .data, .pinned], laidTests := true, laidLooks := .later }
def FnFormatUptoCardSaid : Prop := Claim7.holds Tryz.pinned (.plain (OpenSpec.upto fnFormatSpec)) fnFormatUptoCard
end Rows
end Go.Proofs.YtgjmgneppecfgaaGreatDoor
