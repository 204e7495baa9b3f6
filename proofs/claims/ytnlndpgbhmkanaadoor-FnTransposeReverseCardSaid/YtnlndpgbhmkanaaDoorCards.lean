/-
  DERIVED. GIVEN WITH THE SEED: THE CARDS: each row of YtnlndpgbhmkanaaDoorRows.lean that lists a variable, with what it lists TIED to the program's text (the seventh form; the later family's looks); each row that meets fmt, with fmt's text TOLD by the authors' own Lean function (tested against real Go, not proved from fmt's source: count such statements apart). THE CARD IS WHAT COUNTS. Prove the row's statement (the work); the ties are given (YtnlndpgbhmkanaaDoorTie.lean); close each card by the builder's one call (the guide's Derived/Test/ToyasCard.lean, 'card_holds'). Laid BY PROGRAM, IN A SANDBOX (cutbox-door.mjs). By AI agents, Wed Nov 11 2026. No macro, syntax, notation, axiom, sorry.
-/
import Derived.Test.YtnlndpgbhmkanaaDoorRows
import GoSem.ClaimSeven
namespace Go.Proofs.YtnlndpgbhmkanaaDoor
namespace Rows

/-- THE TIED CARD OF 'laws.FnFlattenSteps'. -/
def fnFlattenStepsCard : Claim7 := { stood := { row := fnFlattenStepsRow, standIns := [], harness := (true, "2b5f3d92cbfbb67a6ea750e9b55cd1d6a99d295f316aac86ae5e85bbfe54c133"), looks := true }, kinds := [], alts := [], laidByText := true, laidKinds := [.data, .pinned], laidTests := true, laidLooks := .later }
def FnFlattenStepsCardSaid : Prop := Claim7.holds Tryd.pinned (.plain (OpenSpec.ofChange fnFlattenStepsSpec)) fnFlattenStepsCard

/-- THE TIED CARD OF 'laws.FnLTrimStr'. -/
def fnLTrimStrCard : Claim7 := { stood := { row := fnLTrimStrRow, standIns := [], harness := (true, "2b5f3d92cbfbb67a6ea750e9b55cd1d6a99d295f316aac86ae5e85bbfe54c133"), looks := true }, kinds := [], alts := [], laidByText := true, laidKinds := [.data, .pinned], laidTests := true, laidLooks := .later }
def FnLTrimStrCardSaid : Prop := Claim7.holds Tryd.pinned (.plain (OpenSpec.ofChange fnLTrimStrSpec)) fnLTrimStrCard

/-- THE TIED CARD OF 'laws.FnNegate'. -/
def fnNegateCard : Claim7 := { stood := { row := fnNegateRow, standIns := [], harness := (true, "2b5f3d92cbfbb67a6ea750e9b55cd1d6a99d295f316aac86ae5e85bbfe54c133"), looks := true }, kinds := [], alts := [], laidByText := true, laidKinds := [.data, .pinned], laidTests := true, laidLooks := .later }
def FnNegateCardSaid : Prop := Claim7.holds Tryd.pinned (.plain (OpenSpec.ofChange fnNegateSpec)) fnNegateCard

/-- THE TIED CARD OF 'laws.FnTransposeReverse'. -/
def fnTransposeReverseCard : Claim7 := { stood := { row := fnTransposeReverseRow, standIns := [], harness := (true, "2b5f3d92cbfbb67a6ea750e9b55cd1d6a99d295f316aac86ae5e85bbfe54c133"), looks := true }, kinds := [], alts := [], laidByText := true, laidKinds := [.data, .pinned], laidTests := true, laidLooks := .later }
def FnTransposeReverseCardSaid : Prop := Claim7.holds Tryd.pinned (.plain (OpenSpec.ofChange fnTransposeReverseSpec)) fnTransposeReverseCard

/-- THE SECOND FORM's CARD OF 'laws.FnFlattenSteps'. -/
def fnFlattenStepsUptoCard : Claim7 := { stood := { row := fnFlattenStepsUptoRow, standIns := [], harness := (true, "2b5f3d92cbfbb67a6ea750e9b55cd1d6a99d295f316aac86ae5e85bbfe54c133"), looks := true }, kinds := [], alts := [], laidByText := true, laidKinds := [.data, .pinned], laidTests := true, laidLooks := .later }
def FnFlattenStepsUptoCardSaid : Prop := Claim7.holds Tryd.pinned (.plain (OpenSpec.upto fnFlattenStepsSpec)) fnFlattenStepsUptoCard

/-- THE SECOND FORM's CARD OF 'laws.FnLTrimStr'. -/
def fnLTrimStrUptoCard : Claim7 := { stood := { row := fnLTrimStrUptoRow, standIns := [], harness := (true, "2b5f3d92cbfbb67a6ea750e9b55cd1d6a99d295f316aac86ae5e85bbfe54c133"), looks := true }, kinds := [], alts := [], laidByText := true, laidKinds := [.data, .pinned], laidTests := true, laidLooks := .later }
def FnLTrimStrUptoCardSaid : Prop := Claim7.holds Tryd.pinned (.plain (OpenSpec.upto fnLTrimStrSpec)) fnLTrimStrUptoCard

/-- THE SECOND FORM's CARD OF 'laws.FnNegate'. -/
def fnNegateUptoCard : Claim7 := { stood := { row := fnNegateUptoRow, standIns := [], harness := (true, "2b5f3d92cbfbb67a6ea750e9b55cd1d6a99d295f316aac86ae5e85bbfe54c133"), looks := true }, kinds := [], alts := [], laidByText := true, laidKinds := [.data, .pinned], laidTests := true, laidLooks := .later }
def FnNegateUptoCardSaid : Prop := Claim7.holds Tryd.pinned (.plain (OpenSpec.upto fnNegateSpec)) fnNegateUptoCard

/-- THE SECOND FORM's CARD OF 'laws.FnTransposeReverse'. -/
def fnTransposeReverseUptoCard : Claim7 := { stood := { row := fnTransposeReverseUptoRow, standIns := [], harness := (true, "2b5f3d92cbfbb67a6ea750e9b55cd1d6a99d295f316aac86ae5e85bbfe54c133"), looks := true }, kinds := [], alts := [], laidByText := true, laidKinds := [.data, .pinned], laidTests := true, laidLooks := .later }
def FnTransposeReverseUptoCardSaid : Prop := Claim7.holds Tryd.pinned (.plain (OpenSpec.upto fnTransposeReverseSpec)) fnTransposeReverseUptoCard
end Rows
end Go.Proofs.YtnlndpgbhmkanaaDoor
