/-
  NARROWER THAN 'FOR EVERY INPUT', by the rows' own cells (each row's printed sentence says how): FnFlattenSteps: loops, laid · FnLTrimStr: laid · FnNegate: loops, laid · FnTransposeReverse: loops, laid.
  DERIVED. THE GIVEN ROWS OF THIS SEAT. 4 by the template 'for every input the law returns true; each argument reads behind the call as it read before'; 0 by the template 'total and deterministic' (their statements: YtnlndpgbhmkanaaDoorTotals.lean).
  GIVEN WITH THE SEED: the statements are not yours to turn. If you find one false, say at which input.
  Laid BY PROGRAM, IN A SANDBOX (cutbox-rows.mjs): the forced cells as the released guide's own fill.sh prints them over the translation e9a5124ca9a32469… (all of the seat's roots in one cut). By AI agents, Wed Nov 11 2026. No macro, syntax, notation, axiom, sorry.
-/
import Derived.Test.YtnlndpgbhmkanaaDoorChecked
import GoSem.PinnedTables
import GoSem.Claim
import GoSem.ClaimJoined
import GoSem.ClaimMapViews
import Derived.JoinedTies
import Derived.KernelRfl
namespace Go.Proofs.YtnlndpgbhmkanaaDoor
/- THE CELL 'sum', in the pinned program and in every row, IS THE sha256 OF THE DUMP (.gsa) THAT YtnlndpgbhmkanaaDoorProg.lean LOADS. Nothing in Lean hashes anything: it is a label: what it is worth is what the hold of that sum in a sandbox is worth. -/
noncomputable def Tryd.pinned : Pinned := { name := "ytnlndpgbhmkanaadoor", sum := "e9a5124ca9a32469de22f6ea8c9d05ae095dcce620ce7a02b62bfc44b09def32", checked := Tryd.checked }
namespace Rows
def none {H : Type} : Left H := { results := [], args := [] }

/- WHAT THE LISTED PACKAGE-LEVEL VARIABLES READ AS WHEN THE CALL BEGINS. Each datum BY PROGRAM (the guide's laid-datum.mjs) off the statement by which the dump's own 'gosem.cut.vars' lays the variable. In a bare row this is a premise. The card (YtnlndpgbhmkanaaDoorCards.lean) ties it to the program's text. -/
def laid_unicode_utf8_acceptRanges {H : Type} : DataW H := .agg [.agg [.lit (.int .u8 128), .lit (.int .u8 191)], .agg [.lit (.int .u8 160), .lit (.int .u8 191)], .agg [.lit (.int .u8 128), .lit (.int .u8 159)], .agg [.lit (.int .u8 144), .lit (.int .u8 191)], .agg [.lit (.int .u8 128), .lit (.int .u8 143)], .agg [.lit (.int .u8 0), .lit (.int .u8 0)], .agg [.lit (.int .u8 0), .lit (.int .u8 0)], .agg [.lit (.int .u8 0), .lit (.int .u8 0)], .agg [.lit (.int .u8 0), .lit (.int .u8 0)], .agg [.lit (.int .u8 0), .lit (.int .u8 0)], .agg [.lit (.int .u8 0), .lit (.int .u8 0)], .agg [.lit (.int .u8 0), .lit (.int .u8 0)], .agg [.lit (.int .u8 0), .lit (.int .u8 0)], .agg [.lit (.int .u8 0), .lit (.int .u8 0)], .agg [.lit (.int .u8 0), .lit (.int .u8 0)], .agg [.lit (.int .u8 0), .lit (.int .u8 0)]]
/-- One of Go's own tables, pinned by name: the form's constant. -/
def laid_unicode_utf8_first : DataW Unit := Go.Pinned.utf8First

/-- 'laws.FnFlattenSteps': WHATEVER THE INPUT: true; the input reads as it did. -/
def fnFlattenStepsSpec : ChangeSpec := { name := "fnFlattenSteps", fn := fun _ => fun
  | [d1, d2, d3] => { results := [.lit (.bool true)], args := [d1, d2, d3] }
  | _ => none }
def fnFlattenStepsRow : OpenClaim := { program := "ytnlndpgbhmkanaadoor", sum := "e9a5124ca9a32469de22f6ea8c9d05ae095dcce620ce7a02b62bfc44b09def32", func := "pub-strainer/laws.FnFlattenSteps", spec := "fnFlattenSteps", inPlace := ["math.archTrunc", "math.Float64bits", "math.Float64frombits"], unfollowed := true, recurses := true, named := ["unicode/utf8.first", "unicode/utf8.acceptRanges"], loops := true, apart := false, laid := [("unicode/utf8.acceptRanges", laid_unicode_utf8_acceptRanges), ("unicode/utf8.first", laid_unicode_utf8_first)] }
def FnFlattenStepsSaid : Prop := fnFlattenStepsRow.holds Tryd.pinned (OpenSpec.ofChange fnFlattenStepsSpec)

/-- ITS FALSE NEIGHBOUR: 'it returns false'. Refute it at one input. -/
def fnFlattenStepsWrong : ChangeSpec := { name := "fnFlattenSteps", fn := fun _ => fun
  | [d1, d2, d3] => { results := [.lit (.bool false)], args := [d1, d2, d3] }
  | _ => none }
def FnFlattenStepsWrongFalsely : Prop := fnFlattenStepsRow.holds Tryd.pinned (OpenSpec.ofChange fnFlattenStepsWrong)

/-- 'laws.FnLTrimStr': WHATEVER THE INPUT: true; the input reads as it did. -/
def fnLTrimStrSpec : ChangeSpec := { name := "fnLTrimStr", fn := fun _ => fun
  | [d1, d2] => { results := [.lit (.bool true)], args := [d1, d2] }
  | _ => none }
def fnLTrimStrRow : OpenClaim := { program := "ytnlndpgbhmkanaadoor", sum := "e9a5124ca9a32469de22f6ea8c9d05ae095dcce620ce7a02b62bfc44b09def32", func := "pub-strainer/laws.FnLTrimStr", spec := "fnLTrimStr", inPlace := ["math.archTrunc", "math.Float64bits", "math.Float64frombits"], unfollowed := true, recurses := true, named := ["unicode/utf8.first", "unicode/utf8.acceptRanges"], apart := false, laid := [("unicode/utf8.acceptRanges", laid_unicode_utf8_acceptRanges), ("unicode/utf8.first", laid_unicode_utf8_first)] }
def FnLTrimStrSaid : Prop := fnLTrimStrRow.holds Tryd.pinned (OpenSpec.ofChange fnLTrimStrSpec)

/-- ITS FALSE NEIGHBOUR: 'it returns false'. Refute it at one input. -/
def fnLTrimStrWrong : ChangeSpec := { name := "fnLTrimStr", fn := fun _ => fun
  | [d1, d2] => { results := [.lit (.bool false)], args := [d1, d2] }
  | _ => none }
def FnLTrimStrWrongFalsely : Prop := fnLTrimStrRow.holds Tryd.pinned (OpenSpec.ofChange fnLTrimStrWrong)

/-- 'laws.FnNegate': WHATEVER THE INPUT: true; the input reads as it did. -/
def fnNegateSpec : ChangeSpec := { name := "fnNegate", fn := fun _ => fun
  | [d] => { results := [.lit (.bool true)], args := [d] }
  | _ => none }
def fnNegateRow : OpenClaim := { program := "ytnlndpgbhmkanaadoor", sum := "e9a5124ca9a32469de22f6ea8c9d05ae095dcce620ce7a02b62bfc44b09def32", func := "pub-strainer/laws.FnNegate", spec := "fnNegate", inPlace := ["math.archTrunc", "math.Float64bits", "math.Float64frombits"], unfollowed := true, recurses := true, named := ["unicode/utf8.first", "unicode/utf8.acceptRanges"], loops := true, apart := false, laid := [("unicode/utf8.acceptRanges", laid_unicode_utf8_acceptRanges), ("unicode/utf8.first", laid_unicode_utf8_first)] }
def FnNegateSaid : Prop := fnNegateRow.holds Tryd.pinned (OpenSpec.ofChange fnNegateSpec)

/-- ITS FALSE NEIGHBOUR: 'it returns false'. Refute it at one input. -/
def fnNegateWrong : ChangeSpec := { name := "fnNegate", fn := fun _ => fun
  | [d] => { results := [.lit (.bool false)], args := [d] }
  | _ => none }
def FnNegateWrongFalsely : Prop := fnNegateRow.holds Tryd.pinned (OpenSpec.ofChange fnNegateWrong)

/-- 'laws.FnTransposeReverse': WHATEVER THE INPUT: true; the input reads as it did. -/
def fnTransposeReverseSpec : ChangeSpec := { name := "fnTransposeReverse", fn := fun _ => fun
  | [d] => { results := [.lit (.bool true)], args := [d] }
  | _ => none }
def fnTransposeReverseRow : OpenClaim := { program := "ytnlndpgbhmkanaadoor", sum := "e9a5124ca9a32469de22f6ea8c9d05ae095dcce620ce7a02b62bfc44b09def32", func := "pub-strainer/laws.FnTransposeReverse", spec := "fnTransposeReverse", inPlace := ["math.archTrunc", "math.Float64bits", "math.Float64frombits"], unfollowed := true, recurses := true, named := ["unicode/utf8.first", "unicode/utf8.acceptRanges"], loops := true, apart := false, laid := [("unicode/utf8.acceptRanges", laid_unicode_utf8_acceptRanges), ("unicode/utf8.first", laid_unicode_utf8_first)] }
def FnTransposeReverseSaid : Prop := fnTransposeReverseRow.holds Tryd.pinned (OpenSpec.ofChange fnTransposeReverseSpec)

/-- ITS FALSE NEIGHBOUR: 'it returns false'. Refute it at one input. -/
def fnTransposeReverseWrong : ChangeSpec := { name := "fnTransposeReverse", fn := fun _ => fun
  | [d] => { results := [.lit (.bool false)], args := [d] }
  | _ => none }
def FnTransposeReverseWrongFalsely : Prop := fnTransposeReverseRow.holds Tryd.pinned (OpenSpec.ofChange fnTransposeReverseWrong)

/- THE SECOND FORM. 'bulk': how many values and letters a reading holds, each counted each time it is reached (what is shared counts as often as it is met; a slice's spare places count too). A statement '..UptoSaid' is the law's where the arguments, and the package variables that the reading takes, are together of bulk at most 1048576: NARROWER than '..Said'. Prove '..Said' where nothing that the law and all that it calls make is longer than what came in: it says more and counts as full. Else prove '..UptoSaid'. A law counts once. -/
mutual
def uptoBulk {H : Type} : DataW H → Nat
  | .lit (.string bytes) => bytes.length + 1
  | .lit _ => 1
  | .nil => 1
  | .ptr d => uptoBulk d + 1
  | .slice elems spare => uptoBulkAll elems + uptoBulkAll spare + 1
  | .agg parts => uptoBulkAll parts + 1
  | .iface _ d => uptoBulk d + 1
  | .map entries => uptoBulkEntries entries + 1
  | .held _ => 1
def uptoBulkAll {H : Type} : List (DataW H) → Nat
  | [] => 0
  | d :: r => uptoBulk d + uptoBulkAll r
def uptoBulkEntries {H : Type} : List (Lit × DataW H) → Nat
  | [] => 0
  | x :: r => uptoBulkEntry x + uptoBulkEntries r
def uptoBulkEntry {H : Type} : Lit × DataW H → Nat
  | (.string bytes, d) => bytes.length + uptoBulk d + 1
  | (_, d) => uptoBulk d + 1
 end
def uptoSmall : (H : Type) → List (DataW H) → Bool := fun _ ds => decide (uptoBulkAll ds ≤ 1048576)
def OpenSpec.upto (s : _root_.Go.ChangeSpec) : _root_.Go.OpenSpec := { _root_.Go.OpenSpec.ofChange s with cond := some uptoSmall }

/-- 'laws.FnFlattenSteps', WHERE WHAT IT READS IS OF BULK AT MOST 1048576: true; the input reads as it did. -/
def fnFlattenStepsUptoRow : OpenClaim := { program := "ytnlndpgbhmkanaadoor", sum := "e9a5124ca9a32469de22f6ea8c9d05ae095dcce620ce7a02b62bfc44b09def32", func := "pub-strainer/laws.FnFlattenSteps", spec := "fnFlattenSteps", inPlace := ["math.archTrunc", "math.Float64bits", "math.Float64frombits"], unfollowed := true, recurses := true, named := ["unicode/utf8.first", "unicode/utf8.acceptRanges"], loops := true, apart := false, laid := [("unicode/utf8.acceptRanges", laid_unicode_utf8_acceptRanges), ("unicode/utf8.first", laid_unicode_utf8_first)], narrowed := true }
def FnFlattenStepsUptoSaid : Prop := fnFlattenStepsUptoRow.holds Tryd.pinned (OpenSpec.upto fnFlattenStepsSpec)

/-- 'laws.FnLTrimStr', WHERE WHAT IT READS IS OF BULK AT MOST 1048576: true; the input reads as it did. -/
def fnLTrimStrUptoRow : OpenClaim := { program := "ytnlndpgbhmkanaadoor", sum := "e9a5124ca9a32469de22f6ea8c9d05ae095dcce620ce7a02b62bfc44b09def32", func := "pub-strainer/laws.FnLTrimStr", spec := "fnLTrimStr", inPlace := ["math.archTrunc", "math.Float64bits", "math.Float64frombits"], unfollowed := true, recurses := true, named := ["unicode/utf8.first", "unicode/utf8.acceptRanges"], apart := false, laid := [("unicode/utf8.acceptRanges", laid_unicode_utf8_acceptRanges), ("unicode/utf8.first", laid_unicode_utf8_first)], narrowed := true }
def FnLTrimStrUptoSaid : Prop := fnLTrimStrUptoRow.holds Tryd.pinned (OpenSpec.upto fnLTrimStrSpec)

/-- 'laws.FnNegate', WHERE WHAT IT READS IS OF BULK AT MOST 1048576: true; the input reads as it did. -/
def fnNegateUptoRow : OpenClaim := { program := "ytnlndpgbhmkanaadoor", sum := "e9a5124ca9a32469de22f6ea8c9d05ae095dcce620ce7a02b62bfc44b09def32", func := "pub-strainer/laws.FnNegate", spec := "fnNegate", inPlace := ["math.archTrunc", "math.Float64bits", "math.Float64frombits"], unfollowed := true, recurses := true, named := ["unicode/utf8.first", "unicode/utf8.acceptRanges"], loops := true, apart := false, laid := [("unicode/utf8.acceptRanges", laid_unicode_utf8_acceptRanges), ("unicode/utf8.first", laid_unicode_utf8_first)], narrowed := true }
def FnNegateUptoSaid : Prop := fnNegateUptoRow.holds Tryd.pinned (OpenSpec.upto fnNegateSpec)

/-- 'laws.FnTransposeReverse', WHERE WHAT IT READS IS OF BULK AT MOST 1048576: true; the input reads as it did. -/
def fnTransposeReverseUptoRow : OpenClaim := { program := "ytnlndpgbhmkanaadoor", sum := "e9a5124ca9a32469de22f6ea8c9d05ae095dcce620ce7a02b62bfc44b09def32", func := "pub-strainer/laws.FnTransposeReverse", spec := "fnTransposeReverse", inPlace := ["math.archTrunc", "math.Float64bits", "math.Float64frombits"], unfollowed := true, recurses := true, named := ["unicode/utf8.first", "unicode/utf8.acceptRanges"], loops := true, apart := false, laid := [("unicode/utf8.acceptRanges", laid_unicode_utf8_acceptRanges), ("unicode/utf8.first", laid_unicode_utf8_first)], narrowed := true }
def FnTransposeReverseUptoSaid : Prop := fnTransposeReverseUptoRow.holds Tryd.pinned (OpenSpec.upto fnTransposeReverseSpec)

end Rows
end Go.Proofs.YtnlndpgbhmkanaaDoor
