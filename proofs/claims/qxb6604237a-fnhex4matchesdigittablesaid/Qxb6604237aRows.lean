/-
  No cell of these rows narrows 'for every input' (looked for: loops, veiled, ifaces, maps, wideKeys, modest, calm, conditions, laid).
  DERIVED. THE GIVEN ROWS OF THIS SEAT. 6 by the template 'for every input the law returns true; each argument reads behind the call as it read before'; 0 by the template 'total and deterministic' (their statements: Qxb6604237aTotals.lean).
  GIVEN WITH THE SEED: the statements are not yours to turn. If you find one false, say at which input.
  Laid BY PROGRAM, IN A SANDBOX (cutbox-rows.mjs): the forced cells as the released guide's own fill.sh prints them over the translation 28cb1825dff04df6… (all of the seat's roots in one cut). By AI agents, Wed Nov 11 2026. No macro, syntax, notation, axiom, sorry.
-/
import Derived.Test.Qxb6604237aChecked
import GoSem.Claim
import GoSem.ClaimJoined
import GoSem.ClaimMapViews
import Derived.JoinedTies
import Derived.KernelRfl
namespace Go.Proofs.Qxb6604237a
/- THE CELL 'sum', in the pinned program and in every row, IS THE sha256 OF THE DUMP (.gsa) THAT Qxb6604237aProg.lean LOADS. Nothing in Lean hashes anything: it is a label: what it is worth is what the hold of that sum in a sandbox is worth. -/
noncomputable def Try.pinned : Pinned := { name := "qxb6604237a", sum := "28cb1825dff04df6430312565753f6a5d759fd2f352412048471d7f2320de1b0", checked := Try.checked }
namespace Rows
def none {H : Type} : Left H := { results := [], args := [] }

/-- 'zzlaws_pkg_api_b1.FnWalkInsideMatchesByteMachine': WHATEVER THE INPUT: true; the input reads as it did. -/
def fnWalkInsideMatchesByteMachineSpec : ChangeSpec := { name := "fnWalkInsideMatchesByteMachine", fn := fun _ => fun
  | [d1, d2, d3, d4] => { results := [.lit (.bool true)], args := [d1, d2, d3, d4] }
  | _ => none }
def fnWalkInsideMatchesByteMachineRow : OpenClaim := { program := "qxb6604237a", sum := "28cb1825dff04df6430312565753f6a5d759fd2f352412048471d7f2320de1b0", func := "example.com/sandglass/sandglass/zzlaws_pkg_api_b1.FnWalkInsideMatchesByteMachine", spec := "fnWalkInsideMatchesByteMachine", inPlace := ["internal/bytealg.IndexByte"], apart := false }
def FnWalkInsideMatchesByteMachineSaid : Prop := fnWalkInsideMatchesByteMachineRow.holds Try.pinned (OpenSpec.ofChange fnWalkInsideMatchesByteMachineSpec)

/-- ITS FALSE NEIGHBOUR: 'it returns false'. Refute it at one input. -/
def fnWalkInsideMatchesByteMachineWrong : ChangeSpec := { name := "fnWalkInsideMatchesByteMachine", fn := fun _ => fun
  | [d1, d2, d3, d4] => { results := [.lit (.bool false)], args := [d1, d2, d3, d4] }
  | _ => none }
def FnWalkInsideMatchesByteMachineWrongFalsely : Prop := fnWalkInsideMatchesByteMachineRow.holds Try.pinned (OpenSpec.ofChange fnWalkInsideMatchesByteMachineWrong)

/-- 'zzlaws_pkg_api_b1.FnWalkInsideSplitsAnywhere': WHATEVER THE INPUT: true; the input reads as it did. -/
def fnWalkInsideSplitsAnywhereSpec : ChangeSpec := { name := "fnWalkInsideSplitsAnywhere", fn := fun _ => fun
  | [d1, d2, d3, d4] => { results := [.lit (.bool true)], args := [d1, d2, d3, d4] }
  | _ => none }
def fnWalkInsideSplitsAnywhereRow : OpenClaim := { program := "qxb6604237a", sum := "28cb1825dff04df6430312565753f6a5d759fd2f352412048471d7f2320de1b0", func := "example.com/sandglass/sandglass/zzlaws_pkg_api_b1.FnWalkInsideSplitsAnywhere", spec := "fnWalkInsideSplitsAnywhere", inPlace := ["internal/bytealg.IndexByte"], apart := false }
def FnWalkInsideSplitsAnywhereSaid : Prop := fnWalkInsideSplitsAnywhereRow.holds Try.pinned (OpenSpec.ofChange fnWalkInsideSplitsAnywhereSpec)

/-- ITS FALSE NEIGHBOUR: 'it returns false'. Refute it at one input. -/
def fnWalkInsideSplitsAnywhereWrong : ChangeSpec := { name := "fnWalkInsideSplitsAnywhere", fn := fun _ => fun
  | [d1, d2, d3, d4] => { results := [.lit (.bool false)], args := [d1, d2, d3, d4] }
  | _ => none }
def FnWalkInsideSplitsAnywhereWrongFalsely : Prop := fnWalkInsideSplitsAnywhereRow.holds Try.pinned (OpenSpec.ofChange fnWalkInsideSplitsAnywhereWrong)

/-- 'zzlaws_pkg_api_b1.FnHex4MatchesDigitTable': WHATEVER THE INPUT: true; the input reads as it did. -/
def fnHex4MatchesDigitTableSpec : ChangeSpec := { name := "fnHex4MatchesDigitTable", fn := fun _ => fun
  | [d] => { results := [.lit (.bool true)], args := [d] }
  | _ => none }
def fnHex4MatchesDigitTableRow : OpenClaim := { program := "qxb6604237a", sum := "28cb1825dff04df6430312565753f6a5d759fd2f352412048471d7f2320de1b0", func := "example.com/sandglass/sandglass/zzlaws_pkg_api_b1.FnHex4MatchesDigitTable", spec := "fnHex4MatchesDigitTable", apart := false }
def FnHex4MatchesDigitTableSaid : Prop := fnHex4MatchesDigitTableRow.holds Try.pinned (OpenSpec.ofChange fnHex4MatchesDigitTableSpec)

/-- ITS FALSE NEIGHBOUR: 'it returns false'. Refute it at one input. -/
def fnHex4MatchesDigitTableWrong : ChangeSpec := { name := "fnHex4MatchesDigitTable", fn := fun _ => fun
  | [d] => { results := [.lit (.bool false)], args := [d] }
  | _ => none }
def FnHex4MatchesDigitTableWrongFalsely : Prop := fnHex4MatchesDigitTableRow.holds Try.pinned (OpenSpec.ofChange fnHex4MatchesDigitTableWrong)

/-- 'zzlaws_pkg_api_b1.FnHex4ReadsWhatIsWritten': WHATEVER THE INPUT: true; the input reads as it did. -/
def fnHex4ReadsWhatIsWrittenSpec : ChangeSpec := { name := "fnHex4ReadsWhatIsWritten", fn := fun _ => fun
  | [d1, d2, d3] => { results := [.lit (.bool true)], args := [d1, d2, d3] }
  | _ => none }
def fnHex4ReadsWhatIsWrittenRow : OpenClaim := { program := "qxb6604237a", sum := "28cb1825dff04df6430312565753f6a5d759fd2f352412048471d7f2320de1b0", func := "example.com/sandglass/sandglass/zzlaws_pkg_api_b1.FnHex4ReadsWhatIsWritten", spec := "fnHex4ReadsWhatIsWritten", apart := false }
def FnHex4ReadsWhatIsWrittenSaid : Prop := fnHex4ReadsWhatIsWrittenRow.holds Try.pinned (OpenSpec.ofChange fnHex4ReadsWhatIsWrittenSpec)

/-- ITS FALSE NEIGHBOUR: 'it returns false'. Refute it at one input. -/
def fnHex4ReadsWhatIsWrittenWrong : ChangeSpec := { name := "fnHex4ReadsWhatIsWritten", fn := fun _ => fun
  | [d1, d2, d3] => { results := [.lit (.bool false)], args := [d1, d2, d3] }
  | _ => none }
def FnHex4ReadsWhatIsWrittenWrongFalsely : Prop := fnHex4ReadsWhatIsWrittenRow.holds Try.pinned (OpenSpec.ofChange fnHex4ReadsWhatIsWrittenWrong)

/-- 'zzlaws_pkg_api_b1.FnReaderNameMatchesScan': WHATEVER THE INPUT: true; the input reads as it did. -/
def fnReaderNameMatchesScanSpec : ChangeSpec := { name := "fnReaderNameMatchesScan", fn := fun _ => fun
  | [d1, d2, d3] => { results := [.lit (.bool true)], args := [d1, d2, d3] }
  | _ => none }
def fnReaderNameMatchesScanRow : OpenClaim := { program := "qxb6604237a", sum := "28cb1825dff04df6430312565753f6a5d759fd2f352412048471d7f2320de1b0", func := "example.com/sandglass/sandglass/zzlaws_pkg_api_b1.FnReaderNameMatchesScan", spec := "fnReaderNameMatchesScan", inPlace := ["internal/bytealg.IndexByte"], apart := false }
def FnReaderNameMatchesScanSaid : Prop := fnReaderNameMatchesScanRow.holds Try.pinned (OpenSpec.ofChange fnReaderNameMatchesScanSpec)

/-- ITS FALSE NEIGHBOUR: 'it returns false'. Refute it at one input. -/
def fnReaderNameMatchesScanWrong : ChangeSpec := { name := "fnReaderNameMatchesScan", fn := fun _ => fun
  | [d1, d2, d3] => { results := [.lit (.bool false)], args := [d1, d2, d3] }
  | _ => none }
def FnReaderNameMatchesScanWrongFalsely : Prop := fnReaderNameMatchesScanRow.holds Try.pinned (OpenSpec.ofChange fnReaderNameMatchesScanWrong)

/-- 'zzlaws_pkg_api_b1.FnReaderNameReadsQuotedText': WHATEVER THE INPUT: true; the input reads as it did. -/
def fnReaderNameReadsQuotedTextSpec : ChangeSpec := { name := "fnReaderNameReadsQuotedText", fn := fun _ => fun
  | [d1, d2, d3] => { results := [.lit (.bool true)], args := [d1, d2, d3] }
  | _ => none }
def fnReaderNameReadsQuotedTextRow : OpenClaim := { program := "qxb6604237a", sum := "28cb1825dff04df6430312565753f6a5d759fd2f352412048471d7f2320de1b0", func := "example.com/sandglass/sandglass/zzlaws_pkg_api_b1.FnReaderNameReadsQuotedText", spec := "fnReaderNameReadsQuotedText", inPlace := ["internal/bytealg.IndexByte"], apart := false }
def FnReaderNameReadsQuotedTextSaid : Prop := fnReaderNameReadsQuotedTextRow.holds Try.pinned (OpenSpec.ofChange fnReaderNameReadsQuotedTextSpec)

/-- ITS FALSE NEIGHBOUR: 'it returns false'. Refute it at one input. -/
def fnReaderNameReadsQuotedTextWrong : ChangeSpec := { name := "fnReaderNameReadsQuotedText", fn := fun _ => fun
  | [d1, d2, d3] => { results := [.lit (.bool false)], args := [d1, d2, d3] }
  | _ => none }
def FnReaderNameReadsQuotedTextWrongFalsely : Prop := fnReaderNameReadsQuotedTextRow.holds Try.pinned (OpenSpec.ofChange fnReaderNameReadsQuotedTextWrong)

end Rows
end Go.Proofs.Qxb6604237a
