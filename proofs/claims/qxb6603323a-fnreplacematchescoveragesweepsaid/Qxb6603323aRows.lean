/-
  No cell of these rows narrows 'for every input' (looked for: loops, veiled, ifaces, maps, wideKeys, modest, calm, conditions, laid).
  DERIVED. THE GIVEN ROWS OF THIS SEAT. 5 by the template 'for every input the law returns true; each argument reads behind the call as it read before'; 0 by the template 'total and deterministic' (their statements: Qxb6603323aTotals.lean).
  GIVEN WITH THE SEED: the statements are not yours to turn. If you find one false, say at which input.
  Laid BY PROGRAM, IN A SANDBOX (cutbox-rows.mjs): the forced cells as the released guide's own fill.sh prints them over the translation 04d2e046e11b76b4… (all of the seat's roots in one cut). By AI agents, Wed Nov 11 2026. No macro, syntax, notation, axiom, sorry.
-/
import Derived.Test.Qxb6603323aChecked
import GoSem.Claim
import GoSem.ClaimJoined
import GoSem.ClaimMapViews
import Derived.JoinedTies
import Derived.KernelRfl
namespace Go.Proofs.Qxb6603323a
/- THE CELL 'sum', in the pinned program and in every row, IS THE sha256 OF THE DUMP (.gsa) THAT Qxb6603323aProg.lean LOADS. Nothing in Lean hashes anything: it is a label: what it is worth is what the hold of that sum in a sandbox is worth. -/
noncomputable def Try.pinned : Pinned := { name := "qxb6603323a", sum := "04d2e046e11b76b43a8e4ada99d497038f4e1bcf2fca523090aeaa2c1b506198", checked := Try.checked }
namespace Rows
def none {H : Type} : Left H := { results := [], args := [] }

/-- 'zzlaws_pkg_upstream_b1.FnReplaceMatchesCoverageSweep': WHATEVER THE INPUT: true; the input reads as it did. -/
def fnReplaceMatchesCoverageSweepSpec : ChangeSpec := { name := "fnReplaceMatchesCoverageSweep", fn := fun _ => fun
  | [d1, d2, d3] => { results := [.lit (.bool true)], args := [d1, d2, d3] }
  | _ => none }
def fnReplaceMatchesCoverageSweepRow : OpenClaim := { program := "qxb6603323a", sum := "04d2e046e11b76b43a8e4ada99d497038f4e1bcf2fca523090aeaa2c1b506198", func := "example.com/strict-relay/strict-relay/zzlaws_pkg_upstream_b1.FnReplaceMatchesCoverageSweep", spec := "fnReplaceMatchesCoverageSweep", inPlace := ["internal/abi.NoEscape"], apart := false }
def FnReplaceMatchesCoverageSweepSaid : Prop := fnReplaceMatchesCoverageSweepRow.holds Try.pinned (OpenSpec.ofChange fnReplaceMatchesCoverageSweepSpec)

/-- ITS FALSE NEIGHBOUR: 'it returns false'. Refute it at one input. -/
def fnReplaceMatchesCoverageSweepWrong : ChangeSpec := { name := "fnReplaceMatchesCoverageSweep", fn := fun _ => fun
  | [d1, d2, d3] => { results := [.lit (.bool false)], args := [d1, d2, d3] }
  | _ => none }
def FnReplaceMatchesCoverageSweepWrongFalsely : Prop := fnReplaceMatchesCoverageSweepRow.holds Try.pinned (OpenSpec.ofChange fnReplaceMatchesCoverageSweepWrong)

/-- 'zzlaws_pkg_upstream_b1.FnReplaceAnyOrderAndRepeats': WHATEVER THE INPUT: true; the input reads as it did. -/
def fnReplaceAnyOrderAndRepeatsSpec : ChangeSpec := { name := "fnReplaceAnyOrderAndRepeats", fn := fun _ => fun
  | [d1, d2, d3, d4] => { results := [.lit (.bool true)], args := [d1, d2, d3, d4] }
  | _ => none }
def fnReplaceAnyOrderAndRepeatsRow : OpenClaim := { program := "qxb6603323a", sum := "04d2e046e11b76b43a8e4ada99d497038f4e1bcf2fca523090aeaa2c1b506198", func := "example.com/strict-relay/strict-relay/zzlaws_pkg_upstream_b1.FnReplaceAnyOrderAndRepeats", spec := "fnReplaceAnyOrderAndRepeats", inPlace := ["internal/abi.NoEscape"], apart := false }
def FnReplaceAnyOrderAndRepeatsSaid : Prop := fnReplaceAnyOrderAndRepeatsRow.holds Try.pinned (OpenSpec.ofChange fnReplaceAnyOrderAndRepeatsSpec)

/-- ITS FALSE NEIGHBOUR: 'it returns false'. Refute it at one input. -/
def fnReplaceAnyOrderAndRepeatsWrong : ChangeSpec := { name := "fnReplaceAnyOrderAndRepeats", fn := fun _ => fun
  | [d1, d2, d3, d4] => { results := [.lit (.bool false)], args := [d1, d2, d3, d4] }
  | _ => none }
def FnReplaceAnyOrderAndRepeatsWrongFalsely : Prop := fnReplaceAnyOrderAndRepeatsRow.holds Try.pinned (OpenSpec.ofChange fnReplaceAnyOrderAndRepeatsWrong)

/-- 'zzlaws_pkg_upstream_b1.FnReplaceSplitSpanKeepsAnswer': WHATEVER THE INPUT: true; the input reads as it did. -/
def fnReplaceSplitSpanKeepsAnswerSpec : ChangeSpec := { name := "fnReplaceSplitSpanKeepsAnswer", fn := fun _ => fun
  | [d1, d2, d3, d4, d5] => { results := [.lit (.bool true)], args := [d1, d2, d3, d4, d5] }
  | _ => none }
def fnReplaceSplitSpanKeepsAnswerRow : OpenClaim := { program := "qxb6603323a", sum := "04d2e046e11b76b43a8e4ada99d497038f4e1bcf2fca523090aeaa2c1b506198", func := "example.com/strict-relay/strict-relay/zzlaws_pkg_upstream_b1.FnReplaceSplitSpanKeepsAnswer", spec := "fnReplaceSplitSpanKeepsAnswer", inPlace := ["internal/abi.NoEscape"], apart := false }
def FnReplaceSplitSpanKeepsAnswerSaid : Prop := fnReplaceSplitSpanKeepsAnswerRow.holds Try.pinned (OpenSpec.ofChange fnReplaceSplitSpanKeepsAnswerSpec)

/-- ITS FALSE NEIGHBOUR: 'it returns false'. Refute it at one input. -/
def fnReplaceSplitSpanKeepsAnswerWrong : ChangeSpec := { name := "fnReplaceSplitSpanKeepsAnswer", fn := fun _ => fun
  | [d1, d2, d3, d4, d5] => { results := [.lit (.bool false)], args := [d1, d2, d3, d4, d5] }
  | _ => none }
def FnReplaceSplitSpanKeepsAnswerWrongFalsely : Prop := fnReplaceSplitSpanKeepsAnswerRow.holds Try.pinned (OpenSpec.ofChange fnReplaceSplitSpanKeepsAnswerWrong)

/-- 'zzlaws_pkg_upstream_b1.FnFindMatchesNaiveScan': WHATEVER THE INPUT: true; the input reads as it did. -/
def fnFindMatchesNaiveScanSpec : ChangeSpec := { name := "fnFindMatchesNaiveScan", fn := fun _ => fun
  | [d1, d2, d3, d4] => { results := [.lit (.bool true)], args := [d1, d2, d3, d4] }
  | _ => none }
def fnFindMatchesNaiveScanRow : OpenClaim := { program := "qxb6603323a", sum := "04d2e046e11b76b43a8e4ada99d497038f4e1bcf2fca523090aeaa2c1b506198", func := "example.com/strict-relay/strict-relay/zzlaws_pkg_upstream_b1.FnFindMatchesNaiveScan", spec := "fnFindMatchesNaiveScan", inPlace := ["internal/bytealg.IndexByteString", "internal/bytealg.IndexString"], named := ["internal/bytealg.MaxLen"], apart := false }
def FnFindMatchesNaiveScanSaid : Prop := fnFindMatchesNaiveScanRow.holds Try.pinned (OpenSpec.ofChange fnFindMatchesNaiveScanSpec)

/-- ITS FALSE NEIGHBOUR: 'it returns false'. Refute it at one input. -/
def fnFindMatchesNaiveScanWrong : ChangeSpec := { name := "fnFindMatchesNaiveScan", fn := fun _ => fun
  | [d1, d2, d3, d4] => { results := [.lit (.bool false)], args := [d1, d2, d3, d4] }
  | _ => none }
def FnFindMatchesNaiveScanWrongFalsely : Prop := fnFindMatchesNaiveScanRow.holds Try.pinned (OpenSpec.ofChange fnFindMatchesNaiveScanWrong)

/-- 'zzlaws_pkg_upstream_b1.FnFindSpansAreDisjointOccurrences': WHATEVER THE INPUT: true; the input reads as it did. -/
def fnFindSpansAreDisjointOccurrencesSpec : ChangeSpec := { name := "fnFindSpansAreDisjointOccurrences", fn := fun _ => fun
  | [d1, d2] => { results := [.lit (.bool true)], args := [d1, d2] }
  | _ => none }
def fnFindSpansAreDisjointOccurrencesRow : OpenClaim := { program := "qxb6603323a", sum := "04d2e046e11b76b43a8e4ada99d497038f4e1bcf2fca523090aeaa2c1b506198", func := "example.com/strict-relay/strict-relay/zzlaws_pkg_upstream_b1.FnFindSpansAreDisjointOccurrences", spec := "fnFindSpansAreDisjointOccurrences", inPlace := ["internal/bytealg.IndexByteString", "internal/bytealg.IndexString"], named := ["internal/bytealg.MaxLen"], apart := false }
def FnFindSpansAreDisjointOccurrencesSaid : Prop := fnFindSpansAreDisjointOccurrencesRow.holds Try.pinned (OpenSpec.ofChange fnFindSpansAreDisjointOccurrencesSpec)

/-- ITS FALSE NEIGHBOUR: 'it returns false'. Refute it at one input. -/
def fnFindSpansAreDisjointOccurrencesWrong : ChangeSpec := { name := "fnFindSpansAreDisjointOccurrences", fn := fun _ => fun
  | [d1, d2] => { results := [.lit (.bool false)], args := [d1, d2] }
  | _ => none }
def FnFindSpansAreDisjointOccurrencesWrongFalsely : Prop := fnFindSpansAreDisjointOccurrencesRow.holds Try.pinned (OpenSpec.ofChange fnFindSpansAreDisjointOccurrencesWrong)

end Rows
end Go.Proofs.Qxb6603323a
