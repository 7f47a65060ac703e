/-
  No cell of these rows narrows 'for every input' (looked for: loops, veiled, ifaces, maps, wideKeys, modest, calm, conditions, laid).
  DERIVED. THE GIVEN ROWS OF THIS SEAT. 8 by the template 'for every input the law returns true; each argument reads behind the call as it read before'; 0 by the template 'total and deterministic' (their statements: Qxb6000378aModsTotals.lean).
  GIVEN WITH THE SEED: the statements are not yours to turn. If you find one false, say at which input.
  Laid BY PROGRAM, IN A SANDBOX (cutbox-rows.mjs): the forced cells as the released guide's own fill.sh prints them over the translation f61c6a0b11b0d319… (all of the seat's roots in one cut). By AI agents, Wed Nov 11 2026. No macro, syntax, notation, axiom, sorry.
-/
import Derived.Test.Qxb6000378aModsChecked
import GoSem.Claim
import GoSem.ClaimJoined
import GoSem.ClaimMapViews
import Derived.JoinedTies
import Derived.KernelRfl
namespace Go.Proofs.Qxb6000378aMods
/- THE CELL 'sum', in the pinned program and in every row, IS THE sha256 OF THE DUMP (.gsa) THAT Qxb6000378aModsProg.lean LOADS. Nothing in Lean hashes anything: it is a label: what it is worth is what the hold of that sum in a sandbox is worth. -/
noncomputable def Trym.pinned : Pinned := { name := "qxb6000378amods", sum := "f61c6a0b11b0d319489df08fc61f231af74d557053b8e42ae8dcea290fbe9707", checked := Trym.checked }
namespace Rows
def none {H : Type} : Left H := { results := [], args := [] }

/-- 'zzlaws_pkg_tomldoc_b1.FnQuotedEndBoundedAndClosed': WHATEVER THE INPUT: true; the input reads as it did. -/
def fnQuotedEndBoundedAndClosedSpec : ChangeSpec := { name := "fnQuotedEndBoundedAndClosed", fn := fun _ => fun
  | [d1, d2] => { results := [.lit (.bool true)], args := [d1, d2] }
  | _ => none }
def fnQuotedEndBoundedAndClosedRow : OpenClaim := { program := "qxb6000378amods", sum := "f61c6a0b11b0d319489df08fc61f231af74d557053b8e42ae8dcea290fbe9707", func := "example.com/grantwright/grantwright/zzlaws_pkg_tomldoc_b1.FnQuotedEndBoundedAndClosed", spec := "fnQuotedEndBoundedAndClosed", make := .lifted ["publicsums"], apart := false }
def FnQuotedEndBoundedAndClosedSaid : Prop := fnQuotedEndBoundedAndClosedRow.holds Trym.pinned (OpenSpec.ofChange fnQuotedEndBoundedAndClosedSpec)

/-- ITS FALSE NEIGHBOUR: 'it returns false'. Refute it at one input. -/
def fnQuotedEndBoundedAndClosedWrong : ChangeSpec := { name := "fnQuotedEndBoundedAndClosed", fn := fun _ => fun
  | [d1, d2] => { results := [.lit (.bool false)], args := [d1, d2] }
  | _ => none }
def FnQuotedEndBoundedAndClosedWrongFalsely : Prop := fnQuotedEndBoundedAndClosedRow.holds Trym.pinned (OpenSpec.ofChange fnQuotedEndBoundedAndClosedWrong)

/-- 'zzlaws_pkg_tomldoc_b1.FnQuotedEndIgnoresWhatPrecedes': WHATEVER THE INPUT: true; the input reads as it did. -/
def fnQuotedEndIgnoresWhatPrecedesSpec : ChangeSpec := { name := "fnQuotedEndIgnoresWhatPrecedes", fn := fun _ => fun
  | [d1, d2, d3] => { results := [.lit (.bool true)], args := [d1, d2, d3] }
  | _ => none }
def fnQuotedEndIgnoresWhatPrecedesRow : OpenClaim := { program := "qxb6000378amods", sum := "f61c6a0b11b0d319489df08fc61f231af74d557053b8e42ae8dcea290fbe9707", func := "example.com/grantwright/grantwright/zzlaws_pkg_tomldoc_b1.FnQuotedEndIgnoresWhatPrecedes", spec := "fnQuotedEndIgnoresWhatPrecedes", make := .lifted ["publicsums"], apart := false }
def FnQuotedEndIgnoresWhatPrecedesSaid : Prop := fnQuotedEndIgnoresWhatPrecedesRow.holds Trym.pinned (OpenSpec.ofChange fnQuotedEndIgnoresWhatPrecedesSpec)

/-- ITS FALSE NEIGHBOUR: 'it returns false'. Refute it at one input. -/
def fnQuotedEndIgnoresWhatPrecedesWrong : ChangeSpec := { name := "fnQuotedEndIgnoresWhatPrecedes", fn := fun _ => fun
  | [d1, d2, d3] => { results := [.lit (.bool false)], args := [d1, d2, d3] }
  | _ => none }
def FnQuotedEndIgnoresWhatPrecedesWrongFalsely : Prop := fnQuotedEndIgnoresWhatPrecedesRow.holds Trym.pinned (OpenSpec.ofChange fnQuotedEndIgnoresWhatPrecedesWrong)

/-- 'zzlaws_pkg_tomldoc_b1.FnQuotedEndStableUnderTruncation': WHATEVER THE INPUT: true; the input reads as it did. -/
def fnQuotedEndStableUnderTruncationSpec : ChangeSpec := { name := "fnQuotedEndStableUnderTruncation", fn := fun _ => fun
  | [d1, d2] => { results := [.lit (.bool true)], args := [d1, d2] }
  | _ => none }
def fnQuotedEndStableUnderTruncationRow : OpenClaim := { program := "qxb6000378amods", sum := "f61c6a0b11b0d319489df08fc61f231af74d557053b8e42ae8dcea290fbe9707", func := "example.com/grantwright/grantwright/zzlaws_pkg_tomldoc_b1.FnQuotedEndStableUnderTruncation", spec := "fnQuotedEndStableUnderTruncation", make := .lifted ["publicsums"], apart := false }
def FnQuotedEndStableUnderTruncationSaid : Prop := fnQuotedEndStableUnderTruncationRow.holds Trym.pinned (OpenSpec.ofChange fnQuotedEndStableUnderTruncationSpec)

/-- ITS FALSE NEIGHBOUR: 'it returns false'. Refute it at one input. -/
def fnQuotedEndStableUnderTruncationWrong : ChangeSpec := { name := "fnQuotedEndStableUnderTruncation", fn := fun _ => fun
  | [d1, d2] => { results := [.lit (.bool false)], args := [d1, d2] }
  | _ => none }
def FnQuotedEndStableUnderTruncationWrongFalsely : Prop := fnQuotedEndStableUnderTruncationRow.holds Trym.pinned (OpenSpec.ofChange fnQuotedEndStableUnderTruncationWrong)

/-- 'zzlaws_pkg_tomldoc_b1.FnUnderscoredIffEveryPieceNonEmpty': WHATEVER THE INPUT: true; the input reads as it did. -/
def fnUnderscoredIffEveryPieceNonEmptySpec : ChangeSpec := { name := "fnUnderscoredIffEveryPieceNonEmpty", fn := fun _ => fun
  | [d] => { results := [.lit (.bool true)], args := [d] }
  | _ => none }
def fnUnderscoredIffEveryPieceNonEmptyRow : OpenClaim := { program := "qxb6000378amods", sum := "f61c6a0b11b0d319489df08fc61f231af74d557053b8e42ae8dcea290fbe9707", func := "example.com/grantwright/grantwright/zzlaws_pkg_tomldoc_b1.FnUnderscoredIffEveryPieceNonEmpty", spec := "fnUnderscoredIffEveryPieceNonEmpty", make := .lifted ["publicsums"], apart := false }
def FnUnderscoredIffEveryPieceNonEmptySaid : Prop := fnUnderscoredIffEveryPieceNonEmptyRow.holds Trym.pinned (OpenSpec.ofChange fnUnderscoredIffEveryPieceNonEmptySpec)

/-- ITS FALSE NEIGHBOUR: 'it returns false'. Refute it at one input. -/
def fnUnderscoredIffEveryPieceNonEmptyWrong : ChangeSpec := { name := "fnUnderscoredIffEveryPieceNonEmpty", fn := fun _ => fun
  | [d] => { results := [.lit (.bool false)], args := [d] }
  | _ => none }
def FnUnderscoredIffEveryPieceNonEmptyWrongFalsely : Prop := fnUnderscoredIffEveryPieceNonEmptyRow.holds Trym.pinned (OpenSpec.ofChange fnUnderscoredIffEveryPieceNonEmptyWrong)

/-- 'zzlaws_pkg_tomldoc_b1.FnUnderscoredJoin': WHATEVER THE INPUT: true; the input reads as it did. -/
def fnUnderscoredJoinSpec : ChangeSpec := { name := "fnUnderscoredJoin", fn := fun _ => fun
  | [d1, d2] => { results := [.lit (.bool true)], args := [d1, d2] }
  | _ => none }
def fnUnderscoredJoinRow : OpenClaim := { program := "qxb6000378amods", sum := "f61c6a0b11b0d319489df08fc61f231af74d557053b8e42ae8dcea290fbe9707", func := "example.com/grantwright/grantwright/zzlaws_pkg_tomldoc_b1.FnUnderscoredJoin", spec := "fnUnderscoredJoin", make := .lifted ["publicsums"], apart := false }
def FnUnderscoredJoinSaid : Prop := fnUnderscoredJoinRow.holds Trym.pinned (OpenSpec.ofChange fnUnderscoredJoinSpec)

/-- ITS FALSE NEIGHBOUR: 'it returns false'. Refute it at one input. -/
def fnUnderscoredJoinWrong : ChangeSpec := { name := "fnUnderscoredJoin", fn := fun _ => fun
  | [d1, d2] => { results := [.lit (.bool false)], args := [d1, d2] }
  | _ => none }
def FnUnderscoredJoinWrongFalsely : Prop := fnUnderscoredJoinRow.holds Trym.pinned (OpenSpec.ofChange fnUnderscoredJoinWrong)

/-- 'zzlaws_pkg_tomldoc_b1.FnUnderscoredReversal': WHATEVER THE INPUT: true; the input reads as it did. -/
def fnUnderscoredReversalSpec : ChangeSpec := { name := "fnUnderscoredReversal", fn := fun _ => fun
  | [d] => { results := [.lit (.bool true)], args := [d] }
  | _ => none }
def fnUnderscoredReversalRow : OpenClaim := { program := "qxb6000378amods", sum := "f61c6a0b11b0d319489df08fc61f231af74d557053b8e42ae8dcea290fbe9707", func := "example.com/grantwright/grantwright/zzlaws_pkg_tomldoc_b1.FnUnderscoredReversal", spec := "fnUnderscoredReversal", make := .lifted ["publicsums"], apart := false }
def FnUnderscoredReversalSaid : Prop := fnUnderscoredReversalRow.holds Trym.pinned (OpenSpec.ofChange fnUnderscoredReversalSpec)

/-- ITS FALSE NEIGHBOUR: 'it returns false'. Refute it at one input. -/
def fnUnderscoredReversalWrong : ChangeSpec := { name := "fnUnderscoredReversal", fn := fun _ => fun
  | [d] => { results := [.lit (.bool false)], args := [d] }
  | _ => none }
def FnUnderscoredReversalWrongFalsely : Prop := fnUnderscoredReversalRow.holds Trym.pinned (OpenSpec.ofChange fnUnderscoredReversalWrong)

/-- 'zzlaws_pkg_tomldoc_b1.FnNewlinesCutDocIntoLines': WHATEVER THE INPUT: true; the input reads as it did. -/
def fnNewlinesCutDocIntoLinesSpec : ChangeSpec := { name := "fnNewlinesCutDocIntoLines", fn := fun _ => fun
  | [d] => { results := [.lit (.bool true)], args := [d] }
  | _ => none }
def fnNewlinesCutDocIntoLinesRow : OpenClaim := { program := "qxb6000378amods", sum := "f61c6a0b11b0d319489df08fc61f231af74d557053b8e42ae8dcea290fbe9707", func := "example.com/grantwright/grantwright/zzlaws_pkg_tomldoc_b1.FnNewlinesCutDocIntoLines", spec := "fnNewlinesCutDocIntoLines", inPlace := ["internal/bytealg.Count", "internal/bytealg.IndexByte", "internal/bytealg.Index"], named := ["internal/bytealg.MaxLen"], make := .lifted ["publicsums"], apart := false }
def FnNewlinesCutDocIntoLinesSaid : Prop := fnNewlinesCutDocIntoLinesRow.holds Trym.pinned (OpenSpec.ofChange fnNewlinesCutDocIntoLinesSpec)

/-- ITS FALSE NEIGHBOUR: 'it returns false'. Refute it at one input. -/
def fnNewlinesCutDocIntoLinesWrong : ChangeSpec := { name := "fnNewlinesCutDocIntoLines", fn := fun _ => fun
  | [d] => { results := [.lit (.bool false)], args := [d] }
  | _ => none }
def FnNewlinesCutDocIntoLinesWrongFalsely : Prop := fnNewlinesCutDocIntoLinesRow.holds Trym.pinned (OpenSpec.ofChange fnNewlinesCutDocIntoLinesWrong)

/-- 'zzlaws_pkg_tomldoc_b1.FnNewlinesOfConcatenation': WHATEVER THE INPUT: true; the input reads as it did. -/
def fnNewlinesOfConcatenationSpec : ChangeSpec := { name := "fnNewlinesOfConcatenation", fn := fun _ => fun
  | [d1, d2] => { results := [.lit (.bool true)], args := [d1, d2] }
  | _ => none }
def fnNewlinesOfConcatenationRow : OpenClaim := { program := "qxb6000378amods", sum := "f61c6a0b11b0d319489df08fc61f231af74d557053b8e42ae8dcea290fbe9707", func := "example.com/grantwright/grantwright/zzlaws_pkg_tomldoc_b1.FnNewlinesOfConcatenation", spec := "fnNewlinesOfConcatenation", inPlace := ["internal/bytealg.Count", "internal/bytealg.IndexByte", "internal/bytealg.Index"], named := ["internal/bytealg.MaxLen"], make := .lifted ["publicsums"], apart := false }
def FnNewlinesOfConcatenationSaid : Prop := fnNewlinesOfConcatenationRow.holds Trym.pinned (OpenSpec.ofChange fnNewlinesOfConcatenationSpec)

/-- ITS FALSE NEIGHBOUR: 'it returns false'. Refute it at one input. -/
def fnNewlinesOfConcatenationWrong : ChangeSpec := { name := "fnNewlinesOfConcatenation", fn := fun _ => fun
  | [d1, d2] => { results := [.lit (.bool false)], args := [d1, d2] }
  | _ => none }
def FnNewlinesOfConcatenationWrongFalsely : Prop := fnNewlinesOfConcatenationRow.holds Trym.pinned (OpenSpec.ofChange fnNewlinesOfConcatenationWrong)

end Rows
end Go.Proofs.Qxb6000378aMods
