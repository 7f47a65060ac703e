/-
  No cell of these rows narrows 'for every input' (looked for: loops, veiled, ifaces, maps, wideKeys, modest, calm, conditions, laid).
  DERIVED. THE GIVEN ROWS OF THIS SEAT. 5 by the template 'for every input the law returns true; each argument reads behind the call as it read before'; 0 by the template 'total and deterministic' (their statements: Qxb6001456aModsTotals.lean).
  GIVEN WITH THE SEED: the statements are not yours to turn. If you find one false, say at which input.
  Laid BY PROGRAM, IN A SANDBOX (cutbox-rows.mjs): the forced cells as the released guide's own fill.sh prints them over the translation 926032bbddd3fd2c… (all of the seat's roots in one cut). By AI agents, Wed Nov 11 2026. No macro, syntax, notation, axiom, sorry.
-/
import Derived.Test.Qxb6001456aModsChecked
import GoSem.Claim
import GoSem.ClaimJoined
import GoSem.ClaimMapViews
import Derived.JoinedTies
import Derived.KernelRfl
namespace Go.Proofs.Qxb6001456aMods
/- THE CELL 'sum', in the pinned program and in every row, IS THE sha256 OF THE DUMP (.gsa) THAT Qxb6001456aModsProg.lean LOADS. Nothing in Lean hashes anything: it is a label: what it is worth is what the hold of that sum in a sandbox is worth. -/
noncomputable def Trym.pinned : Pinned := { name := "qxb6001456amods", sum := "926032bbddd3fd2cfc2d453b726d299e0fbb2c619c0c4477340182bb5f799989", checked := Trym.checked }
namespace Rows
def none {H : Type} : Left H := { results := [], args := [] }

/-- 'zzlaws_root_b1.FnScanSQLTokenStaysInText': WHATEVER THE INPUT: true; the input reads as it did. -/
def fnScanSQLTokenStaysInTextSpec : ChangeSpec := { name := "fnScanSQLTokenStaysInText", fn := fun _ => fun
  | [d1, d2] => { results := [.lit (.bool true)], args := [d1, d2] }
  | _ => none }
def fnScanSQLTokenStaysInTextRow : OpenClaim := { program := "qxb6001456amods", sum := "926032bbddd3fd2cfc2d453b726d299e0fbb2c619c0c4477340182bb5f799989", func := "example.com/crossgrade/crossgrade/zzlaws_root_b1.FnScanSQLTokenStaysInText", spec := "fnScanSQLTokenStaysInText", inPlace := ["internal/bytealg.IndexByteString", "internal/bytealg.IndexString"], named := ["internal/bytealg.MaxLen"], make := .lifted ["publicsums"], apart := false }
def FnScanSQLTokenStaysInTextSaid : Prop := fnScanSQLTokenStaysInTextRow.holds Trym.pinned (OpenSpec.ofChange fnScanSQLTokenStaysInTextSpec)

/-- ITS FALSE NEIGHBOUR: 'it returns false'. Refute it at one input. -/
def fnScanSQLTokenStaysInTextWrong : ChangeSpec := { name := "fnScanSQLTokenStaysInText", fn := fun _ => fun
  | [d1, d2] => { results := [.lit (.bool false)], args := [d1, d2] }
  | _ => none }
def FnScanSQLTokenStaysInTextWrongFalsely : Prop := fnScanSQLTokenStaysInTextRow.holds Trym.pinned (OpenSpec.ofChange fnScanSQLTokenStaysInTextWrong)

/-- 'zzlaws_root_b1.FnScanSQLTokenIgnoresWhatCameBefore': WHATEVER THE INPUT: true; the input reads as it did. -/
def fnScanSQLTokenIgnoresWhatCameBeforeSpec : ChangeSpec := { name := "fnScanSQLTokenIgnoresWhatCameBefore", fn := fun _ => fun
  | [d1, d2, d3] => { results := [.lit (.bool true)], args := [d1, d2, d3] }
  | _ => none }
def fnScanSQLTokenIgnoresWhatCameBeforeRow : OpenClaim := { program := "qxb6001456amods", sum := "926032bbddd3fd2cfc2d453b726d299e0fbb2c619c0c4477340182bb5f799989", func := "example.com/crossgrade/crossgrade/zzlaws_root_b1.FnScanSQLTokenIgnoresWhatCameBefore", spec := "fnScanSQLTokenIgnoresWhatCameBefore", inPlace := ["internal/bytealg.IndexByteString", "internal/bytealg.IndexString"], named := ["internal/bytealg.MaxLen"], make := .lifted ["publicsums"], apart := false }
def FnScanSQLTokenIgnoresWhatCameBeforeSaid : Prop := fnScanSQLTokenIgnoresWhatCameBeforeRow.holds Trym.pinned (OpenSpec.ofChange fnScanSQLTokenIgnoresWhatCameBeforeSpec)

/-- ITS FALSE NEIGHBOUR: 'it returns false'. Refute it at one input. -/
def fnScanSQLTokenIgnoresWhatCameBeforeWrong : ChangeSpec := { name := "fnScanSQLTokenIgnoresWhatCameBefore", fn := fun _ => fun
  | [d1, d2, d3] => { results := [.lit (.bool false)], args := [d1, d2, d3] }
  | _ => none }
def FnScanSQLTokenIgnoresWhatCameBeforeWrongFalsely : Prop := fnScanSQLTokenIgnoresWhatCameBeforeRow.holds Trym.pinned (OpenSpec.ofChange fnScanSQLTokenIgnoresWhatCameBeforeWrong)

/-- 'zzlaws_root_b1.FnScanSQLTokenShapes': WHATEVER THE INPUT: true; the input reads as it did. -/
def fnScanSQLTokenShapesSpec : ChangeSpec := { name := "fnScanSQLTokenShapes", fn := fun _ => fun
  | [d1, d2] => { results := [.lit (.bool true)], args := [d1, d2] }
  | _ => none }
def fnScanSQLTokenShapesRow : OpenClaim := { program := "qxb6001456amods", sum := "926032bbddd3fd2cfc2d453b726d299e0fbb2c619c0c4477340182bb5f799989", func := "example.com/crossgrade/crossgrade/zzlaws_root_b1.FnScanSQLTokenShapes", spec := "fnScanSQLTokenShapes", inPlace := ["internal/bytealg.IndexByteString", "internal/bytealg.IndexString"], named := ["internal/bytealg.MaxLen"], make := .lifted ["publicsums"], apart := false }
def FnScanSQLTokenShapesSaid : Prop := fnScanSQLTokenShapesRow.holds Trym.pinned (OpenSpec.ofChange fnScanSQLTokenShapesSpec)

/-- ITS FALSE NEIGHBOUR: 'it returns false'. Refute it at one input. -/
def fnScanSQLTokenShapesWrong : ChangeSpec := { name := "fnScanSQLTokenShapes", fn := fun _ => fun
  | [d1, d2] => { results := [.lit (.bool false)], args := [d1, d2] }
  | _ => none }
def FnScanSQLTokenShapesWrongFalsely : Prop := fnScanSQLTokenShapesRow.holds Trym.pinned (OpenSpec.ofChange fnScanSQLTokenShapesWrong)

/-- 'zzlaws_root_b1.FnControlsTransactionRollbackToKeepsItOpen': WHATEVER THE INPUT: true; the input reads as it did. -/
def fnControlsTransactionRollbackToKeepsItOpenSpec : ChangeSpec := { name := "fnControlsTransactionRollbackToKeepsItOpen", fn := fun _ => fun
  | [d1, d2] => { results := [.lit (.bool true)], args := [d1, d2] }
  | _ => none }
def fnControlsTransactionRollbackToKeepsItOpenRow : OpenClaim := { program := "qxb6001456amods", sum := "926032bbddd3fd2cfc2d453b726d299e0fbb2c619c0c4477340182bb5f799989", func := "example.com/crossgrade/crossgrade/zzlaws_root_b1.FnControlsTransactionRollbackToKeepsItOpen", spec := "fnControlsTransactionRollbackToKeepsItOpen", make := .lifted ["publicsums"], apart := false }
def FnControlsTransactionRollbackToKeepsItOpenSaid : Prop := fnControlsTransactionRollbackToKeepsItOpenRow.holds Trym.pinned (OpenSpec.ofChange fnControlsTransactionRollbackToKeepsItOpenSpec)

/-- ITS FALSE NEIGHBOUR: 'it returns false'. Refute it at one input. -/
def fnControlsTransactionRollbackToKeepsItOpenWrong : ChangeSpec := { name := "fnControlsTransactionRollbackToKeepsItOpen", fn := fun _ => fun
  | [d1, d2] => { results := [.lit (.bool false)], args := [d1, d2] }
  | _ => none }
def FnControlsTransactionRollbackToKeepsItOpenWrongFalsely : Prop := fnControlsTransactionRollbackToKeepsItOpenRow.holds Trym.pinned (OpenSpec.ofChange fnControlsTransactionRollbackToKeepsItOpenWrong)

/-- 'zzlaws_root_b1.FnControlsTransactionWordsAfterTheThirdDoNotMatter': WHATEVER THE INPUT: true; the input reads as it did. -/
def fnControlsTransactionWordsAfterTheThirdDoNotMatterSpec : ChangeSpec := { name := "fnControlsTransactionWordsAfterTheThirdDoNotMatter", fn := fun _ => fun
  | [d1, d2] => { results := [.lit (.bool true)], args := [d1, d2] }
  | _ => none }
def fnControlsTransactionWordsAfterTheThirdDoNotMatterRow : OpenClaim := { program := "qxb6001456amods", sum := "926032bbddd3fd2cfc2d453b726d299e0fbb2c619c0c4477340182bb5f799989", func := "example.com/crossgrade/crossgrade/zzlaws_root_b1.FnControlsTransactionWordsAfterTheThirdDoNotMatter", spec := "fnControlsTransactionWordsAfterTheThirdDoNotMatter", make := .lifted ["publicsums"], apart := false }
def FnControlsTransactionWordsAfterTheThirdDoNotMatterSaid : Prop := fnControlsTransactionWordsAfterTheThirdDoNotMatterRow.holds Trym.pinned (OpenSpec.ofChange fnControlsTransactionWordsAfterTheThirdDoNotMatterSpec)

/-- ITS FALSE NEIGHBOUR: 'it returns false'. Refute it at one input. -/
def fnControlsTransactionWordsAfterTheThirdDoNotMatterWrong : ChangeSpec := { name := "fnControlsTransactionWordsAfterTheThirdDoNotMatter", fn := fun _ => fun
  | [d1, d2] => { results := [.lit (.bool false)], args := [d1, d2] }
  | _ => none }
def FnControlsTransactionWordsAfterTheThirdDoNotMatterWrongFalsely : Prop := fnControlsTransactionWordsAfterTheThirdDoNotMatterRow.holds Trym.pinned (OpenSpec.ofChange fnControlsTransactionWordsAfterTheThirdDoNotMatterWrong)

end Rows
end Go.Proofs.Qxb6001456aMods
