/-
  No cell of these rows narrows 'for every input' (looked for: loops, veiled, ifaces, maps, wideKeys, modest, calm, conditions, laid).
  DERIVED. THE GIVEN ROWS OF THIS SEAT. 3 by the template 'for every input the law returns true; each argument reads behind the call as it read before'; 0 by the template 'total and deterministic' (their statements: Qxb6000927aModsTotals.lean).
  GIVEN WITH THE SEED: the statements are not yours to turn. If you find one false, say at which input.
  Laid BY PROGRAM, IN A SANDBOX (cutbox-rows.mjs): the forced cells as the released guide's own fill.sh prints them over the translation 7d75238a6377dd1a… (all of the seat's roots in one cut). By AI agents, Wed Nov 11 2026. No macro, syntax, notation, axiom, sorry.
-/
import Derived.Test.Qxb6000927aModsChecked
import GoSem.Claim
import GoSem.ClaimJoined
import GoSem.ClaimMapViews
import Derived.JoinedTies
import Derived.KernelRfl
namespace Go.Proofs.Qxb6000927aMods
/- THE CELL 'sum', in the pinned program and in every row, IS THE sha256 OF THE DUMP (.gsa) THAT Qxb6000927aModsProg.lean LOADS. Nothing in Lean hashes anything: it is a label: what it is worth is what the hold of that sum in a sandbox is worth. -/
noncomputable def Trym.pinned : Pinned := { name := "qxb6000927amods", sum := "7d75238a6377dd1a1ea8b4f557966ac43634da96cb1680d4db5f3dc34015fa64", checked := Trym.checked }
namespace Rows
def none {H : Type} : Left H := { results := [], args := [] }

/-- 'zzlaws_root_b1.FnIsLabelMatchesGrammar': WHATEVER THE INPUT: true; the input reads as it did. -/
def fnIsLabelMatchesGrammarSpec : ChangeSpec := { name := "fnIsLabelMatchesGrammar", fn := fun _ => fun
  | [d] => { results := [.lit (.bool true)], args := [d] }
  | _ => none }
def fnIsLabelMatchesGrammarRow : OpenClaim := { program := "qxb6000927amods", sum := "7d75238a6377dd1a1ea8b4f557966ac43634da96cb1680d4db5f3dc34015fa64", func := "example.com/certloom/certloom/zzlaws_root_b1.FnIsLabelMatchesGrammar", spec := "fnIsLabelMatchesGrammar", make := .lifted ["publicsums"], apart := false }
def FnIsLabelMatchesGrammarSaid : Prop := fnIsLabelMatchesGrammarRow.holds Trym.pinned (OpenSpec.ofChange fnIsLabelMatchesGrammarSpec)

/-- ITS FALSE NEIGHBOUR: 'it returns false'. Refute it at one input. -/
def fnIsLabelMatchesGrammarWrong : ChangeSpec := { name := "fnIsLabelMatchesGrammar", fn := fun _ => fun
  | [d] => { results := [.lit (.bool false)], args := [d] }
  | _ => none }
def FnIsLabelMatchesGrammarWrongFalsely : Prop := fnIsLabelMatchesGrammarRow.holds Trym.pinned (OpenSpec.ofChange fnIsLabelMatchesGrammarWrong)

/-- 'zzlaws_root_b1.FnIsLabelJoinsReverseRefusals': WHATEVER THE INPUT: true; the input reads as it did. -/
def fnIsLabelJoinsReverseRefusalsSpec : ChangeSpec := { name := "fnIsLabelJoinsReverseRefusals", fn := fun _ => fun
  | [d1, d2] => { results := [.lit (.bool true)], args := [d1, d2] }
  | _ => none }
def fnIsLabelJoinsReverseRefusalsRow : OpenClaim := { program := "qxb6000927amods", sum := "7d75238a6377dd1a1ea8b4f557966ac43634da96cb1680d4db5f3dc34015fa64", func := "example.com/certloom/certloom/zzlaws_root_b1.FnIsLabelJoinsReverseRefusals", spec := "fnIsLabelJoinsReverseRefusals", make := .lifted ["publicsums"], apart := false }
def FnIsLabelJoinsReverseRefusalsSaid : Prop := fnIsLabelJoinsReverseRefusalsRow.holds Trym.pinned (OpenSpec.ofChange fnIsLabelJoinsReverseRefusalsSpec)

/-- ITS FALSE NEIGHBOUR: 'it returns false'. Refute it at one input. -/
def fnIsLabelJoinsReverseRefusalsWrong : ChangeSpec := { name := "fnIsLabelJoinsReverseRefusals", fn := fun _ => fun
  | [d1, d2] => { results := [.lit (.bool false)], args := [d1, d2] }
  | _ => none }
def FnIsLabelJoinsReverseRefusalsWrongFalsely : Prop := fnIsLabelJoinsReverseRefusalsRow.holds Trym.pinned (OpenSpec.ofChange fnIsLabelJoinsReverseRefusalsWrong)

/-- 'zzlaws_root_b1.FnIsLabelCaseBlind': WHATEVER THE INPUT: true; the input reads as it did. -/
def fnIsLabelCaseBlindSpec : ChangeSpec := { name := "fnIsLabelCaseBlind", fn := fun _ => fun
  | [d] => { results := [.lit (.bool true)], args := [d] }
  | _ => none }
def fnIsLabelCaseBlindRow : OpenClaim := { program := "qxb6000927amods", sum := "7d75238a6377dd1a1ea8b4f557966ac43634da96cb1680d4db5f3dc34015fa64", func := "example.com/certloom/certloom/zzlaws_root_b1.FnIsLabelCaseBlind", spec := "fnIsLabelCaseBlind", make := .lifted ["publicsums"], apart := false }
def FnIsLabelCaseBlindSaid : Prop := fnIsLabelCaseBlindRow.holds Trym.pinned (OpenSpec.ofChange fnIsLabelCaseBlindSpec)

/-- ITS FALSE NEIGHBOUR: 'it returns false'. Refute it at one input. -/
def fnIsLabelCaseBlindWrong : ChangeSpec := { name := "fnIsLabelCaseBlind", fn := fun _ => fun
  | [d] => { results := [.lit (.bool false)], args := [d] }
  | _ => none }
def FnIsLabelCaseBlindWrongFalsely : Prop := fnIsLabelCaseBlindRow.holds Trym.pinned (OpenSpec.ofChange fnIsLabelCaseBlindWrong)

end Rows
end Go.Proofs.Qxb6000927aMods
