/-
  No cell of these rows narrows 'for every input' (looked for: loops, veiled, ifaces, maps, wideKeys, modest, calm, conditions, laid).
  DERIVED. THE GIVEN ROWS OF THIS SEAT. 1 by the template 'for every input the law returns true; each argument reads behind the call as it read before'; 0 by the template 'total and deterministic' (their statements: Qxb6003228aModsTotals.lean).
  GIVEN WITH THE SEED: the statements are not yours to turn. If you find one false, say at which input.
  Laid BY PROGRAM, IN A SANDBOX (cutbox-rows.mjs): the forced cells as the released guide's own fill.sh prints them over the translation 7ca29291bc4f3c55… (all of the seat's roots in one cut). By AI agents, Wed Nov 11 2026. No macro, syntax, notation, axiom, sorry.
-/
import Derived.Test.Qxb6003228aModsChecked
import GoSem.Claim
import GoSem.ClaimJoined
import GoSem.ClaimMapViews
import Derived.JoinedTies
import Derived.KernelRfl
namespace Go.Proofs.Qxb6003228aMods
/- THE CELL 'sum', in the pinned program and in every row, IS THE sha256 OF THE DUMP (.gsa) THAT Qxb6003228aModsProg.lean LOADS. Nothing in Lean hashes anything: it is a label: what it is worth is what the hold of that sum in a sandbox is worth. -/
noncomputable def Trym.pinned : Pinned := { name := "qxb6003228amods", sum := "7ca29291bc4f3c55ee51ab3dcaa4398f0c2b6a34bf56a8af243264bb9507c383", checked := Trym.checked }
namespace Rows
def none {H : Type} : Left H := { results := [], args := [] }

/-- 'zzlaws_pkg_vrf_b1.FnCanonicalMatchesFieldModel': WHATEVER THE INPUT: true; the input reads as it did. -/
def fnCanonicalMatchesFieldModelSpec : ChangeSpec := { name := "fnCanonicalMatchesFieldModel", fn := fun _ => fun
  | [d] => { results := [.lit (.bool true)], args := [d] }
  | _ => none }
def fnCanonicalMatchesFieldModelRow : OpenClaim := { program := "qxb6003228amods", sum := "7ca29291bc4f3c55ee51ab3dcaa4398f0c2b6a34bf56a8af243264bb9507c383", func := "example.com/clepsydra/clepsydra/zzlaws_pkg_vrf_b1.FnCanonicalMatchesFieldModel", spec := "fnCanonicalMatchesFieldModel", make := .lifted ["publicsums"], apart := false }
def FnCanonicalMatchesFieldModelSaid : Prop := fnCanonicalMatchesFieldModelRow.holds Trym.pinned (OpenSpec.ofChange fnCanonicalMatchesFieldModelSpec)

/-- ITS FALSE NEIGHBOUR: 'it returns false'. Refute it at one input. -/
def fnCanonicalMatchesFieldModelWrong : ChangeSpec := { name := "fnCanonicalMatchesFieldModel", fn := fun _ => fun
  | [d] => { results := [.lit (.bool false)], args := [d] }
  | _ => none }
def FnCanonicalMatchesFieldModelWrongFalsely : Prop := fnCanonicalMatchesFieldModelRow.holds Trym.pinned (OpenSpec.ofChange fnCanonicalMatchesFieldModelWrong)

end Rows
end Go.Proofs.Qxb6003228aMods
