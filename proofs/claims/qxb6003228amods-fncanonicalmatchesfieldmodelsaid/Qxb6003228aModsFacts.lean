/- The closed facts of the row, one theorem each (the kernel gives its memory back behind each).
   The three facts on the dump's head (k25, k26, k27) go by a lemma over a variable program: reckoned outright over the loaded program each took a minute and nine gigabytes. -/
import Derived.Test.Qxb6003228aModsRows
import Derived.JoinedOf
import Derived.KernelRfl
namespace Go.Proofs.Qxb6003228aMods.Facts
set_option linter.unusedVariables false
theorem strip (m : List (List Char)) : stripLifts liftWords (['p', 'u', 'b', 'l', 'i', 'c', 's', 'u', 'm', 's'] :: ['c', 'u', 't'] :: m) = (["publicsums"], ['c', 'u', 't'] :: m) := by kernel_rfl
theorem mayEnter_of {P : Program} {m : List (List Char)} (hw : behindMainWord (wordsSigns P.initOrder.toList) = ['p', 'u', 'b', 'l', 'i', 'c', 's', 'u', 'm', 's'] :: ['c', 'u', 't'] :: m) (h1 : P.laysLater = false) (h2 : P.bearsReflect = false) (h3 : P.doorFits ["publicsums"] = true) : P.mayEnter = true := by
  unfold Program.mayEnter
  rw [hw]
  show (_ || _) = true
  rw [strip, h1, h2]
  simp only [h3]
  simp
theorem lifts_of {P : Program} {m : List (List Char)} (hw : behindMainWord (wordsSigns P.initOrder.toList) = ['p', 'u', 'b', 'l', 'i', 'c', 's', 'u', 'm', 's'] :: ['c', 'u', 't'] :: m) : P.headLifts = ["publicsums"] := by
  unfold Program.headLifts
  rw [hw, strip]
  rfl
theorem final_of {P : Program} {m : List (List Char)} (hw : behindMainWord (wordsSigns P.initOrder.toList) = ['p', 'u', 'b', 'l', 'i', 'c', 's', 'u', 'm', 's'] :: ['c', 'u', 't'] :: m) : P.liftsFinal = false := by
  unfold Program.liftsFinal
  rw [lifts_of hw, hw]
  kernel_rfl
theorem make_of {P : Program} {m : List (List Char)} (hw : behindMainWord (wordsSigns P.initOrder.toList) = ['p', 'u', 'b', 'l', 'i', 'c', 's', 'u', 'm', 's'] :: ['c', 'u', 't'] :: m) : P.make = some (.lifted ["publicsums"]) := by
  unfold Program.make
  rw [lifts_of hw, hw]
  kernel_rfl
/-- the head word of the dump, sign by sign -/
def signs : List Char := ([104, 97, 114, 110, 101, 115, 115, 32, 101, 48, 51, 100, 56, 52, 48, 54, 99, 50, 52, 56, 48, 48, 57, 99, 50, 52, 53, 55, 48, 98, 101, 48, 101, 102, 52, 52, 48, 97, 52, 56, 48, 97, 100, 53, 50, 98, 50, 50, 102, 56, 55, 54, 53, 49, 56, 100, 101, 99, 48, 54, 56, 49, 98, 102, 51, 54, 97, 98, 97, 57, 50, 57, 32, 112, 117, 98, 108, 105, 99, 115, 117, 109, 115, 32, 99, 117, 116, 32, 97, 116, 32, 101, 120, 97, 109, 112, 108, 101, 46, 99, 111, 109, 47, 99, 108, 101, 112, 115, 121, 100, 114, 97, 47, 99, 108, 101, 112, 115, 121, 100, 114, 97, 47, 122, 122, 108, 97, 119, 115, 95, 112, 107, 103, 95, 118, 114, 102, 95, 98, 49, 46, 70, 110, 67, 97, 110, 111, 110, 105, 99, 97, 108, 77, 97, 116, 99, 104, 101, 115, 70, 105, 101, 108, 100, 77, 111, 100, 101, 108] : List Nat).map Char.ofNat
/-- its words behind the fourth -/
def more : List (List Char) := ([[97, 116], [101, 120, 97, 109, 112, 108, 101, 46, 99, 111, 109, 47, 99, 108, 101, 112, 115, 121, 100, 114, 97, 47, 99, 108, 101, 112, 115, 121, 100, 114, 97, 47, 122, 122, 108, 97, 119, 115, 95, 112, 107, 103, 95, 118, 114, 102, 95, 98, 49, 46, 70, 110, 67, 97, 110, 111, 110, 105, 99, 97, 108, 77, 97, 116, 99, 104, 101, 115, 70, 105, 101, 108, 100, 77, 111, 100, 101, 108]] : List (List Nat)).map (List.map Char.ofNat)
theorem head_signs : Trym.prog.initOrder = String.ofList signs := by kernel_rfl
theorem wrd0 : behindMainWord (wordsSigns signs) = ['p', 'u', 'b', 'l', 'i', 'c', 's', 'u', 'm', 's'] :: ['c', 'u', 't'] :: more := by kernel_rfl
theorem wrd : behindMainWord (wordsSigns Trym.prog.initOrder.toList) = ['p', 'u', 'b', 'l', 'i', 'c', 's', 'u', 'm', 's'] :: ['c', 'u', 't'] :: more := by
  rw [head_signs, String.toList_ofList]; exact wrd0
theorem lays : Trym.prog.laysLater = false := by kernel_rfl
theorem bears : Trym.prog.bearsReflect = false := by kernel_rfl
theorem door : Trym.prog.doorFits ["publicsums"] = true := by kernel_rfl
theorem k0 : (fun (P : Program) (f : FuncId) (fn : Func) (s : ChangeSpec) (c : OpenClaim) => (c.wf (OpenSpec.ofChange s) : Bool)) Trym.prog 3 Trym.f3 (Rows.fnCanonicalMatchesFieldModelSpec) (Rows.fnCanonicalMatchesFieldModelRow) = true := by kernel_rfl
theorem k1 : (fun (P : Program) (f : FuncId) (fn : Func) (s : ChangeSpec) (c : OpenClaim) => (laidOutB P : Bool)) Trym.prog 3 Trym.f3 (Rows.fnCanonicalMatchesFieldModelSpec) (Rows.fnCanonicalMatchesFieldModelRow) = true := by kernel_rfl
theorem k2 : (fun (P : Program) (f : FuncId) (fn : Func) (s : ChangeSpec) (c : OpenClaim) => (mapsRowed P : Bool)) Trym.prog 3 Trym.f3 (Rows.fnCanonicalMatchesFieldModelSpec) (Rows.fnCanonicalMatchesFieldModelRow) = true := by kernel_rfl
theorem k3 : (fun (P : Program) (f : FuncId) (fn : Func) (s : ChangeSpec) (c : OpenClaim) => (fn.params.all (P.readableRec ·) : Bool)) Trym.prog 3 Trym.f3 (Rows.fnCanonicalMatchesFieldModelSpec) (Rows.fnCanonicalMatchesFieldModelRow) = true := by kernel_rfl
theorem k4 : (fun (P : Program) (f : FuncId) (fn : Func) (s : ChangeSpec) (c : OpenClaim) => (namedTie P c.named s.vars : Bool)) Trym.prog 3 Trym.f3 (Rows.fnCanonicalMatchesFieldModelSpec) (Rows.fnCanonicalMatchesFieldModelRow) = true := by kernel_rfl
theorem k5 : (fun (P : Program) (f : FuncId) (fn : Func) (s : ChangeSpec) (c : OpenClaim) => ((c.stops == []) : Bool)) Trym.prog 3 Trym.f3 (Rows.fnCanonicalMatchesFieldModelSpec) (Rows.fnCanonicalMatchesFieldModelRow) = true := by kernel_rfl
theorem k6 : (fun (P : Program) (f : FuncId) (fn : Func) (s : ChangeSpec) (c : OpenClaim) => ((P.stops == []) : Bool)) Trym.prog 3 Trym.f3 (Rows.fnCanonicalMatchesFieldModelSpec) (Rows.fnCanonicalMatchesFieldModelRow) = true := by kernel_rfl
theorem k7 : (fun (P : Program) (f : FuncId) (fn : Func) (s : ChangeSpec) (c : OpenClaim) => ((c.knobs == []) : Bool)) Trym.prog 3 Trym.f3 (Rows.fnCanonicalMatchesFieldModelSpec) (Rows.fnCanonicalMatchesFieldModelRow) = true := by kernel_rfl
theorem k8 : (fun (P : Program) (f : FuncId) (fn : Func) (s : ChangeSpec) (c : OpenClaim) => ((P.stopKnobs == []) : Bool)) Trym.prog 3 Trym.f3 (Rows.fnCanonicalMatchesFieldModelSpec) (Rows.fnCanonicalMatchesFieldModelRow) = true := by kernel_rfl
theorem k9 : (fun (P : Program) (f : FuncId) (fn : Func) (s : ChangeSpec) (c : OpenClaim) => ((c.inPlace == P.inPlace f) : Bool)) Trym.prog 3 Trym.f3 (Rows.fnCanonicalMatchesFieldModelSpec) (Rows.fnCanonicalMatchesFieldModelRow) = true := by kernel_rfl
theorem k10 : (fun (P : Program) (f : FuncId) (fn : Func) (s : ChangeSpec) (c : OpenClaim) => ((c.unfollowed == P.unfollowed f) : Bool)) Trym.prog 3 Trym.f3 (Rows.fnCanonicalMatchesFieldModelSpec) (Rows.fnCanonicalMatchesFieldModelRow) = true := by kernel_rfl
theorem k11 : (fun (P : Program) (f : FuncId) (fn : Func) (s : ChangeSpec) (c : OpenClaim) => ((c.recurses == P.recurses f) : Bool)) Trym.prog 3 Trym.f3 (Rows.fnCanonicalMatchesFieldModelSpec) (Rows.fnCanonicalMatchesFieldModelRow) = true := by kernel_rfl
theorem k12 : (fun (P : Program) (f : FuncId) (fn : Func) (s : ChangeSpec) (c : OpenClaim) => ((c.named == P.varsNamed f) : Bool)) Trym.prog 3 Trym.f3 (Rows.fnCanonicalMatchesFieldModelSpec) (Rows.fnCanonicalMatchesFieldModelRow) = true := by kernel_rfl
theorem k13 : (fun (P : Program) (f : FuncId) (fn : Func) (s : ChangeSpec) (c : OpenClaim) => ((c.maps == (fn.params.toList ++ s.plain.varTypes P).any (P.mapsRec ·)) : Bool)) Trym.prog 3 Trym.f3 (Rows.fnCanonicalMatchesFieldModelSpec) (Rows.fnCanonicalMatchesFieldModelRow) = true := by kernel_rfl
theorem k14 : (fun (P : Program) (f : FuncId) (fn : Func) (s : ChangeSpec) (c : OpenClaim) => ((c.ifaces == (fn.params.toList ++ s.plain.varTypes P).any (P.ifacesRec ·)) : Bool)) Trym.prog 3 Trym.f3 (Rows.fnCanonicalMatchesFieldModelSpec) (Rows.fnCanonicalMatchesFieldModelRow) = true := by kernel_rfl
theorem k15 : (fun (P : Program) (f : FuncId) (fn : Func) (s : ChangeSpec) (c : OpenClaim) => ((c.mapsOut == P.mapsAmong fn.resultTypes.toList) : Bool)) Trym.prog 3 Trym.f3 (Rows.fnCanonicalMatchesFieldModelSpec) (Rows.fnCanonicalMatchesFieldModelRow) = true := by kernel_rfl
theorem k16 : (fun (P : Program) (f : FuncId) (fn : Func) (s : ChangeSpec) (c : OpenClaim) => ((c.loops == (fn.params.toList ++ s.plain.varTypes P).any (P.loopsFrom ·)) : Bool)) Trym.prog 3 Trym.f3 (Rows.fnCanonicalMatchesFieldModelSpec) (Rows.fnCanonicalMatchesFieldModelRow) = true := by kernel_rfl
theorem k17 : (fun (P : Program) (f : FuncId) (fn : Func) (s : ChangeSpec) (c : OpenClaim) => ((c.wideKeys == (fn.params.toList ++ s.plain.varTypes P ++ fn.resultTypes.toList).any (P.wideKeysFrom ·)) : Bool)) Trym.prog 3 Trym.f3 (Rows.fnCanonicalMatchesFieldModelSpec) (Rows.fnCanonicalMatchesFieldModelRow) = true := by kernel_rfl
theorem k18 : (fun (P : Program) (f : FuncId) (fn : Func) (s : ChangeSpec) (c : OpenClaim) => (s.vars.all (P.varReadable ·) : Bool)) Trym.prog 3 Trym.f3 (Rows.fnCanonicalMatchesFieldModelSpec) (Rows.fnCanonicalMatchesFieldModelRow) = true := by kernel_rfl
theorem k19 : (fun (P : Program) (f : FuncId) (fn : Func) (s : ChangeSpec) (c : OpenClaim) => (fn.resultTypes.all (fun t => P.readableRec t && decide (t < P.types.size)) : Bool)) Trym.prog 3 Trym.f3 (Rows.fnCanonicalMatchesFieldModelSpec) (Rows.fnCanonicalMatchesFieldModelRow) = true := by kernel_rfl
theorem k20 : (fun (P : Program) (f : FuncId) (fn : Func) (s : ChangeSpec) (c : OpenClaim) => ((c.ifacesOut == fn.resultTypes.toList.any (P.ifacesRec ·)) : Bool)) Trym.prog 3 Trym.f3 (Rows.fnCanonicalMatchesFieldModelSpec) (Rows.fnCanonicalMatchesFieldModelRow) = true := by kernel_rfl
theorem k21 : (fun (P : Program) (f : FuncId) (fn : Func) (s : ChangeSpec) (c : OpenClaim) => ((c.loopsOut == fn.resultTypes.toList.any (P.loopsFrom ·)) : Bool)) Trym.prog 3 Trym.f3 (Rows.fnCanonicalMatchesFieldModelSpec) (Rows.fnCanonicalMatchesFieldModelRow) = true := by kernel_rfl
theorem k22 : (fun (P : Program) (f : FuncId) (fn : Func) (s : ChangeSpec) (c : OpenClaim) => ((c.plainKeys == P.plainKeys) : Bool)) Trym.prog 3 Trym.f3 (Rows.fnCanonicalMatchesFieldModelSpec) (Rows.fnCanonicalMatchesFieldModelRow) = true := by kernel_rfl
theorem k23 : (fun (P : Program) (f : FuncId) (fn : Func) (s : ChangeSpec) (c : OpenClaim) => (c.shortTexts.isNone : Bool)) Trym.prog 3 Trym.f3 (Rows.fnCanonicalMatchesFieldModelSpec) (Rows.fnCanonicalMatchesFieldModelRow) = true := by kernel_rfl
theorem k24 : (fun (P : Program) (f : FuncId) (fn : Func) (s : ChangeSpec) (c : OpenClaim) => (P.stopsHeard : Bool)) Trym.prog 3 Trym.f3 (Rows.fnCanonicalMatchesFieldModelSpec) (Rows.fnCanonicalMatchesFieldModelRow) = true := by kernel_rfl
theorem k25 : (fun (P : Program) (f : FuncId) (fn : Func) (s : ChangeSpec) (c : OpenClaim) => (P.mayEnter : Bool)) Trym.prog 3 Trym.f3 (Rows.fnCanonicalMatchesFieldModelSpec) (Rows.fnCanonicalMatchesFieldModelRow) = true := mayEnter_of wrd lays bears door
theorem k26 : (fun (P : Program) (f : FuncId) (fn : Func) (s : ChangeSpec) (c : OpenClaim) => ((c.lifted == P.liftsFinal) : Bool)) Trym.prog 3 Trym.f3 (Rows.fnCanonicalMatchesFieldModelSpec) (Rows.fnCanonicalMatchesFieldModelRow) = true := by show (Rows.fnCanonicalMatchesFieldModelRow.lifted == Trym.prog.liftsFinal) = true; rw [final_of wrd]; kernel_rfl
theorem k27 : (fun (P : Program) (f : FuncId) (fn : Func) (s : ChangeSpec) (c : OpenClaim) => ((P.make == some c.make) : Bool)) Trym.prog 3 Trym.f3 (Rows.fnCanonicalMatchesFieldModelSpec) (Rows.fnCanonicalMatchesFieldModelRow) = true := by show (Trym.prog.make == some Rows.fnCanonicalMatchesFieldModelRow.make) = true; rw [make_of wrd]; kernel_rfl
theorem k28 : (fun (P : Program) (f : FuncId) (fn : Func) (s : ChangeSpec) (c : OpenClaim) => ((c.kinds == (if c.domain.isEmpty then [] else fn.params.toList.map fun t => match P.underlying t with | some (.int k) => some k | _ => none)) : Bool)) Trym.prog 3 Trym.f3 (Rows.fnCanonicalMatchesFieldModelSpec) (Rows.fnCanonicalMatchesFieldModelRow) = true := by kernel_rfl
theorem k29 : (fun (P : Program) (f : FuncId) (fn : Func) (s : ChangeSpec) (c : OpenClaim) => ((c.pinned == c.pinnedBy) : Bool)) Trym.prog 3 Trym.f3 (Rows.fnCanonicalMatchesFieldModelSpec) (Rows.fnCanonicalMatchesFieldModelRow) = true := by kernel_rfl
theorem k30 : (fun (P : Program) (f : FuncId) (fn : Func) (s : ChangeSpec) (c : OpenClaim) => ((c.veiled == (fn.params.toList ++ s.plain.varTypes P ++ fn.resultTypes.toList).any (P.veiledRec ·)) : Bool)) Trym.prog 3 Trym.f3 (Rows.fnCanonicalMatchesFieldModelSpec) (Rows.fnCanonicalMatchesFieldModelRow) = true := by kernel_rfl
theorem k31 : (fun (P : Program) (f : FuncId) (fn : Func) (s : ChangeSpec) (c : OpenClaim) => (c.veiledFits P fn.params.toList (fn.params.toList ++ s.plain.varTypes P ++ fn.resultTypes.toList) : Bool)) Trym.prog 3 Trym.f3 (Rows.fnCanonicalMatchesFieldModelSpec) (Rows.fnCanonicalMatchesFieldModelRow) = true := by kernel_rfl
theorem and_mk {a b : Bool} (h : a = true) (g : b = true) : (a && b) = true := by rw [h, g]; rfl
theorem closed : joinedFacts Trym.prog 3 Trym.f3 Rows.fnCanonicalMatchesFieldModelSpec Rows.fnCanonicalMatchesFieldModelRow = true := by
  unfold joinedFacts
  exact (and_mk (and_mk (and_mk (and_mk (and_mk (and_mk (and_mk (and_mk (and_mk (and_mk (and_mk (and_mk (and_mk (and_mk (and_mk (and_mk (and_mk (and_mk (and_mk (and_mk (and_mk (and_mk (and_mk (and_mk (and_mk (and_mk (and_mk (and_mk (and_mk (and_mk (and_mk k0 k1) k2) k3) k4) k5) k6) k7) k8) k9) k10) k11) k12) k13) k14) k15) k16) k17) k18) k19) k20) k21) k22) k23) k24) k25) k26) k27) k28) k29) k30) k31)
end Go.Proofs.Qxb6003228aMods.Facts
