/- The closed facts of the row. The three on the dump's head (mayEnter, liftsFinal, make) go by lemmas over a variable program:
   reckoned outright over the loaded program of seat b6000378aM they took 63 to 71 s each, at a peak of 9.8 GB, and all facts in one kernel_rfl ran over the lid. The rest is one kernel_rfl. -/
import Derived.Test.Qxb6003228aModsRows
import Derived.JoinedOf
import Derived.KernelRfl
namespace Go.Proofs.Qxb6003228aMods.Facts
theorem strip (m : List (List Char)) : stripLifts liftWords (['p', 'u', 'b', 'l', 'i', 'c', 's', 'u', 'm', 's'] :: ['c', 'u', 't'] :: m) = (["publicsums"], ['c', 'u', 't'] :: m) := by kernel_rfl
theorem mayEnter_of {P : Program} {m : List (List Char)} (hw : behindMainWord (wordsSigns P.initOrder.toList) = ['p', 'u', 'b', 'l', 'i', 'c', 's', 'u', 'm', 's'] :: ['c', 'u', 't'] :: m) (h1 : P.laysLater = false) (h2 : P.bearsReflect = false) (h3 : P.doorFits ["publicsums"] = true) : P.mayEnter = true := by
  unfold Program.mayEnter
  rw [hw]
  show (_ || _) = true
  rw [strip, h1, h2]
  simp only [h3]
  simp
theorem lifts_of {P : Program} {m : List (List Char)} (hw : behindMainWord (wordsSigns P.initOrder.toList) = ['p', 'u', 'b', 'l', 'i', 'c', 's', 'u', 'm', 's'] :: ['c', 'u', 't'] :: m) : P.headLifts = ["publicsums"] := by
  unfold Program.headLifts
  rw [hw, strip]
  rfl
theorem final_of {P : Program} {m : List (List Char)} (hw : behindMainWord (wordsSigns P.initOrder.toList) = ['p', 'u', 'b', 'l', 'i', 'c', 's', 'u', 'm', 's'] :: ['c', 'u', 't'] :: m) : P.liftsFinal = false := by
  unfold Program.liftsFinal
  rw [lifts_of hw, hw]
  kernel_rfl
theorem make_of {P : Program} {m : List (List Char)} (hw : behindMainWord (wordsSigns P.initOrder.toList) = ['p', 'u', 'b', 'l', 'i', 'c', 's', 'u', 'm', 's'] :: ['c', 'u', 't'] :: m) : P.make = some (.lifted ["publicsums"]) := by
  unfold Program.make
  rw [lifts_of hw, hw]
  kernel_rfl
/-- the head word of the dump, sign by sign -/
def signs : List Char := ([104, 97, 114, 110, 101, 115, 115, 32, 101, 48, 51, 100, 56, 52, 48, 54, 99, 50, 52, 56, 48, 48, 57, 99, 50, 52, 53, 55, 48, 98, 101, 48, 101, 102, 52, 52, 48, 97, 52, 56, 48, 97, 100, 53, 50, 98, 50, 50, 102, 56, 55, 54, 53, 49, 56, 100, 101, 99, 48, 54, 56, 49, 98, 102, 51, 54, 97, 98, 97, 57, 50, 57, 32, 112, 117, 98, 108, 105, 99, 115, 117, 109, 115, 32, 99, 117, 116, 32, 97, 116, 32, 101, 120, 97, 109, 112, 108, 101, 46, 99, 111, 109, 47, 99, 108, 101, 112, 115, 121, 100, 114, 97, 47, 99, 108, 101, 112, 115, 121, 100, 114, 97, 47, 122, 122, 108, 97, 119, 115, 95, 112, 107, 103, 95, 118, 114, 102, 95, 98, 49, 46, 70, 110, 67, 97, 110, 111, 110, 105, 99, 97, 108, 77, 97, 116, 99, 104, 101, 115, 70, 105, 101, 108, 100, 77, 111, 100, 101, 108] : List Nat).map Char.ofNat
/-- its words behind the fourth -/
def more : List (List Char) := ([[97, 116], [101, 120, 97, 109, 112, 108, 101, 46, 99, 111, 109, 47, 99, 108, 101, 112, 115, 121, 100, 114, 97, 47, 99, 108, 101, 112, 115, 121, 100, 114, 97, 47, 122, 122, 108, 97, 119, 115, 95, 112, 107, 103, 95, 118, 114, 102, 95, 98, 49, 46, 70, 110, 67, 97, 110, 111, 110, 105, 99, 97, 108, 77, 97, 116, 99, 104, 101, 115, 70, 105, 101, 108, 100, 77, 111, 100, 101, 108]] : List (List Nat)).map (List.map Char.ofNat)
theorem head_signs : Trym.prog.initOrder = String.ofList signs := by kernel_rfl
theorem wrd0 : behindMainWord (wordsSigns signs) = ['p', 'u', 'b', 'l', 'i', 'c', 's', 'u', 'm', 's'] :: ['c', 'u', 't'] :: more := by kernel_rfl
theorem wrd : behindMainWord (wordsSigns Trym.prog.initOrder.toList) = ['p', 'u', 'b', 'l', 'i', 'c', 's', 'u', 'm', 's'] :: ['c', 'u', 't'] :: more := by
  rw [head_signs, String.toList_ofList]; exact wrd0
theorem lays : Trym.prog.laysLater = false := by kernel_rfl
theorem bears : Trym.prog.bearsReflect = false := by kernel_rfl
theorem door : Trym.prog.doorFits ["publicsums"] = true := by kernel_rfl
theorem closed : joinedFacts Trym.prog 3 Trym.f3 Rows.fnCanonicalMatchesFieldModelSpec Rows.fnCanonicalMatchesFieldModelRow = true := by
  unfold joinedFacts
  rw [mayEnter_of wrd lays bears door, final_of wrd, make_of wrd]
  kernel_rfl
end Go.Proofs.Qxb6003228aMods.Facts
