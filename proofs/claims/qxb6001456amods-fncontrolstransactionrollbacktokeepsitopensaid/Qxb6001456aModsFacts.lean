/- The closed facts of the row. The three on the dump's head (mayEnter, liftsFinal, make) go by lemmas over a variable program:
   reckoned outright over the loaded program of seat b6000378aM they took 63 to 71 s each, at a peak of 9.8 GB, and all facts in one kernel_rfl ran over the lid. The rest is one kernel_rfl. -/
import Derived.Test.Qxb6001456aModsRows
import Derived.JoinedOf
import Derived.KernelRfl
namespace Go.Proofs.Qxb6001456aMods.Facts
theorem strip (m : List (List Char)) : stripLifts liftWords (['p', 'u', 'b', 'l', 'i', 'c', 's', 'u', 'm', 's'] :: ['c', 'u', 't'] :: m) = (["publicsums"], ['c', 'u', 't'] :: m) := by kernel_rfl
theorem mayEnter_of {P : Program} {m : List (List Char)} (hw : behindMainWord (wordsSigns P.initOrder.toList) = ['p', 'u', 'b', 'l', 'i', 'c', 's', 'u', 'm', 's'] :: ['c', 'u', 't'] :: m) (h1 : P.laysLater = false) (h2 : P.bearsReflect = false) (h3 : P.doorFits ["publicsums"] = true) : P.mayEnter = true := by
  unfold Program.mayEnter
  rw [hw]
  show (_ || _) = true
  rw [strip, h1, h2]
  simp only [h3]
  simp
theorem lifts_of {P : Program} {m : List (List Char)} (hw : behindMainWord (wordsSigns P.initOrder.toList) = ['p', 'u', 'b', 'l', 'i', 'c', 's', 'u', 'm', 's'] :: ['c', 'u', 't'] :: m) : P.headLifts = ["publicsums"] := by
  unfold Program.headLifts
  rw [hw, strip]
  rfl
theorem final_of {P : Program} {m : List (List Char)} (hw : behindMainWord (wordsSigns P.initOrder.toList) = ['p', 'u', 'b', 'l', 'i', 'c', 's', 'u', 'm', 's'] :: ['c', 'u', 't'] :: m) : P.liftsFinal = false := by
  unfold Program.liftsFinal
  rw [lifts_of hw, hw]
  kernel_rfl
theorem make_of {P : Program} {m : List (List Char)} (hw : behindMainWord (wordsSigns P.initOrder.toList) = ['p', 'u', 'b', 'l', 'i', 'c', 's', 'u', 'm', 's'] :: ['c', 'u', 't'] :: m) : P.make = some (.lifted ["publicsums"]) := by
  unfold Program.make
  rw [lifts_of hw, hw]
  kernel_rfl
/-- the head word of the dump, sign by sign -/
def signs : List Char := ([104, 97, 114, 110, 101, 115, 115, 32, 51, 100, 55, 97, 102, 50, 99, 54, 56, 102, 102, 48, 50, 99, 51, 100, 98, 50, 55, 49, 100, 54, 97, 97, 49, 49, 49, 49, 56, 50, 50, 51, 98, 97, 97, 55, 101, 102, 97, 102, 102, 52, 55, 57, 50, 56, 101, 51, 51, 56, 50, 100, 99, 55, 102, 101, 100, 50, 99, 102, 52, 100, 98, 52, 32, 112, 117, 98, 108, 105, 99, 115, 117, 109, 115, 32, 99, 117, 116, 32, 97, 116, 32, 101, 120, 97, 109, 112, 108, 101, 46, 99, 111, 109, 47, 99, 114, 111, 115, 115, 103, 114, 97, 100, 101, 47, 99, 114, 111, 115, 115, 103, 114, 97, 100, 101, 47, 122, 122, 108, 97, 119, 115, 95, 114, 111, 111, 116, 95, 98, 49, 46, 70, 110, 83, 99, 97, 110, 83, 81, 76, 84, 111, 107, 101, 110, 83, 116, 97, 121, 115, 73, 110, 84, 101, 120, 116, 32, 101, 120, 97, 109, 112, 108, 101, 46, 99, 111, 109, 47, 99, 114, 111, 115, 115, 103, 114, 97, 100, 101, 47, 99, 114, 111, 115, 115, 103, 114, 97, 100, 101, 47, 122, 122, 108, 97, 119, 115, 95, 114, 111, 111, 116, 95, 98, 49, 46, 70, 110, 83, 99, 97, 110, 83, 81, 76, 84, 111, 107, 101, 110, 73, 103, 110, 111, 114, 101, 115, 87, 104, 97, 116, 67, 97, 109, 101, 66, 101, 102, 111, 114, 101, 32, 101, 120, 97, 109, 112, 108, 101, 46, 99, 111, 109, 47, 99, 114, 111, 115, 115, 103, 114, 97, 100, 101, 47, 99, 114, 111, 115, 115, 103, 114, 97, 100, 101, 47, 122, 122, 108, 97, 119, 115, 95, 114, 111, 111, 116, 95, 98, 49, 46, 70, 110, 83, 99, 97, 110, 83, 81, 76, 84, 111, 107, 101, 110, 83, 104, 97, 112, 101, 115, 32, 101, 120, 97, 109, 112, 108, 101, 46, 99, 111, 109, 47, 99, 114, 111, 115, 115, 103, 114, 97, 100, 101, 47, 99, 114, 111, 115, 115, 103, 114, 97, 100, 101, 47, 122, 122, 108, 97, 119, 115, 95, 114, 111, 111, 116, 95, 98, 49, 46, 70, 110, 67, 111, 110, 116, 114, 111, 108, 115, 84, 114, 97, 110, 115, 97, 99, 116, 105, 111, 110, 82, 111, 108, 108, 98, 97, 99, 107, 84, 111, 75, 101, 101, 112, 115, 73, 116, 79, 112, 101, 110, 32, 101, 120, 97, 109, 112, 108, 101, 46, 99, 111, 109, 47, 99, 114, 111, 115, 115, 103, 114, 97, 100, 101, 47, 99, 114, 111, 115, 115, 103, 114, 97, 100, 101, 47, 122, 122, 108, 97, 119, 115, 95, 114, 111, 111, 116, 95, 98, 49, 46, 70, 110, 67, 111, 110, 116, 114, 111, 108, 115, 84, 114, 97, 110, 115, 97, 99, 116, 105, 111, 110, 87, 111, 114, 100, 115, 65, 102, 116, 101, 114, 84, 104, 101, 84, 104, 105, 114, 100, 68, 111, 78, 111, 116, 77, 97, 116, 116, 101, 114] : List Nat).map Char.ofNat
/-- its words behind the fourth -/
def more : List (List Char) := ([[97, 116], [101, 120, 97, 109, 112, 108, 101, 46, 99, 111, 109, 47, 99, 114, 111, 115, 115, 103, 114, 97, 100, 101, 47, 99, 114, 111, 115, 115, 103, 114, 97, 100, 101, 47, 122, 122, 108, 97, 119, 115, 95, 114, 111, 111, 116, 95, 98, 49, 46, 70, 110, 83, 99, 97, 110, 83, 81, 76, 84, 111, 107, 101, 110, 83, 116, 97, 121, 115, 73, 110, 84, 101, 120, 116], [101, 120, 97, 109, 112, 108, 101, 46, 99, 111, 109, 47, 99, 114, 111, 115, 115, 103, 114, 97, 100, 101, 47, 99, 114, 111, 115, 115, 103, 114, 97, 100, 101, 47, 122, 122, 108, 97, 119, 115, 95, 114, 111, 111, 116, 95, 98, 49, 46, 70, 110, 83, 99, 97, 110, 83, 81, 76, 84, 111, 107, 101, 110, 73, 103, 110, 111, 114, 101, 115, 87, 104, 97, 116, 67, 97, 109, 101, 66, 101, 102, 111, 114, 101], [101, 120, 97, 109, 112, 108, 101, 46, 99, 111, 109, 47, 99, 114, 111, 115, 115, 103, 114, 97, 100, 101, 47, 99, 114, 111, 115, 115, 103, 114, 97, 100, 101, 47, 122, 122, 108, 97, 119, 115, 95, 114, 111, 111, 116, 95, 98, 49, 46, 70, 110, 83, 99, 97, 110, 83, 81, 76, 84, 111, 107, 101, 110, 83, 104, 97, 112, 101, 115], [101, 120, 97, 109, 112, 108, 101, 46, 99, 111, 109, 47, 99, 114, 111, 115, 115, 103, 114, 97, 100, 101, 47, 99, 114, 111, 115, 115, 103, 114, 97, 100, 101, 47, 122, 122, 108, 97, 119, 115, 95, 114, 111, 111, 116, 95, 98, 49, 46, 70, 110, 67, 111, 110, 116, 114, 111, 108, 115, 84, 114, 97, 110, 115, 97, 99, 116, 105, 111, 110, 82, 111, 108, 108, 98, 97, 99, 107, 84, 111, 75, 101, 101, 112, 115, 73, 116, 79, 112, 101, 110], [101, 120, 97, 109, 112, 108, 101, 46, 99, 111, 109, 47, 99, 114, 111, 115, 115, 103, 114, 97, 100, 101, 47, 99, 114, 111, 115, 115, 103, 114, 97, 100, 101, 47, 122, 122, 108, 97, 119, 115, 95, 114, 111, 111, 116, 95, 98, 49, 46, 70, 110, 67, 111, 110, 116, 114, 111, 108, 115, 84, 114, 97, 110, 115, 97, 99, 116, 105, 111, 110, 87, 111, 114, 100, 115, 65, 102, 116, 101, 114, 84, 104, 101, 84, 104, 105, 114, 100, 68, 111, 78, 111, 116, 77, 97, 116, 116, 101, 114]] : List (List Nat)).map (List.map Char.ofNat)
theorem head_signs : Trym.prog.initOrder = String.ofList signs := by kernel_rfl
theorem wrd0 : behindMainWord (wordsSigns signs) = ['p', 'u', 'b', 'l', 'i', 'c', 's', 'u', 'm', 's'] :: ['c', 'u', 't'] :: more := by kernel_rfl
theorem wrd : behindMainWord (wordsSigns Trym.prog.initOrder.toList) = ['p', 'u', 'b', 'l', 'i', 'c', 's', 'u', 'm', 's'] :: ['c', 'u', 't'] :: more := by
  rw [head_signs, String.toList_ofList]; exact wrd0
theorem lays : Trym.prog.laysLater = false := by kernel_rfl
theorem bears : Trym.prog.bearsReflect = false := by kernel_rfl
theorem door : Trym.prog.doorFits ["publicsums"] = true := by kernel_rfl
theorem closed : joinedFacts Trym.prog 6 Trym.f6 Rows.fnControlsTransactionRollbackToKeepsItOpenSpec Rows.fnControlsTransactionRollbackToKeepsItOpenRow = true := by
  unfold joinedFacts
  rw [mayEnter_of wrd lays bears door, final_of wrd, make_of wrd]
  kernel_rfl
end Go.Proofs.Qxb6001456aMods.Facts
