/- Rows of 32 bytes: their cells, their equality as the model runs it, and the walk's laws for whole-row and one-byte stores. -/
import Derived.Test.Qxb6003228aModsMod
import Derived.Deep.MidRow
import Derived.Deep.WholeRow
import Derived.ChangeKeysEq
namespace Go.Proofs.Qxb6003228aMods.Can
open Go.RowKit

/-! ### Rows of 32 bytes -/
def row (f : Nat → Int) : Array Value := ((List.range 32).map fun i => Value.int .u8 (f i)).toArray
theorem row_size (f : Nat → Int) : (row f).size = 32 := by simp [row]
theorem row_get (f : Nat → Int) (i : Nat) (h : i < 32) : (row f)[i]? = some (.int .u8 (f i)) := by
  simp [row, h]
theorem row_one (f : Nat → Int) : (row f).all (·.oneCell') = true := by
  unfold row
  rw [Array.all_eq_true_iff_forall_mem]
  intro v hv
  simp at hv
  obtain ⟨i, _, rfl⟩ := hv
  rfl
def upd (f : Nat → Int) (i : Nat) (v : Int) : Nat → Int := fun j => if j = i then v else f j
theorem row_set (f : Nat → Int) (i : Nat) (v : Int) : (row f).setIfInBounds i (.int .u8 v) = row (upd f i v) := by
  apply Array.ext_getElem?
  intro j
  by_cases hj : j < 32
  · rw [row_get _ j hj, Array.getElem?_setIfInBounds]
    by_cases e : i = j
    · subst e
      simp [row_size, hj, upd]
    · rw [if_neg e, row_get _ j hj]
      simp [upd, show ¬ j = i from fun h => e h.symm]
  · simp [row_size, hj]

/-- block g holds this row and may be written -/
def Blk (w : World) (g : Nat) (f : Nat → Int) : Prop := w.heap[g]? = some (.cells (row f) 25 (0, 0))
theorem Blk.cell {w : World} {g : Nat} {f : Nat → Int} (h : Blk w g f) (i : Nat) (hi : i < 32) : w.cell? ⟨g, i, none⟩ = some (.int .u8 (f i)) := by
  rw [cell_of_row w g i (row f) 25 (0, 0) h]; exact row_get f i hi
theorem Blk.frozen {w : World} {g : Nat} {f : Nat → Int} (h : Blk w g f) (i : Nat) : w.frozen? ⟨g, i, none⟩ = false := frozen_of_row w g i (row f) 25 h
theorem Blk.lt {w : World} {g : Nat} {f : Nat → Int} (h : Blk w g f) : g < w.heap.size := (Array.getElem?_eq_some_iff.1 h).1
theorem Blk.kept {w w' : World} {g r : Nat} {f : Nat → Int} (h : Blk w g f) (hg : w.grownBy w' (some r)) (hne : g ≠ r) : Blk w' g f := by
  unfold Blk
  rw [hg.block g h.lt (by simpa using hne)]
  exact h
theorem Blk.alloc {w : World} {g : Nat} {f : Nat → Int} (h : Blk w g f) (o : Obj) : Blk (w.alloc o) g f := by
  exact (Below.heap_alloc w o g h.lt).trans h
theorem Blk.set {w : World} {g : Nat} {f : Nat → Int} (h : Blk w g f) (i : Nat) (v : Int) : Blk (w.setCell ⟨g, i, none⟩ (.int .u8 v)) g (upd f i v) := by
  unfold Blk
  rw [heap_setCell_same w g i (row f) 25 _ h, row_set]

theorem info25 : (Trym.prog.info? 25).map (·.size) = some 32 := by kernel_rfl

/-! ### Equality of two such arrays -/
theorem plain5 : Trym.prog.plainKey 5 = true := by kernel_rfl
theorem cells5 : Trym.prog.cellsOf 5 = 1 := by kernel_rfl
theorem size5 : (Trym.prog.info? 5).map (·.size) = some 1 := by kernel_rfl
theorem info5 : (Trym.prog.info? 5).isSome = true := by kernel_rfl
theorem run_eqItems_bytes (w : World) (d : Nat) (f g : Nat → Int) : ∀ is : List Nat, (∀ i ∈ is, i < 32) →
    (Op.eqItems (d + 1) 5 1 (row f) (row g) is).run Trym.prog w = .ok (is.all fun i => f i == g i) w
  | [], _ => by simp [Op.eqItems]
  | i :: is, h => by
    have hi := h i (by simp)
    have ih := run_eqItems_bytes w d f g is (fun j hj => h j (by simp [hj]))
    have hp : ∀ f : Nat → Int, (part 5 (row f) (i * 1)).run Trym.prog w = .ok (.int .u8 (f i)) w := fun f => by
      rw [Nat.mul_one]
      exact run_part_plain w plain5 (row_get f i hi)
    simp only [Op.eqItems, Sem.run_bind, hp, Result.andThen_ok, run_equalIn_int w d 5 .u8 .u8 _ _ Trym.underlying5]
    by_cases e : f i = g i
    · simp [e, ih]
    · simp [e]
theorem run_eq_rows (f g : Nat → Int) (w : World) : (Op.equalIn 10000 25 (.agg (row f)) (.agg (row g))).run Trym.prog w = .ok (agree f g) w := by
  obtain ⟨i, hi⟩ := Option.isSome_iff_exists.1 info5
  rw [show (10000 : Nat) = 9998 + 1 + 1 from rfl, run_equalIn_array w (9998 + 1) (row f) (row g) Trym.underlying25 hi, cells5,
    run_eqItems_bytes w 9998 f g (List.range 32) (fun i hi => List.mem_range.1 hi)]
  rfl

/-! ### The walk's laws for such a row -/
/-- a whole row stored into a block of 32 cells -/
theorem wpList_store_blk {ops : Array Oper} {rest : List Oper} {o : Oper} {a : Act} {w : World} {Q : Exit → Act → World → Prop} (hgd : o.guard = none) (x y : Operand) (ho : o.op = .store 25 x y)
    (g : Nat) (f : Nat → Int) (hx : a.eval x = .pointer (some ⟨g, 0, none⟩)) (hy : a.eval y = .agg (row f))
    (old : Array Value) (hg : w.heap[g]? = some (.cells old 25 (0, 0))) (hold : old.size = 32)
    (h : ∀ w', Blk w' g f → w.grownBy w' (some g) → w'.heap.size = w.heap.size → wpList Trym.prog ops Q rest (a.put o.dst undef) w') : wpList Trym.prog ops Q (o :: rest) a w := by
  refine wpList_store_row hgd 25 x y ho g (row f) hx hy 25 old hg (by rw [row_size]; exact info25) (by rw [row_size]; exact hold) (row_one f) ?_
  refine h _ ?_ ⟨rfl, rfl, rfl, by simp, fun k _ hk => ?_⟩ (by simp)
  · unfold Blk
    simp only [World.setRow, Array.getElem?_modify, hg]
    simp
  · simp only [World.setRow, Array.getElem?_modify]
    rw [if_neg (fun e => hk (by rw [e]))]
/-- one byte stored into such a row -/
theorem wpList_store_byte {ops : Array Oper} {rest : List Oper} {o : Oper} {a : Act} {w : World} {Q : Exit → Act → World → Prop} (hgd : o.guard = none) (x y : Operand) (ho : o.op = .store 5 x y)
    (g i : Nat) (v : Int) (f : Nat → Int) (hx : a.eval x = .pointer (some ⟨g, i, none⟩)) (hy : a.eval y = .int .u8 v) (hg : Blk w g f) (hi : i < 32)
    (h : ∀ w', Blk w' g (upd f i v) → w.grownBy w' (some g) → w'.heap.size = w.heap.size → wpList Trym.prog ops Q rest (a.put o.dst undef) w') : wpList Trym.prog ops Q (o :: rest) a w := by
  have hrun : (storeVar 5 ⟨g, i, none⟩ (.int .u8 v)).run Trym.prog w = .ok () (w.setCell ⟨g, i, none⟩ (.int .u8 v)) := by
    have hst := run_store Trym.prog w ⟨g, i, none⟩ (.int .u8 v) .plain rfl
    rw [hg.cell i hi] at hst
    simp only [hg.frozen i] at hst
    have e0 : (⟨g, i, none⟩ : Addr).add 0 = ⟨g, i, none⟩ := by simp [Addr.add]
    cases hq : Trym.prog.info? 5 with
    | none => have := info5; rw [hq] at this; cases this
    | some t =>
      have hs : t.size = 1 := by
        have := size5; rw [hq] at this; simpa using this
      simp [storeVar, sizeOf, typeInfo, hq, Value.cells, hs, storeCells, e0, hst]
  refine wpList_plain hgd fun K hK => ?_
  unfold Oper.wp execOp
  simp only [ho, hx, hy, Instr.storeAt, Instr.sureAddr, Sem.run_bind, Sem.run_pure, Result.andThen_ok, hrun]
  refine hK _ _ (h _ (hg.set i v) ⟨rfl, rfl, rfl, by simp, fun k _ hk => ?_⟩ (by simp))
  exact heap_setCell_other w ⟨g, i, none⟩ k _ (fun e => hk (by rw [e]))
end Go.Proofs.Qxb6003228aMods.Can
