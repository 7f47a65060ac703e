/- The proof of 'Rows.FnCanonicalMatchesFieldModelSaid' (the frame: proof-skeleton.mjs; the walk: by hand). -/
import Derived.Test.Qxb6003228aModsRows
import Derived.Test.Qxb6003228aModsCan2
import Derived.Test.Qxb6003228aModsFacts
import Derived.WalkKit
import Derived.ProofKit
import Derived.OpenShut
import Derived.ShutString
import Derived.ChangeOld
import Derived.Below
namespace Go.Proofs.Qxb6003228aMods.fnCanonicalMatchesFieldModel
open Go.ChangeShapes Go.WideShapes Go.ChangeAt Go.RowKit
open Go.ChangeMaps (open_string shut_string)
set_option linter.unusedVariables false

theorem own : ownKnob Trym.prog.godebug = none := by kernel_rfl
theorem laidOut : laidOutB Trym.prog = true := by kernel_rfl

/-- WHAT THE WALK IS TOLD OF A SLICE OF INTEGERS THAT CAME IN: it is nil; or it leads to a row of 'cap' cells, the numbers 'zs' (the first 'len' are its elements, the rest its spare room), each fitting its kind. -/
def IsRow (k : IntKind) (w : World) (a : Option Addr) (len cap : Nat) (zs : List Int) : Prop :=
  (a = none ∧ len = 0 ∧ cap = 0 ∧ zs = []) ∨
  ∃ x, a = some x ∧ len ≤ cap ∧ cap ≤ maxLen ∧ zs.length = cap ∧ (∀ i, i < zs.length → w.cell? (x.add i) = some (.int k (zs.getD i 0))) ∧ ∀ n ∈ zs, (Lit.int k n).wf = true

/-! ### STEP 1: THE WALK -/
theorem info5' : (Trym.prog.info? 5).map (fun i => (i.zero, i.size, i.bytes)) = some (some (.int .u8 0), 1, 1) := by kernel_rfl

/-- the new row behind k rounds of the copying loop -/
def part (xs : List Int) (k : Nat) : List Value := (xs.take k).map (Value.int .u8) ++ List.replicate (xs.length - k) (.int .u8 0)
theorem part_zero (xs : List Int) : part xs 0 = List.replicate xs.length (.int .u8 0) := by simp [part]
theorem part_all (xs : List Int) : part xs xs.length = xs.map (Value.int .u8) := by simp [part]
theorem part_get (xs : List Int) (k : Nat) (h : k < xs.length) : (part xs k)[k]? = some (.int .u8 0) := by
  have e : k = ((xs.take k).map (Value.int .u8)).length := by simp; omega
  unfold part
  rw [List.getElem?_append_right (by omega), ← e, Nat.sub_self, List.getElem?_replicate, if_pos (by omega)]
theorem part_set (xs : List Int) (k : Nat) (h : k < xs.length) : (part xs k).set k (.int .u8 (xs.getD k 0)) = part xs (k + 1) := by
  have e : ((xs.take k).map (Value.int .u8)).length = k := by simp; omega
  unfold part
  rw [List.set_append_right _ _ (by omega), e, Nat.sub_self, List.take_succ_eq_append_getElem h, List.map_append]
  obtain ⟨m, hm⟩ : ∃ m, xs.length - k = m + 1 := ⟨xs.length - k - 1, by omega⟩
  rw [hm, show xs.length - (k + 1) = m from by omega, List.replicate_succ, List.set_cons_zero]
  simp only [List.map_cons, List.map_nil, List.append_assoc, List.singleton_append, List.getD_eq_getElem?_getD, List.getElem?_eq_getElem h, Option.getD_some]

theorem has_of_owns {w : World} {base g n : Nat} {xs : List Int} (h : w.ownsRow base 5 1 (.slice (some ⟨g, 0, none⟩) n n) n (xs.map (Value.int .u8))) (hn : xs.length = n) (h32 : 32 ≤ n) (hr : ∀ i, 0 ≤ xs.getD i 0 ∧ xs.getD i 0 ≤ 255) :
    Can.Has w g 0 (fun i => xs.getD i 0) := by
  intro i hi
  refine ⟨?_, hr i⟩
  rw [Nat.zero_add, h.cellAt i (by omega)]
  simp [show i < xs.length from by omega]

theorem has_below {w w' : World} {g off : Nat} {f : Nat → Int} (h : Can.Has w g off f) (hb : Below w.heap.size w w') (hg : g < w.heap.size) : Can.Has w' g off f := fun i hi =>
  ⟨(hb.cell (p := ⟨g, off + i, none⟩) hg).trans (h i hi).1, (h i hi).2⟩

set_option maxHeartbeats 1000000 in
theorem walk_copy (b off len cap : Nat) (xs : List Int) (w : World) (hl32 : 32 ≤ len) (hmax : len ≤ 1048576) (hlen : xs.length = len) (hb : b < w.heap.size)
    (hc : ∀ i, i < len → w.cell? ⟨b, off + i, none⟩ = some (.int .u8 (xs.getD i 0))) (hr : ∀ i, 0 ≤ xs.getD i 0 ∧ xs.getD i 0 ≤ 255) :
    Calls Trym.prog 3 #[.slice (some ⟨b, off, none⟩) len cap] w fun e w' => e = .returned (.bool true) ∧ Below w.heap.size w w' := by
  have HL : Hid (xs.length = len) := hlen
  have HC : Hid (∀ i, i < len → w.cell? ⟨b, off + i, none⟩ = some (.int .u8 (xs.getD i 0))) := hc
  have HR : Hid (∀ i, 0 ≤ xs.getD i 0 ∧ xs.getD i 0 ≤ 255) := hr
  obtain ⟨i0, hi, hz0, hz1, hz2⟩ := info_parts info5'
  have hby : i0.bytes * len ≤ 281474976710656 := by rw [hz2]; omega
  clear hc hr hlen
  go_enter Trym.func3, Trym.ntmps3
  go_wp2_with (first | (at_make; refine wpList_make_full _ rfl _ _ 22 rfl w.heap.size 5 i0 (.int .u8 0) 1 Trym.underlying22 hi hz0 hz1 _ _ _ _ len rfl rfl rfl rfl hby (by unfold maxLen; omega) (Nat.le_refl _) ?_) | (go_at_call 4; go_in))
  intro w1 hown hgrow
  rw [toList_madeCells_one] at hown
  have HO : Hid (w1.ownsRow w.heap.size 5 1 (.slice (some ⟨w.heap.size, 0, none⟩) len len) len (part xs 0) ∧ Below w.heap.size w w1) :=
    ⟨by rw [part_zero, HL.out]; exact hown, (Below.refl _ _).grown hgrow (Nat.le_refl _) (by intro k hk; cases hk)⟩
  clear hown hgrow
  go_wp2
  go_loopw [4] (fun i wr => ∃ k : Nat, k ≤ len ∧ i = .int .i64 k ∧ Hid (wr.ownsRow w.heap.size 5 1 (.slice (some ⟨w.heap.size, 0, none⟩) len len) len (part xs k) ∧ Below w.heap.size w wr))
    (fun i _ => len - (intOf i).toNat)
  case atStart => exact ⟨0, Nat.zero_le _, rfl, HO⟩
  case round =>
    clear HO
    obtain ⟨k, hk, rfl, HO⟩ := hrel
    by_cases hlt : k < len
    · have hck : wr.cell? ⟨b, off + k, none⟩ = some (.int .u8 (xs.getD k 0)) := by
        rw [HO.out.2.cell (p := ⟨b, off + k, none⟩) hb]; exact HC.out k hlt
      have hst := HO.out.1.stored k (.int .u8 (xs.getD k 0))
      rw [part_set xs k (by rw [HL.out]; exact hlt)] at hst
      have HN : Hid ((wr.setCell ⟨w.heap.size, k, none⟩ (.int .u8 (xs.getD k 0))).ownsRow w.heap.size 5 1 (.slice (some ⟨w.heap.size, 0, none⟩) len len) len (part xs (k + 1)) ∧
          Below w.heap.size w (wr.setCell ⟨w.heap.size, k, none⟩ (.int .u8 (xs.getD k 0)))) := ⟨hst.1, HO.out.2.setCell (Nat.le_refl _) _⟩
      have hold : wr.cell? ⟨w.heap.size, k, none⟩ = some (.int .u8 0) := by
        rw [HO.out.1.cellAt k (by omega)]; exact part_get xs k (by rw [HL.out]; exact hlt)
      have hfr := HO.out.1.frozenAt k
      clear hst
      generalize xs.getD k 0 = x at hck HN
      go_wp2
      go_roundw
      case rel => exact ⟨k + 1, by omega, by go_num, HN⟩
      case measure => simp [intOf]; omega
    · have e : k = len := by omega
      subst e
      have HH : Hid (Can.Has wr w.heap.size 0 (fun i => xs.getD i 0) ∧ w.heap.size < wr.heap.size ∧ Below w.heap.size w wr) := by
        have hO := HO.out
        rw [← HL.out, part_all] at hO
        exact ⟨has_of_owns hO.1 rfl (by rw [HL.out]; exact hl32) HR.out, (hO.1.lt _ rfl).2, hO.2⟩
      clear HO
      go_wp2_with fail
      refine (Can.zz_any _ _ _ _ _ _ hl32 HH.out.1).mono ?_
      rintro e w2 ⟨rfl, hB2⟩
      have HK : Hid (Can.Has w2 w.heap.size 0 (fun i => xs.getD i 0) ∧ Below w.heap.size w w2) :=
        ⟨has_below HH.out.1 hB2 HH.out.2.1, HH.out.2.2.trans (hB2.mono HH.out.2.2.size)⟩
      clear hB2 HH
      go_wp2_with fail
      refine (Can.model_any _ _ _ _ _ _ hl32 hmax HK.out.1).mono ?_
      rintro e w3 ⟨rfl, rfl⟩
      go_wp2
      go_ret
      exact ⟨Can.ret_bool (by simp), HK.out.2⟩

theorem walk (a0 : Option Addr) (len0 cap0 : Nat) (z0 : List Int) (w : World) (w0 : IsRow .u8 w a0 len0 cap0 z0) :
    Calls Trym.prog 3 #[.slice a0 len0 cap0] w fun e w' => e = .returned (.bool true) ∧ Below w.heap.size w w' := by
  have hm : len0 ≤ 9223372036854775807 := by
    rcases w0 with ⟨_, h, _⟩ | ⟨_, _, h1, h2, _⟩
    · omega
    · unfold maxLen at h2; omega
  by_cases hbig : 1048576 < len0
  · clear w0
    go_enter Trym.func3, Trym.ntmps3
    go_wp2
    go_ret
    exact ⟨rfl, Below.refl _ _⟩
  by_cases hsmall : len0 < 32
  · clear w0
    go_enter Trym.func3, Trym.ntmps3
    go_wp2
    go_ret
    exact ⟨rfl, Below.refl _ _⟩
  rcases w0 with ⟨_, h, _⟩ | ⟨x, rfl, h1, h2, h3, hc, hwf⟩
  · omega
  · obtain ⟨b, off, rfl, hcell⟩ := ints_at hc (by omega)
    have hget : ∀ i, i < len0 → (z0.take len0).getD i 0 = z0.getD i 0 := fun i hi => by
      simp [hi]
    refine walk_copy b off len0 cap0 (z0.take len0) w (by omega) (by omega) (by rw [List.length_take]; omega) (World.block_lt_of_cell? w _ (hcell 0 (by omega))) (fun i hi => ?_) (fun i => ?_)
    · rw [hget i hi]; exact hcell i (by omega)
    · have := range_u8 (zs := z0.take len0) (fun n hn => hwf n (List.mem_of_mem_take hn)) i
      simpa using this

/-! ### THE ROW's STEP: WRITTEN OUT: LEAVE IT -/
set_option maxRecDepth 100000 in
theorem lifted (os : Os) (started : os.Started) (H : Type) (enc : TypeId × Value → H) :
    ReturnsInHanded {} Trym.checked os 3 .any (Rows.fnCanonicalMatchesFieldModelSpec.pre6 enc Trym.prog Trym.f3 Rows.fnCanonicalMatchesFieldModelRow.domain false) (Rows.fnCanonicalMatchesFieldModelSpec.post enc Trym.prog Trym.f3 false true false false) := by
  refine returnsInHanded_of_change (C := Trym.checked) own started (by kernel_rfl) Trym.func3
    (ChangeSpec.witness6 (enc := enc) (C := Trym.checked) false ⟨#[], #[.slice none 0 0], []⟩ 8 (by kernel_rfl) (by kernel_rfl) (by kernel_rfl) (by kernel_rfl)) ?_
  intro W base args ds gs before hval0 hW hcnd _
  have hval : ∀ (j : Nat) t v, Trym.f3.params[j]? = some t → args[j]? = some v → Value.okWide Trym.prog W .any base t v := hval0
  have hW' := hW
  obtain ⟨p, q, hA0, hV, rfl, hfz, hnd⟩ := hW
  have hA : DataW.TrodAll enc Trym.prog W 0 (fun _ => true) true Trym.f3.params.toList args.toList ds p := hA0
  rw [Trym.params3] at hA hval
  obtain ⟨v0, vs0, d0, ds0, p0, q0, hargs, rfl, rfl, h0, r0⟩ := trodAll_cons hA
  obtain ⟨rfl, rfl, rfl⟩ := trodAll_nil r0
  obtain rfl : args = #[v0] := by cases args; simp_all
  obtain ⟨rfl, rfl⟩ := trodVars_none hV
  obtain ⟨a0, len0, cap0, rfl⟩ := okWide_slice Trym.underlying22 (hval 0 22 v0 rfl rfl)
  have k0 := h0
  have lt0 : ∀ x ∈ p0, x.block < W.heap.size := by obtain ⟨m, hm⟩ := k0; exact DataW.trod_lt m _ _ _ hm
  obtain ⟨z0, w0⟩ : ∃ zs, IsRow .u8 W a0 len0 cap0 zs := by
    obtain ⟨fuel, hf⟩ := h0
    rcases open_ints Trym.underlying22 Trym.underlying5 (by kernel_rfl) hf with ⟨hcs, _⟩ | ⟨x, l, c, zs, hcs, _, hl, hm, hz, _, hcell, hwz⟩
    · simp [Value.cells] at hcs
      obtain ⟨rfl, rfl, rfl⟩ := hcs
      exact ⟨[], .inl ⟨rfl, rfl, rfl, rfl⟩⟩
    · simp [Value.cells] at hcs
      obtain ⟨rfl, rfl, rfl⟩ := hcs
      exact ⟨zs, .inr ⟨_, rfl, hl, hm, by simpa using hz, hcell, hwz⟩⟩
  clear hA0 hval0
  refine (walk a0 len0 cap0 z0 W w0).mono fun e W' ⟨he, bel⟩ => ?_
  subst he
  exact ⟨_, rfl, _, _, _, [], _, [], hW', trodAll_mk1 (shut_bool Trym.underlying4 _), (trodAll_cons_mk (Below.trod laidOut (by kernel_rfl) (of_decide_eq_true (by kernel_rfl)) k0 bel lt0) trodAll_mk0), rfl, bel.frame _, fun h => by cases h⟩

theorem over : Rows.fnCanonicalMatchesFieldModelRow.holds Trym.pinned (OpenSpec.ofChange Rows.fnCanonicalMatchesFieldModelSpec) :=
  OpenClaim.holds_of_wide 3 Trym.f3 rfl rfl rfl rfl rfl rfl rfl ⟨rfl, rfl, rfl, rfl, rfl⟩ rfl rfl rfl rfl rfl (by kernel_rfl) Trym.func3 Facts.closed
    (of_decide_eq_true (by kernel_rfl)) (by unfold Func.isWrapper; first | (rw [if_pos (by decide +kernel)]; kernel_rfl) | (rw [if_neg (by decide +kernel)]; exact ⟨rfl, rfl⟩))
    (fun os started H enc _ => lifted os started H enc)

/-- ████ THE STATEMENT ████ -/
theorem proved : Rows.FnCanonicalMatchesFieldModelSaid := over
end Go.Proofs.Qxb6003228aMods.fnCanonicalMatchesFieldModel
