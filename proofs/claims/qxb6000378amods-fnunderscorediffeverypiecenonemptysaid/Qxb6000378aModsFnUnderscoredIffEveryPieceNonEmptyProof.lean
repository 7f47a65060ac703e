/- The proof of 'Rows.FnUnderscoredIffEveryPieceNonEmptySaid' (the frame: proof-skeleton.mjs; the walk: by hand). -/
import Derived.Test.Qxb6000378aModsRows
import Derived.Test.Qxb6000378aModsUnd
import Derived.Test.Qxb6000378aModsFacts
import Derived.WalkKit
import Derived.ProofKit
import Derived.OpenShut
import Derived.ShutString
namespace Go.Proofs.Qxb6000378aMods.fnUnderscoredIffEveryPieceNonEmpty
open Go.ChangeShapes Go.WideShapes Go.ChangeAt Go.RowKit
open Go.ChangeMaps (open_string shut_string)
set_option linter.unusedVariables false      -- a walk need not use every 'w<i>' (that an integer argument fits its kind)

theorem own : ownKnob Trym.prog.godebug = none := by kernel_rfl

/-! ### STEP 1: THE WALK: the Go text returns true. 'Grown w w'': the world has at most new blocks (Derived/RowKit3.lean). Part the cases AHEAD of 'go_enter' where a test parts the walk; take each callee by a contract of your own. -/
theorem walk (a0 : ByteArray) (w0 : a0.size ≤ maxLen) (w : World) :
    Calls Trym.prog 6 #[.string a0] w fun e w' => e = .returned (.bool true) ∧ Grown w w' := by
  by_cases hb : a0.size ≤ 1048576
  · go_enter Trym.func6, Trym.ntmps6
    go_wp2
    go_loop [3, 4, 5] (fun ok run i => ∃ (k : Nat) (b : Bool) (r : Int), k ≤ a0.size ∧ 0 ≤ r ∧ r ≤ k ∧ i = .int .i64 k ∧ ok = .bool b ∧ run = .int .i64 r ∧ Hid (Und.Rel (Und.byt a0) k b r)) (fun _ _ i => a0.size - (intOf i).toNat)
    case atStart => exact ⟨0, true, 0, Nat.zero_le _, by omega, by omega, rfl, rfl, rfl, Und.rel_start _⟩
    case round =>
      obtain ⟨k, b, r, hk, hr0, hrk, rfl, rfl, rfl, H⟩ := hrel
      by_cases hlt : k < a0.size
      · have HB : Hid (Und.byt a0 k = (a0[k].toNat : Int)) := Und.byt_at a0 k hlt
        go_wp2
        · rename_i h1 h2
          go_round
          case rel =>
            have e : r = 0 := beq_iff_eq.1 h2
            subst e
            exact ⟨k + 1, false, 0, by omega, by omega, by omega, by go_num, rfl, rfl, Und.rel_empty H.out (HB.out.trans (beq_iff_eq.1 h1))⟩
          case measure => simp [intOf]; omega
        · rename_i h1 h2
          go_round
          case rel => exact ⟨k + 1, b, 0, by omega, by omega, by omega, by go_num, rfl, rfl, Und.rel_cut H.out (beq_eq_false_iff_ne.1 h2) (HB.out.trans (beq_iff_eq.1 h1))⟩
          case measure => simp [intOf]; omega
        · rename_i h1
          go_round
          case rel => exact ⟨k + 1, b, r + 1, by omega, by omega, by omega, by go_num, rfl, rfl, Und.rel_more H.out hr0 (fun e => beq_eq_false_iff_ne.1 h1 (HB.out.symm.trans e))⟩
          case measure => simp [intOf]; omega
      · have e : k = a0.size := by omega
        subst e
        by_cases hr : r = 0
        · subst hr
          have HU : Hid (Und.undB a0 = false) := Und.rel_end0 H.out
          go_wp2_with (go_at_call 17; refine (Und.zz_any a0 _ hb).mono ?_; rintro e w' ⟨rfl, rfl⟩)
          go_ret
          exact ⟨Und.ret_bool (by rw [HU.out]; rfl), Grown.refl _⟩
        · have HU : Hid (Und.undB a0 = b) := Und.rel_end1 H.out hr
          have hr' : (r == 0) = false := beq_eq_false_iff_ne.2 hr
          go_wp2_with (go_at_call 17; refine (Und.zz_any a0 _ hb).mono ?_; rintro e w' ⟨rfl, rfl⟩)
          go_ret
          exact ⟨Und.ret_bool (by rw [HU.out]; simp), Grown.refl _⟩
  · have hb' : 1048576 < a0.size := by omega
    go_enter Trym.func6, Trym.ntmps6
    go_wp2
    go_ret
    exact ⟨rfl, Grown.refl _⟩

/-! ### THE ROW's STEP: WRITTEN OUT: LEAVE IT -/
set_option maxRecDepth 100000 in
theorem lifted (os : Os) (started : os.Started) (H : Type) (enc : TypeId × Value → H) :
    ReturnsInHanded {} Trym.checked os 6 .any (Rows.fnUnderscoredIffEveryPieceNonEmptySpec.pre6 enc Trym.prog Trym.f6 Rows.fnUnderscoredIffEveryPieceNonEmptyRow.domain false) (Rows.fnUnderscoredIffEveryPieceNonEmptySpec.post enc Trym.prog Trym.f6 false true false false) := by
  refine returnsInHanded_of_change (C := Trym.checked) own started (by kernel_rfl) Trym.func6
    (ChangeSpec.witness6 (enc := enc) (C := Trym.checked) false ⟨#[], #[.string ByteArray.empty], []⟩ 8 (by kernel_rfl) (by kernel_rfl) (by kernel_rfl) (by kernel_rfl)) ?_
  intro W base args ds gs before hval0 hW hcnd _
  have hval : ∀ (j : Nat) t v, Trym.f6.params[j]? = some t → args[j]? = some v → Value.okWide Trym.prog W .any base t v := hval0
  have hW' := hW
  obtain ⟨p, q, hA0, hV, rfl, hfz, hnd⟩ := hW
  have hA : DataW.TrodAll enc Trym.prog W 0 (fun _ => true) true Trym.f6.params.toList args.toList ds p := hA0
  rw [Trym.params6] at hA hval
  obtain ⟨v0, vs0, d0, ds0, p0, q0, hargs, rfl, rfl, h0, r0⟩ := trodAll_cons hA
  obtain ⟨rfl, rfl, rfl⟩ := trodAll_nil r0
  obtain rfl : args = #[v0] := by cases args; simp_all
  obtain ⟨rfl, rfl⟩ := trodVars_none hV
  obtain ⟨a0, rfl, rfl, rfl, w0⟩ := open_string Trym.underlying9 (hval 0 9 v0 rfl rfl) h0
  clear hA0 hval0
  simp only [List.append_nil] at hW'
  refine (walk a0 w0 W).mono fun e W' ⟨he, hg⟩ => ?_
  subst he
  exact ⟨_, rfl, post_of_same (pa := []) (pv := []) hW' (fun _ _ _ => (trodAll_cons_mk (shut_bool Trym.underlying4 _) trodAll_mk0)) (fun sp _ => (trodAll_cons_mk (shut_string Trym.underlying9 w0) trodAll_mk0)) (fun _ _ => rfl) rfl
    (hg.frame _) hg.2.1 (ok_one (by kernel_rfl) rfl (okWide_bool_mk Trym.underlying4 _))⟩

theorem over : Rows.fnUnderscoredIffEveryPieceNonEmptyRow.holds Trym.pinned (OpenSpec.ofChange Rows.fnUnderscoredIffEveryPieceNonEmptySpec) :=
  OpenClaim.holds_of_wide 6 Trym.f6 rfl rfl rfl rfl rfl rfl rfl ⟨rfl, rfl, rfl, rfl, rfl⟩ rfl rfl rfl rfl rfl (by kernel_rfl) Trym.func6 Facts.closed
    (of_decide_eq_true (by kernel_rfl)) (by unfold Func.isWrapper; first | (rw [if_pos (by decide +kernel)]; kernel_rfl) | (rw [if_neg (by decide +kernel)]; exact ⟨rfl, rfl⟩))
    (fun os started H enc _ => lifted os started H enc)

/-- ████ THE STATEMENT ████ -/
theorem proved : Rows.FnUnderscoredIffEveryPieceNonEmptySaid :=
  over
end Go.Proofs.Qxb6000378aMods.fnUnderscoredIffEveryPieceNonEmpty
