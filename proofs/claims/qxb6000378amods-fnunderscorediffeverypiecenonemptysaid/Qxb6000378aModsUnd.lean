/- The plain law (no Go in sight) and the contract of 'underscored' (function 24). -/
import Derived.Test.Qxb6000378aModsRows
import Derived.WalkKit
import Derived.ProofKit
namespace Go.Proofs.Qxb6000378aMods.Und
open Go.RowKit

/-! ### The plain law -/
/-- byte i of s as an integer (0 behind the end) -/
def byt (s : ByteArray) (i : Nat) : Int := ((s.data.toList[i]?.getD 0).toNat : Int)

theorem byt_at (s : ByteArray) (i : Nat) (h : i < s.size) : byt s i = (s[i].toNat : Int) := by
  have h' : i < s.data.toList.length := by simpa using h
  unfold byt
  rw [List.getElem?_eq_getElem h']
  rfl

/-- what 'underscored' asks of byte i -/
def fineB (f : Nat → Int) (n i : Nat) : Bool := !(f i == 95 && (i == 0 || i == n - 1 || f (i + 1) == 95))
def Fine (f : Nat → Int) (n i : Nat) : Prop := f i = 95 → i ≠ 0 ∧ i ≠ n - 1 ∧ f (i + 1) ≠ 95
theorem fine_iff (f : Nat → Int) (n i : Nat) : fineB f n i = true ↔ Fine f n i := by
  unfold fineB Fine
  by_cases h : f i = 95
  · simp [h]
    constructor
    · rintro ⟨⟨a, b⟩, c⟩; exact ⟨a, b, c⟩
    · rintro ⟨a, b, c⟩; exact ⟨⟨a, b⟩, c⟩
  · simp [h]
/-- what the law's loop asks of byte i -/
def Back (f : Nat → Int) (i : Nat) : Prop := f i = 95 → i ≠ 0 ∧ f (i - 1) ≠ 95

/-- the answer of 'underscored' -/
def undB (s : ByteArray) : Bool := decide (0 < s.size) && (List.range s.size).all (fineB (byt s) s.size)

theorem undB_iff (s : ByteArray) : undB s = true ↔ 0 < s.size ∧ ∀ i, i < s.size → Fine (byt s) s.size i := by
  unfold undB
  simp [fine_iff]

theorem und_iff (f : Nat → Int) (n : Nat) :
    (0 < n ∧ ∀ i, i < n → Fine f n i) ↔ ((∀ i, i < n → Back f i) ∧ ¬ (n = 0 ∨ f (n - 1) = 95)) := by
  unfold Fine Back
  constructor
  · rintro ⟨h0, h⟩
    refine ⟨fun i hi e => ?_, ?_⟩
    · have h1 := (h i hi e).1
      refine ⟨h1, fun e' => ?_⟩
      have h2 := (h (i - 1) (by omega) e').2.2
      rw [show i - 1 + 1 = i from by omega] at h2
      exact h2 e
    · rintro (e | e)
      · omega
      · exact (h (n - 1) (by omega) e).2.1 rfl
  · rintro ⟨h, h'⟩
    refine ⟨by omega, fun i hi e => ⟨(h i hi e).1, fun e' => h' (.inr (by rw [← e']; exact e)), fun e' => ?_⟩⟩
    by_cases hn : i + 1 < n
    · exact (h (i + 1) hn e').2 (by simpa using e)
    · exact h' (.inr (by rw [show n - 1 = i from by omega]; exact e))

theorem und_true (s : ByteArray) (h0 : 0 < s.size) (h : ∀ i, i < s.size → Fine (byt s) s.size i) : undB s = true :=
  (undB_iff s).2 ⟨h0, h⟩
theorem und_false (s : ByteArray) (i : Nat) (hi : i < s.size) (e : byt s i = 95) (h : i = 0 ∨ i = s.size - 1 ∨ byt s (i + 1) = 95) : undB s = false := by
  rw [← Bool.not_eq_true, undB_iff]
  rintro ⟨_, k⟩
  have := k i hi e
  rcases h with h | h | h
  · exact this.1 h
  · exact this.2.1 h
  · exact this.2.2 h
theorem und_empty (s : ByteArray) (h0 : s.size = 0) : undB s = false := by
  rw [← Bool.not_eq_true, undB_iff]; omega
theorem isEmpty_iff (s : ByteArray) : (!s.toList.isEmpty) = decide (0 < s.size) := by
  rw [ByteArray.toList_eq]
  have : s.data.toList.length = s.size := by simp
  cases h : s.data.toList with
  | nil => rw [h] at this; rw [← this]; rfl
  | cons a l => rw [h] at this; rw [← this]; simp

theorem fine_snoc {f : Nat → Int} {n k : Nat} (h : ∀ i, i < k → Fine f n i) (h' : Fine f n k) : ∀ i, i < k + 1 → Fine f n i := by
  intro i hi
  rcases Nat.lt_succ_iff_lt_or_eq.1 hi with h1 | rfl
  · exact h i h1
  · exact h'

theorem ret_bool {a b : Bool} (h : a = b) : Ending.returned (.bool a) = .returned (.bool b) := by rw [h]

/-! ### The walks -/
set_option maxHeartbeats 400000 in
theorem und_any (s : ByteArray) (w : World) (hs : s.size ≤ 1048576) :
    Calls Trym.prog 24 #[.string s] w fun e w' => e = .returned (.bool (undB s)) ∧ w' = w := by
  go_enter Trym.func24, Trym.ntmps24
  go_wp2
  go_loop [3] (fun i => ∃ k : Nat, k ≤ s.size ∧ i = .int .i64 k ∧ Hid (∀ i, i < k → Fine (byt s) s.size i)) (fun i => s.size - (intOf i).toNat)
  case atStart => exact ⟨0, Nat.zero_le _, rfl, fun i hi => absurd hi (by omega)⟩
  case round =>
    obtain ⟨k, hk, rfl, H⟩ := hrel
    by_cases hlt : k < s.size
    · have HB : Hid (byt s k = (s[k].toNat : Int)) := byt_at s k hlt
      go_wp2
      · go_ret
        exact ⟨ret_bool (und_false s k hlt (by rw [HB.out]; assumption) (.inl (by omega))).symm, rfl⟩
      · go_ret
        exact ⟨ret_bool (und_false s k hlt (by rw [HB.out]; assumption) (.inr (.inl (by omega)))).symm, rfl⟩
      · go_ret
        rename_i h1 h2 h3 h4 h5 h6
        have e2 : byt s (k + 1) = 95 := by
          rw [byt_at s (k + 1) (by omega)]
          rcases h6 with (h6 | h6) | h6
          · exact absurd (beq_iff_eq.1 h6) (by omega)
          · exact absurd (beq_iff_eq.1 h6) (by omega)
          · exact beq_iff_eq.1 h6
        exact ⟨ret_bool (und_false s k hlt (by rw [HB.out]; exact h1) (.inr (.inr e2))).symm, rfl⟩
      · rename_i h1 h2 h3 h4 h5 h6
        have e2 : byt s (k + 1) ≠ 95 := by
          rw [byt_at s (k + 1) (by omega)]
          exact beq_eq_false_iff_ne.1 h6.2
        go_round
        case rel => exact ⟨k + 1, by omega, by go_num, fine_snoc H.out (fun _ => ⟨h2, by omega, e2⟩)⟩
        case measure => simp [intOf]; omega
      · rename_i h1
        go_round
        case rel => exact ⟨k + 1, by omega, by go_num, fine_snoc H.out (fun e => absurd (HB.out.symm.trans e) h1)⟩
        case measure => simp [intOf]; omega
    · go_wp2
      go_ret
      have e : k = s.size := by omega
      subst e
      refine ⟨ret_bool ?_, rfl⟩
      rw [isEmpty_iff]
      by_cases h0 : 0 < s.size
      · rw [und_true s h0 H.out]; simp [h0]
      · rw [und_empty s (by omega)]; simp [h0]

set_option maxHeartbeats 400000 in
theorem zz_any (s : ByteArray) (w : World) (hs : s.size ≤ 1048576) :
    Calls Trym.prog 17 #[.string s] w fun e w' => e = .returned (.bool (undB s)) ∧ w' = w := by
  go_enter Trym.func17, Trym.ntmps17
  go_wp2_with (go_at_call 24; refine (und_any s _ hs).mono ?_; rintro e w' ⟨rfl, rfl⟩)
  go_ret
  exact ⟨rfl, rfl⟩

theorem back_snoc {f : Nat → Int} {k : Nat} (h : ∀ i, i < k → Back f i) (h' : Back f k) : ∀ i, i < k + 1 → Back f i := by
  intro i hi
  rcases Nat.lt_succ_iff_lt_or_eq.1 hi with h1 | rfl
  · exact h i h1
  · exact h'
theorem back_iff {f : Nat → Int} {k : Nat} : (∀ i, i < k + 1 → Back f i) ↔ (∀ i, i < k → Back f i) ∧ Back f k :=
  ⟨fun h => ⟨fun i hi => h i (by omega), h k (by omega)⟩, fun ⟨h, h'⟩ => back_snoc h h'⟩

/-- the law's loop behind k rounds: 'ok' says that no piece that has ended is empty, 'run' is 0 just where the piece at hand is empty -/
def Rel (f : Nat → Int) (k : Nat) (b : Bool) (r : Int) : Prop := (b = true ↔ ∀ i, i < k → Back f i) ∧ (r = 0 ↔ (k = 0 ∨ f (k - 1) = 95))
theorem rel_start (f : Nat → Int) : Rel f 0 true 0 := ⟨by simp, by simp⟩
theorem rel_empty {f : Nat → Int} {k : Nat} {b : Bool} (h : Rel f k b 0) (e : f k = 95) : Rel f (k + 1) false 0 := by
  obtain ⟨_, h2⟩ := h
  refine ⟨?_, by simp [e]⟩
  rw [back_iff]
  simp only [Bool.false_eq_true, false_iff]
  rintro ⟨_, h'⟩
  have := h' e
  rcases h2.1 rfl with h3 | h3
  · exact this.1 h3
  · exact this.2 h3
theorem rel_cut {f : Nat → Int} {k : Nat} {b : Bool} {r : Int} (h : Rel f k b r) (hr : r ≠ 0) (e : f k = 95) : Rel f (k + 1) b 0 := by
  obtain ⟨h1, h2⟩ := h
  refine ⟨?_, by simp [e]⟩
  rw [back_iff, h1]
  have h3 : ¬ (k = 0 ∨ f (k - 1) = 95) := fun h => hr (h2.2 h)
  exact ⟨fun h => ⟨h, fun _ => ⟨fun h' => h3 (.inl h'), fun h' => h3 (.inr h')⟩⟩, fun h => h.1⟩
theorem rel_more {f : Nat → Int} {k : Nat} {b : Bool} {r : Int} (h : Rel f k b r) (hr : 0 ≤ r) (e : f k ≠ 95) : Rel f (k + 1) b (r + 1) := by
  obtain ⟨h1, h2⟩ := h
  refine ⟨?_, ?_⟩
  · rw [back_iff, h1]
    exact ⟨fun h => ⟨h, fun h' => absurd h' e⟩, fun h => h.1⟩
  · constructor
    · omega
    · rintro (h | h)
      · omega
      · exact absurd h e
theorem rel_end0 {s : ByteArray} {b : Bool} (h : Rel (byt s) s.size b 0) : undB s = false := by
  rw [← Bool.not_eq_true, undB_iff, und_iff]
  rintro ⟨_, h'⟩
  exact h' (h.2.1 rfl)
theorem rel_end1 {s : ByteArray} {b : Bool} {r : Int} (h : Rel (byt s) s.size b r) (hr : r ≠ 0) : undB s = b := by
  rw [Bool.eq_iff_iff, undB_iff, und_iff, h.1]
  exact ⟨fun h => h.1, fun h' => ⟨h', fun h3 => hr (h.2.2 h3)⟩⟩

end Go.Proofs.Qxb6000378aMods.Und
