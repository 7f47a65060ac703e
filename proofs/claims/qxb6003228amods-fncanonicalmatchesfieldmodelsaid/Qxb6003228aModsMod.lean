/- The model side: 'yByte' (11), 'pByte' (12), 'yBelowP' (8), 'yIsOne' (9), 'yIsPMinusOne' (10), 'canonicalModel' (6), each by a plain function. -/
import Derived.Test.Qxb6003228aModsRows
import Derived.WalkKit
import Derived.ProofKit
import Derived.WalkSpells
import Derived.WalkLawsBesides
namespace Go.Proofs.Qxb6003228aMods.Can
open Go.RowKit

theorem and127_fin : ∀ n : Fin 256, bits .and .i64 ((n.val : Nat) : Int) 127 = ((n.val : Nat) : Int) % 128 := by decide +kernel
theorem and127 (v : Int) (h0 : 0 ≤ v) (h1 : v ≤ 255) : bits .and .i64 v 127 = v % 128 := by
  obtain ⟨n, rfl⟩ := Int.eq_ofNat_of_zero_le h0
  exact and127_fin ⟨n, by omega⟩
theorem ret_int {k : IntKind} {a b : Int} (h : a = b) : Ending.returned (.int k a) = .returned (.int k b) := by rw [h]

set_option maxHeartbeats 400000 in
theorem ybyte_low (b off len cap i : Nat) (v : Int) (w : World) (hi : i < 31) (hl : 32 ≤ len) (hm : len ≤ 1048576) (hc : w.cell? ⟨b, off + i, none⟩ = some (.int .u8 v)) (h0 : 0 ≤ v) (h1 : v ≤ 255) :
    Calls Trym.prog 11 #[.slice (some ⟨b, off, none⟩) len cap, .int .i64 i] w fun e w' => e = .returned (.int .i64 v) ∧ w' = w := by
  go_enter Trym.func11, Trym.ntmps11
  go_wp2
  go_ret
  exact ⟨rfl, rfl⟩

set_option maxHeartbeats 400000 in
theorem ybyte_top (b off len cap : Nat) (v : Int) (w : World) (hl : 32 ≤ len) (hm : len ≤ 1048576) (hc : w.cell? ⟨b, off + 31, none⟩ = some (.int .u8 v)) (h0 : 0 ≤ v) (h1 : v ≤ 255) :
    Calls Trym.prog 11 #[.slice (some ⟨b, off, none⟩) len cap, .int .i64 31] w fun e w' => e = .returned (.int .i64 (v % 128)) ∧ w' = w := by
  go_enter Trym.func11, Trym.ntmps11
  go_wp2
  go_ret
  exact ⟨ret_int (and127 v h0 h1), rfl⟩

/-! ### The plain functions -/
/-- byte i of y: the top bit of byte 31 is cleared -/
def yb (f : Nat → Int) (i : Nat) : Int := if i = 31 then f 31 % 128 else f i
/-- byte i of the prime 2^255 - 19 -/
def pb (i : Nat) : Int := if i = 0 then 237 else if i = 31 then 127 else 255

/-- the first 32 bytes of the slice that begins at this place -/
def Has (w : World) (b off : Nat) (f : Nat → Int) : Prop := ∀ i, i < 32 → w.cell? ⟨b, off + i, none⟩ = some (.int .u8 (f i)) ∧ 0 ≤ f i ∧ f i ≤ 255

theorem ybyte_any (b off len cap i : Nat) (f : Nat → Int) (w : World) (hi : i < 32) (hl : 32 ≤ len) (hm : len ≤ 1048576) (h : Has w b off f) :
    Calls Trym.prog 11 #[.slice (some ⟨b, off, none⟩) len cap, .int .i64 i] w fun e w' => e = .returned (.int .i64 (yb f i)) ∧ w' = w := by
  obtain ⟨hc, h0, h1⟩ := h i hi
  by_cases e : i = 31
  · subst e
    unfold yb
    rw [if_pos rfl]
    exact ybyte_top b off len cap (f 31) w hl hm hc h0 h1
  · unfold yb
    rw [if_neg e]
    exact ybyte_low b off len cap i (f i) w (by omega) hl hm hc h0 h1

set_option maxHeartbeats 400000 in
theorem pbyte_any (i : Nat) (w : World) (hi : i < 32) : Calls Trym.prog 12 #[.int .i64 i] w fun e w' => e = .returned (.int .i64 (pb i)) ∧ w' = w := by
  by_cases e0 : i = 0
  · subst e0
    go_enter Trym.func12, Trym.ntmps12
    go_wp2
    go_ret
    exact ⟨rfl, rfl⟩
  · by_cases e1 : i = 31
    · subst e1
      go_enter Trym.func12, Trym.ntmps12
      go_wp2
      go_ret
      exact ⟨rfl, rfl⟩
    · have HP : Hid (pb i = 255) := by unfold pb; rw [if_neg e0, if_neg e1]; rfl
      have b0 : ((i : Int) == 0) = false := beq_eq_false_iff_ne.2 (by omega)
      have b1 : ((i : Int) == 31) = false := beq_eq_false_iff_ne.2 (by omega)
      clear e0 e1
      go_enter Trym.func12, Trym.ntmps12
      go_wp2
      go_ret
      exact ⟨ret_int HP.out.symm, rfl⟩

/-- the borrow behind k bytes of y - p -/
def bor (f : Nat → Int) : Nat → Int
  | 0 => 0
  | k + 1 => if yb f k - pb k - bor f k < 0 then 1 else 0
theorem bor_01 (f : Nat → Int) (k : Nat) : bor f k = 0 ∨ bor f k = 1 := by
  cases k with
  | zero => exact .inl rfl
  | succ k => unfold bor; split <;> simp
theorem yb_range {f : Nat → Int} {i : Nat} (h0 : 0 ≤ f i) (h1 : f i ≤ 255) : 0 ≤ yb f i ∧ yb f i ≤ 255 := by
  unfold yb
  split
  · rename_i e; subst e; omega
  · omega
theorem pb_range (i : Nat) : 0 ≤ pb i ∧ pb i ≤ 255 := by unfold pb; split; omega; split <;> omega

theorem ret_bool {a b : Bool} (h : a = b) : Ending.returned (.bool a) = .returned (.bool b) := by rw [h]

set_option maxHeartbeats 400000 in
theorem below_any (b off len cap : Nat) (f : Nat → Int) (w : World) (hl : 32 ≤ len) (hm : len ≤ 1048576) (h : Has w b off f) :
    Calls Trym.prog 8 #[.slice (some ⟨b, off, none⟩) len cap] w fun e w' => e = .returned (.bool (bor f 32 == 1)) ∧ w' = w := by
  have H : Hid (Has w b off f) := h
  clear h
  go_enter Trym.func8, Trym.ntmps8
  go_wp2
  go_loop [3, 4] (fun q i => ∃ k : Nat, k ≤ 32 ∧ i = .int .i64 k ∧ q = .int .i64 (bor f k)) (fun _ i => 32 - (intOf i).toNat)
  case atStart => exact ⟨0, by omega, rfl, rfl⟩
  case round =>
    obtain ⟨k, hk, rfl, rfl⟩ := hrel
    by_cases hlt : k < 32
    · have hy := yb_range (f := f) (H.out k hlt).2.1 (H.out k hlt).2.2
      have hp := pb_range k
      have hb := bor_01 f k
      have hb0 : 0 ≤ bor f k := by omega
      have hb1 : bor f k ≤ 1 := by omega
      have HN : Hid (bor f (k + 1) = if yb f k - pb k - bor f k < 0 then 1 else 0) := rfl
      clear hb
      generalize hq : bor f k = q at *
      have HQ : Hid (bor f k = q) := hq
      clear hq
      go_wp2_with (first | (go_at_call 11; refine (ybyte_any b off len cap k f _ hlt hl hm H.out).mono ?_; rintro e w' ⟨rfl, rfl⟩) | (go_at_call 12; refine (pbyte_any k _ hlt).mono ?_; rintro e w' ⟨rfl, rfl⟩))
      · go_round
        case rel => exact ⟨k + 1, by omega, by go_num, by rw [HN.out, if_pos (by omega)]⟩
        case measure => simp [intOf]; omega
      · go_round
        case rel => exact ⟨k + 1, by omega, by go_num, by rw [HN.out, if_neg (by omega)]⟩
        case measure => simp [intOf]; omega
    · go_wp2
      go_ret
      have e : k = 32 := by omega
      subst e
      exact ⟨rfl, rfl⟩

/-- do y and this row agree in all 32 bytes? -/
def agree (f g : Nat → Int) : Bool := (List.range 32).all fun i => f i == g i
theorem agree_iff (f g : Nat → Int) : agree f g = true ↔ ∀ i, i < 32 → f i = g i := by
  unfold agree; simp
theorem agree_no {f g : Nat → Int} (i : Nat) (hi : i < 32) (h : f i ≠ g i) : agree f g = false := by
  rw [← Bool.not_eq_true, agree_iff]; exact fun k => h (k i hi)
/-- the bytes of 1 -/
def on (i : Nat) : Int := if i = 0 then 1 else 0
/-- the bytes of p - 1 -/
def pm (i : Nat) : Int := if i = 0 then 236 else if i = 31 then 127 else 255

theorem to_snoc {f g : Nat → Int} {k : Nat} (h : ∀ i, i < k → f i = g i) (h' : f k = g k) : ∀ i, i < k + 1 → f i = g i := by
  intro i hi
  rcases Nat.lt_succ_iff_lt_or_eq.1 hi with h1 | rfl
  · exact h i h1
  · exact h'

theorem upto_one {f g : Nat → Int} (h : f 0 = g 0) : ∀ i, i < 1 → f i = g i := by
  intro i hi
  have : i = 0 := by omega
  subst this
  exact h
theorem and255_fin : ∀ n : Fin 257, bits .and .i64 ((n.val : Nat) : Int) 255 = ((n.val : Nat) : Int) % 256 := by decide +kernel
theorem and255 (v : Int) (h0 : 0 ≤ v) (h1 : v ≤ 256) : bits .and .i64 v 255 = v % 256 := by
  obtain ⟨n, rfl⟩ := Int.eq_ofNat_of_zero_le h0
  exact and255_fin ⟨n, by omega⟩
theorem pm_on (k : Nat) : pm k + on k = pb k := by
  unfold pm on pb
  by_cases h : k = 0
  · simp [h]
  · by_cases h' : k = 31 <;> simp [h, h']
theorem pb_pos (k : Nat) : 1 ≤ pb k ∧ pb k ≤ 255 := by unfold pb; split; omega; split <;> omega
theorem on_range (k : Nat) : 0 ≤ on k ∧ on k ≤ 1 := by unfold on; split <;> omega
theorem on_succ (k : Nat) : on (k + 1) = 0 := by unfold on; rw [if_neg (by omega)]
theorem pm_yes {y : Int} {k : Nat} (h0 : 0 ≤ y) (h1 : y ≤ 255) (h : (bits .and .i64 (y + on k) 255 != pb k) = false) : y = pm k ∧ (y + on k) / 256 = on (k + 1) := by
  have a := on_range k
  have b := pm_on k
  have c := pb_pos k
  have d : bits .and .i64 (y + on k) 255 = pb k := by simpa using h
  rw [and255 _ (by omega) (by omega)] at d
  rw [on_succ]
  omega
theorem pm_no {y : Int} {k : Nat} (h0 : 0 ≤ y) (h1 : y ≤ 255) (h : (bits .and .i64 (y + on k) 255 != pb k) = true) : y ≠ pm k := by
  have a := on_range k
  have b := pm_on k
  have c := pb_pos k
  have d : bits .and .i64 (y + on k) 255 ≠ pb k := bne_iff_ne.1 h
  rw [and255 _ (by omega) (by omega)] at d
  omega

set_option maxHeartbeats 400000 in
theorem one_any (b off len cap : Nat) (f : Nat → Int) (w : World) (hl : 32 ≤ len) (hm : len ≤ 1048576) (h : Has w b off f) :
    Calls Trym.prog 9 #[.slice (some ⟨b, off, none⟩) len cap] w fun e w' => e = .returned (.bool (agree (yb f) on)) ∧ w' = w := by
  have H : Hid (Has w b off f) := h
  clear h
  by_cases e0 : yb f 0 = 1
  · have H0 : Hid (yb f 0 = on 0) := e0
    have b0 : (yb f 0 != 1) = false := by rw [e0]; rfl
    clear e0
    go_enter Trym.func9, Trym.ntmps9
    go_wp2_with (first | (go_at_call 11; refine (ybyte_any b off len cap 0 f _ (by omega) hl hm H.out).mono ?_; rintro e w' ⟨rfl, rfl⟩))
    go_loop [3] (fun i => ∃ k : Nat, 1 ≤ k ∧ k ≤ 32 ∧ i = .int .i64 k ∧ Hid (∀ i, i < k → yb f i = on i)) (fun i => 32 - (intOf i).toNat)
    case atStart => exact ⟨1, by omega, by omega, rfl, upto_one H0.out⟩
    case round =>
      obtain ⟨k, hk1, hk, rfl, HK⟩ := hrel
      by_cases hlt : k < 32
      · have HO : Hid (on k = 0) := by unfold on; rw [if_neg (by omega)]; rfl
        by_cases ek : yb f k = 0
        · have HE : Hid (yb f k = on k) := ek.trans HO.out.symm
          have bk : (yb f k != 0) = false := by rw [ek]; rfl
          clear ek
          go_wp2_with (first | (go_at_call 11; refine (ybyte_any b off len cap k f _ hlt hl hm H.out).mono ?_; rintro e w' ⟨rfl, rfl⟩))
          go_round
          case rel => exact ⟨k + 1, by omega, by omega, by go_num, to_snoc HK.out HE.out⟩
          case measure => simp [intOf]; omega
        · have HE : Hid (agree (yb f) on = false) := agree_no k hlt (by rw [HO.out]; exact ek)
          have bk : (yb f k != 0) = true := bne_iff_ne.2 ek
          clear ek
          go_wp2_with (first | (go_at_call 11; refine (ybyte_any b off len cap k f _ hlt hl hm H.out).mono ?_; rintro e w' ⟨rfl, rfl⟩))
          go_ret
          exact ⟨ret_bool HE.out.symm, rfl⟩
      · go_wp2
        go_ret
        have e : k = 32 := by omega
        subst e
        exact ⟨ret_bool ((agree_iff _ _).2 HK.out).symm, rfl⟩
  · have HE : Hid (agree (yb f) on = false) := agree_no 0 (by omega) e0
    have b0 : (yb f 0 != 1) = true := bne_iff_ne.2 e0
    clear e0
    go_enter Trym.func9, Trym.ntmps9
    go_wp2_with (first | (go_at_call 11; refine (ybyte_any b off len cap 0 f _ (by omega) hl hm H.out).mono ?_; rintro e w' ⟨rfl, rfl⟩))
    go_ret
    exact ⟨ret_bool HE.out.symm, rfl⟩

set_option maxHeartbeats 400000 in
theorem pm_any (b off len cap : Nat) (f : Nat → Int) (w : World) (hl : 32 ≤ len) (hm : len ≤ 1048576) (h : Has w b off f) :
    Calls Trym.prog 10 #[.slice (some ⟨b, off, none⟩) len cap] w fun e w' => e = .returned (.bool (agree (yb f) pm)) ∧ w' = w := by
  have H : Hid (Has w b off f) := h
  clear h
  go_enter Trym.func10, Trym.ntmps10
  go_wp2
  go_loop [3, 4] (fun q i => ∃ k : Nat, k ≤ 32 ∧ i = .int .i64 k ∧ q = .int .i64 (on k) ∧ Hid (∀ i, i < k → yb f i = pm i)) (fun _ i => 32 - (intOf i).toNat)
  case atStart => exact ⟨0, by omega, rfl, rfl, fun i hi => absurd hi (by omega)⟩
  case round =>
    obtain ⟨k, hk, rfl, rfl, HK⟩ := hrel
    by_cases hlt : k < 32
    · have hy := yb_range (f := f) (H.out k hlt).2.1 (H.out k hlt).2.2
      have hp := pb_range k
      have hon : 0 ≤ on k ∧ on k ≤ 1 := by unfold on; split <;> omega
      go_wp2_with (first | (go_at_call 11; refine (ybyte_any b off len cap k f _ hlt hl hm H.out).mono ?_; rintro e w' ⟨rfl, rfl⟩) | (go_at_call 12; refine (pbyte_any k _ hlt).mono ?_; rintro e w' ⟨rfl, rfl⟩))
      · rename_i hne
        go_ret
        exact ⟨ret_bool (agree_no k hlt (pm_no hy.1 hy.2 hne)).symm, rfl⟩
      · rename_i heq
        go_round
        case rel => exact ⟨k + 1, by omega, by go_num, by rw [(pm_yes hy.1 hy.2 heq).2], to_snoc HK.out (pm_yes hy.1 hy.2 heq).1⟩
        case measure => simp [intOf]; omega
    · go_wp2
      go_ret
      have e : k = 32 := by omega
      subst e
      exact ⟨ret_bool ((agree_iff _ _).2 HK.out).symm, rfl⟩

/-- the answer of 'canonicalModel' -/
def mdl (f : Nat → Int) : Bool := (bor f 32 == 1) && (!(f 31 / 128 == 1) || !(agree (yb f) on || agree (yb f) pm))
theorem mdl_1 {f : Nat → Int} (h : (!bor f 32 == 1) = true) : mdl f = false := by
  unfold mdl; rw [show (bor f 32 == 1) = false by simpa using h]; rfl
theorem mdl_2 {f : Nat → Int} (h : agree (yb f) on = true) (h' : f 31 / 128 = 1) : mdl f = false := by
  unfold mdl; rw [h, h']; simp
theorem mdl_3 {f : Nat → Int} (h : (!bor f 32 == 1) = false) (h' : ¬ f 31 / 128 = 1) : mdl f = true := by
  unfold mdl; rw [show (bor f 32 == 1) = true by simpa using h, show (f 31 / 128 == 1) = false from beq_eq_false_iff_ne.2 h']; rfl
theorem mdl_4 {f : Nat → Int} (h : (!bor f 32 == 1) = false) (h2 : ¬ agree (yb f) on = true) (h' : f 31 / 128 = 1) : mdl f = !agree (yb f) pm := by
  unfold mdl; rw [show (bor f 32 == 1) = true by simpa using h, h', show agree (yb f) on = false by simpa using h2]; simp

set_option maxHeartbeats 400000 in
theorem model_any (b off len cap : Nat) (f : Nat → Int) (w : World) (hl : 32 ≤ len) (hm : len ≤ 1048576) (h : Has w b off f) :
    Calls Trym.prog 6 #[.slice (some ⟨b, off, none⟩) len cap] w fun e w' => e = .returned (.bool (mdl f)) ∧ w' = w := by
  have H : Hid (Has w b off f) := h
  obtain ⟨hc, h0, h1⟩ := h 31 (by omega)
  clear h
  go_enter Trym.func6, Trym.ntmps6
  go_wp2_with (first | (go_at_call 8; refine (below_any b off len cap f _ hl hm H.out).mono ?_; rintro e w' ⟨rfl, rfl⟩) | (go_at_call 9; refine (one_any b off len cap f _ hl hm H.out).mono ?_; rintro e w' ⟨rfl, rfl⟩) | (go_at_call 10; refine (pm_any b off len cap f _ hl hm H.out).mono ?_; rintro e w' ⟨rfl, rfl⟩))
  · go_ret
    exact ⟨ret_bool (mdl_1 (by assumption)).symm, rfl⟩
  · go_ret
    exact ⟨ret_bool (mdl_2 (by assumption) (by assumption)).symm, rfl⟩
  · go_ret
    exact ⟨ret_bool (mdl_3 (by assumption) (by assumption)).symm, rfl⟩
  · go_ret
    exact ⟨ret_bool (mdl_4 (by assumption) (by assumption) (by assumption)).symm, rfl⟩
  · go_ret
    exact ⟨ret_bool (mdl_3 (by assumption) (by assumption)).symm, rfl⟩
end Go.Proofs.Qxb6003228aMods.Can
