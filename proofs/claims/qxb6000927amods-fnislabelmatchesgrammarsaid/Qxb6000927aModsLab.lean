/- The plain law (no Go in sight) and the contracts of 'zzIsAlnum' (15), 'zzLabelByGrammar' (8), 'isLabel' (14), 'ZZisLabel' (7). -/
import Derived.Test.Qxb6000927aModsRows
import Derived.WalkKit
import Derived.ProofKit
import Derived.Laws.IdiomStrings
namespace Go.Proofs.Qxb6000927aMods.Lab
open Go.RowKit

/-! ### The plain law -/
/-- byte i of s as an integer (0 behind the end) -/
def byt (s : ByteArray) (i : Nat) : Int := ((s.data.toList[i]?.getD 0).toNat : Int)
theorem byt_at (s : ByteArray) (i : Nat) (h : i < s.size) : byt s i = (s[i].toNat : Int) := by
  have h' : i < s.data.toList.length := by simpa using h
  unfold byt
  rw [List.getElem?_eq_getElem h']
  rfl
/-- a letter or a digit -/
def Al (c : Int) : Prop := (97 ≤ c ∧ c ≤ 122) ∨ (65 ≤ c ∧ c ≤ 90) ∨ (48 ≤ c ∧ c ≤ 57)
def al (c : Int) : Bool := decide (97 ≤ c ∧ c ≤ 122) || decide (65 ≤ c ∧ c ≤ 90) || decide (48 ≤ c ∧ c ≤ 57)
theorem al_iff (c : Int) : al c = true ↔ Al c := by
  unfold al Al; simp [or_assoc]
theorem al_no (c : Int) : al c = false ↔ ¬ Al c := by
  rw [← al_iff, Bool.not_eq_true]
/-- what 'isLabel' asks of a byte -/
def Ok (c : Int) : Prop := Al c ∨ c = 45
def okB (c : Int) : Bool := al c || c == 45
theorem okB_iff (c : Int) : okB c = true ↔ Ok c := by
  unfold okB Ok; rw [Bool.or_eq_true, al_iff, beq_iff_eq]
/-- the answer of 'isLabel' -/
def labB (s : ByteArray) : Bool := decide (0 < s.size) && (byt s 0 != 45) && (byt s (s.size - 1) != 45) && (List.range s.size).all (fun i => okB (byt s i))
theorem labB_iff (s : ByteArray) : labB s = true ↔ 0 < s.size ∧ byt s 0 ≠ 45 ∧ byt s (s.size - 1) ≠ 45 ∧ ∀ i, i < s.size → Ok (byt s i) := by
  unfold labB
  simp [okB_iff, and_assoc]
theorem lab_no (s : ByteArray) (h : s.size = 0 ∨ byt s 0 = 45 ∨ byt s (s.size - 1) = 45 ∨ ∃ i, i < s.size ∧ ¬ Ok (byt s i)) : labB s = false := by
  rw [← Bool.not_eq_true, labB_iff]
  rintro ⟨h0, h1, h2, h3⟩
  rcases h with h | h | h | ⟨i, hi, h⟩
  · omega
  · exact h1 h
  · exact h2 h
  · exact h (h3 i hi)
theorem ok_snoc {f : Nat → Int} {k : Nat} (h : ∀ i, i < k → Ok (f i)) (h' : Ok (f k)) : ∀ i, i < k + 1 → Ok (f i) := by
  intro i hi
  rcases Nat.lt_succ_iff_lt_or_eq.1 hi with h1 | rfl
  · exact h i h1
  · exact h'
/-- the automaton behind k bytes -/
def Rel (f : Nat → Int) (k : Nat) (st : Int) : Prop :=
  (∀ i, i < k → Ok (f i)) ∧ ((st = 0 ∧ k = 0) ∨ (st = 1 ∧ 0 < k ∧ f 0 ≠ 45 ∧ f (k - 1) ≠ 45) ∨ (st = 2 ∧ 0 < k ∧ f 0 ≠ 45 ∧ f (k - 1) = 45))
theorem rel_start (f : Nat → Int) : Rel f 0 0 := ⟨fun i hi => absurd hi (by omega), .inl ⟨rfl, rfl⟩⟩
theorem al_ne {c : Int} (h : Al c) : c ≠ 45 := by unfold Al at h; omega
theorem rel_al {f : Nat → Int} {k : Nat} {st : Int} (h : Rel f k st) (ha : Al (f k)) : Rel f (k + 1) 1 := by
  refine ⟨ok_snoc h.1 (.inl ha), .inr (.inl ⟨rfl, by omega, ?_, by simpa using al_ne ha⟩)⟩
  rcases h.2 with ⟨_, e⟩ | ⟨_, _, e, _⟩ | ⟨_, _, e, _⟩
  · subst e; exact al_ne ha
  · exact e
  · exact e
theorem rel_hy {f : Nat → Int} {k : Nat} {st : Int} (h : Rel f k st) (h0 : st ≠ 0) (e : f k = 45) : Rel f (k + 1) 2 := by
  refine ⟨ok_snoc h.1 (.inr e), .inr (.inr ⟨rfl, by omega, ?_, by simpa using e⟩)⟩
  rcases h.2 with ⟨a, _⟩ | ⟨_, _, a, _⟩ | ⟨_, _, a, _⟩
  · exact absurd a h0
  · exact a
  · exact a
theorem rel_zero {f : Nat → Int} {k : Nat} (h : Rel f k 0) : k = 0 := by
  rcases h.2 with ⟨_, e⟩ | ⟨e, _⟩ | ⟨e, _⟩
  · exact e
  · omega
  · omega
theorem rel_end {s : ByteArray} {st : Int} (h : Rel (byt s) s.size st) : labB s = (st == 1) := by
  rw [Bool.eq_iff_iff, labB_iff, beq_iff_eq]
  constructor
  · rintro ⟨h0, h1, h2, _⟩
    rcases h.2 with ⟨_, e⟩ | ⟨e, _⟩ | ⟨_, _, _, e⟩
    · omega
    · exact e
    · exact absurd e h2
  · intro e
    rcases h.2 with ⟨e', _⟩ | ⟨_, a, b, c⟩ | ⟨e', _⟩
    · omega
    · exact ⟨a, b, c, h.1⟩
    · omega
theorem isEmpty_size (s : ByteArray) : s.toList = [] ↔ s.size = 0 := by
  rw [ByteArray.toList_eq]
  have : s.data.toList.length = s.size := by simp
  rw [← this, List.length_eq_zero_iff]

theorem ok_cls {c : Int} (h : Ok c) : (97 ≤ c ∧ c ≤ 122) ∨ (65 ≤ c ∧ c ≤ 90) ∨ (48 ≤ c ∧ c ≤ 57) ∨ (45 ≤ c ∧ c ≤ 45 ∧ (c == 45) = true) := by
  rcases h with h | h
  · unfold Al at h; omega
  · exact .inr (.inr (.inr ⟨by omega, by omega, beq_iff_eq.2 h⟩))
theorem no_cls {c : Int} (h : ¬ Ok c) : c < 48 ∨ (57 < c ∧ c < 65 ∧ decide (c ≤ 57) = false) ∨ (90 < c ∧ c < 97 ∧ decide (c ≤ 57) = false ∧ decide (c ≤ 90) = false) ∨ (122 < c ∧ decide (c ≤ 57) = false ∧ decide (c ≤ 90) = false ∧ decide (c ≤ 122) = false) := by
  unfold Ok Al at h; simp only [decide_eq_false_iff_not]; omega

theorem ret_bool {a b : Bool} (h : a = b) : Ending.returned (.bool a) = .returned (.bool b) := by rw [h]

/-! ### The walks -/
set_option maxHeartbeats 400000 in
theorem alnum_any (c : Int) (w : World) :
    Calls Trym.prog 15 #[.int .u8 c] w fun e w' => e = .returned (.bool (al c)) ∧ w' = w := by
  go_enter Trym.func15, Trym.ntmps15
  go_wp2
  all_goals
    go_ret
    exact ⟨ret_bool (by rw [Bool.eq_iff_iff, al_iff]; simp [Al]; omega), rfl⟩

set_option maxHeartbeats 400000 in
theorem gram_any (s : ByteArray) (w : World) (hs : s.size ≤ 65536) :
    Calls Trym.prog 8 #[.string s] w fun e w' => e = .returned (.bool (labB s)) ∧ w' = w := by
  go_enter Trym.func8, Trym.ntmps8
  go_wp2
  go_loop [3, 4] (fun st i => ∃ (k : Nat) (q : Int), k ≤ s.size ∧ i = .int .i64 k ∧ st = .int .i64 q ∧ Hid (Rel (byt s) k q)) (fun _ i => s.size - (intOf i).toNat)
  case atStart => exact ⟨0, 0, Nat.zero_le _, rfl, rfl, rel_start _⟩
  case round =>
    obtain ⟨k, q, hk, rfl, rfl, H⟩ := hrel
    by_cases hlt : k < s.size
    · have HB : Hid (byt s k = (s[k].toNat : Int)) := byt_at s k hlt
      by_cases ha : al (s[k].toNat : Int) = true
      · go_wp2_with (go_at_call 15; refine (alnum_any _ _).mono ?_; rintro e w' ⟨rfl, rfl⟩)
        go_round
        case rel => exact ⟨k + 1, 1, by omega, by go_num, rfl, rel_al H.out (by rw [HB.out]; exact (al_iff _).1 ha)⟩
        case measure => simp [intOf]; omega
      · have ha' : al (s[k].toNat : Int) = false := by simpa using ha
        clear ha
        go_wp2_with (go_at_call 15; refine (alnum_any _ _).mono ?_; rintro e w' ⟨rfl, rfl⟩)
        · rename_i h2
          have h1 : ((s[k].toNat : Int) == 45) = true := by assumption
          go_ret
          have e : q = 0 := beq_iff_eq.1 h2
          subst e
          have ek : k = 0 := rel_zero H.out
          subst ek
          exact ⟨ret_bool (lab_no s (.inr (.inl (HB.out.trans (beq_iff_eq.1 h1))))).symm, rfl⟩
        · rename_i h2
          have h1 : ((s[k].toNat : Int) == 45) = true := by assumption
          go_round
          case rel => exact ⟨k + 1, 2, by omega, by go_num, rfl, rel_hy H.out (beq_eq_false_iff_ne.1 h2) (HB.out.trans (beq_iff_eq.1 h1))⟩
          case measure => simp [intOf]; omega
        · rename_i h1
          go_ret
          have ho : ¬ Ok (byt s k) := by
            rw [HB.out]
            rintro (h | h)
            · exact (al_no _).1 ha' h
            · exact beq_eq_false_iff_ne.1 h1 h
          exact ⟨ret_bool (lab_no s (.inr (.inr (.inr ⟨k, hlt, ho⟩)))).symm, rfl⟩
    · go_wp2
      go_ret
      have e : k = s.size := by omega
      subst e
      exact ⟨ret_bool (rel_end H.out).symm, rfl⟩

set_option maxHeartbeats 1000000 in
theorem lab_core (s : ByteArray) (w : World) (hs : s.size ≤ 65536) (cap : Nat) (C : Array Value)
    (hconv : (convert 9 26 (.string s)).run Trym.prog w = .ok (.slice (some ⟨w.heap.size, 0, none⟩) s.size cap) (w.drew.alloc (.cells C 5 (C.size, C.size + 1))))
    (hcell : ∀ k, (h : k < s.size) → (w.alloc (.cells C 5 (C.size, C.size + 1))).cell? ⟨w.heap.size, k, none⟩ = some (.int .u8 (s[k].toNat : Int))) :
    Calls Trym.prog 14 #[.string s] w fun e w' => e = .returned (.bool (labB s)) ∧ Below w.heap.size w w' := by
  by_cases h0 : s.size = 0
  · have HU : Hid (labB s = false) := lab_no s (.inl h0)
    have he : s.toList = [] := (isEmpty_size s).2 h0
    clear hcell
    go_enter Trym.func14, Trym.ntmps14
    go_wp2
    go_ret
    exact ⟨ret_bool HU.out.symm, Below.refl _ _⟩
  · have hpos : 0 < s.size := by omega
    have he : s.toList.isEmpty = false := by
      rw [List.isEmpty_eq_false_iff]; exact fun h => h0 ((isEmpty_size s).1 h)
    have H0 : Hid (byt s 0 = (s[0].toNat : Int)) := byt_at s 0 hpos
    have H1 : Hid (byt s (s.size - 1) = (s[s.size - 1].toNat : Int)) := byt_at s (s.size - 1) (by omega)
    clear h0
    by_cases c0 : (s[0].toNat : Int) = 45
    · have c0' : ((s[0].toNat : Int) == 45) = true := beq_iff_eq.2 c0
      clear c0 hcell
      go_enter Trym.func14, Trym.ntmps14
      go_wp2
      go_ret
      exact ⟨ret_bool (lab_no s (.inr (.inl (H0.out.trans (beq_iff_eq.1 c0'))))).symm, Below.refl _ _⟩
    have c0' : ((s[0].toNat : Int) == 45) = false := beq_eq_false_iff_ne.2 c0
    clear c0
    by_cases c1 : (s[s.size - 1].toNat : Int) = 45
    · have c1' : ((s[s.size - 1].toNat : Int) == 45) = true := beq_iff_eq.2 c1
      clear c1 hcell
      go_enter Trym.func14, Trym.ntmps14
      go_wp2
      go_ret
      exact ⟨ret_bool (lab_no s (.inr (.inr (.inl (H1.out.trans (beq_iff_eq.1 c1')))))).symm, Below.refl _ _⟩
    have c1' : ((s[s.size - 1].toNat : Int) == 45) = false := beq_eq_false_iff_ne.2 c1
    clear c1
    go_enter Trym.func14, Trym.ntmps14
    go_wp2
    go_loop [23] (fun i => ∃ (k : Nat), k ≤ s.size ∧ i = .int .i64 k ∧ Hid (∀ i, i < k → Ok (byt s i))) (fun i => s.size - (intOf i).toNat)
    case atStart => exact ⟨0, Nat.zero_le _, rfl, fun i hi => absurd hi (by omega)⟩
    case round =>
      obtain ⟨k, hk, rfl, H⟩ := hrel
      by_cases hlt : k < s.size
      · have HB : Hid (byt s k = (s[k].toNat : Int)) := byt_at s k hlt
        have hc := hcell k hlt
        clear hcell
        by_cases ho : Ok (s[k].toNat : Int)
        · have HO : Hid (Ok (byt s k)) := by rw [HB.out]; exact ho
          rcases ok_cls ho with ⟨g1, g2⟩ | ⟨g1, g2⟩ | ⟨g1, g2⟩ | ⟨g1, g2, g3⟩
          all_goals
            clear ho
            go_wp2
            go_round
            case rel => exact ⟨k + 1, by omega, by go_num, ok_snoc H.out HO.out⟩
            case measure => simp [intOf]; omega
        · have HO : Hid (¬ Ok (byt s k)) := by rw [HB.out]; exact ho
          have g0 : ((s[k].toNat : Int) == 45) = false := beq_eq_false_iff_ne.2 (fun h => ho (.inr h))
          rcases no_cls ho with g1 | ⟨g1, g2, g3⟩ | ⟨g1, g2, g3, g4⟩ | ⟨g1, g2, g3, g4⟩
          all_goals
            clear ho
            go_wp2
            go_ret
            exact ⟨ret_bool (lab_no s (.inr (.inr (.inr ⟨k, hlt, HO.out⟩)))).symm, ((Below.refl _ _).alloc (Nat.le_refl _) _).drew⟩
      · clear hcell
        go_wp2
        go_ret
        have e : k = s.size := by omega
        subst e
        exact ⟨ret_bool ((labB_iff s).2 ⟨hpos, by rw [H0.out]; exact beq_eq_false_iff_ne.1 c0', by rw [H1.out]; exact beq_eq_false_iff_ne.1 c1', H.out⟩).symm, ((Below.refl _ _).alloc (Nat.le_refl _) _).drew⟩

theorem cell_bytes (s : ByteArray) (w : World) (cap k : Nat) (h : k < s.size) :
    (w.alloc (.cells (bytesRow s cap) 5 ((bytesRow s cap).size, (bytesRow s cap).size + 1))).cell? ⟨w.heap.size, k, none⟩ = some (.int .u8 (s[k].toNat : Int)) := by
  rw [World.cell?_alloc_mark]
  exact bytesRow_at s cap k h

theorem lab_any (s : ByteArray) (w : World) (hs : s.size ≤ 65536) :
    Calls Trym.prog 14 #[.string s] w fun e w' => e = .returned (.bool (labB s)) ∧ Below w.heap.size w w' :=
  lab_core s w hs _ _ (run_bytes_of_string w 9 26 5 s Trym.underlying9 Trym.underlying26 Trym.underlying5) (fun k h => cell_bytes s w _ k h)

set_option maxHeartbeats 400000 in
theorem zz_any (s : ByteArray) (w : World) (hs : s.size ≤ 65536) :
    Calls Trym.prog 7 #[.string s] w fun e w' => e = .returned (.bool (labB s)) ∧ Below w.heap.size w w' := by
  go_enter Trym.func7, Trym.ntmps7
  go_wp2_with (go_at_call 14; refine (lab_any s _ hs).mono ?_; rintro e w' ⟨rfl, hb⟩)
  go_ret
  exact ⟨rfl, hb⟩
end Go.Proofs.Qxb6000927aMods.Lab
