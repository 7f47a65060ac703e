/- What a walk is told of a []string, and the plain law of 'controlsTransaction' behind the word 'rollback' (no Go in sight). -/
import Derived.Test.Qxb6001456aModsRows
import Derived.WalkKit
import Derived.ProofKit
import Derived.WalkSpells
namespace Go.Proofs.Qxb6001456aMods.Ctl
open Go.RowKit

/-! ### A slice of strings -/
/-- the slice '.slice a xs.length cap' holds the strings xs in the world w -/
def Strs (w : World) (a : Option Addr) (cap : Nat) (xs : List ByteArray) : Prop :=
  xs.length ≤ cap ∧ cap ≤ maxLen ∧ (xs = [] ∨ ∃ b off, a = some ⟨b, off, none⟩ ∧ b < w.heap.size ∧ ∀ i, i < xs.length → w.cell? ⟨b, off + i, none⟩ = some (.string (xs.getD i ByteArray.empty)))

theorem Strs.below {B : Nat} {w w' : World} {a : Option Addr} {cap : Nat} {xs : List ByteArray} (h : Strs w a cap xs) (hb : Below B w w') (hB : w.heap.size ≤ B) : Strs w' a cap xs := by
  obtain ⟨h1, h2, h3⟩ := h
  refine ⟨h1, h2, ?_⟩
  rcases h3 with h3 | ⟨b, off, rfl, hlt, hc⟩
  · exact .inl h3
  · have := hb.size
    exact .inr ⟨b, off, rfl, by omega, fun i hi => by rw [hb.cell (p := ⟨b, off + i, none⟩) (by show b < B; omega)]; exact hc i hi⟩

theorem Strs.alloc {w : World} {a : Option Addr} {cap : Nat} {xs : List ByteArray} (h : Strs w a cap xs) (o : Obj) : Strs (w.alloc o) a cap xs :=
  h.below ((Below.refl w.heap.size w).alloc (Nat.le_refl _) o) (Nat.le_refl _)

theorem Strs.nil (w : World) (a : Option Addr) (cap : Nat) (h : cap ≤ maxLen) : Strs w a cap [] := ⟨Nat.zero_le _, h, .inl rfl⟩

theorem Strs.at {w : World} {a : Option Addr} {cap : Nat} {xs : List ByteArray} (h : Strs w a cap xs) (hp : 0 < xs.length) :
    ∃ b off, a = some ⟨b, off, none⟩ ∧ b < w.heap.size ∧ ∀ i, i < xs.length → w.cell? ⟨b, off + i, none⟩ = some (.string (xs.getD i ByteArray.empty)) := by
  rcases h.2.2 with rfl | h
  · simp at hp
  · exact h

theorem strs_of_owns {w : World} {base g n cap : Nat} {xs : List ByteArray} (h : w.ownsRow base 9 1 (.slice (some ⟨g, 0, none⟩) n cap) n (xs.map Value.string)) (hn : xs.length = n) :
    Strs w (some ⟨g, 0, none⟩) cap xs := by
  subst hn
  have hg := (h.lt g rfl).2
  have hc := fun j hj => h.cellAt j (by simpa using hj)
  rcases h.2 with ⟨h', _⟩ | ⟨g', cap', cur, h', _, _, h1, h2, _⟩
  · simp at h'
  · simp only [Value.slice.injEq, Option.some.injEq, Addr.mk.injEq, and_true, true_and] at h'
    obtain ⟨rfl, rfl⟩ := h'
    refine ⟨h1, h2, .inr ⟨g, 0, rfl, hg, fun i hi => ?_⟩⟩
    rw [Nat.zero_add, hc i hi]
    simp [hi]

/-! ### 'controlsTransaction' behind the word 'rollback' -/
/-- the words WORK and TRANSACTION -/
def lead (x : ByteArray) : Bool := x.toList == [119, 111, 114, 107] || x.toList == [116, 114, 97, 110, 115, 97, 99, 116, 105, 111, 110]
/-- the word TO -/
def isTo (x : ByteArray) : Bool := x.toList == [116, 111]
/-- what 'controlsTransaction' answers to 'rollback' and these words -/
def ctl : List ByteArray → Bool
  | [] => true
  | x :: t => if lead x then (match t with | [] => true | y :: _ => !isTo y) else !isTo x

theorem ret_bool {a b : Bool} (h : a = b) : Ending.returned (.bool a) = .returned (.bool b) := by rw [h]

/-! ### The walk -/
set_option maxHeartbeats 400000 in
theorem ctl_one (b off cap : Nat) (w : World) (hb : b < w.heap.size)
    (c0 : w.cell? ⟨b, off, none⟩ = some (.string ⟨#[114, 111, 108, 108, 98, 97, 99, 107]⟩)) :
    Calls Trym.prog 21 #[.agg #[.string ⟨#[]⟩, .int .i64 0, .slice (some ⟨b, off, none⟩) 1 cap]] w fun e w' => e = .returned (.bool true) ∧ Below w.heap.size w w' := by
  go_enter Trym.func21, Trym.ntmps21
  go_wp2
  go_ret
  exact ⟨rfl, (Below.refl _ _).alloc (Nat.le_refl _) _⟩

set_option maxHeartbeats 400000 in
theorem ctl_two (b off n cap : Nat) (x : ByteArray) (w : World) (hn : n ≤ 70000) (h2 : 2 ≤ n) (hb : b < w.heap.size)
    (c0 : w.cell? ⟨b, off, none⟩ = some (.string ⟨#[114, 111, 108, 108, 98, 97, 99, 107]⟩)) (c1 : w.cell? ⟨b, off + 1, none⟩ = some (.string x))
    (hw : (x.toList == [119, 111, 114, 107]) = false) (ht : (x.toList == [116, 114, 97, 110, 115, 97, 99, 116, 105, 111, 110]) = false) :
    Calls Trym.prog 21 #[.agg #[.string ⟨#[]⟩, .int .i64 0, .slice (some ⟨b, off, none⟩) n cap]] w fun e w' => e = .returned (.bool (!isTo x)) ∧ Below w.heap.size w w' := by
  have hd : decide ((n : Int) < 2) = false := by simp; omega
  go_enter Trym.func21, Trym.ntmps21
  go_wp2
  go_ret
  exact ⟨rfl, (Below.refl _ _).alloc (Nat.le_refl _) _⟩

set_option maxHeartbeats 400000 in
theorem ctl_lead2 (b off cap : Nat) (x : ByteArray) (w : World) (hc2 : 2 ≤ cap) (hb : b < w.heap.size)
    (c0 : w.cell? ⟨b, off, none⟩ = some (.string ⟨#[114, 111, 108, 108, 98, 97, 99, 107]⟩)) (c1 : w.cell? ⟨b, off + 1, none⟩ = some (.string x))
    (hx : lead x = true) :
    Calls Trym.prog 21 #[.agg #[.string ⟨#[]⟩, .int .i64 0, .slice (some ⟨b, off, none⟩) 2 cap]] w fun e w' => e = .returned (.bool true) ∧ Below w.heap.size w w' := by
  by_cases hw : (x.toList == [119, 111, 114, 107]) = true
  · clear hx
    go_enter Trym.func21, Trym.ntmps21
    go_wp2
    go_ret
    exact ⟨rfl, (Below.refl _ _).alloc (Nat.le_refl _) _⟩
  · have hw' : (x.toList == [119, 111, 114, 107]) = false := by simpa using hw
    have ht : (x.toList == [116, 114, 97, 110, 115, 97, 99, 116, 105, 111, 110]) = true := by
      unfold lead at hx; rw [hw', Bool.false_or] at hx; exact hx
    clear hx hw
    go_enter Trym.func21, Trym.ntmps21
    go_wp2
    go_ret
    exact ⟨rfl, (Below.refl _ _).alloc (Nat.le_refl _) _⟩

set_option maxHeartbeats 400000 in
theorem ctl_lead3 (b off n cap : Nat) (x y : ByteArray) (w : World) (hn : n ≤ 70000) (h3 : 3 ≤ n) (hcap : n ≤ cap) (hb : b < w.heap.size)
    (c0 : w.cell? ⟨b, off, none⟩ = some (.string ⟨#[114, 111, 108, 108, 98, 97, 99, 107]⟩)) (c1 : w.cell? ⟨b, off + 1, none⟩ = some (.string x)) (c2 : w.cell? ⟨b, off + 1 + 1, none⟩ = some (.string y))
    (hx : lead x = true) :
    Calls Trym.prog 21 #[.agg #[.string ⟨#[]⟩, .int .i64 0, .slice (some ⟨b, off, none⟩) n cap]] w fun e w' => e = .returned (.bool (!isTo y)) ∧ Below w.heap.size w w' := by
  have hd : decide (((n - 1 : Nat) : Int) < 2) = false := by simp; omega
  by_cases hw : (x.toList == [119, 111, 114, 107]) = true
  · clear hx
    go_enter Trym.func21, Trym.ntmps21
    go_wp2
    go_ret
    exact ⟨rfl, (Below.refl _ _).alloc (Nat.le_refl _) _⟩
  · have hw' : (x.toList == [119, 111, 114, 107]) = false := by simpa using hw
    have ht : (x.toList == [116, 114, 97, 110, 115, 97, 99, 116, 105, 111, 110]) = true := by
      unfold lead at hx; rw [hw', Bool.false_or] at hx; exact hx
    clear hx hw
    go_enter Trym.func21, Trym.ntmps21
    go_wp2
    go_ret
    exact ⟨rfl, (Below.refl _ _).alloc (Nat.le_refl _) _⟩

/-- 'controlsTransaction' of a statement whose first words are 'rollback' and these -/
theorem ctl_any (a : Option Addr) (cap : Nat) (rest : List ByteArray) (w : World) (hn : rest.length < 70000) (h : Strs w a cap (⟨#[114, 111, 108, 108, 98, 97, 99, 107]⟩ :: rest)) :
    Calls Trym.prog 21 #[.agg #[.string ⟨#[]⟩, .int .i64 0, .slice a (rest.length + 1) cap]] w fun e w' => e = .returned (.bool (ctl rest)) ∧ Below w.heap.size w w' := by
  have hl := h.1
  obtain ⟨b, off, rfl, hb, hc⟩ := h.at (by simp)
  have c0 := hc 0 (by simp)
  simp only [Nat.add_zero, List.getD_cons_zero] at c0
  match rest, hn, hl, hc with
  | [], _, _, _ => exact ctl_one b off cap w hb c0
  | [x], _, hl, hc =>
    have c1 := hc 1 (by simp)
    simp only [List.getD_cons_succ, List.getD_cons_zero] at c1
    by_cases hx : lead x = true
    · simp only [ctl, hx, if_true]
      exact ctl_lead2 b off cap x w (by simpa using hl) hb c0 c1 hx
    · have hx' : lead x = false := by simpa using hx
      have := hx'
      unfold lead at this
      rw [Bool.or_eq_false_iff] at this
      simp only [ctl, hx']
      exact ctl_two b off 2 cap x w (by omega) (by omega) hb c0 c1 this.1 this.2
  | x :: y :: t, hn, hl, hc =>
    have c1 := hc 1 (by simp)
    have c2 := hc 2 (by simp)
    simp only [List.getD_cons_succ, List.getD_cons_zero] at c1 c2
    by_cases hx : lead x = true
    · simp only [ctl, hx, if_true]
      exact ctl_lead3 b off _ cap x y w (by simp at hn ⊢; omega) (by simp) (by simpa using hl) hb c0 c1 c2 hx
    · have hx' : lead x = false := by simpa using hx
      have := hx'
      unfold lead at this
      rw [Bool.or_eq_false_iff] at this
      simp only [ctl, hx']
      exact ctl_two b off _ cap x w (by simp at hn ⊢; omega) (by simp) hb c0 c1 this.1 this.2

set_option maxHeartbeats 400000 in
theorem zz_any (a : Option Addr) (cap : Nat) (rest : List ByteArray) (w : World) (hn : rest.length < 70000) (h : Strs w a cap (⟨#[114, 111, 108, 108, 98, 97, 99, 107]⟩ :: rest)) :
    Calls Trym.prog 18 #[.slice a (rest.length + 1) cap] w fun e w' => e = .returned (.bool (ctl rest)) ∧ Below w.heap.size w w' := by
  have HH : Hid (Strs w a cap (⟨#[114, 111, 108, 108, 98, 97, 99, 107]⟩ :: rest)) := h
  clear h
  go_enter Trym.func18, Trym.ntmps18
  go_wp2_with (go_at_call 21; refine (ctl_any a cap rest _ hn HH.out).mono ?_; rintro e w' ⟨rfl, hb⟩)
  go_ret
  exact ⟨rfl, hb⟩
end Go.Proofs.Qxb6001456aMods.Ctl
