/- The walk of the law: 'FnControlsTransactionRollbackToKeepsItOpen' (6) returns true and writes nothing that was there. -/
import Derived.Test.Qxb6001456aModsReads
import Derived.Test.Qxb6001456aModsJoin
namespace Go.Proofs.Qxb6001456aMods.Ctl
open Go.RowKit

theorem strs_lit (w : World) (x : ByteArray) : Strs (w.alloc (.cells #[.string x] 9)) (some ⟨w.heap.size, 0, none⟩) 1 [x] := by
  refine ⟨by simp, by unfold maxLen; omega, .inr ⟨w.heap.size, 0, rfl, by simp, fun i hi => ?_⟩⟩
  have : i = 0 := by simp at hi; omega
  subst this
  simp

theorem strs_lit2 (w : World) (c : Obj) (x : ByteArray) : Strs ((w.alloc c).alloc (.cells #[.string x] 9)) (some ⟨w.heap.size + 1, 0, none⟩) 1 [x] := by
  have := strs_lit (w.alloc c) x
  rwa [World.size_alloc] at this

theorem zz_of (a : Option Addr) (cap : Nat) (rest : List ByteArray) (c : Bool) (w : World) (hn : rest.length < 70000) (h : Strs w a cap (⟨#[114, 111, 108, 108, 98, 97, 99, 107]⟩ :: rest)) (hc : ctl rest = c) :
    Calls Trym.prog 18 #[.slice a (rest.length + 1) cap] w fun e w' => e = .returned (.bool c) ∧ Below w.heap.size w w' := by
  subst hc
  exact zz_any a cap rest w hn h

/-! ### The plain law -/
theorem ctl_to (xs : List ByteArray) : ctl (⟨#[116, 111]⟩ :: xs) = false := by
  simp [ctl, lead, isTo]
theorem ctl_plain {x : ByteArray} {t : List ByteArray} (c1 : (x.toList == [116, 111]) = false) (c2 : (x.toList == [119, 111, 114, 107]) = false) (c3 : (x.toList == [116, 114, 97, 110, 115, 97, 99, 116, 105, 111, 110]) = false) : ctl (x :: t) = true := by
  have h1 : lead x = false := by unfold lead; rw [c2, c3]; rfl
  have h2 : isTo x = false := c1
  simp [ctl, h1, h2]
theorem ctl_lead_to {x : ByteArray} (h : lead x = true) (xs : List ByteArray) : ctl (x :: ⟨#[116, 111]⟩ :: xs) = false := by
  simp [ctl, h, isTo]
theorem ctl_lead_nil {x : ByteArray} (h : lead x = true) : ctl [x] = true := by
  simp [ctl, h]
theorem ctl_lead_plain {x y : ByteArray} {t : List ByteArray} (h : lead x = true) (c1 : (y.toList == [116, 111]) = false) : ctl (x :: y :: t) = true := by
  have h2 : isTo y = false := c1
  simp [ctl, h, h2]
theorem lead_work : lead ⟨#[119, 111, 114, 107]⟩ = true := by simp [lead]
theorem lead_trans : lead ⟨#[116, 114, 97, 110, 115, 97, 99, 116, 105, 111, 110]⟩ = true := by simp [lead]

/-- the shape of a slice that owns at least one word -/
theorem own_shape {w : World} {base n : Nat} {v : Value} {xs : List ByteArray} (h : w.ownsRow base 9 1 v n (xs.map Value.string)) (hn : xs.length = n) (hp : 0 < n) :
    ∃ g cap, v = .slice (some ⟨g, 0, none⟩) n cap ∧ Strs w (some ⟨g, 0, none⟩) cap xs := by
  rcases h.2 with ⟨_, h0⟩ | ⟨g, cap, cur, rfl, _⟩
  · omega
  · exact ⟨g, cap, rfl, strs_of_owns h hn⟩

theorem cell_lit2 (w : World) (c : Obj) (x : ByteArray) : ∀ (j : Nat) (u : Value), [Value.string x][j]? = some u → ((w.alloc c).alloc (.cells #[.string x] 9)).cell? ((⟨w.heap.size + 1, 0, none⟩ : Addr).add j) = some u := by
  intro j u hj
  match j, hj with
  | 0, hj => simp at hj; subst hj; simp [Addr.add]

set_option maxHeartbeats 1000000 in
theorem top_zero (a : Option Addr) (len cap : Nat) (xs : List ByteArray) (w : World) (hlen : xs.length = len) (hn : len ≤ 65536) (h : Strs w a cap xs) :
    Calls Trym.prog 6 #[.int .i64 0, .slice a len cap] w fun e w' => e = .returned (.bool true) ∧ Below w.heap.size w w' := by
  have H : Hid (Strs w a cap xs) := h
  have HL : Hid (xs.length = len) := hlen
  clear h hlen
  go_enter Trym.func6, Trym.ntmps6
  go_wp2_with fail
  refine (bytes_any _ a len cap xs _ HL.out H.out).mono ?_
  rintro e w0 ⟨⟨b, rfl⟩, rfl⟩
  cases b
  · go_wp2
    go_ret
    exact ⟨rfl, Below.refl _ _⟩
  go_wp2_with fail
  refine (words_any a len cap xs _ HL.out H.out).mono ?_
  rintro e w1 ⟨⟨q, rfl⟩, rfl⟩
  by_cases hq : 1048576 < q
  · go_wp2
    go_ret
    exact ⟨rfl, Below.refl _ _⟩
  go_wp2_with fail
  refine (copy_any a len cap xs _ HL.out (by omega) H.out).mono ?_
  rintro e w2 ⟨a2, cap2, rfl, hS2, hB2⟩
  have H2 : Hid (Strs w2 a2 cap2 xs ∧ Below w1.heap.size w1 w2) := ⟨hS2, hB2⟩
  clear hS2 hB2 H
  go_wp2_with fail
  refine (join_any _ _ 1 1 1 1 [⟨#[114, 111, 108, 108, 98, 97, 99, 107]⟩] [⟨#[116, 111]⟩] _ rfl rfl (by omega) ((strs_lit _ _).alloc _) (strs_lit2 _ _ _)).mono ?_
  rintro e w3 ⟨a3, cap3, rfl, hS3, hB3⟩
  have H3 : Hid (Strs w3 a3 cap3 [⟨#[114, 111, 108, 108, 98, 97, 99, 107]⟩, ⟨#[116, 111]⟩] ∧ Strs w3 (some ⟨w2.heap.size, 0, none⟩) 1 [⟨#[114, 111, 108, 108, 98, 97, 99, 107]⟩] ∧ Strs w3 a2 cap2 xs ∧ Below w1.heap.size w1 w3) :=
    ⟨hS3, ((strs_lit _ _).alloc _).below hB3 (Nat.le_refl _), ((H2.out.1.alloc _).alloc _).below hB3 (Nat.le_refl _), by
      have := H2.out.2.size
      exact ((H2.out.2.alloc this _).alloc (by simp; omega) _).trans (hB3.mono (by simp; omega))⟩
  clear hS3 hB3 H2
  go_wp2_with fail
  refine (join_any a3 a2 2 xs.length cap3 cap2 [⟨#[114, 111, 108, 108, 98, 97, 99, 107]⟩, ⟨#[116, 111]⟩] xs _ rfl rfl (by rw [HL.out]; omega) H3.out.1 H3.out.2.2.1).mono ?_
  rintro e w4 ⟨a4, cap4, rfl, hS4, hB4⟩
  have H4 : Hid (Strs w4 a4 cap4 (⟨#[114, 111, 108, 108, 98, 97, 99, 107]⟩ :: ⟨#[116, 111]⟩ :: xs) ∧ Strs w4 (some ⟨w2.heap.size, 0, none⟩) 1 [⟨#[114, 111, 108, 108, 98, 97, 99, 107]⟩] ∧ Strs w4 a2 cap2 xs ∧ Below w1.heap.size w1 w4) :=
    ⟨hS4, H3.out.2.1.below hB4 (Nat.le_refl _), H3.out.2.2.1.below hB4 (Nat.le_refl _), H3.out.2.2.2.trans (hB4.mono H3.out.2.2.2.size)⟩
  clear hS4 hB4 H3
  go_wp2_with fail
  refine (zz_of a4 cap4 (⟨#[116, 111]⟩ :: xs) false _ (by rw [List.length_cons, HL.out]; omega) H4.out.1 (ctl_to _)).mono ?_
  rintro e w5 ⟨rfl, hB5⟩
  have H5 : Hid (Strs w5 (some ⟨w2.heap.size, 0, none⟩) 1 [⟨#[114, 111, 108, 108, 98, 97, 99, 107]⟩] ∧ Strs w5 a2 cap2 xs ∧ Below w1.heap.size w1 w5) :=
    ⟨H4.out.2.1.below hB5 (Nat.le_refl _), H4.out.2.2.1.below hB5 (Nat.le_refl _), H4.out.2.2.2.trans (hB5.mono H4.out.2.2.2.size)⟩
  clear hB5 H4
  cases xs with
  | nil =>
    go_wp2_with fail
    refine (join_any _ a2 1 0 1 cap2 [⟨#[114, 111, 108, 108, 98, 97, 99, 107]⟩] [] _ rfl rfl (by omega) H5.out.1 H5.out.2.1).mono ?_
    rintro e w6 ⟨a6, cap6, rfl, hS6, hB6⟩
    have H6 : Hid (Strs w6 a6 cap6 [⟨#[114, 111, 108, 108, 98, 97, 99, 107]⟩] ∧ Below w1.heap.size w1 w6) := ⟨hS6, H5.out.2.2.trans (hB6.mono H5.out.2.2.size)⟩
    clear hS6 hB6 H5
    go_wp2_with fail
    refine (zz_of a6 cap6 [] true _ (by simp) H6.out.1 rfl).mono ?_
    rintro e w7 ⟨rfl, hB7⟩
    go_wp2
    go_ret
    exact ⟨rfl, H6.out.2.trans (hB7.mono H6.out.2.size)⟩
  | cons x t =>
    obtain ⟨b2, off2, rfl, hb2, hc2⟩ := H5.out.2.1.at (by simp)
    have hl2 := HL.out
    have hx2 := hc2 0 (by simp)
    simp only [Nat.add_zero, List.getD_cons_zero] at hx2
    simp only [List.length_cons] at hl2
    have ht : t.length ≤ 65536 := by omega
    clear hc2 hl2
    by_cases c1 : (x.toList == [116, 111]) = true
    · go_wp2
      go_ret
      exact ⟨rfl, H5.out.2.2⟩
    have c1' : (x.toList == [116, 111]) = false := by simpa using c1
    clear c1
    by_cases c2 : (x.toList == [119, 111, 114, 107]) = true
    · go_wp2
      go_ret
      exact ⟨rfl, H5.out.2.2⟩
    have c2' : (x.toList == [119, 111, 114, 107]) = false := by simpa using c2
    clear c2
    by_cases c3 : (x.toList == [116, 114, 97, 110, 115, 97, 99, 116, 105, 111, 110]) = true
    · go_wp2
      go_ret
      exact ⟨rfl, H5.out.2.2⟩
    have c3' : (x.toList == [116, 114, 97, 110, 115, 97, 99, 116, 105, 111, 110]) = false := by simpa using c3
    clear c3
    go_wp2_with fail
    refine (join_any _ _ 1 (t.length + 1) 1 cap2 [⟨#[114, 111, 108, 108, 98, 97, 99, 107]⟩] (x :: t) _ rfl rfl (by omega) H5.out.1 H5.out.2.1).mono ?_
    rintro e w6 ⟨a6, cap6, rfl, hS6, hB6⟩
    have H6 : Hid (Strs w6 a6 cap6 (⟨#[114, 111, 108, 108, 98, 97, 99, 107]⟩ :: x :: t) ∧ Below w1.heap.size w1 w6) := ⟨hS6, H5.out.2.2.trans (hB6.mono H5.out.2.2.size)⟩
    clear hS6 hB6 H5 hx2
    go_wp2_with fail
    refine (zz_of a6 cap6 (x :: t) true _ (by rw [List.length_cons]; omega) H6.out.1 (ctl_plain c1' c2' c3')).mono ?_
    rintro e w7 ⟨rfl, hB7⟩
    go_wp2
    go_ret
    exact ⟨rfl, H6.out.2.trans (hB7.mono H6.out.2.size)⟩

set_option maxHeartbeats 1000000 in
theorem top_one (a : Option Addr) (len cap : Nat) (xs : List ByteArray) (w : World) (hlen : xs.length = len) (hn : len ≤ 65536) (h : Strs w a cap xs) :
    Calls Trym.prog 6 #[.int .i64 1, .slice a len cap] w fun e w' => e = .returned (.bool true) ∧ Below w.heap.size w w' := by
  have H : Hid (Strs w a cap xs) := h
  have HL : Hid (xs.length = len) := hlen
  obtain ⟨i0, hi, hz0, hz1, hz2⟩ := info_parts Trym.info9
  clear h hlen
  go_enter Trym.func6, Trym.ntmps6
  go_wp2_with fail
  refine (bytes_any _ a len cap xs _ HL.out H.out).mono ?_
  rintro e w0 ⟨⟨b, rfl⟩, rfl⟩
  cases b
  · go_wp2
    go_ret
    exact ⟨rfl, Below.refl _ _⟩
  go_wp2_with fail
  refine (words_any a len cap xs _ HL.out H.out).mono ?_
  rintro e w1 ⟨⟨q, rfl⟩, rfl⟩
  by_cases hq : 1048576 < q
  · go_wp2
    go_ret
    exact ⟨rfl, Below.refl _ _⟩
  go_wp2_with fail
  refine (copy_any a len cap xs _ HL.out (by omega) H.out).mono ?_
  rintro e w2 ⟨a2, cap2, rfl, hS2, hB2⟩
  have H2 : Hid (Strs w2 a2 cap2 xs ∧ Below w1.heap.size w1 w2) := ⟨hS2, hB2⟩
  clear hS2 hB2 H
  go_wp2_with (at_builtin; refine wpList_append_own _ rfl (.tmp 28) (.tmp 29) 27 rfl w2.heap.size 9 i0 (.string ⟨#[]⟩) 1 16 Trym.underlying27 hi hz0 hz1 hz2 rfl (by decide) _ 1 [.string ⟨#[114, 111, 108, 108, 98, 97, 99, 107]⟩] rfl ((World.ownsRow_lit w2 #[.string ⟨#[114, 111, 108, 108, 98, 97, 99, 107]⟩] 1 (Nat.le_refl _) (by unfold maxLen; omega) rfl).alloc _) ⟨w2.heap.size + 1, 0, none⟩ 1 1 [.string ⟨#[119, 111, 114, 107]⟩] rfl rfl (cell_lit2 _ _ _) (by intro u hu; simp at hu; subst hu; rfl) (by unfold maxLen; omega) (by omega) (by simp; omega) ?_)
  intro v3 w3 hown3 hgrow3 _
  obtain ⟨g, cap3, rfl, hS3⟩ := own_shape (xs := [⟨#[114, 111, 108, 108, 98, 97, 99, 107]⟩, ⟨#[119, 111, 114, 107]⟩]) hown3 rfl (by omega)
  have H3 : Hid (Strs w3 (some ⟨g, 0, none⟩) cap3 [⟨#[114, 111, 108, 108, 98, 97, 99, 107]⟩, ⟨#[119, 111, 114, 107]⟩] ∧ Strs w3 a2 cap2 xs ∧ Below w1.heap.size w1 w3) := by
    have hb : Below w2.heap.size w2 w3 := (((Below.refl w2.heap.size w2).alloc (Nat.le_refl _) _).alloc (by simp) _).grown hgrow3 (by simp; omega) (by intro k hk; cases hk; exact Nat.le_refl _)
    exact ⟨hS3, H2.out.1.below hb (Nat.le_refl _), H2.out.2.trans (hb.mono H2.out.2.size)⟩
  clear hown3 hgrow3 hS3 H2
  go_wp2_with fail
  refine (join_any _ _ 2 1 cap3 1 [⟨#[114, 111, 108, 108, 98, 97, 99, 107]⟩, ⟨#[119, 111, 114, 107]⟩] [⟨#[116, 111]⟩] _ rfl rfl (by omega) (H3.out.1.alloc _) (strs_lit _ _)).mono ?_
  rintro e w4 ⟨a4, cap4, rfl, hS4, hB4⟩
  have H4 : Hid (Strs w4 a4 cap4 [⟨#[114, 111, 108, 108, 98, 97, 99, 107]⟩, ⟨#[119, 111, 114, 107]⟩, ⟨#[116, 111]⟩] ∧ Strs w4 (some ⟨g, 0, none⟩) cap3 [⟨#[114, 111, 108, 108, 98, 97, 99, 107]⟩, ⟨#[119, 111, 114, 107]⟩] ∧ Strs w4 a2 cap2 xs ∧ Below w1.heap.size w1 w4) :=
    ⟨hS4, (H3.out.1.alloc _).below hB4 (Nat.le_refl _), (H3.out.2.1.alloc _).below hB4 (Nat.le_refl _), by
      have := H3.out.2.2.size
      exact (H3.out.2.2.alloc this _).trans (hB4.mono (by simp; omega))⟩
  clear hS4 hB4 H3
  go_wp2_with fail
  refine (join_any a4 a2 3 xs.length cap4 cap2 [⟨#[114, 111, 108, 108, 98, 97, 99, 107]⟩, ⟨#[119, 111, 114, 107]⟩, ⟨#[116, 111]⟩] xs _ rfl rfl (by rw [HL.out]; omega) H4.out.1 H4.out.2.2.1).mono ?_
  rintro e w5 ⟨a5, cap5, rfl, hS5, hB5⟩
  have H5 : Hid (Strs w5 a5 cap5 (⟨#[114, 111, 108, 108, 98, 97, 99, 107]⟩ :: ⟨#[119, 111, 114, 107]⟩ :: ⟨#[116, 111]⟩ :: xs) ∧ Strs w5 (some ⟨g, 0, none⟩) cap3 [⟨#[114, 111, 108, 108, 98, 97, 99, 107]⟩, ⟨#[119, 111, 114, 107]⟩] ∧ Strs w5 a2 cap2 xs ∧ Below w1.heap.size w1 w5) :=
    ⟨hS5, H4.out.2.1.below hB5 (Nat.le_refl _), H4.out.2.2.1.below hB5 (Nat.le_refl _), H4.out.2.2.2.trans (hB5.mono H4.out.2.2.2.size)⟩
  clear hS5 hB5 H4
  go_wp2_with fail
  refine (zz_of a5 cap5 (⟨#[119, 111, 114, 107]⟩ :: ⟨#[116, 111]⟩ :: xs) false _ (by rw [List.length_cons, List.length_cons, HL.out]; omega) H5.out.1 (ctl_lead_to lead_work _)).mono ?_
  rintro e w6 ⟨rfl, hB6⟩
  have H6 : Hid (Strs w6 (some ⟨g, 0, none⟩) cap3 [⟨#[114, 111, 108, 108, 98, 97, 99, 107]⟩, ⟨#[119, 111, 114, 107]⟩] ∧ Strs w6 a2 cap2 xs ∧ Below w1.heap.size w1 w6) :=
    ⟨H5.out.2.1.below hB6 (Nat.le_refl _), H5.out.2.2.1.below hB6 (Nat.le_refl _), H5.out.2.2.2.trans (hB6.mono H5.out.2.2.2.size)⟩
  clear hB6 H5
  cases xs with
  | nil =>
    go_wp2_with fail
    refine (join_any _ a2 2 0 cap3 cap2 [⟨#[114, 111, 108, 108, 98, 97, 99, 107]⟩, ⟨#[119, 111, 114, 107]⟩] [] _ rfl rfl (by omega) H6.out.1 H6.out.2.1).mono ?_
    rintro e w7 ⟨a7, cap7, rfl, hS7, hB7⟩
    have H7 : Hid (Strs w7 a7 cap7 [⟨#[114, 111, 108, 108, 98, 97, 99, 107]⟩, ⟨#[119, 111, 114, 107]⟩] ∧ Below w1.heap.size w1 w7) := ⟨hS7, H6.out.2.2.trans (hB7.mono H6.out.2.2.size)⟩
    clear hS7 hB7 H6
    go_wp2_with fail
    refine (zz_of a7 cap7 [⟨#[119, 111, 114, 107]⟩] true _ (by simp) H7.out.1 (ctl_lead_nil lead_work)).mono ?_
    rintro e w8 ⟨rfl, hB8⟩
    go_wp2
    go_ret
    exact ⟨rfl, H7.out.2.trans (hB8.mono H7.out.2.size)⟩
  | cons x t =>
    obtain ⟨b2, off2, rfl, hb2, hc2⟩ := H6.out.2.1.at (by simp)
    have hl2 := HL.out
    have hx2 := hc2 0 (by simp)
    simp only [Nat.add_zero, List.getD_cons_zero] at hx2
    simp only [List.length_cons] at hl2
    have ht : t.length ≤ 65536 := by omega
    clear hc2 hl2
    by_cases c1 : (x.toList == [116, 111]) = true
    · go_wp2
      go_ret
      exact ⟨rfl, H6.out.2.2⟩
    have c1' : (x.toList == [116, 111]) = false := by simpa using c1
    clear c1
    go_wp2_with fail
    refine (join_any _ _ 2 (t.length + 1) cap3 cap2 [⟨#[114, 111, 108, 108, 98, 97, 99, 107]⟩, ⟨#[119, 111, 114, 107]⟩] (x :: t) _ rfl rfl (by omega) H6.out.1 H6.out.2.1).mono ?_
    rintro e w7 ⟨a7, cap7, rfl, hS7, hB7⟩
    have H7 : Hid (Strs w7 a7 cap7 (⟨#[114, 111, 108, 108, 98, 97, 99, 107]⟩ :: ⟨#[119, 111, 114, 107]⟩ :: x :: t) ∧ Below w1.heap.size w1 w7) := ⟨hS7, H6.out.2.2.trans (hB7.mono H6.out.2.2.size)⟩
    clear hS7 hB7 H6 hx2
    go_wp2_with fail
    refine (zz_of a7 cap7 (⟨#[119, 111, 114, 107]⟩ :: x :: t) true _ (by rw [List.length_cons, List.length_cons]; omega) H7.out.1 (ctl_lead_plain lead_work c1')).mono ?_
    rintro e w8 ⟨rfl, hB8⟩
    go_wp2
    go_ret
    exact ⟨rfl, H7.out.2.trans (hB8.mono H7.out.2.size)⟩

set_option maxHeartbeats 1000000 in
theorem top_two (a : Option Addr) (len cap : Nat) (xs : List ByteArray) (w : World) (hlen : xs.length = len) (hn : len ≤ 65536) (h : Strs w a cap xs) :
    Calls Trym.prog 6 #[.int .i64 2, .slice a len cap] w fun e w' => e = .returned (.bool true) ∧ Below w.heap.size w w' := by
  have H : Hid (Strs w a cap xs) := h
  have HL : Hid (xs.length = len) := hlen
  obtain ⟨i0, hi, hz0, hz1, hz2⟩ := info_parts Trym.info9
  clear h hlen
  go_enter Trym.func6, Trym.ntmps6
  go_wp2_with fail
  refine (bytes_any _ a len cap xs _ HL.out H.out).mono ?_
  rintro e w0 ⟨⟨b, rfl⟩, rfl⟩
  cases b
  · go_wp2
    go_ret
    exact ⟨rfl, Below.refl _ _⟩
  go_wp2_with fail
  refine (words_any a len cap xs _ HL.out H.out).mono ?_
  rintro e w1 ⟨⟨q, rfl⟩, rfl⟩
  by_cases hq : 1048576 < q
  · go_wp2
    go_ret
    exact ⟨rfl, Below.refl _ _⟩
  go_wp2_with fail
  refine (copy_any a len cap xs _ HL.out (by omega) H.out).mono ?_
  rintro e w2 ⟨a2, cap2, rfl, hS2, hB2⟩
  have H2 : Hid (Strs w2 a2 cap2 xs ∧ Below w1.heap.size w1 w2) := ⟨hS2, hB2⟩
  clear hS2 hB2 H
  go_wp2_with (at_builtin; refine wpList_append_own _ rfl (.tmp 33) (.tmp 34) 27 rfl w2.heap.size 9 i0 (.string ⟨#[]⟩) 1 16 Trym.underlying27 hi hz0 hz1 hz2 rfl (by decide) _ 1 [.string ⟨#[114, 111, 108, 108, 98, 97, 99, 107]⟩] rfl ((World.ownsRow_lit w2 #[.string ⟨#[114, 111, 108, 108, 98, 97, 99, 107]⟩] 1 (Nat.le_refl _) (by unfold maxLen; omega) rfl).alloc _) ⟨w2.heap.size + 1, 0, none⟩ 1 1 [.string ⟨#[116, 114, 97, 110, 115, 97, 99, 116, 105, 111, 110]⟩] rfl rfl (cell_lit2 _ _ _) (by intro u hu; simp at hu; subst hu; rfl) (by unfold maxLen; omega) (by omega) (by simp; omega) ?_)
  intro v3 w3 hown3 hgrow3 _
  obtain ⟨g, cap3, rfl, hS3⟩ := own_shape (xs := [⟨#[114, 111, 108, 108, 98, 97, 99, 107]⟩, ⟨#[116, 114, 97, 110, 115, 97, 99, 116, 105, 111, 110]⟩]) hown3 rfl (by omega)
  have H3 : Hid (Strs w3 (some ⟨g, 0, none⟩) cap3 [⟨#[114, 111, 108, 108, 98, 97, 99, 107]⟩, ⟨#[116, 114, 97, 110, 115, 97, 99, 116, 105, 111, 110]⟩] ∧ Strs w3 a2 cap2 xs ∧ Below w1.heap.size w1 w3) := by
    have hb : Below w2.heap.size w2 w3 := (((Below.refl w2.heap.size w2).alloc (Nat.le_refl _) _).alloc (by simp) _).grown hgrow3 (by simp; omega) (by intro k hk; cases hk; exact Nat.le_refl _)
    exact ⟨hS3, H2.out.1.below hb (Nat.le_refl _), H2.out.2.trans (hb.mono H2.out.2.size)⟩
  clear hown3 hgrow3 hS3 H2
  go_wp2_with fail
  refine (join_any _ _ 2 1 cap3 1 [⟨#[114, 111, 108, 108, 98, 97, 99, 107]⟩, ⟨#[116, 114, 97, 110, 115, 97, 99, 116, 105, 111, 110]⟩] [⟨#[116, 111]⟩] _ rfl rfl (by omega) (H3.out.1.alloc _) (strs_lit _ _)).mono ?_
  rintro e w4 ⟨a4, cap4, rfl, hS4, hB4⟩
  have H4 : Hid (Strs w4 a4 cap4 [⟨#[114, 111, 108, 108, 98, 97, 99, 107]⟩, ⟨#[116, 114, 97, 110, 115, 97, 99, 116, 105, 111, 110]⟩, ⟨#[116, 111]⟩] ∧ Strs w4 (some ⟨g, 0, none⟩) cap3 [⟨#[114, 111, 108, 108, 98, 97, 99, 107]⟩, ⟨#[116, 114, 97, 110, 115, 97, 99, 116, 105, 111, 110]⟩] ∧ Strs w4 a2 cap2 xs ∧ Below w1.heap.size w1 w4) :=
    ⟨hS4, (H3.out.1.alloc _).below hB4 (Nat.le_refl _), (H3.out.2.1.alloc _).below hB4 (Nat.le_refl _), by
      have := H3.out.2.2.size
      exact (H3.out.2.2.alloc this _).trans (hB4.mono (by simp; omega))⟩
  clear hS4 hB4 H3
  go_wp2_with fail
  refine (join_any a4 a2 3 xs.length cap4 cap2 [⟨#[114, 111, 108, 108, 98, 97, 99, 107]⟩, ⟨#[116, 114, 97, 110, 115, 97, 99, 116, 105, 111, 110]⟩, ⟨#[116, 111]⟩] xs _ rfl rfl (by rw [HL.out]; omega) H4.out.1 H4.out.2.2.1).mono ?_
  rintro e w5 ⟨a5, cap5, rfl, hS5, hB5⟩
  have H5 : Hid (Strs w5 a5 cap5 (⟨#[114, 111, 108, 108, 98, 97, 99, 107]⟩ :: ⟨#[116, 114, 97, 110, 115, 97, 99, 116, 105, 111, 110]⟩ :: ⟨#[116, 111]⟩ :: xs) ∧ Strs w5 (some ⟨g, 0, none⟩) cap3 [⟨#[114, 111, 108, 108, 98, 97, 99, 107]⟩, ⟨#[116, 114, 97, 110, 115, 97, 99, 116, 105, 111, 110]⟩] ∧ Strs w5 a2 cap2 xs ∧ Below w1.heap.size w1 w5) :=
    ⟨hS5, H4.out.2.1.below hB5 (Nat.le_refl _), H4.out.2.2.1.below hB5 (Nat.le_refl _), H4.out.2.2.2.trans (hB5.mono H4.out.2.2.2.size)⟩
  clear hS5 hB5 H4
  go_wp2_with fail
  refine (zz_of a5 cap5 (⟨#[116, 114, 97, 110, 115, 97, 99, 116, 105, 111, 110]⟩ :: ⟨#[116, 111]⟩ :: xs) false _ (by rw [List.length_cons, List.length_cons, HL.out]; omega) H5.out.1 (ctl_lead_to lead_trans _)).mono ?_
  rintro e w6 ⟨rfl, hB6⟩
  have H6 : Hid (Strs w6 (some ⟨g, 0, none⟩) cap3 [⟨#[114, 111, 108, 108, 98, 97, 99, 107]⟩, ⟨#[116, 114, 97, 110, 115, 97, 99, 116, 105, 111, 110]⟩] ∧ Strs w6 a2 cap2 xs ∧ Below w1.heap.size w1 w6) :=
    ⟨H5.out.2.1.below hB6 (Nat.le_refl _), H5.out.2.2.1.below hB6 (Nat.le_refl _), H5.out.2.2.2.trans (hB6.mono H5.out.2.2.2.size)⟩
  clear hB6 H5
  cases xs with
  | nil =>
    go_wp2_with fail
    refine (join_any _ a2 2 0 cap3 cap2 [⟨#[114, 111, 108, 108, 98, 97, 99, 107]⟩, ⟨#[116, 114, 97, 110, 115, 97, 99, 116, 105, 111, 110]⟩] [] _ rfl rfl (by omega) H6.out.1 H6.out.2.1).mono ?_
    rintro e w7 ⟨a7, cap7, rfl, hS7, hB7⟩
    have H7 : Hid (Strs w7 a7 cap7 [⟨#[114, 111, 108, 108, 98, 97, 99, 107]⟩, ⟨#[116, 114, 97, 110, 115, 97, 99, 116, 105, 111, 110]⟩] ∧ Below w1.heap.size w1 w7) := ⟨hS7, H6.out.2.2.trans (hB7.mono H6.out.2.2.size)⟩
    clear hS7 hB7 H6
    go_wp2_with fail
    refine (zz_of a7 cap7 [⟨#[116, 114, 97, 110, 115, 97, 99, 116, 105, 111, 110]⟩] true _ (by simp) H7.out.1 (ctl_lead_nil lead_trans)).mono ?_
    rintro e w8 ⟨rfl, hB8⟩
    go_wp2
    go_ret
    exact ⟨rfl, H7.out.2.trans (hB8.mono H7.out.2.size)⟩
  | cons x t =>
    obtain ⟨b2, off2, rfl, hb2, hc2⟩ := H6.out.2.1.at (by simp)
    have hl2 := HL.out
    have hx2 := hc2 0 (by simp)
    simp only [Nat.add_zero, List.getD_cons_zero] at hx2
    simp only [List.length_cons] at hl2
    have ht : t.length ≤ 65536 := by omega
    clear hc2 hl2
    by_cases c1 : (x.toList == [116, 111]) = true
    · go_wp2
      go_ret
      exact ⟨rfl, H6.out.2.2⟩
    have c1' : (x.toList == [116, 111]) = false := by simpa using c1
    clear c1
    go_wp2_with fail
    refine (join_any _ _ 2 (t.length + 1) cap3 cap2 [⟨#[114, 111, 108, 108, 98, 97, 99, 107]⟩, ⟨#[116, 114, 97, 110, 115, 97, 99, 116, 105, 111, 110]⟩] (x :: t) _ rfl rfl (by omega) H6.out.1 H6.out.2.1).mono ?_
    rintro e w7 ⟨a7, cap7, rfl, hS7, hB7⟩
    have H7 : Hid (Strs w7 a7 cap7 (⟨#[114, 111, 108, 108, 98, 97, 99, 107]⟩ :: ⟨#[116, 114, 97, 110, 115, 97, 99, 116, 105, 111, 110]⟩ :: x :: t) ∧ Below w1.heap.size w1 w7) := ⟨hS7, H6.out.2.2.trans (hB7.mono H6.out.2.2.size)⟩
    clear hS7 hB7 H6 hx2
    go_wp2_with fail
    refine (zz_of a7 cap7 (⟨#[116, 114, 97, 110, 115, 97, 99, 116, 105, 111, 110]⟩ :: x :: t) true _ (by rw [List.length_cons, List.length_cons]; omega) H7.out.1 (ctl_lead_plain lead_trans c1')).mono ?_
    rintro e w8 ⟨rfl, hB8⟩
    go_wp2
    go_ret
    exact ⟨rfl, H7.out.2.trans (hB8.mono H7.out.2.size)⟩

end Go.Proofs.Qxb6001456aMods.Ctl
