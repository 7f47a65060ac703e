/- The walk of the law, whatever the input. -/
import Derived.Test.Qxb6001456aModsTop
namespace Go.Proofs.Qxb6001456aMods.Ctl
open Go.RowKit

set_option maxHeartbeats 1000000 in
theorem top_long (sel : Int) (a : Option Addr) (len cap : Nat) (xs : List ByteArray) (w : World) (hlen : xs.length = len) (hn : 65536 < len) (h : Strs w a cap xs) :
    Calls Trym.prog 6 #[.int .i64 sel, .slice a len cap] w fun e w' => e = .returned (.bool true) ∧ Below w.heap.size w w' := by
  have H : Hid (Strs w a cap xs) := h
  have HL : Hid (xs.length = len) := hlen
  have hm := h.2.1
  have hlc := h.1
  rw [hlen] at hlc
  unfold maxLen at hm
  clear h hlen
  go_enter Trym.func6, Trym.ntmps6
  go_wp2_with fail
  refine (bytes_any _ a len cap xs _ HL.out H.out).mono ?_
  rintro e w0 ⟨⟨b, rfl⟩, rfl⟩
  cases b
  · go_wp2
    go_ret
    exact ⟨rfl, Below.refl _ _⟩
  · go_wp2
    go_ret
    exact ⟨rfl, Below.refl _ _⟩

set_option maxHeartbeats 1000000 in
theorem top_out (sel : Int) (a : Option Addr) (len cap : Nat) (xs : List ByteArray) (w : World) (hsel : sel < 0 ∨ 2 < sel) (hlen : xs.length = len) (hn : len ≤ 65536) (h : Strs w a cap xs) :
    Calls Trym.prog 6 #[.int .i64 sel, .slice a len cap] w fun e w' => e = .returned (.bool true) ∧ Below w.heap.size w w' := by
  have H : Hid (Strs w a cap xs) := h
  have HL : Hid (xs.length = len) := hlen
  have HS : Hid (sel < 0 ∨ 2 < sel) := hsel
  clear h hlen hsel
  go_enter Trym.func6, Trym.ntmps6
  go_wp2_with fail
  refine (bytes_any _ a len cap xs _ HL.out H.out).mono ?_
  rintro e w0 ⟨⟨b, rfl⟩, rfl⟩
  cases b
  · go_wp2
    go_ret
    exact ⟨rfl, Below.refl _ _⟩
  go_wp2_with fail
  refine (words_any a len cap xs _ HL.out H.out).mono ?_
  rintro e w1 ⟨⟨q, rfl⟩, rfl⟩
  by_cases hq : 1048576 < q
  · go_wp2
    go_ret
    exact ⟨rfl, Below.refl _ _⟩
  rcases HS.out with hs | hs
  · go_wp2
    go_ret
    exact ⟨rfl, Below.refl _ _⟩
  · have hs' : ¬ sel < 0 := by omega
    have hd : decide (2 < sel) = true := by simpa using hs
    go_wp2
    go_ret
    exact ⟨rfl, Below.refl _ _⟩

theorem top_any (sel : Int) (a : Option Addr) (len cap : Nat) (xs : List ByteArray) (w : World) (hlen : xs.length = len) (h : Strs w a cap xs) :
    Calls Trym.prog 6 #[.int .i64 sel, .slice a len cap] w fun e w' => e = .returned (.bool true) ∧ Below w.heap.size w w' := by
  by_cases hn : len ≤ 65536
  · by_cases hsel : sel < 0 ∨ 2 < sel
    · exact top_out sel a len cap xs w hsel hlen hn h
    · have : sel = 0 ∨ sel = 1 ∨ sel = 2 := by omega
      rcases this with rfl | rfl | rfl
      · exact top_zero a len cap xs w hlen hn h
      · exact top_one a len cap xs w hlen hn h
      · exact top_two a len cap xs w hlen hn h
  · exact top_long sel a len cap xs w hlen (by omega) h
end Go.Proofs.Qxb6001456aMods.Ctl
