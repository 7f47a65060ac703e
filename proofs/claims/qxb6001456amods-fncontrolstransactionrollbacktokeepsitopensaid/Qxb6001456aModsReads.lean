/- The contracts of the two functions that only count: 'zzBytes_..' (14) and 'wordsBytes' (15): each returns some answer and turns nothing. -/
import Derived.Test.Qxb6001456aModsStrs
namespace Go.Proofs.Qxb6001456aMods.Ctl
open Go.RowKit

/-- some bool is returned -/
def RetBool (e : Ending) : Prop := ∃ b : Bool, e = .returned (.bool b)
theorem RetBool.of (b : Bool) : RetBool (.returned (.bool b)) := ⟨b, rfl⟩
/-- some int is returned -/
def RetInt (e : Ending) : Prop := ∃ q : Int, e = .returned (.int .i64 q)
theorem RetInt.of (q : Int) : RetInt (.returned (.int .i64 q)) := ⟨q, rfl⟩

set_option maxHeartbeats 400000 in
theorem bytes_any (sel : Int) (a : Option Addr) (len cap : Nat) (xs : List ByteArray) (w : World) (hlen : xs.length = len) (h : Strs w a cap xs) :
    Calls Trym.prog 14 #[.int .i64 sel, .slice a len cap] w fun e w' => RetBool e ∧ w' = w := by
  have H : Hid (Strs w a cap xs) := h
  have hm := h.2.1
  have hlc := h.1
  have HL : Hid (xs.length = len) := hlen
  rw [hlen] at hlc
  clear h hlen
  unfold maxLen at hm
  by_cases hbig : len ≤ 1048576
  · go_enter Trym.func14, Trym.ntmps14
    go_wp2
    go_loop [5, 6] (fun n i => ∃ (k : Nat) (q : Int), k ≤ len ∧ 0 ≤ q ∧ q ≤ 1048576 ∧ i = .int .i64 k ∧ n = .int .i64 q) (fun _ i => len - (intOf i).toNat)
    case atStart => exact ⟨0, (len : Int), Nat.zero_le _, by omega, by omega, rfl, by simp⟩
    case round =>
      obtain ⟨k, q, hk, hq0, hq1, rfl, rfl⟩ := hrel
      by_cases hlt : k < len
      · obtain ⟨b, off, rfl, hb, hc⟩ := H.out.at (by rw [HL.out]; omega)
        have hck := hc k (by rw [HL.out]; exact hlt)
        clear hc
        generalize xs.getD k ByteArray.empty = x at hck
        go_wp2
        · go_ret
          exact ⟨RetBool.of false, rfl⟩
        · go_ret
          exact ⟨RetBool.of false, rfl⟩
        · go_round
          case rel => exact ⟨k + 1, q + x.size, by omega, by omega, by omega, by go_num, rfl⟩
          case measure => simp [intOf]; omega
      · go_wp2
        go_ret
        exact ⟨RetBool.of true, rfl⟩
  · have hbig' : 1048576 < len := by omega
    go_enter Trym.func14, Trym.ntmps14
    go_wp2
    go_ret
    exact ⟨RetBool.of false, rfl⟩

set_option maxHeartbeats 400000 in
theorem words_any (a : Option Addr) (len cap : Nat) (xs : List ByteArray) (w : World) (hlen : xs.length = len) (h : Strs w a cap xs) :
    Calls Trym.prog 15 #[.slice a len cap] w fun e w' => RetInt e ∧ w' = w := by
  have H : Hid (Strs w a cap xs) := h
  have hm := h.2.1
  have hlc := h.1
  have HL : Hid (xs.length = len) := hlen
  rw [hlen] at hlc
  clear h hlen
  unfold maxLen at hm
  go_enter Trym.func15, Trym.ntmps15
  go_wp2
  go_loop [3, 4] (fun n i => ∃ (k : Nat) (q : Int), k ≤ len ∧ 0 ≤ q ∧ q ≤ 1048576 ∧ i = .int .i64 k ∧ n = .int .i64 q) (fun _ i => len - (intOf i).toNat)
  case atStart => exact ⟨0, 0, Nat.zero_le _, by omega, by omega, rfl, rfl⟩
  case round =>
    obtain ⟨k, q, hk, hq0, hq1, rfl, rfl⟩ := hrel
    by_cases hlt : k < len
    · obtain ⟨b, off, rfl, hb, hc⟩ := H.out.at (by rw [HL.out]; omega)
      have hck := hc k (by rw [HL.out]; exact hlt)
      clear hc
      generalize xs.getD k ByteArray.empty = x at hck
      go_wp2
      · go_ret
        exact ⟨RetInt.of 1048577, rfl⟩
      · go_ret
        exact ⟨RetInt.of _, rfl⟩
      · go_round
        case rel => exact ⟨k + 1, q + (16 + x.size), by omega, by omega, by omega, by go_num, rfl⟩
        case measure => simp [intOf]; omega
    · go_wp2
      go_ret
      exact ⟨RetInt.of q, rfl⟩
end Go.Proofs.Qxb6001456aMods.Ctl
