/- The contracts of 'copyWords' (16) and 'joinWords' (17): a new slice with the same words. -/
import Derived.Test.Qxb6001456aModsStrs
namespace Go.Proofs.Qxb6001456aMods.Ctl
open Go.RowKit

theorem Trym.info9 : (Trym.prog.info? 9).map (fun i => (i.zero, i.size, i.bytes)) = some (some (.string ⟨#[]⟩), 1, 16) := by kernel_rfl

/-- the new row behind k rounds of the copying loop -/
def part (xs : List ByteArray) (k : Nat) : List Value := (xs.take k).map Value.string ++ List.replicate (xs.length - k) (.string ⟨#[]⟩)
theorem part_zero (xs : List ByteArray) : part xs 0 = List.replicate xs.length (.string ⟨#[]⟩) := by simp [part]
theorem part_all (xs : List ByteArray) : part xs xs.length = xs.map Value.string := by simp [part]
theorem part_get (xs : List ByteArray) (k : Nat) (h : k < xs.length) : (part xs k)[k]? = some (.string ⟨#[]⟩) := by
  have e : k = ((xs.take k).map Value.string).length := by simp; omega
  unfold part
  rw [List.getElem?_append_right (by omega), ← e, Nat.sub_self, List.getElem?_replicate, if_pos (by omega)]
theorem part_set (xs : List ByteArray) (k : Nat) (h : k < xs.length) : (part xs k).set k (.string (xs.getD k ByteArray.empty)) = part xs (k + 1) := by
  have e : ((xs.take k).map Value.string).length = k := by simp; omega
  unfold part
  rw [List.set_append_right _ _ (by omega), e, Nat.sub_self, List.take_succ_eq_append_getElem h, List.map_append]
  obtain ⟨m, hm⟩ : ∃ m, xs.length - k = m + 1 := ⟨xs.length - k - 1, by omega⟩
  rw [hm, show xs.length - (k + 1) = m from by omega, List.replicate_succ, List.set_cons_zero]
  simp only [List.map_cons, List.map_nil, List.append_assoc, List.singleton_append, List.getD_eq_getElem?_getD, List.getElem?_eq_getElem h, Option.getD_some]

/-- a slice of these words is returned, in new memory -/
def RetStrs (w w' : World) (xs : List ByteArray) (e : Ending) : Prop :=
  ∃ (a : Option Addr) (cap : Nat), e = .returned (.slice a xs.length cap) ∧ Strs w' a cap xs ∧ Below w.heap.size w w'

set_option maxHeartbeats 1000000 in
theorem copy_some (ad : Addr) (len cap : Nat) (xs : List ByteArray) (w : World) (hlen : xs.length = len) (hn : len ≤ 70000) (h : Strs w (some ad) cap xs) :
    Calls Trym.prog 16 #[.slice (some ad) len cap] w fun e w' => RetStrs w w' xs e := by
  have H : Hid (Strs w (some ad) cap xs) := h
  have HL : Hid (xs.length = len) := hlen
  have hq := fun (w : World) (n c : Nat) => Lib.run_eql_slice_nil (P := Trym.prog) w 27 9 (some ad) n c 0 0 Trym.underlying27
  obtain ⟨i0, hi, hz0, hz1, hz2⟩ := info_parts Trym.info9
  have hby : i0.bytes * len ≤ 281474976710656 := by rw [hz2]; omega
  clear h hlen
  go_enter Trym.func16, Trym.ntmps16
  go_wp2_with (at_make; refine wpList_make_full _ rfl _ _ 27 rfl w.heap.size 9 i0 (.string ⟨#[]⟩) 1 Trym.underlying27 hi hz0 hz1 _ _ _ _ len rfl rfl rfl rfl hby (by unfold maxLen; omega) (Nat.le_refl _) ?_)
  intro w1 hown hgrow
  rw [toList_madeCells_one] at hown
  have hb1 : Below w.heap.size w w1 := (Below.refl _ _).grown hgrow (Nat.le_refl _) (by intro k hk; cases hk)
  have hown1 : w1.ownsRow w.heap.size 9 1 (.slice (some ⟨w.heap.size, 0, none⟩) len len) len (part xs 0) := by
    rw [part_zero, HL.out]; exact hown
  clear hown hgrow
  have HO : Hid (w1.ownsRow w.heap.size 9 1 (.slice (some ⟨w.heap.size, 0, none⟩) len len) len (part xs 0) ∧ Below w.heap.size w w1) := ⟨hown1, hb1⟩
  clear hown1 hb1
  go_wp2
  go_loopw [4] (fun i wr => ∃ k : Nat, k ≤ len ∧ i = .int .i64 k ∧ Hid (wr.ownsRow w.heap.size 9 1 (.slice (some ⟨w.heap.size, 0, none⟩) len len) len (part xs k) ∧ Below w.heap.size w wr))
    (fun i _ => len - (intOf i).toNat)
  case atStart => exact ⟨0, Nat.zero_le _, rfl, HO⟩
  case round =>
    clear HO
    obtain ⟨k, hk, rfl, HO⟩ := hrel
    by_cases hlt : k < len
    · obtain ⟨b, off, hab, hb, hc⟩ := H.out.at (by rw [HL.out]; omega)
      obtain rfl := Option.some.inj hab
      have hck : wr.cell? ⟨b, off + k, none⟩ = some (.string (xs.getD k ByteArray.empty)) := by
        rw [HO.out.2.cell (p := ⟨b, off + k, none⟩) hb]; exact hc k (by rw [HL.out]; exact hlt)
      have hst := HO.out.1.stored k (.string (xs.getD k ByteArray.empty))
      rw [part_set xs k (by rw [HL.out]; exact hlt)] at hst
      have HN : Hid ((wr.setCell ⟨w.heap.size, k, none⟩ (.string (xs.getD k ByteArray.empty))).ownsRow w.heap.size 9 1 (.slice (some ⟨w.heap.size, 0, none⟩) len len) len (part xs (k + 1)) ∧
          Below w.heap.size w (wr.setCell ⟨w.heap.size, k, none⟩ (.string (xs.getD k ByteArray.empty)))) := ⟨hst.1, HO.out.2.setCell (Nat.le_refl _) _⟩
      have hold : wr.cell? ⟨w.heap.size, k, none⟩ = some (.string ⟨#[]⟩) := by
        rw [HO.out.1.cellAt k (by omega)]; exact part_get xs k (by rw [HL.out]; exact hlt)
      have hfr := HO.out.1.frozenAt k
      clear hc hst
      generalize xs.getD k ByteArray.empty = x at hck HN
      go_wp2
      go_roundw
      case rel => exact ⟨k + 1, by omega, by go_num, HN⟩
      case measure => simp [intOf]; omega
    · go_wp2
      go_ret
      have e : k = len := by omega
      subst e
      have hO := HO.out
      rw [← HL.out, part_all] at hO
      refine ⟨_, _, ?_, strs_of_owns hO.1 rfl, hO.2⟩
      rw [HL.out]
      rfl

set_option maxHeartbeats 400000 in
theorem copy_none (len cap : Nat) (xs : List ByteArray) (w : World) (hlen : xs.length = len) (h : Strs w none cap xs) :
    Calls Trym.prog 16 #[.slice none len cap] w fun e w' => RetStrs w w' xs e := by
  have hx : xs = [] := by
    rcases h.2.2 with h | ⟨_, _, h, _⟩
    · exact h
    · cases h
  subst hx
  have hq := fun (w : World) (n c : Nat) => Lib.run_eql_slice_nil (P := Trym.prog) w 27 9 none n c 0 0 Trym.underlying27
  clear h
  go_enter Trym.func16, Trym.ntmps16
  go_wp2
  go_ret
  exact ⟨none, 0, rfl, Strs.nil _ _ _ (by unfold maxLen; omega), Below.refl _ _⟩

theorem copy_any (a : Option Addr) (len cap : Nat) (xs : List ByteArray) (w : World) (hlen : xs.length = len) (hn : len ≤ 70000) (h : Strs w a cap xs) :
    Calls Trym.prog 16 #[.slice a len cap] w fun e w' => RetStrs w w' xs e := by
  cases a with
  | none => exact copy_none len cap xs w hlen h
  | some ad => exact copy_some ad len cap xs w hlen hn h
end Go.Proofs.Qxb6001456aMods.Ctl
