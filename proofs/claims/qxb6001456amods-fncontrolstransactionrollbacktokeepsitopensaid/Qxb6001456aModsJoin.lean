/- The contract of 'joinWords' (17): a new slice that holds the words of the first, then those of the second. -/
import Derived.Test.Qxb6001456aModsCopy
namespace Go.Proofs.Qxb6001456aMods.Ctl
open Go.RowKit

theorem take_snoc (xs : List ByteArray) (k : Nat) (h : k < xs.length) : (xs.take k).map Value.string ++ [.string (xs.getD k ByteArray.empty)] = (xs.take (k + 1)).map Value.string := by
  rw [List.take_succ_eq_append_getElem h, List.map_append]
  simp only [List.map_cons, List.map_nil, List.getD_eq_getElem?_getD, List.getElem?_eq_getElem h, Option.getD_some]

/-- what the two loops hold: the value owns a row of the call's own with these words; nothing old has turned -/
def Has (B n : Nat) (w wr : World) (k : Nat) (xs : List ByteArray) : Prop :=
  wr.ownsRow B 9 1 (.slice (some ⟨B, 0, none⟩) k n) k (xs.map Value.string) ∧ Below B w wr ∧ B < wr.heap.size

theorem has_step {B n k : Nat} {w wr w2 : World} {zs zs' : List ByteArray} {o : Obj} (h : Has B n w wr k zs) (hown : w2.ownsRow B 9 1 (.slice (some ⟨B, 0, none⟩) (k + 1) n) (k + 1) (zs'.map Value.string))
    (hg : (wr.alloc o).grownBy w2 (some B)) : Has B n w w2 (k + 1) zs' := by
  have hs := h.2.2
  refine ⟨hown, (h.2.1.alloc (by omega) o).grown hg (by simp; omega) (by intro j hj; cases hj; exact Nat.le_refl _), ?_⟩
  have := hg.size
  simp at this
  omega

set_option maxHeartbeats 1000000 in
theorem join_any (a b : Option Addr) (la lb ca cb : Nat) (xs ys : List ByteArray) (w : World) (hx : xs.length = la) (hy : ys.length = lb) (hn : la + lb ≤ 70000) (ha : Strs w a ca xs) (hb : Strs w b cb ys) :
    Calls Trym.prog 17 #[.slice a la ca, .slice b lb cb] w fun e w' => RetStrs w w' (xs ++ ys) e := by
  have HA : Hid (Strs w a ca xs) := ha
  have HB : Hid (Strs w b cb ys) := hb
  have HX : Hid (xs.length = la) := hx
  have HY : Hid (ys.length = lb) := hy
  obtain ⟨i0, hi, hz0, hz1, hz2⟩ := info_parts Trym.info9
  have hby : i0.bytes * (la + lb) ≤ 281474976710656 := by rw [hz2]; omega
  clear ha hb hx hy
  go_enter Trym.func17, Trym.ntmps17
  go_wp2_with (at_make; refine wpList_make_own _ rfl _ _ 27 rfl w.heap.size 9 i0 (.string ⟨#[]⟩) 1 Trym.underlying27 hi hz0 hz1 _ _ _ (la + lb) rfl rfl (by omega) hby (by unfold maxLen; omega) (Nat.le_refl _) ?_)
  intro w1 hown hgrow
  have HO : Hid (Has w.heap.size (la + lb) w w1 0 (xs.take 0)) := ⟨by simpa using hown, (Below.refl _ _).grown hgrow (Nat.le_refl _) (by intro k hk; cases hk), (hown.lt _ rfl).2⟩
  clear hown hgrow
  go_wp2
  go_loopw [5, 6] (fun v i wr => ∃ k : Nat, k ≤ la ∧ i = .int .i64 k ∧ v = .slice (some ⟨w.heap.size, 0, none⟩) k (la + lb) ∧ Hid (Has w.heap.size (la + lb) w wr k (xs.take k)))
    (fun _ i _ => la - (intOf i).toNat)
  case atStart => exact ⟨0, Nat.zero_le _, rfl, rfl, HO⟩
  case round =>
    clear HO
    obtain ⟨k, hk, rfl, rfl, HO⟩ := hrel
    by_cases hlt : k < la
    · obtain ⟨b', off, rfl, hb', hc⟩ := HA.out.at (by rw [HX.out]; omega)
      have hck : wr.cell? ⟨b', off + k, none⟩ = some (.string (xs.getD k ByteArray.empty)) := by
        rw [HO.out.2.1.cell (p := ⟨b', off + k, none⟩) hb']; exact hc k (by rw [HX.out]; exact hlt)
      have HS : Hid ((xs.take k).map Value.string ++ [.string (xs.getD k ByteArray.empty)] = (xs.take (k + 1)).map Value.string) := take_snoc xs k (by rw [HX.out]; exact hlt)
      clear hc
      generalize xs.getD k ByteArray.empty = x at hck HS
      go_wp2_with (at_builtin; refine wpList_append_fits _ rfl (.tmp 20) (.tmp 25) 27 rfl w.heap.size 9 i0 1 Trym.underlying27 hi hz1 w.heap.size k (la + lb) _ rfl (HO.out.1.alloc _) ⟨wr.heap.size, 0, none⟩ 1 1 [.string x] rfl rfl (cell_one_new _ _ _) (by intro u hu; simp at hu; subst hu; rfl) (by omega) ?_)
      intro w2 hown2 hgrow2
      have HN : Hid (Has w.heap.size (la + lb) w w2 (k + 1) (xs.take (k + 1))) := has_step HO.out (by rw [← HS.out]; simpa using hown2) hgrow2
      clear hown2 hgrow2 HO HS
      go_wp2
      go_roundw
      case rel => exact ⟨k + 1, by omega, by go_num, rfl, HN⟩
      case measure => simp [intOf]; omega
    · have e : k = la := by omega
      subst e
      have HO' : Hid (Has w.heap.size (k + lb) w wr k (xs ++ ys.take 0)) := by
        have := HO.out
        rw [List.take_of_length_le (by rw [HX.out]; exact Nat.le_refl _)] at this
        show Has _ _ _ _ _ _
        simpa using this
      clear HO
      go_wp2
      go_loopw [5, 7] (fun v i wr => ∃ j : Nat, j ≤ lb ∧ i = .int .i64 j ∧ v = .slice (some ⟨w.heap.size, 0, none⟩) (k + j) (k + lb) ∧ Hid (Has w.heap.size (k + lb) w wr (k + j) (xs ++ ys.take j)))
        (fun _ i _ => lb - (intOf i).toNat)
      case atStart => exact ⟨0, Nat.zero_le _, rfl, rfl, HO'⟩
      case round =>
        clear HO'
        obtain ⟨j, hj, rfl, rfl, HO⟩ := hrel
        by_cases hlt : j < lb
        · obtain ⟨b', off, rfl, hb', hc⟩ := HB.out.at (by rw [HY.out]; omega)
          have hck : wr.cell? ⟨b', off + j, none⟩ = some (.string (ys.getD j ByteArray.empty)) := by
            rw [HO.out.2.1.cell (p := ⟨b', off + j, none⟩) hb']; exact hc j (by rw [HY.out]; exact hlt)
          have HS : Hid ((xs ++ ys.take j).map Value.string ++ [.string (ys.getD j ByteArray.empty)] = (xs ++ ys.take (j + 1)).map Value.string) := by
            show _ = _
            rw [List.map_append, List.append_assoc, take_snoc ys j (by rw [HY.out]; exact hlt), ← List.map_append]
          clear hc
          generalize ys.getD j ByteArray.empty = x at hck HS
          go_wp2_with (at_builtin; refine wpList_append_fits _ rfl (.tmp 33) (.tmp 38) 27 rfl w.heap.size 9 i0 1 Trym.underlying27 hi hz1 w.heap.size (k + j) (k + lb) _ rfl (HO.out.1.alloc _) ⟨wr.heap.size, 0, none⟩ 1 1 [.string x] rfl rfl (cell_one_new _ _ _) (by intro u hu; simp at hu; subst hu; rfl) (by omega) ?_)
          intro w2 hown2 hgrow2
          have HN : Hid (Has w.heap.size (k + lb) w w2 (k + j + 1) (xs ++ ys.take (j + 1))) := has_step HO.out (by rw [← HS.out]; simpa using hown2) hgrow2
          clear hown2 hgrow2 HO HS
          go_wp2
          go_roundw
          case rel => exact ⟨j + 1, by omega, by go_num, rfl, HN⟩
          case measure => simp [intOf]; omega
        · have e : j = lb := by omega
          subst e
          go_wp2
          go_ret
          have hO := HO.out
          rw [List.take_of_length_le (l := ys) (by rw [HY.out]; exact Nat.le_refl _)] at hO
          have hl : (xs ++ ys).length = k + j := by rw [List.length_append, HX.out, HY.out]
          refine ⟨_, _, ?_, strs_of_owns hO.1 hl, hO.2.1⟩
          rw [hl]
          rfl
end Go.Proofs.Qxb6001456aMods.Ctl
