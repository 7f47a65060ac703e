/- The walk of 'canonical' (7), of 'ZZcanonical' (5), and the plain law that ties them to the model: y >= p just where the borrow chain leaves no borrow. -/
import Derived.Test.Qxb6003228aModsCan
namespace Go.Proofs.Qxb6003228aMods.Can
open Go.RowKit

theorem has_range {w : World} {b off : Nat} {f : Nat → Int} (h : Has w b off f) : w.rangeAt b off (row f).toList := by
  intro j v hv
  have hj : j < 32 := by
    have := (List.getElem?_eq_some_iff.1 hv).1
    simpa [row_size] using this
  have := row_get f j hj
  rw [← Array.getElem?_toList, hv] at this
  cases this
  exact (h j hj).1
theorem and127u_fin : ∀ n : Fin 256, bits .and .u8 ((n.val : Nat) : Int) 127 = ((n.val : Nat) : Int) % 128 := by decide +kernel
theorem and127u (v : Int) (h0 : 0 ≤ v) (h1 : v ≤ 255) : bits .and .u8 v 127 = v % 128 := by
  obtain ⟨n, rfl⟩ := Int.eq_ofNat_of_zero_le h0
  exact and127u_fin ⟨n, by omega⟩
theorem upd_yb (f : Nat → Int) (h0 : 0 ≤ f 31) (h1 : f 31 ≤ 255) : upd f 31 (bits .and .u8 (f 31) 127) = yb f := by
  rw [and127u _ h0 h1]
  funext i
  unfold upd yb
  rfl
theorem info25r (f : Nat → Int) : (Trym.prog.info? 25).map (·.size) = some (row f).toList.length := by
  rw [Array.length_toList, row_size]
  exact info25
theorem info25s (f : Nat → Int) : (Trym.prog.info? 25).map (·.size) = some (row f).size := by
  rw [row_size]
  exact info25
theorem iff_no {p : Prop} (h : ¬ p) : (false = true ↔ p) := ⟨fun e => absurd e (by decide), fun e => absurd e h⟩
theorem row_congr {f g : Nat → Int} (h : ∀ i, i < 32 → f i = g i) : row f = row g := by
  unfold row
  rw [List.map_congr_left (fun i hi => by rw [h i (List.mem_range.1 hi)])]
/-- p - 1 as the loop lays it: behind the rounds below k -/
def mm (k i : Nat) : Int := if i = 0 then 236 else if i = 31 then 127 else if i < k then 255 else 0
theorem mm_step (k : Nat) (h1 : 1 ≤ k) (h2 : k < 31) : upd (mm k) k 255 = mm (k + 1) := by
  funext i
  unfold upd mm
  by_cases e : i = k
  · subst e
    rw [if_pos rfl, if_neg (by omega), if_neg (by omega), if_pos (by omega)]
  · rw [if_neg e]
    by_cases e0 : i = 0
    · rw [if_pos e0, if_pos e0]
    · rw [if_neg e0, if_neg e0]
      by_cases e1 : i = 31
      · rw [if_pos e1, if_pos e1]
      · rw [if_neg e1, if_neg e1]
        by_cases e2 : i < k
        · rw [if_pos e2, if_pos (by omega)]
        · rw [if_neg e2, if_neg (by omega)]
theorem mm_end : row (mm 31) = row pm := row_congr fun i hi => by
  unfold mm pm
  by_cases e0 : i = 0
  · rw [if_pos e0, if_pos e0]
  · rw [if_neg e0, if_neg e0]
    by_cases e1 : i = 31
    · rw [if_pos e1, if_pos e1]
    · rw [if_neg e1, if_neg e1, if_pos (by omega)]
theorem row_on : row on = #[.int .u8 1, .int .u8 0, .int .u8 0, .int .u8 0, .int .u8 0, .int .u8 0, .int .u8 0, .int .u8 0, .int .u8 0, .int .u8 0, .int .u8 0, .int .u8 0, .int .u8 0, .int .u8 0, .int .u8 0, .int .u8 0, .int .u8 0, .int .u8 0, .int .u8 0, .int .u8 0, .int .u8 0, .int .u8 0, .int .u8 0, .int .u8 0, .int .u8 0, .int .u8 0, .int .u8 0, .int .u8 0, .int .u8 0, .int .u8 0, .int .u8 0, .int .u8 0] := by kernel_rfl
theorem row_mm : row (mm 1) = #[.int .u8 236, .int .u8 0, .int .u8 0, .int .u8 0, .int .u8 0, .int .u8 0, .int .u8 0, .int .u8 0, .int .u8 0, .int .u8 0, .int .u8 0, .int .u8 0, .int .u8 0, .int .u8 0, .int .u8 0, .int .u8 0, .int .u8 0, .int .u8 0, .int .u8 0, .int .u8 0, .int .u8 0, .int .u8 0, .int .u8 0, .int .u8 0, .int .u8 0, .int .u8 0, .int .u8 0, .int .u8 0, .int .u8 0, .int .u8 0, .int .u8 0, .int .u8 127] := by kernel_rfl

/-- is y at least p, as 'canonical' asks it? behind k bytes of the middle -/
def High (f : Nat → Int) (k : Nat) : Prop := yb f 31 = 127 ∧ 237 ≤ yb f 0 ∧ ∀ i, i < k → yb f (1 + i) = 255
theorem high_snoc {f : Nat → Int} {k : Nat} (h : High f k) (h' : yb f (1 + k) = 255) : High f (k + 1) := by
  refine ⟨h.1, h.2.1, fun i hi => ?_⟩
  rcases Nat.lt_succ_iff_lt_or_eq.1 hi with h1 | rfl
  · exact h.2.2 i h1
  · exact h'
theorem high_not {f : Nat → Int} {k : Nat} (h : ¬ High f k) : ¬ High f (k + 1) := fun h' => h ⟨h'.1, h'.2.1, fun i hi => h'.2.2 i (by omega)⟩

/-- the borrow behind the low 31 bytes -/
theorem bor_low {f : Nat → Int} (hy : ∀ i, i < 32 → 0 ≤ yb f i ∧ yb f i ≤ 255) : ∀ k, k ≤ 30 → (bor f (k + 1) = 1 ↔ ¬ (237 ≤ yb f 0 ∧ ∀ i, i < k → yb f (1 + i) = 255))
  | 0, _ => by
    have e : bor f (0 + 1) = if yb f 0 - 237 - 0 < 0 then 1 else 0 := rfl
    rw [e]
    by_cases h : yb f 0 - 237 - 0 < 0
    · rw [if_pos h]
      exact ⟨fun _ h' => by omega, fun _ => rfl⟩
    · rw [if_neg h]
      exact ⟨fun h' => absurd h' (by decide), fun h' => absurd ⟨by omega, fun i hi => absurd hi (by omega)⟩ h'⟩
  | k + 1, hk => by
    have ih := bor_low hy k (by omega)
    have hp : pb (k + 1) = 255 := by unfold pb; rw [if_neg (by omega), if_neg (by omega)]
    have e : bor f (k + 1 + 1) = if yb f (k + 1) - pb (k + 1) - bor f (k + 1) < 0 then 1 else 0 := rfl
    have hr := hy (k + 1) (by omega)
    rw [e, hp]
    rcases bor_01 f (k + 1) with h0 | h1
    · rw [h0]
      have hall : 237 ≤ yb f 0 ∧ ∀ i, i < k → yb f (1 + i) = 255 := by
        refine Classical.byContradiction fun hn => ?_
        have := ih.2 hn
        omega
      by_cases h : yb f (k + 1) - 255 - 0 < 0
      · rw [if_pos h]
        refine ⟨fun _ h' => ?_, fun _ => rfl⟩
        have := h'.2 k (by omega)
        rw [Nat.add_comm 1 k] at this
        omega
      · rw [if_neg h]
        refine ⟨fun h' => absurd h' (by decide), fun h' => absurd ⟨hall.1, fun i hi => ?_⟩ h'⟩
        rcases Nat.lt_succ_iff_lt_or_eq.1 hi with h1 | rfl
        · exact hall.2 i h1
        · rw [Nat.add_comm]; omega
    · rw [h1, if_pos (by omega)]
      refine ⟨fun _ h' => ih.1 h1 ⟨h'.1, fun i hi => h'.2 i (by omega)⟩, fun _ => rfl⟩
theorem bor_high {f : Nat → Int} (hy : ∀ i, i < 32 → 0 ≤ yb f i ∧ yb f i ≤ 255) : (bor f 32 == 1) = true ↔ ¬ High f 30 := by
  have ih : bor f 31 = 1 ↔ ¬ (237 ≤ yb f 0 ∧ ∀ i, i < 30 → yb f (1 + i) = 255) := bor_low hy 30 (by omega)
  have e : bor f 32 = if yb f 31 - 127 - bor f 31 < 0 then 1 else 0 := rfl
  have hr : yb f 31 ≤ 127 := by unfold yb; rw [if_pos rfl]; omega
  rw [beq_iff_eq, e]
  rcases bor_01 f 31 with h0 | h1
  · have hall : 237 ≤ yb f 0 ∧ ∀ i, i < 30 → yb f (1 + i) = 255 := by
      refine Classical.byContradiction fun hn => ?_
      have := ih.2 hn
      omega
    rw [h0]
    by_cases h : yb f 31 - 127 - 0 < 0
    · rw [if_pos h]
      exact ⟨fun _ h' => by have := h'.1; omega, fun _ => rfl⟩
    · rw [if_neg h]
      exact ⟨fun h' => absurd h' (by decide), fun h' => absurd ⟨by omega, hall.1, hall.2⟩ h'⟩
  · rw [h1, if_pos (by omega)]
    exact ⟨fun _ h' => ih.1 h1 ⟨h'.2.1, h'.2.2⟩, fun _ => rfl⟩
theorem mdl_high {f : Nat → Int} (hy : ∀ i, i < 32 → 0 ≤ yb f i ∧ yb f i ≤ 255) (h : High f 30) : mdl f = false := by
  refine mdl_1 ?_
  have : (bor f 32 == 1) = false := by
    rw [← Bool.not_eq_true, bor_high hy]
    exact fun h' => h' h
  rw [this]
  rfl
theorem low_bor {f : Nat → Int} (hy : ∀ i, i < 32 → 0 ≤ yb f i ∧ yb f i ≤ 255) (h : ¬ High f 30) : (!bor f 32 == 1) = false := by
  rw [(bor_high hy).2 h]
  rfl

theorem Blk.pm {w : World} {g : Nat} (h : Blk w g (mm 31)) : Blk w g pm := by
  unfold Blk
  rw [← mm_end]
  exact h
/-- a whole row loaded, by an operation whose guard says yes -/
theorem wpList_load_want {ops : Array Oper} {rest : List Oper} {o : Oper} {a : Act} {w : World} {Q : Exit → Act → World → Prop} (x : Operand) (ho : o.op = .load 25 x) (hw : Region.wanted o (yielded ops a.tmps) = true)
    (g : Nat) (hx : a.eval x = .pointer (some ⟨g, 0, none⟩)) (f : Nat → Int) (hg : Blk w g f)
    (h : wpList Trym.prog ops Q rest (a.put o.dst (.agg (row f))) w) : wpList Trym.prog ops Q (o :: rest) a w :=
  BigFrame.wpList_want hw fun _ hK => wp_load_row 25 x ho g hx 25 (row f) (0, 0) _ hg Trym.underlying25 rfl (info25s f) (hK _ _ h)
theorem guard25 : Trym.prog.eqGuardType Trym.prog.depth 25 = false := by kernel_rfl

set_option maxHeartbeats 4000000 in
theorem can_any (b off len cap : Nat) (f : Nat → Int) (w : World) (hlen : 32 ≤ len) (h : Has w b off f) :
    Calls Trym.prog 7 #[.slice (some ⟨b, off, none⟩) len cap] w fun e w' => e = .returned (.bool (mdl f)) ∧ Below w.heap.size w w' := by
  have HR : Hid (w.rangeAt b off (row f).toList) := has_range h
  have HY : Hid (∀ i, i < 32 → 0 ≤ yb f i ∧ yb f i ≤ 255) := fun i hi => yb_range (h i hi).2.1 (h i hi).2.2
  obtain ⟨_, h310, h311⟩ := h 31 (by omega)
  have hat : ∀ w, (Instr.arrayAt 25 (.slice (some ⟨b, off, none⟩) len cap)).run Trym.prog w = .ok (.pointer (some ⟨b, off, none⟩)) w := fun w => run_arrayAt w 25 _ 32 _ len cap Trym.underlying25 hlen
  clear h
  go_enter Trym.func7, Trym.ntmps7
  go_wp2_with (first | (refine wpList_load_mid rfl 25 (.tmp 12) rfl b off rfl (row f).toList _ HR.out Trym.underlying25 rfl (info25r f) ?_) | (refine wpList_store_blk rfl (.tmp 3) (.tmp 13) rfl w.heap.size f rfl rfl _ (heap_alloc_last w _) rfl ?_))
  intro w1 hb1 hg1 hs1
  have hB1 : Below w.heap.size w w1 := ((Below.refl w.heap.size w).alloc (Nat.le_refl _) _).grown hg1 (by simp) (by intro k hk; exact Nat.le_of_eq (Option.some.inj hk))
  have HB1 : Hid (Blk w1 w.heap.size f ∧ Below w.heap.size w w1 ∧ w1.heap.size = w.heap.size + 1) := ⟨hb1, hB1, hs1⟩
  have c31 := hb1.cell 31 (by omega)
  clear hb1 hg1 hs1 hB1 HR hat
  go_wp2_with (first | (refine wpList_store_byte rfl (.tmp 20) (.tmp 19) rfl w.heap.size 31 _ f rfl rfl HB1.out.1 (by omega) ?_))
  intro w2 hb2 hg2 hs2
  rw [upd_yb f h310 h311] at hb2
  have hB2 : Below w.heap.size w w2 := HB1.out.2.1.grown hg2 (by rw [HB1.out.2.2]; omega) (by intro k hk; exact Nat.le_of_eq (Option.some.inj hk))
  have HB2 : Hid (Blk w2 w.heap.size (yb f) ∧ Below w.heap.size w w2 ∧ w2.heap.size = w.heap.size + 1) := ⟨hb2, hB2, by rw [hs2, HB1.out.2.2]⟩
  clear c31
  have c31 := hb2.cell 31 (by omega)
  have c0 := hb2.cell 0 (by omega)
  clear hb2 hg2 hs2 hB2 HB1
  have hy0 := HY.out 0 (by omega)
  have hy1 := HY.out 31 (by omega)
  have HS : Hid ((yb f 31 == 127) = true → (decide (237 ≤ yb f 0) = true ↔ High f 0)) := fun e => by
    rw [decide_eq_true_iff]
    exact ⟨fun h => ⟨beq_iff_eq.1 e, h, fun i hi => absurd hi (by omega)⟩, fun h => h.2.1⟩
  have HT : Hid ((yb f 31 == 127) = false → (false = true ↔ High f 0)) := fun e => iff_no (fun h => absurd h.1 (beq_eq_false_iff_ne.1 e))
  rcases Bool.eq_false_or_eq_true (yb f 31 == 127) with b31 | b31
  all_goals
    go_wp2
    go_loop [5, 31] (fun v i => ∃ (k : Nat) (q : Bool), k ≤ 30 ∧ i = .int .i64 k ∧ v = .bool q ∧ Hid (q = true ↔ High f k)) (fun _ i => 30 - (intOf i).toNat)
    case atStart => first | exact ⟨0, _, by omega, rfl, rfl, HS.out b31⟩ | exact ⟨0, _, by omega, rfl, rfl, HT.out b31⟩
    case round =>
      obtain ⟨k, q, hk, rfl, rfl, HQ⟩ := hrel
      by_cases hlt : k < 30
      · have hck := HB2.out.1.cell (1 + k) (by omega)
        cases q with
        | false =>
          have HN : Hid (¬ High f (k + 1)) := high_not (fun h => absurd (HQ.out.2 h) (by decide))
          go_wp2
          go_round
          case rel => exact ⟨k + 1, false, by omega, by go_num, rfl, iff_no HN.out⟩
          case measure => simp [intOf]; omega
        | true =>
          have HN : Hid ((yb f (1 + k) == 255) = true ↔ High f (k + 1)) :=
            ⟨fun h => high_snoc (HQ.out.1 rfl) (beq_iff_eq.1 h), fun h => beq_iff_eq.2 (h.2.2 k (by omega))⟩
          go_wp2
          go_round
          case rel => exact ⟨k + 1, _, by omega, by go_num, rfl, HN⟩
          case measure => simp [intOf]; omega
      · have ek : k = 30 := by omega
        subst ek
        cases q with
        | true =>
          have HH : Hid (mdl f = false) := mdl_high HY.out (HQ.out.1 rfl)
          go_wp2
          go_ret
          exact ⟨ret_bool HH.out.symm, HB2.out.2.1⟩
        | false =>
          have HH : Hid ((!bor f 32 == 1) = false) := low_bor HY.out (fun h => absurd (HQ.out.2 h) (by decide))
          go_wp2_with (refine wpList_store_blk rfl (.tmp 8) (.tmp 42) rfl w2.heap.size on rfl (by rw [row_on]; rfl) _ (heap_alloc_last w2 _) rfl ?_)
          intro w3 hb3 hg3 hs3
          have hw2 := HB2.out.2.2
          have HB3 : Hid (Blk w3 w.heap.size (yb f) ∧ Blk w3 w2.heap.size on ∧ Below w.heap.size w w3 ∧ w3.heap.size = w2.heap.size + 1 ∧ w2.heap.size = w.heap.size + 1) :=
            ⟨(HB2.out.1.alloc _).kept hg3 (by omega), hb3, (HB2.out.2.1.alloc (by omega) _).grown hg3 (by simp; omega) (by intro k hk; have := Option.some.inj hk; omega), hs3, hw2⟩
          clear hb3 hg3 hs3 hw2 HB2 c31 c0
          go_wp2_with (refine wpList_store_blk rfl (.tmp 9) (.tmp 43) rfl w3.heap.size (mm 1) rfl (by rw [row_mm]; rfl) _ (heap_alloc_last w3 _) rfl ?_)
          intro w4 hb4 hg4 hs4
          obtain ⟨p1, p2, p3, p4, p5⟩ := HB3.out
          have HB4 : Hid (Blk w4 w.heap.size (yb f) ∧ Blk w4 w2.heap.size on ∧ Blk w4 w3.heap.size (mm 1) ∧ Below w.heap.size w w4 ∧ w3.heap.size = w2.heap.size + 1 ∧ w2.heap.size = w.heap.size + 1) :=
            ⟨(p1.alloc _).kept hg4 (by omega), (p2.alloc _).kept hg4 (by omega), hb4, (p3.alloc (by omega) _).grown hg4 (by simp; omega) (by intro k hk; have := Option.some.inj hk; omega), p4, p5⟩
          clear hb4 hg4 hs4 p1 p2 p3 p4 p5 HB3
          go_wp2
          go_loopw [10] (fun i wr => ∃ k : Nat, 1 ≤ k ∧ k ≤ 31 ∧ i = .int .i64 k ∧ Hid (Blk wr w.heap.size (yb f) ∧ Blk wr w2.heap.size on ∧ Blk wr w3.heap.size (mm k) ∧ Below w.heap.size w wr ∧ w3.heap.size = w2.heap.size + 1 ∧ w2.heap.size = w.heap.size + 1)) (fun i _ => 31 - (intOf i).toNat)
          case atStart => exact ⟨1, by omega, by omega, rfl, HB4⟩
          case round =>
            clear HB4
            obtain ⟨k, hk1, hk, rfl, HB⟩ := hrel
            by_cases hlt : k < 31
            · go_wp2_with (refine wpList_store_byte rfl (.tmp 49) (.const (.int .u8 255)) rfl w3.heap.size k 255 (mm k) rfl rfl HB.out.2.2.1 (by omega) ?_)
              intro w5 hb5 hg5 hs5
              obtain ⟨p1, p2, p3, p4, p5, p6⟩ := HB.out
              have hlt3 := p3.lt
              rw [mm_step k hk1 hlt] at hb5
              have HN : Hid (Blk w5 w.heap.size (yb f) ∧ Blk w5 w2.heap.size on ∧ Blk w5 w3.heap.size (mm (k + 1)) ∧ Below w.heap.size w w5 ∧ w3.heap.size = w2.heap.size + 1 ∧ w2.heap.size = w.heap.size + 1) :=
                ⟨p1.kept hg5 (by omega), p2.kept hg5 (by omega), hb5, p4.grown hg5 (by omega) (by intro k hk; have := Option.some.inj hk; omega), p5, p6⟩
              clear hb5 hg5 hs5 p1 p2 p3 p4 p5 p6 HB hlt3
              go_wp2
              go_roundw
              case rel => exact ⟨k + 1, by omega, by omega, by go_num, HN⟩
              case measure => simp [intOf]; omega
            · have ek : k = 31 := by omega
              subst ek
              have HY1 : Hid (Blk wr w.heap.size (yb f)) := HB.out.1
              have HO1 : Hid (Blk wr w2.heap.size on) := HB.out.2.1
              have HP1 : Hid (Blk wr w3.heap.size pm) := HB.out.2.2.1.pm
              have hEq := run_eq_rows
              have hGd := guard25
              by_cases s0 : f 31 / 128 = 0
              · have HM : Hid (mdl f = true) := mdl_3 HH.out (by omega)
                have b0 : (f 31 / 128 == 0) = true := beq_iff_eq.2 s0
                clear s0
                go_wp2
                go_ret
                exact ⟨ret_bool HM.out.symm, HB.out.2.2.2.1⟩
              · have s1 : f 31 / 128 = 1 := by omega
                have b0 : (f 31 / 128 == 0) = false := beq_eq_false_iff_ne.2 s0
                by_cases ao : agree (yb f) on = true
                · have HM : Hid (mdl f = false) := mdl_2 ao s1
                  clear s0 s1
                  go_wp2_with (first | (refine wpList_load_want (.tmp 3) rfl rfl w.heap.size rfl (yb f) HY1.out ?_) | (refine wpList_load_want (.tmp 8) rfl rfl w2.heap.size rfl on HO1.out ?_))
                  go_ret
                  exact ⟨ret_bool HM.out.symm, HB.out.2.2.2.1⟩
                · have HM : Hid (mdl f = !agree (yb f) pm) := mdl_4 HH.out ao s1
                  have ao' : agree (yb f) on = false := by simpa using ao
                  clear s0 s1 ao
                  go_wp2_with (first | (refine wpList_load_want (.tmp 3) rfl rfl w.heap.size rfl (yb f) HY1.out ?_) | (refine wpList_load_want (.tmp 8) rfl rfl w2.heap.size rfl on HO1.out ?_) | (refine wpList_load_want (.tmp 9) rfl rfl w3.heap.size rfl pm HP1.out ?_))
                  go_ret
                  exact ⟨ret_bool HM.out.symm, HB.out.2.2.2.1⟩

set_option maxHeartbeats 400000 in
theorem zz_any (b off len cap : Nat) (f : Nat → Int) (w : World) (hlen : 32 ≤ len) (h : Has w b off f) :
    Calls Trym.prog 5 #[.slice (some ⟨b, off, none⟩) len cap] w fun e w' => e = .returned (.bool (mdl f)) ∧ Below w.heap.size w w' := by
  have H : Hid (Has w b off f) := h
  clear h
  go_enter Trym.func5, Trym.ntmps5
  go_wp2_with (go_at_call 7; refine (can_any b off len cap f _ hlen H.out).mono ?_; rintro e w' ⟨rfl, hb⟩)
  go_ret
  exact ⟨rfl, hb⟩
end Go.Proofs.Qxb6003228aMods.Can
