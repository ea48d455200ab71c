/-
  The walk of decimalText (15): it makes the text of a number.
-/
import Derived.Test.Qxb6602349aClone
import Derived.Test.Qxb6602349aDec
namespace Go.Proofs.Qxb6602349a
open Go.RowKit
open Plain

/-- the cells of 'rev' when j digits have been laid -/
def revAt (N j t : Nat) : Value := if t < j then .int .u8 (dig N t) else .int .u8 0
theorem revAt_lt {N j t : Nat} (h : t < j) : revAt N j t = .int .u8 (dig N t) := if_pos h
theorem revAt_step (N j t : Nat) : (if t = j then Value.int .u8 (dig N j) else revAt N j t) = revAt N (j + 1) t := by
  unfold revAt
  by_cases h : t = j
  · subst h; simp
  · by_cases h2 : t < j
    · rw [if_neg h, if_pos h2, if_pos (by omega)]
    · rw [if_neg h, if_neg h2, if_neg (by omega)]
theorem rev_first (w : World) (x : Int) (N : Nat) (hx : x = dig N 0) :
    (w.alloc (Obj.cells #[Value.int .u8 x, .int .u8 0, .int .u8 0, .int .u8 0, .int .u8 0, .int .u8 0, .int .u8 0, .int .u8 0, .int .u8 0, .int .u8 0, .int .u8 0, .int .u8 0, .int .u8 0, .int .u8 0, .int .u8 0, .int .u8 0, .int .u8 0, .int .u8 0, .int .u8 0, .int .u8 0] 42)).rowIs w.heap.size 42 20 (revAt N 1) := by
  subst hx
  refine World.rowIs_alloc w _ 42 _ ?_
  intro i hi
  have hi' : i < 20 := hi
  match i, hi' with
  | 0, _ | 1, _ | 2, _ | 3, _ | 4, _ | 5, _ | 6, _ | 7, _ | 8, _ | 9, _ | 10, _ | 11, _ | 12, _ | 13, _ | 14, _ | 15, _ | 16, _ | 17, _ | 18, _ | 19, _ => rfl
  | n + 20, h => exact absurd h (by omega)

theorem dig_zero (N : Nat) : (48 : Int) + (N : Int) % 10 = dig N 0 := by unfold dig; simp
theorem dig_of {N j M : Nat} (h : M = N / 10 ^ j) : (48 : Int) + (M : Int) % 10 = dig N j := by unfold dig; rw [← h]; simp
theorem div_next {N j M : Nat} (h : M = N / 10 ^ j) : M / 10 = N / 10 ^ (j + 1) := by rw [h, Nat.pow_succ, Nat.div_div_eq_div_mul]
theorem div_stop {N j M : Nat} (h : M = N / 10 ^ j) (h0 : ¬ 0 < M) : N < 10 ^ j := by
  have : N / 10 ^ j = 0 := by omega
  rcases (Nat.div_eq_zero_iff).1 this with x | x
  · exact absurd x (Nat.ne_of_gt (Nat.pow_pos (by decide)))
  · exact x
theorem div_lt18 {N j M : Nat} (hN : N < 1000000000000000000) (h : M = N / 10 ^ j) (h0 : 0 < M) : j < 18 := by
  apply Classical.byContradiction
  intro hj
  have : 10 ^ 18 ≤ 10 ^ j := Nat.pow_le_pow_right (by decide) (by omega)
  have : N / 10 ^ j = 0 := Nat.div_eq_of_lt (by omega)
  omega

/-- what the call has made: the text's first part lies in block g -/
structure Part (neg : Bool) (N m r B g : Nat) (w wr : World) : Prop where
  own : wr.ownsRow B 5 1 (.slice (some ⟨g, 0, none⟩) (sgn neg + r) (m + 1)) (sgn neg + r) (((if neg = true then [45] else []) ++ digs N m r).map (Value.int .u8))
  row : wr.rowIs B 42 20 (revAt N m)
  below : Below B w wr
  lt : B < g

theorem Part.next {neg : Bool} {N m r B g : Nat} {w wr w2 : World} {v : Value} (h : Part neg N m r B g w wr) (hB : B ≤ wr.heap.size)
    (ho : w2.ownsRow B 5 1 (.slice (some ⟨g, 0, none⟩) (sgn neg + r + 1) (m + 1)) (sgn neg + r + 1) ((((if neg = true then [45] else []) ++ digs N m r).map (Value.int .u8)) ++ [.int .u8 (dig N (m - 1 - r))]))
    (hg : (wr.alloc (.cells #[v] 5)).grownBy w2 (some g)) : Part neg N m (r + 1) B g w w2 := by
  refine ⟨?_, ?_, ?_, h.lt⟩
  · rw [digs_succ]
    simpa [Nat.add_assoc] using ho
  · have := h.row.lt
    exact (h.row.alloc _).of_block (hg.block B (by simp; omega) (by have := h.lt; simp; omega))
  · exact (h.below.alloc hB _).grown hg (by simp; omega) (fun k hk => by have := h.lt; cases hk; omega)

set_option maxHeartbeats 1000000 in
theorem dec_pos (N : Nat) (hN : N < 1000000000000000000) (w : World) :
    Calls Try.prog 15 #[.int .i64 ((N : Int))] w fun e w' => ∃ (m g cap : Nat), e = .returned (.slice (some ⟨g, 0, none⟩) (txt false N m).length cap) ∧ 1 ≤ m ∧ m ≤ 18 ∧ N < 10 ^ m ∧ (m = 1 ∨ 0 < N / 10 ^ (m - 1)) ∧
      w'.ownsRow w.heap.size 5 1 (.slice (some ⟨g, 0, none⟩) (txt false N m).length cap) (txt false N m).length ((txt false N m).map (Value.int .u8)) ∧ Below w.heap.size w w' := by
  obtain ⟨i0, hi, hz0, hz1, hz2⟩ := info_parts Try.info5
  have hn0 : ¬ (N : Int) < 0 := by omega
  go_enter Try.func15, Try.ntmps15
  go_wp2
  go_loopw [0, 5] (fun n k wr => ∃ (j M : Nat), 1 ≤ j ∧ j ≤ 18 ∧ n = .int .i64 (M : Int) ∧ k = .int .i64 (j : Int) ∧ M = N / 10 ^ j ∧ (j = 1 ∨ 0 < N / 10 ^ (j - 1)) ∧ wr.rowIs w.heap.size 42 20 (revAt N j) ∧ Below w.heap.size w wr) (fun n _ _ => (intOf n).toNat)
  case atStart => exact ⟨1, N / 10, by omega, by omega, by go_num, rfl, by simp, .inl rfl, rev_first w _ N (dig_zero N), (Below.refl _ _).alloc (Nat.le_refl _) _⟩
  case round =>
    obtain ⟨j, M, hj1, hj18, rfl, rfl, hM, hlead, hrow, hbel⟩ := hrel
    have HM : Hid (M = N / 10 ^ j) := hM
    have HLEAD : Hid (j = 1 ∨ 0 < N / 10 ^ (j - 1)) := hlead
    have HROW : Hid (wr.rowIs w.heap.size 42 20 (revAt N j)) := hrow
    have HB : Hid (Below w.heap.size w wr) := hbel
    have hlt := hrow.lt
    by_cases hpos : 0 < M
    · have hj := div_lt18 hN hM hpos
      have hc := hrow.cell (i := j) (by omega)
      have hf := hrow.frozen j
      have hMle : M ≤ N := by rw [hM]; exact Nat.div_le_self _ _
      clear hM hlead hrow hbel
      go_wp2
      go_roundw
      case rel => exact ⟨j + 1, M / 10, by omega, by omega, by go_num, by go_num, div_next HM.out, .inr (by rw [Nat.add_sub_cancel, ← HM.out]; exact hpos), by rw [dig_of HM.out]; exact (HROW.out.set j _).congr (fun t _ => revAt_step N j t), HB.out.setCell (Nat.le_refl _) _⟩
      case measure => simp [intOf]; omega
    · have HN : Hid (N < 10 ^ j) := div_stop hM hpos
      have HM1 : Hid (1 ≤ j) := hj1
      have HM18 : Hid (j ≤ 18) := hj18
      have hM0 : ¬ 0 < (M : Int) := by omega
      clear hM hlead hrow hbel
      obtain ⟨m, hm⟩ : ∃ m, m = j := ⟨j, rfl⟩
      subst hm
      obtain ⟨wm, hwm⟩ : ∃ wm, wm = wr := ⟨wr, rfl⟩
      subst hwm
      go_wp2_with (first | (at_make; refine wpList_make_own _ rfl _ _ 22 rfl w.heap.size 5 i0 (.int .u8 0) 1 Try.underlying22 hi hz0 hz1 _ _ _ (m + 1) rfl rfl (by omega) (by rw [hz2]; omega) (by unfold maxLen; omega) (by omega) ?_; intro w1 hown1 hgrow1))
      have HPART : Hid (Part false N m 0 w.heap.size wm.heap.size w w1) := by
        have hb1 : Below w.heap.size w w1 := HB.out.grown hgrow1 (by omega) (fun k hk => by cases hk)
        have hr1 : w1.rowIs w.heap.size 42 20 (revAt N m) := HROW.out.of_block (hgrow1.block _ hlt (by simp))
        refine ⟨?_, hr1, hb1, hlt⟩
        simpa [sgn, digs] using hown1
      clear hown1 hgrow1
      go_loopw [5, 6] (fun k v wr2 => ∃ r : Nat, r ≤ m ∧ k = .int .i64 ((m - r : Nat) : Int) ∧ v = .slice (some ⟨wm.heap.size, 0, none⟩) (r) (m + 1) ∧ Part false N m r w.heap.size wm.heap.size w wr2) (fun k _ _ => (intOf k).toNat)
      case atStart => exact ⟨0, Nat.zero_le _, by go_num, rfl, HPART.out⟩
      case round =>
        obtain ⟨r, hr, rfl, rfl, hP⟩ := hrel
        have HP : Hid (Part false N m r w.heap.size wm.heap.size w wr) := hP
        have SG : sgn false + r = r := by simp [sgn]
        by_cases hrm : r < m
        · obtain ⟨q, hq⟩ : ∃ q : Nat, m - r = q + 1 := ⟨m - r - 1, by omega⟩
          have hc : wr.cell? ⟨w.heap.size, q, none⟩ = some (.int .u8 (dig N q)) := by rw [hP.row.cell (by omega), revAt_lt (by omega)]
          have hbs := hP.below.size
          have hown : wr.ownsRow w.heap.size 5 1 (.slice (some ⟨wm.heap.size, 0, none⟩) (r) (m + 1)) (r) (((if false = true then [45] else []) ++ digs N m r).map (Value.int .u8)) := by have := hP.own; rw [SG] at this; exact this
          have hq18 : q < 18 := by omega
          have HQ : Hid (m - r = q + 1) := hq
          have HSG : Hid (sgn false + r = r) := SG
          have hq2 : ((m - r : Nat) : Int) = (q : Int) + 1 := by omega
          rw [hq2]
          clear hP hq hq2 SG
          go_wp2_with (first | (at_builtin; refine wpList_append_fits _ rfl (.tmp 45) (.tmp 49) 22 rfl w.heap.size 5 i0 1 Try.underlying22 hi hz1 wm.heap.size (r) (m + 1) _ rfl (hown.alloc _) ⟨wr.heap.size, 0, none⟩ 1 1 [.int .u8 (dig N q)] rfl rfl (cell_one_new _ _ _) (ints_oneCell .u8 [dig N q]) (by omega) ?_; intro w2 hown2 hgrow2))
          have hq3 : m - 1 - r = q := by have := HQ.out; omega
          have HP2 := HP.out.next (v := .int .u8 (dig N q)) (by omega) (by rw [hq3, HSG.out]; exact hown2) hgrow2
          go_roundw
          case rel => exact ⟨r + 1, by omega, by have := HQ.out; go_num, rfl, HP2⟩
          case measure => have := HQ.out; simp [intOf] <;> omega
        · have hrm2 : m - r = 0 := by omega
          rw [hrm2]
          have hr2 : r = m := by omega
          subst hr2
          have HSG : Hid (sgn false + r = r) := SG
          clear hrm2 SG
          go_wp2
          go_ret
          refine ⟨r, wm.heap.size, r + 1, ?_, HM1.out, HM18.out, HN.out, HLEAD.out, ?_, HP.out.below⟩
          · rw [txt_len, HSG.out]; rfl
          · rw [txt_len]; exact HP.out.own

set_option maxHeartbeats 1000000 in
theorem dec_neg (N : Nat) (hN : N < 1000000000000000000) (hN0 : 0 < N) (w : World) :
    Calls Try.prog 15 #[.int .i64 (-(N : Int))] w fun e w' => ∃ (m g cap : Nat), e = .returned (.slice (some ⟨g, 0, none⟩) (txt true N m).length cap) ∧ 1 ≤ m ∧ m ≤ 18 ∧ N < 10 ^ m ∧ (m = 1 ∨ 0 < N / 10 ^ (m - 1)) ∧
      w'.ownsRow w.heap.size 5 1 (.slice (some ⟨g, 0, none⟩) (txt true N m).length cap) (txt true N m).length ((txt true N m).map (Value.int .u8)) ∧ Below w.heap.size w w' := by
  obtain ⟨i0, hi, hz0, hz1, hz2⟩ := info_parts Try.info5
  have hn0 : -(N : Int) < 0 := by omega
  go_enter Try.func15, Try.ntmps15
  go_wp2
  go_loopw [0, 5] (fun n k wr => ∃ (j M : Nat), 1 ≤ j ∧ j ≤ 18 ∧ n = .int .i64 (M : Int) ∧ k = .int .i64 (j : Int) ∧ M = N / 10 ^ j ∧ (j = 1 ∨ 0 < N / 10 ^ (j - 1)) ∧ wr.rowIs w.heap.size 42 20 (revAt N j) ∧ Below w.heap.size w wr) (fun n _ _ => (intOf n).toNat)
  case atStart => exact ⟨1, N / 10, by omega, by omega, by go_num, rfl, by simp, .inl rfl, rev_first w _ N (dig_zero N), (Below.refl _ _).alloc (Nat.le_refl _) _⟩
  case round =>
    obtain ⟨j, M, hj1, hj18, rfl, rfl, hM, hlead, hrow, hbel⟩ := hrel
    have HM : Hid (M = N / 10 ^ j) := hM
    have HLEAD : Hid (j = 1 ∨ 0 < N / 10 ^ (j - 1)) := hlead
    have HROW : Hid (wr.rowIs w.heap.size 42 20 (revAt N j)) := hrow
    have HB : Hid (Below w.heap.size w wr) := hbel
    have hlt := hrow.lt
    by_cases hpos : 0 < M
    · have hj := div_lt18 hN hM hpos
      have hc := hrow.cell (i := j) (by omega)
      have hf := hrow.frozen j
      have hMle : M ≤ N := by rw [hM]; exact Nat.div_le_self _ _
      clear hM hlead hrow hbel
      go_wp2
      go_roundw
      case rel => exact ⟨j + 1, M / 10, by omega, by omega, by go_num, by go_num, div_next HM.out, .inr (by rw [Nat.add_sub_cancel, ← HM.out]; exact hpos), by rw [dig_of HM.out]; exact (HROW.out.set j _).congr (fun t _ => revAt_step N j t), HB.out.setCell (Nat.le_refl _) _⟩
      case measure => simp [intOf]; omega
    · have HN : Hid (N < 10 ^ j) := div_stop hM hpos
      have HM1 : Hid (1 ≤ j) := hj1
      have HM18 : Hid (j ≤ 18) := hj18
      have hM0 : ¬ 0 < (M : Int) := by omega
      clear hM hlead hrow hbel
      obtain ⟨m, hm⟩ : ∃ m, m = j := ⟨j, rfl⟩
      subst hm
      obtain ⟨wm, hwm⟩ : ∃ wm, wm = wr := ⟨wr, rfl⟩
      subst hwm
      go_wp2_with (first | (at_make; refine wpList_make_own _ rfl _ _ 22 rfl w.heap.size 5 i0 (.int .u8 0) 1 Try.underlying22 hi hz0 hz1 _ _ _ (m + 1) rfl rfl (by omega) (by rw [hz2]; omega) (by unfold maxLen; omega) (by omega) ?_; intro w1 hown1 hgrow1) | (at_builtin; refine wpList_append_fits _ rfl (.tmp 38) (.tmp 39) 22 rfl w.heap.size 5 i0 1 Try.underlying22 hi hz1 wm.heap.size 0 (m + 1) _ rfl (hown1.alloc _) ⟨w1.heap.size, 0, none⟩ 1 1 [.int .u8 45] rfl rfl (cell_one_new _ _ _) (ints_oneCell .u8 [45]) (by omega) ?_; intro w2 hown2 hgrow2))
      have HPART : Hid (Part true N m 0 w.heap.size wm.heap.size w w2) := by
        have hb1 : Below w.heap.size w w1 := HB.out.grown hgrow1 (by omega) (fun k hk => by cases hk)
        have hr1 : w1.rowIs w.heap.size 42 20 (revAt N m) := HROW.out.of_block (hgrow1.block _ hlt (by simp))
        have hs1 := hgrow1.size
        refine ⟨?_, ?_, ?_, hlt⟩
        · simpa [sgn, digs] using hown2
        · exact (hr1.alloc _).of_block (hgrow2.block _ (by simp; omega) (by simp; omega))
        · exact (hb1.alloc (by omega) _).grown hgrow2 (by simp; omega) (fun k hk => by cases hk; omega)
      clear hown1 hgrow1 hown2 hgrow2
      go_loopw [5, 6] (fun k v wr2 => ∃ r : Nat, r ≤ m ∧ k = .int .i64 ((m - r : Nat) : Int) ∧ v = .slice (some ⟨wm.heap.size, 0, none⟩) (1 + r) (m + 1) ∧ Part true N m r w.heap.size wm.heap.size w wr2) (fun k _ _ => (intOf k).toNat)
      case atStart => exact ⟨0, Nat.zero_le _, by go_num, rfl, HPART.out⟩
      case round =>
        obtain ⟨r, hr, rfl, rfl, hP⟩ := hrel
        have HP : Hid (Part true N m r w.heap.size wm.heap.size w wr) := hP
        have SG : sgn true + r = 1 + r := by rfl
        by_cases hrm : r < m
        · obtain ⟨q, hq⟩ : ∃ q : Nat, m - r = q + 1 := ⟨m - r - 1, by omega⟩
          have hc : wr.cell? ⟨w.heap.size, q, none⟩ = some (.int .u8 (dig N q)) := by rw [hP.row.cell (by omega), revAt_lt (by omega)]
          have hbs := hP.below.size
          have hown : wr.ownsRow w.heap.size 5 1 (.slice (some ⟨wm.heap.size, 0, none⟩) (1 + r) (m + 1)) (1 + r) (((if true = true then [45] else []) ++ digs N m r).map (Value.int .u8)) := by have := hP.own; rw [SG] at this; exact this
          have hq18 : q < 18 := by omega
          have HQ : Hid (m - r = q + 1) := hq
          have HSG : Hid (sgn true + r = 1 + r) := SG
          have hq2 : ((m - r : Nat) : Int) = (q : Int) + 1 := by omega
          rw [hq2]
          clear hP hq hq2 SG
          go_wp2_with (first | (at_builtin; refine wpList_append_fits _ rfl (.tmp 45) (.tmp 49) 22 rfl w.heap.size 5 i0 1 Try.underlying22 hi hz1 wm.heap.size (1 + r) (m + 1) _ rfl (hown.alloc _) ⟨wr.heap.size, 0, none⟩ 1 1 [.int .u8 (dig N q)] rfl rfl (cell_one_new _ _ _) (ints_oneCell .u8 [dig N q]) (by omega) ?_; intro w2 hown2 hgrow2))
          have hq3 : m - 1 - r = q := by have := HQ.out; omega
          have HP2 := HP.out.next (v := .int .u8 (dig N q)) (by omega) (by rw [hq3, HSG.out]; exact hown2) hgrow2
          go_roundw
          case rel => exact ⟨r + 1, by omega, by have := HQ.out; go_num, rfl, HP2⟩
          case measure => have := HQ.out; simp [intOf] <;> omega
        · have hrm2 : m - r = 0 := by omega
          rw [hrm2]
          have hr2 : r = m := by omega
          subst hr2
          have HSG : Hid (sgn true + r = 1 + r) := SG
          clear hrm2 SG
          go_wp2
          go_ret
          refine ⟨r, wm.heap.size, r + 1, ?_, HM1.out, HM18.out, HN.out, HLEAD.out, ?_, HP.out.below⟩
          · rw [txt_len, HSG.out]; rfl
          · rw [txt_len]; exact HP.out.own

/-- the decimal text of n is T, of L bytes -/
structure DecOK (n : Int) (neg : Bool) (N m L : Nat) (T : List Int) : Prop where
  text : T = txt neg N m
  len : T.length = L
  num : n = if neg = true then -(N : Int) else (N : Int)
  lo : 1 ≤ m
  hi : m ≤ 18
  lt : N < 10 ^ m
  lead : m = 1 ∨ 0 < N / 10 ^ (m - 1)

theorem dec_any (n : Int) (h1 : -999999999999999999 ≤ n) (h2 : n ≤ 999999999999999999) (w : World) :
    Calls Try.prog 15 #[.int .i64 n] w fun e w' => ∃ (neg : Bool) (N m L g cap : Nat) (T : List Int), e = .returned (.slice (some ⟨g, 0, none⟩) L cap) ∧ L ≤ 19 ∧ Hid (DecOK n neg N m L T) ∧
      Hid (w'.ownsRow w.heap.size 5 1 (.slice (some ⟨g, 0, none⟩) L cap) L (T.map (Value.int .u8))) ∧ Below w.heap.size w w' := by
  by_cases h : n < 0
  · obtain ⟨N, rfl⟩ : ∃ N : Nat, n = -(N : Int) := ⟨(-n).toNat, by omega⟩
    refine (dec_neg N (by omega) (by omega) w).mono ?_
    rintro e w' ⟨m, g, cap, he, hm1, hm18, hlt, hlead, hown, hb⟩
    have hl := txt_len true N m
    exact ⟨true, N, m, _, g, cap, _, he, by rw [hl]; simp [sgn]; omega, ⟨rfl, rfl, by simp, hm1, hm18, hlt, hlead⟩, hown, hb⟩
  · obtain ⟨N, rfl⟩ : ∃ N : Nat, n = (N : Int) := ⟨n.toNat, by omega⟩
    refine (dec_pos N (by omega) w).mono ?_
    rintro e w' ⟨m, g, cap, he, hm1, hm18, hlt, hlead, hown, hb⟩
    have hl := txt_len false N m
    exact ⟨false, N, m, _, g, cap, _, he, by rw [hl]; simp [sgn]; omega, ⟨rfl, rfl, by simp, hm1, hm18, hlt, hlead⟩, hown, hb⟩

/-- the call of scanInt on what was put together -/
theorem back_call {n : Int} {neg : Bool} {N m L len g cap B : Nat} {T pre : List Int} {post : Int} {w : World} (hd : DecOK n neg N m L T) (hpre : pre.length = len) (hlen : len ≤ 1048576) (hL : L ≤ 19)
    (hpb : ∀ z ∈ pre, 0 ≤ z ∧ z ≤ 255) (hpost : isD post = false) (hp0 : 0 ≤ post) (hp1 : post ≤ 255)
    (hown : w.ownsRow B 5 1 (.slice (some ⟨g, 0, none⟩) (len + L + 1) cap) (len + L + 1) ((pre ++ (T ++ [post])).map (Value.int .u8))) :
    Calls Try.prog 11 #[.slice (some ⟨g, 0, none⟩) (len + L + 1) cap, .int .i64 len] w fun e w' => e = .returned (.tuple #[.int .i64 n, .int .i64 ((len : Int) + (L : Int)), .int .i64 0]) ∧ w' = w := by
  have hbl : (pre ++ (T ++ [post])).length = len + L + 1 := by simp [hpre, hd.len]; omega
  have hb : ∀ z ∈ pre ++ (T ++ [post]), 0 ≤ z ∧ z ≤ 255 := by
    intro z hz
    rcases List.mem_append.1 hz with h | h
    · exact hpb z h
    · rcases List.mem_append.1 h with h | h
      · rw [hd.text] at h
        unfold txt at h
        rcases List.mem_append.1 h with h | h
        · cases neg <;> simp at h; omega
        · unfold digs at h
          obtain ⟨p, _, rfl⟩ := List.mem_map.1 h
          have := dig_lo N (m - 1 - p); have := dig_hi N (m - 1 - p); omega
      · simp at h; omega
  have hget : ∀ i, i < len + L + 1 → (pre ++ (T ++ [post])).getD i 0 ∈ pre ++ (T ++ [post]) := by
    intro i hi
    rw [List.getD_eq_getElem?_getD, List.getElem?_eq_getElem (by omega)]
    exact List.getElem_mem _
  have hr : Rd w (some ⟨g, 0, none⟩) (len + L + 1) (fun i => (pre ++ (T ++ [post])).getD i 0) := by
    refine ⟨fun i hi => ⟨g, rfl, ?_⟩, fun i hi => (hb _ (hget i hi)).1, fun i hi => (hb _ (hget i hi)).2, by omega⟩
    have := hown.cells (g := g) rfl i (.int .u8 ((pre ++ (T ++ [post])).getD i 0)) (by
      rw [List.getElem?_map, List.getD_eq_getElem?_getD, List.getElem?_eq_getElem (by omega)]; rfl)
    rw [Addr.add_lit] at this
    simpa using this
  have hs := scan_txt pre neg N m post hd.lt hd.lo hd.hi hd.lead hpost (pre ++ (T ++ [post])) (by rw [hd.text]) (len + L + 1) hbl.symm
  rw [hpre] at hs
  refine (zzScanInt_any _ _ cap _ len w hr (by omega)).mono ?_
  rintro e w' ⟨rfl, rfl⟩
  refine ⟨?_, rfl⟩
  rw [hs, ← hd.num, ← hd.text, hd.len]
  rfl
end Go.Proofs.Qxb6602349a
