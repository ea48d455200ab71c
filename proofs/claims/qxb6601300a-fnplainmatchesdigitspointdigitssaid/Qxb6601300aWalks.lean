/-
  Seat b6601300a: the walks of plain and of the model: each answers whether the text is digits, or digits, a point, digits.
-/
import Derived.Test.Qxb6601300aProg
import Derived.WalkKit
import Derived.WalkSpells
import Derived.Below
namespace Go.Proofs.Qxb6601300a
open Go.RowKit

/-! ### plain -/
/-- the byte at place i -/
def bt (S : ByteArray) (i : Nat) : Nat := (S.data.toList.getD i 0).toNat
theorem bt_get (S : ByteArray) (i : Nat) (h : i < S.size) : (S[i]'h).toNat = bt S i := by
  unfold bt
  have h' : i < S.data.toList.length := by rw [Array.length_toList]; exact h
  rw [List.getD_eq_getElem?_getD, List.getElem?_eq_getElem h']
  simp [ByteArray.getElem_eq_getElem_data]
theorem bt_extract (S : ByteArray) (a b i : Nat) (hi : a + i < b) : bt (S.extract a b) i = bt S (a + i) := by
  unfold bt
  congr 1
  have h1 : S.data.toList.length = S.size := by rw [Array.length_toList]; rfl
  rw [ByteArray.data_extract, Array.toList_extract, List.getD_eq_getElem?_getD, List.getD_eq_getElem?_getD]
  simp only [List.extract, List.getElem?_take, List.getElem?_drop]
  rw [if_pos (by omega)]

def isD (c : Nat) : Bool := decide (48 ≤ c ∧ c ≤ 57)
theorem isD_true {c : Nat} (h : isD c = true) : 48 ≤ c ∧ c ≤ 57 := of_decide_eq_true h
theorem isD_false {c : Nat} (h : isD c = false) : c < 48 ∨ 57 < c := by have := of_decide_eq_false h; omega
/-- is the byte at place i a digit -/
def D (s : ByteArray) (i : Nat) : Bool := isD (bt s i)
theorem D_dot {s : ByteArray} {d : Nat} (h : bt s d = 46) : D s d = false := by unfold D; rw [h]; rfl

def OK (s : ByteArray) : Prop :=
  (0 < s.size ∧ ∀ i, i < s.size → D s i = true) ∨ ∃ d, 0 < d ∧ d + 1 < s.size ∧ bt s d = 46 ∧ ∀ i, i < s.size → i ≠ d → D s i = true

theorem no_odd {s : ByteArray} {k : Nat} (hk : k < s.size) (hd : D s k = false) (h46 : bt s k ≠ 46) : ¬ OK s := by
  rintro (⟨_, h⟩ | ⟨d, _, _, h1, h2⟩)
  · rw [h k hk] at hd; cases hd
  · by_cases e : k = d
    · subst e; exact h46 h1
    · rw [h2 k hk e] at hd; cases hd
theorem no_two {s : ByteArray} {j k : Nat} (hk : k < s.size) (hj : j < k) (h1 : bt s j = 46) (h2 : bt s k = 46) : ¬ OK s := by
  have d1 := D_dot h1
  have d2 := D_dot h2
  rintro (⟨_, h⟩ | ⟨d, _, _, _, h⟩)
  · rw [h k hk] at d2; cases d2
  · by_cases e : k = d
    · rw [h j (by omega) (by omega)] at d1; cases d1
    · rw [h k hk e] at d2; cases d2
/-- with a point at d the text is one exactly if the point stands inside and all else is digits -/
theorem ok_dot {s : ByteArray} {d : Nat} (hd : d < s.size) (h46 : bt s d = 46) : OK s ↔ 0 < d ∧ d + 1 < s.size ∧ ∀ i, i < s.size → i ≠ d → D s i = true := by
  have dd := D_dot h46
  constructor
  · rintro (⟨_, h⟩ | ⟨e, h1, h2, _, h4⟩)
    · rw [h d hd] at dd; cases dd
    · by_cases he : d = e
      · subst he; exact ⟨h1, h2, h4⟩
      · rw [h4 d hd he] at dd; cases dd
  · rintro ⟨h1, h2, h3⟩; exact .inr ⟨d, h1, h2, h46, h3⟩
theorem ok_plain {s : ByteArray} (h : ∀ i, i < s.size → bt s i ≠ 46) : OK s ↔ 0 < s.size ∧ ∀ i, i < s.size → D s i = true := by
  constructor
  · rintro (h1 | ⟨d, _, h2, h3, _⟩)
    · exact h1
    · exact absurd h3 (h d (by omega))
  · exact .inl

/-- a Bool is handed back, of which Q holds -/
def Ans (Q : Bool → Prop) (e : Ending) : Prop := ∃ b, e = .returned (.bool b) ∧ Q b
theorem ans {Q : Bool → Prop} {e : Ending} (b : Bool) (h : e = .returned (.bool b)) (q : Q b) : Ans Q e := ⟨b, h, q⟩
theorem no_iff {p : Prop} (h : ¬ p) : false = true ↔ p := ⟨fun x => (by cases x), fun x => absurd x h⟩
theorem yes_iff {p : Prop} (h : p) : true = true ↔ p := ⟨fun _ => h, fun _ => rfl⟩

/-! ### isDigit (15), allDigits (14) -/
theorem isDigit_any (c : Nat) (w : World) : Calls Try.prog 15 #[.int .u8 c] w fun e w' => e = .returned (.bool (isD c)) ∧ w' = w := by
  by_cases h1 : 48 ≤ c
  · by_cases h2 : c ≤ 57
    · have e : isD c = true := decide_eq_true ⟨h1, h2⟩
      rw [e]
      have h2' : decide ((c : Int) ≤ 57) = true := by simp only [decide_eq_true_eq]; omega
      clear e
      go_enter Try.func15, Try.ntmps15
      go_wp2
      go_ret
      exact ⟨rfl, rfl⟩
    · have e : isD c = false := decide_eq_false (by omega)
      rw [e]
      have h2' : decide ((c : Int) ≤ 57) = false := by simp only [decide_eq_false_iff_not]; omega
      clear e
      go_enter Try.func15, Try.ntmps15
      go_wp2
      go_ret
      exact ⟨rfl, rfl⟩
  · have e : isD c = false := decide_eq_false (by omega)
    rw [e]
    clear e
    go_enter Try.func15, Try.ntmps15
    go_wp2
    go_ret
    exact ⟨rfl, rfl⟩

set_option maxHeartbeats 1000000 in
theorem all_any (s : ByteArray) (w : World) (hs : s.size ≤ 1048576) :
    Calls Try.prog 14 #[.string s] w fun e w' => Ans (fun b => b = true ↔ ∀ i, i < s.size → D s i = true) e ∧ w' = w := by
  go_enter Try.func14, Try.ntmps14
  go_wp2_with fail
  go_loop [3] (fun t => ∃ k : Nat, k ≤ s.size ∧ t = .int .i64 k ∧ ∀ i, i < k → D s i = true) (fun t => s.size - (intOf t).toNat)
  case atStart => exact ⟨0, Nat.zero_le _, rfl, fun i hi => by omega⟩
  case round =>
    obtain ⟨k, hk, rfl, hall⟩ := hrel
    have HALL : Hid (∀ i, i < k → D s i = true) := hall
    clear hall
    by_cases hlt : k < s.size
    · obtain ⟨c, hc⟩ : ∃ c, c = bt s k := ⟨_, rfl⟩
      have hb : (s[k]'hlt).toNat = c := by rw [hc]; exact bt_get s k hlt
      have HC : Hid (D s k = isD c) := by show _ = _; rw [hc]; rfl
      clear hc
      cases hd : isD c
      · have HD : Hid (isD c = false) := hd
        clear hd
        go_wp2_with (go_at_call 15; refine (isDigit_any _ _).mono ?_; rintro e w' ⟨rfl, rfl⟩; rw [HD.out])
        go_ret
        exact ⟨ans false rfl (no_iff (fun h => by have := h k hlt; rw [HC.out, HD.out] at this; cases this)), rfl⟩
      · have HD : Hid (isD c = true) := hd
        clear hd
        go_wp2_with (go_at_call 15; refine (isDigit_any _ _).mono ?_; rintro e w' ⟨rfl, rfl⟩; rw [HD.out])
        go_round
        case rel =>
          refine ⟨k + 1, by omega, by go_num, fun i hi => ?_⟩
          by_cases hik : i = k
          · subst hik; rw [HC.out]; exact HD.out
          · exact HALL.out i (by omega)
        case measure => simp [intOf]; omega
    · go_wp2_with fail
      go_ret
      exact ⟨ans true rfl (yes_iff (fun i hi => HALL.out i (by omega))), rfl⟩

/-! ### firstDot (10) -/
def Dot (s : ByteArray) (e : Ending) : Prop :=
  (e = .returned (.int .i64 (-1)) ∧ ∀ i, i < s.size → bt s i ≠ 46) ∨ ∃ d : Nat, e = .returned (.int .i64 d) ∧ d < s.size ∧ bt s d = 46

set_option maxHeartbeats 1000000 in
theorem dot_any (s : ByteArray) (w : World) (hs : s.size ≤ 1048576) :
    Calls Try.prog 10 #[.string s] w fun e w' => Dot s e ∧ w' = w := by
  go_enter Try.func10, Try.ntmps10
  go_wp2_with fail
  go_loop [3] (fun t => ∃ k : Nat, k ≤ s.size ∧ t = .int .i64 k ∧ ∀ i, i < k → bt s i ≠ 46) (fun t => s.size - (intOf t).toNat)
  case atStart => exact ⟨0, Nat.zero_le _, rfl, fun i hi => by omega⟩
  case round =>
    obtain ⟨k, hk, rfl, hall⟩ := hrel
    have HALL : Hid (∀ i, i < k → bt s i ≠ 46) := hall
    clear hall
    by_cases hlt : k < s.size
    · obtain ⟨c, hc⟩ : ∃ c, c = bt s k := ⟨_, rfl⟩
      have hb : (s[k]'hlt).toNat = c := by rw [hc]; exact bt_get s k hlt
      have HC : Hid (c = bt s k) := hc
      clear hc
      by_cases h46 : c = 46
      · have h46' : ((c : Int) == 46) = true := by simp [h46]
        have H46 : Hid (c = 46) := h46
        clear h46
        go_wp2_with fail
        go_ret
        exact ⟨.inr ⟨k, rfl, hlt, by rw [← HC.out]; exact H46.out⟩, rfl⟩
      · have h46' : ((c : Int) == 46) = false := by simp only [beq_eq_false_iff_ne, ne_eq]; omega
        have H46 : Hid (¬ c = 46) := h46
        clear h46
        go_wp2_with fail
        go_round
        case rel =>
          refine ⟨k + 1, by omega, by go_num, fun i hi => ?_⟩
          by_cases hik : i = k
          · subst hik; rw [← HC.out]; exact H46.out
          · exact HALL.out i (by omega)
        case measure => simp [intOf]; omega
    · go_wp2_with fail
      go_ret
      exact ⟨.inl ⟨rfl, fun i hi => HALL.out i (by omega)⟩, rfl⟩

/-! ### modelPlain (8) -/
theorem size_front (s : ByteArray) (d : Nat) (h : d ≤ s.size) : (s.extract 0 d).size = d := by
  rw [ByteArray.size_extract]; omega
theorem size_back (s : ByteArray) (d : Nat) (h : d ≤ s.size) : (s.extract d s.size).size = s.size - d := by
  rw [ByteArray.size_extract]; omega
theorem all_front (s : ByteArray) (d : Nat) (h : d ≤ s.size) : (∀ i, i < (s.extract 0 d).size → D (s.extract 0 d) i = true) ↔ ∀ i, i < d → D s i = true := by
  rw [size_front s d h]
  have e : ∀ i, i < d → D (s.extract 0 d) i = D s i := by
    intro i hi
    unfold D
    rw [bt_extract s 0 d i (by omega), Nat.zero_add]
  exact ⟨fun k i hi => by rw [← e i hi]; exact k i hi, fun k i hi => by rw [e i hi]; exact k i hi⟩
theorem all_back (s : ByteArray) (d : Nat) (h : d ≤ s.size) : (∀ i, i < (s.extract d s.size).size → D (s.extract d s.size) i = true) ↔ ∀ i, d ≤ i → i < s.size → D s i = true := by
  rw [size_back s d h]
  have e : ∀ i, i < s.size - d → D (s.extract d s.size) i = D s (d + i) := by
    intro i hi
    unfold D
    rw [bt_extract s d s.size i (by omega)]
  constructor
  · intro k i h1 h2
    have := k (i - d) (by omega)
    rw [e (i - d) (by omega), show d + (i - d) = i from by omega] at this
    exact this
  · intro k i hi
    rw [e i hi]; exact k (d + i) (by omega) (by omega)
set_option maxHeartbeats 1000000 in
theorem model_any (s : ByteArray) (w : World) (hs : s.size ≤ 1048576) :
    Calls Try.prog 8 #[.string s] w fun e w' => Ans (fun b => b = true ↔ OK s) e ∧ w' = w := by
  go_enter Try.func8, Try.ntmps8
  go_wp2_with (go_at_call 10; refine (dot_any _ _ hs).mono ?_; rintro e w1 ⟨⟨rfl, hno⟩ | ⟨d, rfl, hd, h46⟩, rfl⟩)
  · refine (all_any s _ hs).mono ?_
    rintro e w2 ⟨⟨b, rfl, hb⟩, rfl⟩
    have HB : Hid (b = true ↔ OK s) := by
      show _ ↔ _
      rw [hb, ok_plain hno]
      exact ⟨fun h => ⟨by assumption, h⟩, fun h => h.2⟩
    clear hb hno
    cases b
    · go_wp2_with fail
      go_ret
      exact ⟨ans false rfl HB.out, rfl⟩
    · go_wp2_with fail
      go_ret
      exact ⟨ans true rfl (by have := HB.out; simpa using this), rfl⟩
  · go_ret
    refine ⟨ans false rfl (no_iff (fun h => ?_)), rfl⟩
    have h1 := ((ok_plain hno).1 h).1
    have h2 : ¬ 0 < s.size := by assumption
    exact h2 h1
  · have hm : 0 < min d s.size := by assumption
    have hf : 0 < s.size - (d + 1) := by assumption
    have hw1 := size_front s d (by omega)
    have hw2 := size_back s (d + 1) (by omega)
    refine (all_any (s.extract 0 d) _ (by omega)).mono ?_
    rintro e w2 ⟨⟨b, rfl, hb⟩, rfl⟩
    have hb' : b = true ↔ ∀ i, i < d → D s i = true := by rw [hb]; exact all_front s d (by omega)
    have hfr := all_back s (d + 1) (by omega)
    have hok := ok_dot hd h46
    have HO : Hid (OK s ↔ b = true ∧ ∀ i, d + 1 ≤ i → i < s.size → D s i = true) := by
      show _ ↔ _
      rw [hok, hb']
      constructor
      · rintro ⟨_, _, h⟩
        exact ⟨fun i hi => h i (by omega) (by omega), fun i h1 h2 => h i h2 (by omega)⟩
      · rintro ⟨h1, h2⟩
        refine ⟨by omega, by omega, fun i hi hne => ?_⟩
        by_cases hid : i < d
        · exact h1 i hid
        · exact h2 i (by omega) hi
    have HFR : Hid ((∀ i, i < (s.extract (d + 1) s.size).size → D (s.extract (d + 1) s.size) i = true) ↔ ∀ i, d + 1 ≤ i → i < s.size → D s i = true) := hfr
    have hw2' : (s.extract (d + 1) s.size).size ≤ 1048576 := by omega
    have HW2 : Hid ((s.extract (d + 1) s.size).size ≤ 1048576) := hw2'
    clear hb hb' hfr hok hw1 hw2 hw2'
    cases b
    · go_wp2_with fail
      go_ret
      exact ⟨ans false rfl (no_iff (fun h => by have := (HO.out.1 h).1; cases this)), rfl⟩
    · go_wp2_with (go_at_call 14; refine (all_any _ _ HW2.out).mono ?_; rintro e w3 ⟨⟨b2, rfl, hb2⟩, rfl⟩; cases b2)
      · go_ret
        refine ⟨ans false rfl (no_iff (fun h => ?_)), rfl⟩
        have := hb2.2 (HFR.out.2 (HO.out.1 h).2)
        cases this
      · go_ret
        exact ⟨ans true rfl (yes_iff (HO.out.2 ⟨by first | trivial | rfl, HFR.out.1 (hb2.1 (by first | trivial | rfl))⟩)), rfl⟩
  · go_ret
    refine ⟨ans false rfl (no_iff (fun h => ?_)), rfl⟩
    have h1 := ((ok_dot hd h46).1 h).2.1
    have h2 : ¬ 0 < s.size - (d + 1) := by assumption
    omega
  · go_ret
    refine ⟨ans false rfl (no_iff (fun h => ?_)), rfl⟩
    have h1 := ((ok_dot hd h46).1 h).1
    have h2 : ¬ 0 < min d s.size := by assumption
    omega

/-! ### plain (13) -/
set_option maxHeartbeats 1000000 in
theorem plain_any (s : ByteArray) (w : World) (hs : s.size ≤ 1048576) :
    Calls Try.prog 13 #[.string s] w fun e w' => Ans (fun b => b = true ↔ OK s) e ∧ w' = w := by
  go_enter Try.func13, Try.ntmps13
  go_wp2_with fail
  go_loop [3, 4, 5] (fun t3 t4 t5 => ∃ k : Nat, k ≤ s.size ∧ t5 = .int .i64 k ∧ ((t4 = .int .i64 (-1) ∧ t3 = .int .i64 k ∧ ∀ i, i < k → D s i = true) ∨ ∃ d : Nat, t4 = .int .i64 d ∧ 0 < d ∧ d < k ∧ t3 = .int .i64 ((k : Int) - 1) ∧ bt s d = 46 ∧ ∀ i, i < k → i ≠ d → D s i = true)) (fun _ _ t => s.size - (intOf t).toNat)
  case atStart => exact ⟨0, Nat.zero_le _, rfl, .inl ⟨rfl, rfl, fun i hi => by omega⟩⟩
  case round =>
    obtain ⟨k, hk, rfl, hrel⟩ := hrel
    by_cases hlt : k < s.size
    · obtain ⟨c, hc⟩ : ∃ c, c = bt s k := ⟨_, rfl⟩
      have hb : (s[k]'hlt).toNat = c := by rw [hc]; exact bt_get s k hlt
      have HC : Hid (c = bt s k) := hc
      have HDC : Hid (D s k = isD c) := by show _ = _; rw [hc]; rfl
      clear hc
      by_cases hd : 48 ≤ c ∧ c ≤ 57
      · obtain ⟨h1, h2⟩ := hd
        have h1' : decide ((48 : Int) ≤ (c : Int)) = true := by simp only [decide_eq_true_eq]; omega
        have h2' : decide ((c : Int) ≤ 57) = true := by simp only [decide_eq_true_eq]; omega
        have HD : Hid (D s k = true) := by show _ = _; rw [HDC.out]; exact decide_eq_true ⟨h1, h2⟩
        rcases hrel with ⟨rfl, rfl, hall⟩ | ⟨d, rfl, hd0, hdk, rfl, h46, hall⟩
        · have HALL : Hid (∀ i, i < k → D s i = true) := hall
          clear hall
          go_wp2_with fail
          go_round
          case rel =>
            refine ⟨k + 1, by omega, by go_num, .inl ⟨rfl, by go_num, fun i hi => ?_⟩⟩
            by_cases hik : i = k
            · subst hik; exact HD.out
            · exact HALL.out i (by omega)
          case measure => simp [intOf]; omega
        · have HALL : Hid (∀ i, i < k → i ≠ d → D s i = true) := hall
          have H46 : Hid (bt s d = 46) := h46
          clear hall h46
          go_wp2_with fail
          go_round
          case rel =>
            refine ⟨k + 1, by omega, by go_num, .inr ⟨d, rfl, hd0, by omega, by go_num, H46.out, fun i hi hne => ?_⟩⟩
            by_cases hik : i = k
            · subst hik; exact HD.out
            · exact HALL.out i (by omega) hne
          case measure => simp [intOf]; omega
      · have HND : Hid (D s k = false) := by show _ = _; rw [HDC.out]; exact decide_eq_false hd
        by_cases h46 : c = 46
        · have HK46 : Hid (bt s k = 46) := by show _ = _; rw [← HC.out]; exact h46
          have h46' : ((c : Int) == 46) = true := by simp [h46]
          have h1' : decide ((48 : Int) ≤ (c : Int)) = false := by simp only [decide_eq_false_iff_not]; omega
          clear hd h46
          rcases hrel with ⟨rfl, rfl, hall⟩ | ⟨d, rfl, hd0, hdk, rfl, hd46, hall⟩
          · have HALL : Hid (∀ i, i < k → D s i = true) := hall
            clear hall
            by_cases hk0 : 0 < k
            · go_wp2_with fail
              go_round
              case rel => exact ⟨k + 1, by omega, by go_num, .inr ⟨k, rfl, hk0, by omega, by go_num, HK46.out, fun i hi hne => HALL.out i (by omega)⟩⟩
              case measure => simp [intOf]; omega
            · go_wp2_with fail
              go_ret
              refine ⟨ans false rfl (no_iff (fun h => ?_)), rfl⟩
              have := ((ok_dot hlt HK46.out).1 h).1
              omega
          · have HNO : Hid (¬ OK s) := no_two hlt hdk hd46 HK46.out
            clear hall hd46
            go_wp2_with fail
            go_ret
            exact ⟨ans false rfl (no_iff HNO.out), rfl⟩
        · have HNO : Hid (¬ OK s) := no_odd hlt HND.out (by rw [← HC.out]; exact h46)
          have h46' : ((c : Int) == 46) = false := by simp only [beq_eq_false_iff_ne, ne_eq]; omega
          clear h46
          by_cases h1 : 48 ≤ c
          · have h1' : decide ((48 : Int) ≤ (c : Int)) = true := by simp only [decide_eq_true_eq]; omega
            have h2' : decide ((c : Int) ≤ 57) = false := by simp only [decide_eq_false_iff_not]; omega
            clear hd
            rcases hrel with ⟨rfl, rfl, hall⟩ | ⟨d, rfl, hd0, hdk, rfl, hd46, hall⟩
            · clear hall
              go_wp2_with fail
              go_ret
              exact ⟨ans false rfl (no_iff HNO.out), rfl⟩
            · clear hall hd46
              go_wp2_with fail
              go_ret
              exact ⟨ans false rfl (no_iff HNO.out), rfl⟩
          · have h1' : decide ((48 : Int) ≤ (c : Int)) = false := by simp only [decide_eq_false_iff_not]; omega
            clear hd
            rcases hrel with ⟨rfl, rfl, hall⟩ | ⟨d, rfl, hd0, hdk, rfl, hd46, hall⟩
            · clear hall
              go_wp2_with fail
              go_ret
              exact ⟨ans false rfl (no_iff HNO.out), rfl⟩
            · clear hall hd46
              go_wp2_with fail
              go_ret
              exact ⟨ans false rfl (no_iff HNO.out), rfl⟩
    · have hkn : k = s.size := by omega
      rcases hrel with ⟨rfl, rfl, hall⟩ | ⟨d, rfl, hd0, hdk, rfl, h46, hall⟩
      · have HALL : Hid (∀ i, i < k → D s i = true) := hall
        clear hall
        by_cases hk0 : 0 < k
        · have HOK : Hid (OK s) := .inl ⟨by omega, fun i hi => HALL.out i (by omega)⟩
          have hne : ((-1 : Int) != (s.size : Int) - 1) = true := by simp only [bne_iff_ne, ne_eq]; omega
          clear hkn
          go_wp2_with fail
          go_ret
          exact ⟨ans true rfl (yes_iff HOK.out), rfl⟩
        · have HNO : Hid (¬ OK s) := by rintro (⟨h, _⟩ | ⟨d, _, h, _⟩) <;> omega
          clear hkn
          go_wp2_with fail
          go_ret
          exact ⟨ans false rfl (no_iff HNO.out), rfl⟩
      · have HALL : Hid (∀ i, i < k → i ≠ d → D s i = true) := hall
        have hiff := ok_dot (s := s) (d := d) (by omega) h46
        by_cases hde : d + 1 < s.size
        · have HOK : Hid (OK s) := hiff.2 ⟨hd0, hde, fun i hi hne => HALL.out i (by omega) hne⟩
          have hne : ((d : Int) != (s.size : Int) - 1) = true := by simp only [bne_iff_ne, ne_eq]; omega
          have hpos : decide ((0 : Int) < (k : Int) - 1) = true := by simp only [decide_eq_true_eq]; omega
          clear hkn hall h46 hiff
          go_wp2_with fail
          go_ret
          exact ⟨ans true rfl (yes_iff HOK.out), rfl⟩
        · have HNO : Hid (¬ OK s) := fun h => by have := (hiff.1 h).2.1; omega
          have hne : ((d : Int) != (s.size : Int) - 1) = false := by simp only [bne_eq_false_iff_eq]; omega
          have hpos : decide ((0 : Int) < (k : Int) - 1) = true := by simp only [decide_eq_true_eq]; omega
          clear hkn hall h46 hiff
          go_wp2_with fail
          go_ret
          exact ⟨ans false rfl (no_iff HNO.out), rfl⟩
end Go.Proofs.Qxb6601300a
