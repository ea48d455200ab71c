/-
  The walks of the seat b6602349a: each Go function on the roads computes a plain function.
-/
import Derived.Test.Qxb6602349aProg
import Derived.Test.Qxb6602349aPlain
import Derived.WalkKit
import Derived.WalkSpells
import Derived.Below
import Derived.OwnWalk
namespace Go.Proofs.Qxb6602349a
open Go.RowKit
open Plain

/-- the slice '(a, n)' reads in w as the bytes f 0, .., f (n - 1) -/
structure Rd (w : World) (a : Option Addr) (n : Nat) (f : Nat → Int) : Prop where
  cell : ∀ i, i < n → ∃ b, a = some ⟨b, 0, none⟩ ∧ w.cell? ⟨b, i, none⟩ = some (.int .u8 (f i))
  lo : ∀ i, i < n → 0 ≤ f i
  hi : ∀ i, i < n → f i ≤ 255
  le : n ≤ 2097152

theorem isDigit_yes (c : Int) (w : World) (h : isD c = true) :
    Calls Try.prog 28 #[.int .u8 c] w fun e w' => e = .returned (.bool true) ∧ w' = w := by
  obtain ⟨h1, h2⟩ := (isD_iff c).1 h
  clear h
  go_enter Try.func28, Try.ntmps28
  go_wp2
  go_ret
  exact ⟨rfl, rfl⟩

theorem isDigit_no (c : Int) (w : World) (h : isD c = false) :
    Calls Try.prog 28 #[.int .u8 c] w fun e w' => e = .returned (.bool false) ∧ w' = w := by
  rcases (isD_false_iff c).1 h with h1 | h1
  · clear h
    go_enter Try.func28, Try.ntmps28
    go_wp2
    go_ret
    exact ⟨rfl, rfl⟩
  · have h2 : 48 ≤ c := by omega
    have h3 : decide (c ≤ 57) = false := by simp; omega
    clear h h1
    go_enter Try.func28, Try.ntmps28
    go_wp2
    go_ret
    exact ⟨rfl, rfl⟩

theorem zzIsDigit_yes (c : Int) (w : World) (h : isD c = true) :
    Calls Try.prog 14 #[.int .u8 c] w fun e w' => e = .returned (.bool true) ∧ w' = w := by
  obtain ⟨h1, h2⟩ := (isD_iff c).1 h
  clear h
  go_enter Try.func14, Try.ntmps14
  go_wp2
  go_ret
  exact ⟨rfl, rfl⟩

theorem zzIsDigit_no (c : Int) (w : World) (h : isD c = false) :
    Calls Try.prog 14 #[.int .u8 c] w fun e w' => e = .returned (.bool false) ∧ w' = w := by
  rcases (isD_false_iff c).1 h with h1 | h1
  · clear h
    go_enter Try.func14, Try.ntmps14
    go_wp2
    go_ret
    exact ⟨rfl, rfl⟩
  · have h2 : 48 ≤ c := by omega
    have h3 : decide (c ≤ 57) = false := by simp; omega
    clear h h1
    go_enter Try.func14, Try.ntmps14
    go_wp2
    go_ret
    exact ⟨rfl, rfl⟩

theorem ret_int {k : IntKind} {a b : Int} (h : a = b) : Ending.returned (.int k a) = .returned (.int k b) := by rw [h]

set_option maxHeartbeats 400000 in
theorem digitsEnd_any (a : Option Addr) (n cap : Nat) (f : Nat → Int) (i : Nat) (w : World) (hr : Rd w a n f) (hi : (i : Int) ≤ 9223372036854775807) :
    Calls Try.prog 29 #[.slice a n cap, .int .i64 i] w fun e w' => e = .returned (.int .i64 (re f n i)) ∧ w' = w := by
  have hn := hr.le
  go_enter Try.func29, Try.ntmps29
  go_wp2
  go_loop [1] (fun j => ∃ k : Nat, (k : Int) ≤ 9223372036854775807 ∧ j = .int .i64 k ∧ Pre f n i k) (fun j => n - (intOf j).toNat)
  case atStart => exact ⟨i, hi, rfl, Pre.start f n i⟩
  case round =>
    obtain ⟨k, hk, rfl, hp⟩ := hrel
    by_cases hlt : k < n
    · obtain ⟨b, rfl, hc⟩ := hr.cell k hlt
      have HP : Hid (Pre f n i k) := hp
      clear hp
      cases hd : isD (f k)
      · have HD : Hid (isD (f k) = false) := hd
        go_wp2_with (go_at_call 28; refine (isDigit_no _ _ HD.out).mono ?_; rintro e w' ⟨rfl, rfl⟩)
        go_ret
        exact ⟨ret_int (by rw [(HP.out.run (fun _ => HD.out)).eq]), rfl⟩
      · have HD : Hid (isD (f k) = true) := hd
        go_wp2_with (go_at_call 28; refine (isDigit_yes _ _ HD.out).mono ?_; rintro e w' ⟨rfl, rfl⟩)
        go_round
        case rel => exact ⟨k + 1, by omega, by go_num, HP.out.next hlt HD.out⟩
        case measure => simp [intOf]; omega
    · go_wp2
      go_ret
      exact ⟨ret_int (by rw [(hp.run (fun h => absurd h hlt)).eq]), rfl⟩

theorem wrap64_id {x : Int} (h1 : -9223372036854775808 ≤ x) (h2 : x ≤ 9223372036854775807) : wrap64 x = x := by
  unfold wrap64; omega
theorem val_step {f : Nat → Int} {n s k : Nat} {N : Int} (hp : Pre f n s k) (hN : k - s ≤ 18 → N = valF f s (k - s)) (hd : isD (f k) = true) (h : k + 1 - s ≤ 18) :
    wrap64 (wrap64 (N * 10) + (f k - 48)) = valF f s (k + 1 - s) := by
  have hlo := hp.lo
  obtain ⟨m, hm⟩ : ∃ m, k = s + m := ⟨k - s, by omega⟩
  subst hm
  have e1 : s + m - s = m := by omega
  have e2 : s + m + 1 - s = m + 1 := by omega
  rw [e1] at hN; rw [e2] at h ⊢
  have hd' := (isD_iff _).1 hd
  have b := valF_bd f s m (fun t h1 h2 => hp.dig t h1 h2)
  have t17 : (10 : Int) ^ m ≤ 10 ^ 17 := by
    have : (10 : Nat) ^ m ≤ 10 ^ 17 := Nat.pow_le_pow_right (by decide) (by omega)
    have h2 : ((10 ^ m : Nat) : Int) ≤ ((10 ^ 17 : Nat) : Int) := by exact_mod_cast this
    rw [Int.natCast_pow] at h2
    simpa using h2
  have hN' := hN (by omega)
  simp only [valF]
  rw [hN', wrap64_id (x := valF f s m * 10) (by omega) (by omega), wrap64_id (by omega) (by omega)]

theorem scanP_cut {f : Nat → Int} {n i s k : Nat} (hs : st f n i = s) (hr : Run f n s k) (hk : k = n) : scanP f n i = (0, 0, 1) := by
  unfold scanP; simp only [hs, ← hr.eq]; rw [if_pos hk]
theorem scanP_odd {f : Nat → Int} {n i s k : Nat} (hs : st f n i = s) (hr : Run f n s k) (hk : k ≠ n) (h : k = s ∨ 18 < k - s ∨ (1 < k - s ∧ f s = 48)) : scanP f n i = (0, 0, 2) := by
  unfold scanP; simp only [hs, ← hr.eq]; rw [if_neg hk, if_pos h]
theorem scanP_pos {f : Nat → Int} {n i s k : Nat} (hs : st f n i = s) (hr : Run f n s k) (hk : k ≠ n) (h : ¬ (k = s ∨ 18 < k - s ∨ (1 < k - s ∧ f s = 48))) (h45 : ¬ (i < n ∧ f i = 45)) : scanP f n i = (valF f s (k - s), (k : Int), 0) := by
  unfold scanP; simp only [hs, ← hr.eq]; rw [if_neg hk, if_neg h, if_neg h45]
theorem scanP_neg {f : Nat → Int} {n i s k : Nat} (hs : st f n i = s) (hr : Run f n s k) (hk : k ≠ n) (h : ¬ (k = s ∨ 18 < k - s ∨ (1 < k - s ∧ f s = 48))) (h45 : i < n ∧ f i = 45) : scanP f n i = (- valF f s (k - s), (k : Int), 0) := by
  unfold scanP; simp only [hs, ← hr.eq]; rw [if_neg hk, if_neg h, if_pos h45]

theorem ret3 {p : Int × Int × Int} {x y z : Int} (h : p = (x, y, z)) : Ending.returned (.tuple #[.int .i64 x, .int .i64 y, .int .i64 z]) = .returned (.tuple #[.int .i64 p.1, .int .i64 p.2.1, .int .i64 p.2.2]) := by
  rw [h]

theorem val_neg {f : Nat → Int} {n s k : Nat} {N : Int} (hr : Run f n s k) (hN : k - s ≤ 18 → N = valF f s (k - s)) (h : k ≤ s + 18) : wrap64 (-N) = - valF f s (k - s) := by
  have hlo := hr.lo
  have b := valF_bd f s (k - s) (fun t h1 h2 => hr.dig t h1 (by omega))
  have t := ten_le (t := k - s) (by omega)
  rw [hN (by omega)]
  exact wrap64_id (by omega) (by omega)

theorem by_neg {f : Nat → Int} {n i s k : Nat} {N : Int} (hs : st f n i = s) (hr : Run f n s k) (hN : k - s ≤ 18 → N = valF f s (k - s)) (hlt : k < n) (h : ¬ (k = s ∨ 18 < k - s ∨ (1 < k - s ∧ f s = 48))) (h45 : i < n ∧ f i = 45) : scanP f n i = (wrap64 (-N), (k : Int), 0) := by
  rw [val_neg hr hN (by omega)]
  exact scanP_neg hs hr (by omega) h h45
theorem by_pos {f : Nat → Int} {n i s k : Nat} {N : Int} (hs : st f n i = s) (hr : Run f n s k) (hN : k - s ≤ 18 → N = valF f s (k - s)) (hlt : k < n) (h : ¬ (k = s ∨ 18 < k - s ∨ (1 < k - s ∧ f s = 48))) (h45 : ¬ (i < n ∧ f i = 45)) : scanP f n i = (N, (k : Int), 0) := by
  rw [hN (by omega)]
  exact scanP_pos hs hr (by omega) h h45

set_option maxHeartbeats 1000000 in
theorem scanInt_aux (a : Option Addr) (n cap : Nat) (f : Nat → Int) (i s : Nat) (w : World) (hr : Rd w a n f) (hi : (i : Int) ≤ 9223372036854775807) (hs : st f n i = s) :
    Calls Try.prog 23 #[.slice a n cap, .int .i64 i] w fun e w' => e = .returned (.tuple #[.int .i64 (scanP f n i).1, .int .i64 (scanP f n i).2.1, .int .i64 (scanP f n i).2.2]) ∧ w' = w := by
  have hn := hr.le
  have HS : Hid (st f n i = s) := hs
  by_cases h45 : i < n ∧ f i = 45
  · obtain ⟨hin, h45⟩ := h45
    obtain ⟨b, rfl, hci⟩ := hr.cell i hin
    have h45' : (f i == 45) = true := by simp [h45]
    have H45 : Hid (i < n ∧ f i = 45) := ⟨hin, h45⟩
    have hsi : (i : Int) + 1 = (s : Int) := by rw [← hs]; unfold st; rw [if_pos ⟨hin, h45⟩]; omega
    have HSI : Hid ((i : Int) + 1 = (s : Int)) := hsi
    have HB : Hid ((s : Int) ≤ 9223372036854775807) := by show (s : Int) ≤ 9223372036854775807; omega
    clear h45 hs hsi
    go_enter Try.func23, Try.ntmps23
    go_wp2
    rw [HSI.out]
    go_loop [4, 7] (fun v j => ∃ (k : Nat) (N : Int), (k:Int) ≤ 9223372036854775807 ∧ j = .int .i64 k ∧ v = .int .i64 N ∧ Pre f n s k ∧ (k - s ≤ 18 → N = valF f s (k - s))) (fun _ j => n - (intOf j).toNat)
    case atStart => exact ⟨s, 0, HB.out, rfl, rfl, Pre.start f n s, fun _ => by simp [valF]⟩
    case round =>
      obtain ⟨k, N, hk, rfl, rfl, hp, hN⟩ := hrel
      have hks := hp.lo
      have HP : Hid (Pre f n s k) := hp
      have HN : Hid (k - s ≤ 18 → N = valF f s (k - s)) := hN
      clear hp hN
      by_cases hlt : k < n
      · obtain ⟨b', hb', hc⟩ := hr.cell k hlt
        cases hb'
        cases hd : isD (f k)
        · have HD : Hid (isD (f k) = false) := hd
          have HR : Hid (Run f n s k) := HP.out.run (fun _ => hd)
          obtain ⟨b', hb', hcs⟩ := hr.cell s (by omega)
          cases hb'
          clear hd
          by_cases c1 : k ≤ s
          · go_wp2_with (go_at_call 28; refine (isDigit_no _ _ HD.out).mono ?_; rintro e w' ⟨rfl, rfl⟩)
            go_ret3
            exact ⟨ret3 (scanP_odd HS.out HR.out (by omega) (.inl (by omega))), rfl⟩
          · by_cases c2 : s + 18 < k
            · go_wp2_with (go_at_call 28; refine (isDigit_no _ _ HD.out).mono ?_; rintro e w' ⟨rfl, rfl⟩)
              go_ret3
              exact ⟨ret3 (scanP_odd HS.out HR.out (by omega) (.inr (.inl (by omega)))), rfl⟩
            · have hz0 : ((k : Int) - (s : Int) == 0) = false := by simp only [beq_eq_false_iff_ne, ne_eq]; omega
              have h18 : decide (18 < (k : Int) - (s : Int)) = false := by simp only [decide_eq_false_iff_not]; omega
              by_cases c3 : s + 1 < k
              · by_cases h48 : f s = 48
                · have h48' : (f s == 48) = true := by simp [h48]
                  have H48 : Hid (f s = 48) := h48
                  clear h48
                  go_wp2_with (go_at_call 28; refine (isDigit_no _ _ HD.out).mono ?_; rintro e w' ⟨rfl, rfl⟩)
                  go_ret3
                  exact ⟨ret3 (scanP_odd HS.out HR.out (by omega) (.inr (.inr ⟨by omega, H48.out⟩))), rfl⟩
                · have h48' : (f s == 48) = false := by simp [h48]
                  have H48 : Hid (¬ f s = 48) := h48
                  clear h48
                  go_wp2_with (go_at_call 28; refine (isDigit_no _ _ HD.out).mono ?_; rintro e w' ⟨rfl, rfl⟩)
                  go_ret3
                  exact ⟨ret3 (by_neg HS.out HR.out HN.out (by omega) (by have := H48.out; omega) H45.out), rfl⟩
              · go_wp2_with (go_at_call 28; refine (isDigit_no _ _ HD.out).mono ?_; rintro e w' ⟨rfl, rfl⟩)
                go_ret3
                exact ⟨ret3 (by_neg HS.out HR.out HN.out (by omega) (by omega) H45.out), rfl⟩
        · have HD : Hid (isD (f k) = true) := hd
          obtain ⟨hd1, hd2⟩ := (isD_iff _).1 hd
          go_wp2_with (go_at_call 28; refine (isDigit_yes _ _ HD.out).mono ?_; rintro e w' ⟨rfl, rfl⟩)
          go_round
          case rel => exact ⟨k + 1, _, by omega, by go_num, rfl, HP.out.next hlt HD.out, val_step HP.out HN.out HD.out⟩
          case measure => simp [intOf]; omega
      · have HR : Hid (Run f n s k) := HP.out.run (fun h => absurd h hlt)
        by_cases c1 : k ≤ n
        · go_wp2
          go_ret3
          exact ⟨ret3 (scanP_cut HS.out HR.out (by omega)), rfl⟩
        · have c2 : k ≤ s := by rcases HR.out.hi with x | x <;> omega
          go_wp2
          go_ret3
          exact ⟨ret3 (scanP_odd HS.out HR.out (by omega) (.inl (by omega))), rfl⟩
  · have e : s = i := by rw [← hs]; unfold st; rw [if_neg h45]
    subst e
    have H45 : Hid (¬ (s < n ∧ f s = 45)) := h45
    have HB : Hid ((s : Int) ≤ 9223372036854775807) := hi
    clear hs
    by_cases hin : s < n
    · obtain ⟨b, rfl, hci⟩ := hr.cell s hin
      have h45' : (f s == 45) = false := by simp only [beq_eq_false_iff_ne, ne_eq]; exact fun x => h45 ⟨hin, x⟩
      clear h45
      go_enter Try.func23, Try.ntmps23
      go_wp2
      go_loop [4, 7] (fun v j => ∃ (k : Nat) (N : Int), (k:Int) ≤ 9223372036854775807 ∧ j = .int .i64 k ∧ v = .int .i64 N ∧ Pre f n s k ∧ (k - s ≤ 18 → N = valF f s (k - s))) (fun _ j => n - (intOf j).toNat)
      case atStart => exact ⟨s, 0, HB.out, rfl, rfl, Pre.start f n s, fun _ => by simp [valF]⟩
      case round =>
        obtain ⟨k, N, hk, rfl, rfl, hp, hN⟩ := hrel
        have hks := hp.lo
        have HP : Hid (Pre f n s k) := hp
        have HN : Hid (k - s ≤ 18 → N = valF f s (k - s)) := hN
        clear hp hN
        by_cases hlt : k < n
        · obtain ⟨b', hb', hc⟩ := hr.cell k hlt
          cases hb'
          cases hd : isD (f k)
          · have HD : Hid (isD (f k) = false) := hd
            have HR : Hid (Run f n s k) := HP.out.run (fun _ => hd)
            obtain ⟨b', hb', hcs⟩ := hr.cell s (by omega)
            cases hb'
            clear hd
            by_cases c1 : k ≤ s
            · go_wp2_with (go_at_call 28; refine (isDigit_no _ _ HD.out).mono ?_; rintro e w' ⟨rfl, rfl⟩)
              go_ret3
              exact ⟨ret3 (scanP_odd HS.out HR.out (by omega) (.inl (by omega))), rfl⟩
            · by_cases c2 : s + 18 < k
              · go_wp2_with (go_at_call 28; refine (isDigit_no _ _ HD.out).mono ?_; rintro e w' ⟨rfl, rfl⟩)
                go_ret3
                exact ⟨ret3 (scanP_odd HS.out HR.out (by omega) (.inr (.inl (by omega)))), rfl⟩
              · have hz0 : ((k : Int) - (s : Int) == 0) = false := by simp only [beq_eq_false_iff_ne, ne_eq]; omega
                have h18 : decide (18 < (k : Int) - (s : Int)) = false := by simp only [decide_eq_false_iff_not]; omega
                by_cases c3 : s + 1 < k
                · by_cases h48 : f s = 48
                  · have h48' : (f s == 48) = true := by simp [h48]
                    have H48 : Hid (f s = 48) := h48
                    clear h48
                    go_wp2_with (go_at_call 28; refine (isDigit_no _ _ HD.out).mono ?_; rintro e w' ⟨rfl, rfl⟩)
                    go_ret3
                    exact ⟨ret3 (scanP_odd HS.out HR.out (by omega) (.inr (.inr ⟨by omega, H48.out⟩))), rfl⟩
                  · have h48' : (f s == 48) = false := by simp [h48]
                    have H48 : Hid (¬ f s = 48) := h48
                    clear h48
                    go_wp2_with (go_at_call 28; refine (isDigit_no _ _ HD.out).mono ?_; rintro e w' ⟨rfl, rfl⟩)
                    go_ret3
                    exact ⟨ret3 (by_pos HS.out HR.out HN.out (by omega) (by have := H48.out; omega) H45.out), rfl⟩
                · go_wp2_with (go_at_call 28; refine (isDigit_no _ _ HD.out).mono ?_; rintro e w' ⟨rfl, rfl⟩)
                  go_ret3
                  exact ⟨ret3 (by_pos HS.out HR.out HN.out (by omega) (by omega) H45.out), rfl⟩
          · have HD : Hid (isD (f k) = true) := hd
            obtain ⟨hd1, hd2⟩ := (isD_iff _).1 hd
            go_wp2_with (go_at_call 28; refine (isDigit_yes _ _ HD.out).mono ?_; rintro e w' ⟨rfl, rfl⟩)
            go_round
            case rel => exact ⟨k + 1, _, by omega, by go_num, rfl, HP.out.next hlt HD.out, val_step HP.out HN.out HD.out⟩
            case measure => simp [intOf]; omega
        · have HR : Hid (Run f n s k) := HP.out.run (fun h => absurd h hlt)
          by_cases c1 : k ≤ n
          · go_wp2
            go_ret3
            exact ⟨ret3 (scanP_cut HS.out HR.out (by omega)), rfl⟩
          · exfalso
            rcases HR.out.hi with x | x <;> omega
    · have HR : Hid (Run f n s s) := (Pre.start f n s).run (fun h => absurd h hin)
      clear h45
      go_enter Try.func23, Try.ntmps23
      go_wp2
      go_loop [4, 7] (fun v j => v = .int .i64 0 ∧ j = .int .i64 s) (fun _ _ => 0)
      case atStart => exact ⟨rfl, rfl⟩
      case round =>
        obtain ⟨rfl, rfl⟩ := hrel
        by_cases c1 : s ≤ n
        · go_wp2
          go_ret3
          exact ⟨ret3 (scanP_cut HS.out HR.out (by omega)), rfl⟩
        · go_wp2
          go_ret3
          exact ⟨ret3 (scanP_odd HS.out HR.out (by omega) (.inl rfl)), rfl⟩

end Go.Proofs.Qxb6602349a
