/-
  The walks of numberStep (25), numberAccepting (26), modelScanNumber (18).
-/
import Derived.Test.Qxb6602349aWalks
namespace Go.Proofs.Qxb6602349a
open Go.RowKit
open Plain

theorem nine {q : Int} (h0 : 0 ≤ q) (h8 : q ≤ 8) : q = 0 ∨ q = 1 ∨ q = 2 ∨ q = 3 ∨ q = 4 ∨ q = 5 ∨ q = 6 ∨ q = 7 ∨ q = 8 := by omega

set_option maxHeartbeats 1000000 in
theorem step_yes (q c : Int) (w : World) (h0 : 0 ≤ q) (h8 : q ≤ 8) (hd : isD c = true) :
    Calls Try.prog 25 #[.int .i64 q, .int .u8 c] w fun e w' => e = .returned (.int .i64 (Plain.step q c)) ∧ w' = w := by
  have HD : Hid (isD c = true) := hd
  obtain ⟨hc1, hc2⟩ := (isD_iff c).1 hd
  clear hd
  rcases nine h0 h8 with rfl | rfl | rfl | rfl | rfl | rfl | rfl | rfl | rfl
  all_goals
    go_enter Try.func25, Try.ntmps25
    go_wp2_with (go_at_call 14; refine (zzIsDigit_yes _ _ HD.out).mono ?_; rintro e w1 ⟨rfl, rfl⟩)
    all_goals
      go_ret
      refine ⟨ret_int ?_, rfl⟩
      have := HD.out
      simp_all [Plain.step] <;> omega

set_option maxHeartbeats 1000000 in
theorem step_no (q c : Int) (w : World) (h0 : 0 ≤ q) (h8 : q ≤ 8) (hd : isD c = false) :
    Calls Try.prog 25 #[.int .i64 q, .int .u8 c] w fun e w' => e = .returned (.int .i64 (Plain.step q c)) ∧ w' = w := by
  have HD : Hid (isD c = false) := hd
  clear hd
  rcases nine h0 h8 with rfl | rfl | rfl | rfl | rfl | rfl | rfl | rfl | rfl
  all_goals
    go_enter Try.func25, Try.ntmps25
    go_wp2_with (go_at_call 14; refine (zzIsDigit_no _ _ HD.out).mono ?_; rintro e w1 ⟨rfl, rfl⟩)
    all_goals
      go_ret
      refine ⟨ret_int ?_, rfl⟩
      have := HD.out
      simp_all [Plain.step] <;> omega

theorem acc_any (q : Int) (w : World) (h0 : 0 ≤ q) (h8 : q ≤ 8) :
    Calls Try.prog 26 #[.int .i64 q] w fun e w' => e = .returned (.bool (acc q)) ∧ w' = w := by
  rcases nine h0 h8 with rfl | rfl | rfl | rfl | rfl | rfl | rfl | rfl | rfl
  all_goals
    go_enter Try.func26, Try.ntmps26
    go_wp2
    go_ret
    exact ⟨rfl, rfl⟩

theorem step_bd (q c : Int) : -1 ≤ Plain.step q c ∧ Plain.step q c ≤ 8 := by
  unfold Plain.step
  repeat' split
  all_goals omega

theorem ret2 {p : Int × Int} {x y : Int} (h : p = (x, y)) : Ending.returned (.tuple #[.int .i64 x, .int .i64 y]) = .returned (.tuple #[.int .i64 p.1, .int .i64 p.2]) := by
  rw [h]

set_option maxHeartbeats 1000000 in
theorem modelNum_any (a : Option Addr) (n cap : Nat) (f : Nat → Int) (i : Nat) (w : World) (hr : Rd w a n f) (hi : (i : Int) ≤ 9223372036854775807) :
    Calls Try.prog 18 #[.slice a n cap, .int .i64 i] w fun e w' => e = .returned (.tuple #[.int .i64 (aut f n i 0).1, .int .i64 (aut f n i 0).2]) ∧ w' = w := by
  have hn := hr.le
  go_enter Try.func18, Try.ntmps18
  go_wp2
  go_loop [6, 7] (fun s j => ∃ (k : Nat) (q : Int), (k : Int) ≤ 9223372036854775807 ∧ 0 ≤ q ∧ q ≤ 8 ∧ s = .int .i64 q ∧ j = .int .i64 k ∧ aut f n i 0 = aut f n k q) (fun _ j => n - (intOf j).toNat)
  case atStart => exact ⟨i, 0, hi, by omega, by omega, rfl, rfl, rfl⟩
  case round =>
    obtain ⟨k, q, hk, hq0, hq8, rfl, rfl, hA⟩ := hrel
    have HA : Hid (aut f n i 0 = aut f n k q) := hA
    clear hA
    by_cases hlt : k < n
    · obtain ⟨b, rfl, hc⟩ := hr.cell k hlt
      have hstep : ∀ W, Calls Try.prog 25 #[.int .i64 q, .int .u8 (f k)] W fun e w' => e = .returned (.int .i64 (Plain.step q (f k))) ∧ w' = W := by
        intro W
        cases hd : isD (f k)
        · exact step_no q (f k) W hq0 hq8 hd
        · exact step_yes q (f k) W hq0 hq8 hd
      have hb := step_bd q (f k)
      obtain ⟨r, hr2⟩ : ∃ r, r = Plain.step q (f k) := ⟨_, rfl⟩
      rw [← hr2] at hstep hb
      have HR : Hid (r = Plain.step q (f k)) := hr2
      have HSTEP : Hid (∀ W, Calls Try.prog 25 #[.int .i64 q, .int .u8 (f k)] W fun e w' => e = .returned (.int .i64 r) ∧ w' = W) := hstep
      obtain ⟨hb1, hb2⟩ := hb
      clear hr2 hstep
      by_cases hneg : r < 0
      · have HN : Hid (Plain.step q (f k) < 0) := by have := HR.out; show _ < _; omega
        cases hacc : acc q
        · have HACC : Hid (acc q = false) := hacc
          go_wp2_with (first
            | (go_at_call 25; refine (HSTEP.out _).mono ?_; rintro e w' ⟨rfl, rfl⟩)
            | (go_at_call 26; refine (acc_any _ _ hq0 hq8).mono ?_; rintro e w' ⟨rfl, rfl⟩; rw [HACC.out]))
          go_ret2
          exact ⟨ret2 (by rw [HA.out, aut_no f hlt HN.out HACC.out]), rfl⟩
        · have HACC : Hid (acc q = true) := hacc
          go_wp2_with (first
            | (go_at_call 25; refine (HSTEP.out _).mono ?_; rintro e w' ⟨rfl, rfl⟩)
            | (go_at_call 26; refine (acc_any _ _ hq0 hq8).mono ?_; rintro e w' ⟨rfl, rfl⟩; rw [HACC.out]))
          go_ret2
          exact ⟨ret2 (by rw [HA.out, aut_yes f hlt HN.out HACC.out]), rfl⟩
      · have HN : Hid (¬ Plain.step q (f k) < 0) := by have := HR.out; show ¬ _ < _; omega
        go_wp2_with (go_at_call 25; refine (HSTEP.out _).mono ?_; rintro e w' ⟨rfl, rfl⟩)
        go_round
        case rel => exact ⟨k + 1, r, by omega, by omega, hb2, rfl, by go_num, by rw [HA.out, aut_step f hlt (Int.not_lt.2 HN.out), HR.out]⟩
        case measure => simp [intOf]; omega
    · go_wp2
      go_ret2
      exact ⟨ret2 (by rw [HA.out, aut_end f n q (by omega)]), rfl⟩
end Go.Proofs.Qxb6602349a
