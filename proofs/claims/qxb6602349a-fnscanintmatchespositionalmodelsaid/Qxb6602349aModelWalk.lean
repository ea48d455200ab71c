/-
  The walk of modelScanInt (function 12): it computes scanP too.
-/
import Derived.Test.Qxb6602349aWalks
namespace Go.Proofs.Qxb6602349a
open Go.RowKit
open Plain

theorem place_step {t : Nat} {PL : Int} (h : PL = 10 ^ t) (ht : t < 18) : wrap64 (PL * 10) = 10 ^ (t + 1) := by
  have h1 := ten_le (t := t + 1) (by omega)
  have h2 := ten_pos (t + 1)
  have e : (10 : Int) ^ (t + 1) = PL * 10 := by rw [h, Int.pow_succ]
  rw [e] at h1 h2 ⊢
  exact wrap64_id (by omega) (by omega)

theorem back_step {f : Nat → Int} {n s e q t : Nat} {V PL : Int} (hr : Run f n s e) (hq : q + 1 + t = e) (hs : s ≤ q) (ht : t < 18) (hV : V = valB f e t) (hP : PL = 10 ^ t) :
    wrap64 (V + wrap64 ((f q - 48) * PL)) = valB f e (t + 1) := by
  have hd := (isD_iff _).1 (hr.dig q hs (by omega))
  have b := valB_bd f e t (by omega) (fun u h1 h2 => hr.dig u (by omega) h2)
  have b2 := valB_bd f e (t + 1) (by omega) (fun u h1 h2 => hr.dig u (by omega) h2)
  have h1 := ten_le (t := t + 1) (by omega)
  have eq : e - 1 - t = q := by omega
  simp only [valB, eq] at b2 ⊢
  rw [← hV, ← hP] at b2 ⊢
  rw [← hV, ← hP] at b
  have h0 : 0 ≤ (f q - 48) * PL := Int.mul_nonneg (by omega) (by omega)
  rw [wrap64_id (x := (f q - 48) * PL) (by omega) (by omega), wrap64_id (by omega) (by omega)]

theorem back_pos {f : Nat → Int} {n i s k r : Nat} {V : Int} (hs : st f n i = s) (hr : Run f n s k) (hrs : r ≤ s) (hsr : s ≤ r) (hV : V = valB f k (k - r)) (hlt : k < n) (h : ¬ (k = s ∨ 18 < k - s ∨ (1 < k - s ∧ f s = 48))) (h45 : ¬ (i < n ∧ f i = 45)) : scanP f n i = (V, (k : Int), 0) := by
  have hlo := hr.lo
  have e : r = s := by omega
  subst e
  have := valB_all f r (k - r)
  have e2 : r + (k - r) = k := by omega
  rw [e2] at this
  rw [hV, this]
  exact scanP_pos hs hr (by omega) h h45
theorem back_neg {f : Nat → Int} {n i s k r : Nat} {V : Int} (hs : st f n i = s) (hr : Run f n s k) (hrs : r ≤ s) (hsr : s ≤ r) (hV : V = valB f k (k - r)) (hlt : k < n) (h : ¬ (k = s ∨ 18 < k - s ∨ (1 < k - s ∧ f s = 48))) (h45 : i < n ∧ f i = 45) : scanP f n i = (wrap64 (-V), (k : Int), 0) := by
  have hlo := hr.lo
  have e : r = s := by omega
  subst e
  have := valB_all f r (k - r)
  have e2 : r + (k - r) = k := by omega
  rw [e2] at this
  rw [hV, this]
  exact by_neg hs hr (fun _ => rfl) hlt h h45

set_option maxHeartbeats 1000000 in
theorem model_aux (a : Option Addr) (n cap : Nat) (f : Nat → Int) (i s : Nat) (w : World) (hr : Rd w a n f) (hi : (i : Int) ≤ 9223372036854775807) (hs : st f n i = s) :
    Calls Try.prog 12 #[.slice a n cap, .int .i64 i] w fun e w' => e = .returned (.tuple #[.int .i64 (scanP f n i).1, .int .i64 (scanP f n i).2.1, .int .i64 (scanP f n i).2.2]) ∧ w' = w := by
  have hn := hr.le
  have HS : Hid (st f n i = s) := hs
  by_cases h45 : i < n ∧ f i = 45
  · obtain ⟨hin, h45⟩ := h45
    obtain ⟨b, rfl, hci⟩ := hr.cell i hin
    have h45' : (f i == 45) = true := by simp [h45]
    have H45 : Hid (i < n ∧ f i = 45) := ⟨hin, h45⟩
    have hsi : (i : Int) + 1 = (s : Int) := by rw [← hs]; unfold st; rw [if_pos ⟨hin, h45⟩]; omega
    have HSI : Hid ((i : Int) + 1 = (s : Int)) := hsi
    have HB : Hid ((s : Int) ≤ 9223372036854775807) := by show (s : Int) ≤ 9223372036854775807; omega
    clear h45 hs hsi
    go_enter Try.func12, Try.ntmps12
    go_wp2
    rw [HSI.out]
    go_loop [9] (fun j => ∃ (k : Nat), (k:Int) ≤ 9223372036854775807 ∧ j = .int .i64 k ∧ Pre f n s k) (fun j => n - (intOf j).toNat)
    case atStart => exact ⟨s, HB.out, rfl, Pre.start f n s⟩
    case round =>
      obtain ⟨k, hk, rfl, hp⟩ := hrel
      have hks := hp.lo
      have HP : Hid (Pre f n s k) := hp
      clear hp
      by_cases hlt : k < n
      · obtain ⟨b', hb', hc⟩ := hr.cell k hlt
        cases hb'
        cases hd : isD (f k)
        · have HD : Hid (isD (f k) = false) := hd
          have HR : Hid (Run f n s k) := HP.out.run (fun _ => hd)
          obtain ⟨b', hb', hcs⟩ := hr.cell s (by omega)
          cases hb'
          clear hd
          by_cases c1 : k ≤ s
          · go_wp2_with (go_at_call 14; refine (zzIsDigit_no _ _ HD.out).mono ?_; rintro e w' ⟨rfl, rfl⟩)
            go_ret3
            exact ⟨ret3 (scanP_odd HS.out HR.out (by omega) (.inl (by omega))), rfl⟩
          · by_cases c2 : s + 18 < k
            · go_wp2_with (go_at_call 14; refine (zzIsDigit_no _ _ HD.out).mono ?_; rintro e w' ⟨rfl, rfl⟩)
              go_ret3
              exact ⟨ret3 (scanP_odd HS.out HR.out (by omega) (.inr (.inl (by omega)))), rfl⟩
            · have hz0 : ((k : Int) - (s : Int) == 0) = false := by simp only [beq_eq_false_iff_ne, ne_eq]; omega
              have h18 : decide (18 < (k : Int) - (s : Int)) = false := by simp only [decide_eq_false_iff_not]; omega
              by_cases c3 : s + 1 < k
              · by_cases h48 : f s = 48
                · have h48' : (f s == 48) = true := by simp [h48]
                  have H48 : Hid (f s = 48) := h48
                  clear h48
                  go_wp2_with (go_at_call 14; refine (zzIsDigit_no _ _ HD.out).mono ?_; rintro e w' ⟨rfl, rfl⟩)
                  go_ret3
                  exact ⟨ret3 (scanP_odd HS.out HR.out (by omega) (.inr (.inr ⟨by omega, H48.out⟩))), rfl⟩
                · have h48' : (f s == 48) = false := by simp [h48]
                  have H48 : Hid (¬ f s = 48) := h48
                  clear h48
                  go_wp2_with (go_at_call 14; refine (zzIsDigit_no _ _ HD.out).mono ?_; rintro e w' ⟨rfl, rfl⟩)
                  go_loop [11, 12, 13] (fun v p j => ∃ (r : Nat) (V PL K : Int), s ≤ r ∧ r ≤ k ∧ V = valB f k (k - r) ∧ PL = 10 ^ (k - r) ∧ K = (r : Int) - 1 ∧ v = .int .i64 V ∧ p = .int .i64 PL ∧ j = .int .i64 K) (fun _ _ j => (intOf j + 1).toNat)
                  case atStart => exact ⟨k, 0, 1, _, hks, Nat.le_refl _, by simp [valB], by simp, rfl, rfl, rfl, rfl⟩
                  case round =>
                    obtain ⟨r, V, PL, K, hsr, hrk, hV, hPL, hK, rfl, rfl, rfl⟩ := hrel
                    have HV : Hid (V = valB f k (k - r)) := hV
                    have HPL : Hid (PL = 10 ^ (k - r)) := hPL
                    clear hV hPL
                    by_cases hsr2 : s < r
                    · obtain ⟨q, rfl⟩ : ∃ q, r = q + 1 := ⟨r - 1, by omega⟩
                      have hKq : K = (q : Int) := by omega
                      clear hK
                      subst hKq
                      obtain ⟨b', hb', hcq⟩ := hr.cell q (by omega)
                      cases hb'
                      obtain ⟨hd1, hd2⟩ := (isD_iff _).1 (HR.out.dig q (by omega) (by omega))
                      go_wp2
                      go_round
                      case rel => exact ⟨q, _, _, _, by omega, by omega, by rw [back_step HR.out (t := k - (q + 1)) (by omega) (by omega) (by omega) HV.out HPL.out]; congr 1; omega, by rw [place_step HPL.out (by omega)]; congr 1; omega, rfl, rfl, rfl, rfl⟩
                      case measure => simp [intOf]
                    · have hKs : K < (s : Int) := by omega
                      clear hK
                      go_wp2
                      go_ret3
                      exact ⟨ret3 (back_neg HS.out HR.out (by omega) hsr HV.out (by omega) (by have := H48.out; omega) H45.out), rfl⟩
              · go_wp2_with (go_at_call 14; refine (zzIsDigit_no _ _ HD.out).mono ?_; rintro e w' ⟨rfl, rfl⟩)
                go_loop [11, 12, 13] (fun v p j => ∃ (r : Nat) (V PL K : Int), s ≤ r ∧ r ≤ k ∧ V = valB f k (k - r) ∧ PL = 10 ^ (k - r) ∧ K = (r : Int) - 1 ∧ v = .int .i64 V ∧ p = .int .i64 PL ∧ j = .int .i64 K) (fun _ _ j => (intOf j + 1).toNat)
                case atStart => exact ⟨k, 0, 1, _, hks, Nat.le_refl _, by simp [valB], by simp, rfl, rfl, rfl, rfl⟩
                case round =>
                  obtain ⟨r, V, PL, K, hsr, hrk, hV, hPL, hK, rfl, rfl, rfl⟩ := hrel
                  have HV : Hid (V = valB f k (k - r)) := hV
                  have HPL : Hid (PL = 10 ^ (k - r)) := hPL
                  clear hV hPL
                  by_cases hsr2 : s < r
                  · obtain ⟨q, rfl⟩ : ∃ q, r = q + 1 := ⟨r - 1, by omega⟩
                    have hKq : K = (q : Int) := by omega
                    clear hK
                    subst hKq
                    obtain ⟨b', hb', hcq⟩ := hr.cell q (by omega)
                    cases hb'
                    obtain ⟨hd1, hd2⟩ := (isD_iff _).1 (HR.out.dig q (by omega) (by omega))
                    go_wp2
                    go_round
                    case rel => exact ⟨q, _, _, _, by omega, by omega, by rw [back_step HR.out (t := k - (q + 1)) (by omega) (by omega) (by omega) HV.out HPL.out]; congr 1; omega, by rw [place_step HPL.out (by omega)]; congr 1; omega, rfl, rfl, rfl, rfl⟩
                    case measure => simp [intOf]
                  · have hKs : K < (s : Int) := by omega
                    clear hK
                    go_wp2
                    go_ret3
                    exact ⟨ret3 (back_neg HS.out HR.out (by omega) hsr HV.out (by omega) (by omega) H45.out), rfl⟩
        · have HD : Hid (isD (f k) = true) := hd
          go_wp2_with (go_at_call 14; refine (zzIsDigit_yes _ _ HD.out).mono ?_; rintro e w' ⟨rfl, rfl⟩)
          go_round
          case rel => exact ⟨k + 1, by omega, by go_num, HP.out.next hlt HD.out⟩
          case measure => simp [intOf]; omega
      · have HR : Hid (Run f n s k) := HP.out.run (fun h => absurd h hlt)
        by_cases c1 : k ≤ n
        · go_wp2
          go_ret3
          exact ⟨ret3 (scanP_cut HS.out HR.out (by omega)), rfl⟩
        · have c2 : k ≤ s := by rcases HR.out.hi with x | x <;> omega
          go_wp2
          go_ret3
          exact ⟨ret3 (scanP_odd HS.out HR.out (by omega) (.inl (by omega))), rfl⟩
  · have e : s = i := by rw [← hs]; unfold st; rw [if_neg h45]
    subst e
    have H45 : Hid (¬ (s < n ∧ f s = 45)) := h45
    have HB : Hid ((s : Int) ≤ 9223372036854775807) := hi
    clear hs
    by_cases hin : s < n
    · obtain ⟨b, rfl, hci⟩ := hr.cell s hin
      have h45' : (f s == 45) = false := by simp only [beq_eq_false_iff_ne, ne_eq]; exact fun x => h45 ⟨hin, x⟩
      clear h45
      go_enter Try.func12, Try.ntmps12
      go_wp2
      go_loop [9] (fun j => ∃ (k : Nat), (k:Int) ≤ 9223372036854775807 ∧ j = .int .i64 k ∧ Pre f n s k) (fun j => n - (intOf j).toNat)
      case atStart => exact ⟨s, HB.out, rfl, Pre.start f n s⟩
      case round =>
        obtain ⟨k, hk, rfl, hp⟩ := hrel
        have hks := hp.lo
        have HP : Hid (Pre f n s k) := hp
        clear hp
        by_cases hlt : k < n
        · obtain ⟨b', hb', hc⟩ := hr.cell k hlt
          cases hb'
          cases hd : isD (f k)
          · have HD : Hid (isD (f k) = false) := hd
            have HR : Hid (Run f n s k) := HP.out.run (fun _ => hd)
            obtain ⟨b', hb', hcs⟩ := hr.cell s (by omega)
            cases hb'
            clear hd
            by_cases c1 : k ≤ s
            · go_wp2_with (go_at_call 14; refine (zzIsDigit_no _ _ HD.out).mono ?_; rintro e w' ⟨rfl, rfl⟩)
              go_ret3
              exact ⟨ret3 (scanP_odd HS.out HR.out (by omega) (.inl (by omega))), rfl⟩
            · by_cases c2 : s + 18 < k
              · go_wp2_with (go_at_call 14; refine (zzIsDigit_no _ _ HD.out).mono ?_; rintro e w' ⟨rfl, rfl⟩)
                go_ret3
                exact ⟨ret3 (scanP_odd HS.out HR.out (by omega) (.inr (.inl (by omega)))), rfl⟩
              · have hz0 : ((k : Int) - (s : Int) == 0) = false := by simp only [beq_eq_false_iff_ne, ne_eq]; omega
                have h18 : decide (18 < (k : Int) - (s : Int)) = false := by simp only [decide_eq_false_iff_not]; omega
                by_cases c3 : s + 1 < k
                · by_cases h48 : f s = 48
                  · have h48' : (f s == 48) = true := by simp [h48]
                    have H48 : Hid (f s = 48) := h48
                    clear h48
                    go_wp2_with (go_at_call 14; refine (zzIsDigit_no _ _ HD.out).mono ?_; rintro e w' ⟨rfl, rfl⟩)
                    go_ret3
                    exact ⟨ret3 (scanP_odd HS.out HR.out (by omega) (.inr (.inr ⟨by omega, H48.out⟩))), rfl⟩
                  · have h48' : (f s == 48) = false := by simp [h48]
                    have H48 : Hid (¬ f s = 48) := h48
                    clear h48
                    go_wp2_with (go_at_call 14; refine (zzIsDigit_no _ _ HD.out).mono ?_; rintro e w' ⟨rfl, rfl⟩)
                    go_loop [11, 12, 13] (fun v p j => ∃ (r : Nat) (V PL K : Int), s ≤ r ∧ r ≤ k ∧ V = valB f k (k - r) ∧ PL = 10 ^ (k - r) ∧ K = (r : Int) - 1 ∧ v = .int .i64 V ∧ p = .int .i64 PL ∧ j = .int .i64 K) (fun _ _ j => (intOf j + 1).toNat)
                    case atStart => exact ⟨k, 0, 1, _, hks, Nat.le_refl _, by simp [valB], by simp, rfl, rfl, rfl, rfl⟩
                    case round =>
                      obtain ⟨r, V, PL, K, hsr, hrk, hV, hPL, hK, rfl, rfl, rfl⟩ := hrel
                      have HV : Hid (V = valB f k (k - r)) := hV
                      have HPL : Hid (PL = 10 ^ (k - r)) := hPL
                      clear hV hPL
                      by_cases hsr2 : s < r
                      · obtain ⟨q, rfl⟩ : ∃ q, r = q + 1 := ⟨r - 1, by omega⟩
                        have hKq : K = (q : Int) := by omega
                        clear hK
                        subst hKq
                        obtain ⟨b', hb', hcq⟩ := hr.cell q (by omega)
                        cases hb'
                        obtain ⟨hd1, hd2⟩ := (isD_iff _).1 (HR.out.dig q (by omega) (by omega))
                        go_wp2
                        go_round
                        case rel => exact ⟨q, _, _, _, by omega, by omega, by rw [back_step HR.out (t := k - (q + 1)) (by omega) (by omega) (by omega) HV.out HPL.out]; congr 1; omega, by rw [place_step HPL.out (by omega)]; congr 1; omega, rfl, rfl, rfl, rfl⟩
                        case measure => simp [intOf]
                      · have hKs : K < (s : Int) := by omega
                        clear hK
                        go_wp2
                        go_ret3
                        exact ⟨ret3 (back_pos HS.out HR.out (by omega) hsr HV.out (by omega) (by have := H48.out; omega) H45.out), rfl⟩
                · go_wp2_with (go_at_call 14; refine (zzIsDigit_no _ _ HD.out).mono ?_; rintro e w' ⟨rfl, rfl⟩)
                  go_loop [11, 12, 13] (fun v p j => ∃ (r : Nat) (V PL K : Int), s ≤ r ∧ r ≤ k ∧ V = valB f k (k - r) ∧ PL = 10 ^ (k - r) ∧ K = (r : Int) - 1 ∧ v = .int .i64 V ∧ p = .int .i64 PL ∧ j = .int .i64 K) (fun _ _ j => (intOf j + 1).toNat)
                  case atStart => exact ⟨k, 0, 1, _, hks, Nat.le_refl _, by simp [valB], by simp, rfl, rfl, rfl, rfl⟩
                  case round =>
                    obtain ⟨r, V, PL, K, hsr, hrk, hV, hPL, hK, rfl, rfl, rfl⟩ := hrel
                    have HV : Hid (V = valB f k (k - r)) := hV
                    have HPL : Hid (PL = 10 ^ (k - r)) := hPL
                    clear hV hPL
                    by_cases hsr2 : s < r
                    · obtain ⟨q, rfl⟩ : ∃ q, r = q + 1 := ⟨r - 1, by omega⟩
                      have hKq : K = (q : Int) := by omega
                      clear hK
                      subst hKq
                      obtain ⟨b', hb', hcq⟩ := hr.cell q (by omega)
                      cases hb'
                      obtain ⟨hd1, hd2⟩ := (isD_iff _).1 (HR.out.dig q (by omega) (by omega))
                      go_wp2
                      go_round
                      case rel => exact ⟨q, _, _, _, by omega, by omega, by rw [back_step HR.out (t := k - (q + 1)) (by omega) (by omega) (by omega) HV.out HPL.out]; congr 1; omega, by rw [place_step HPL.out (by omega)]; congr 1; omega, rfl, rfl, rfl, rfl⟩
                      case measure => simp [intOf]
                    · have hKs : K < (s : Int) := by omega
                      clear hK
                      go_wp2
                      go_ret3
                      exact ⟨ret3 (back_pos HS.out HR.out (by omega) hsr HV.out (by omega) (by omega) H45.out), rfl⟩
          · have HD : Hid (isD (f k) = true) := hd
            go_wp2_with (go_at_call 14; refine (zzIsDigit_yes _ _ HD.out).mono ?_; rintro e w' ⟨rfl, rfl⟩)
            go_round
            case rel => exact ⟨k + 1, by omega, by go_num, HP.out.next hlt HD.out⟩
            case measure => simp [intOf]; omega
        · have HR : Hid (Run f n s k) := HP.out.run (fun h => absurd h hlt)
          by_cases c1 : k ≤ n
          · go_wp2
            go_ret3
            exact ⟨ret3 (scanP_cut HS.out HR.out (by omega)), rfl⟩
          · have c2 : k ≤ s := by rcases HR.out.hi with x | x <;> omega
            omega
    · have HR : Hid (Run f n s s) := (Pre.start f n s).run (fun h => absurd h hin)
      clear h45
      go_enter Try.func12, Try.ntmps12
      go_wp2
      go_loop [9] (fun j => j = .int .i64 s) (fun _ => 0)
      case atStart => exact rfl
      case round =>
        subst hrel
        by_cases c1 : s ≤ n
        · go_wp2
          go_ret3
          exact ⟨ret3 (scanP_cut HS.out HR.out (by omega)), rfl⟩
        · go_wp2
          go_ret3
          exact ⟨ret3 (scanP_odd HS.out HR.out (by omega) (.inl rfl)), rfl⟩

end Go.Proofs.Qxb6602349a
