/-
  The walks of scanNumber (24) and ZZScanNumber (17): they compute numP.
-/
import Derived.Test.Qxb6602349aWalks
import Derived.Test.Qxb6602349aNum
import Derived.Deep.CutRange
import Derived.Deep.CutBlock
namespace Go.Proofs.Qxb6602349a
open Go.RowKit
open Plain

def dotB (f : Nat → Int) (n k : Nat) : Bool := decide (k < n ∧ f k = 46)
def expB (f : Nat → Int) (n k : Nat) : Bool := decide (k < n ∧ (f k = 101 ∨ f k = 69))
theorem dotB_true {f : Nat → Int} {n k : Nat} (h : dotB f n k = true) : k < n ∧ f k = 46 := of_decide_eq_true h
theorem dotB_false {f : Nat → Int} {n k : Nat} (h : dotB f n k = false) : ¬ (k < n ∧ f k = 46) := of_decide_eq_false h
theorem expB_true {f : Nat → Int} {n k : Nat} (h : expB f n k = true) : k < n ∧ (f k = 101 ∨ f k = 69) := of_decide_eq_true h
theorem expB_false {f : Nat → Int} {n k : Nat} (h : expB f n k = false) : ¬ (k < n ∧ (f k = 101 ∨ f k = 69)) := of_decide_eq_false h

theorem frac_un {f : Nat → Int} {n k e : Nat} (h : k < n ∧ f k = 46) (he : re f n (k + 1) = e) (hu : e < n ∧ isD (f (e - 1)) = false) : fracP f n k = (0, 2) := by
  unfold fracP; rw [if_pos h]; simp only [he]; rw [if_pos hu]
theorem frac_ok {f : Nat → Int} {n k e : Nat} (h : k < n ∧ f k = 46) (he : re f n (k + 1) = e) (hu : ¬ (e < n ∧ isD (f (e - 1)) = false)) : fracP f n k = expP f n e := by
  unfold fracP; rw [if_pos h]; simp only [he]; rw [if_neg hu]
theorem frac_none {f : Nat → Int} {n k : Nat} (h : ¬ (k < n ∧ f k = 46)) : fracP f n k = expP f n k := by
  unfold fracP; rw [if_neg h]
theorem exp_un {f : Nat → Int} {n k j e : Nat} (h : k < n ∧ (f k = 101 ∨ f k = 69)) (hj : (if k + 1 < n ∧ (f (k + 1) = 43 ∨ f (k + 1) = 45) then k + 2 else k + 1) = j) (he : re f n j = e) (hu : e < n ∧ isD (f (e - 1)) = false) : expP f n k = (0, 2) := by
  unfold expP; rw [if_pos h]; simp only [hj, he]; rw [if_pos hu]
theorem exp_ok {f : Nat → Int} {n k j e : Nat} (h : k < n ∧ (f k = 101 ∨ f k = 69)) (hj : (if k + 1 < n ∧ (f (k + 1) = 43 ∨ f (k + 1) = 45) then k + 2 else k + 1) = j) (he : re f n j = e) (hu : ¬ (e < n ∧ isD (f (e - 1)) = false)) : expP f n k = fin n e := by
  unfold expP; rw [if_pos h]; simp only [hj, he]; rw [if_neg hu]
theorem exp_none {f : Nat → Int} {n k : Nat} (h : ¬ (k < n ∧ (f k = 101 ∨ f k = 69))) : expP f n k = fin n k := by
  unfold expP; rw [if_neg h]

theorem num_at {f : Nat → Int} {n i j : Nat} (hj : j = if f i = 45 then i + 1 else i) :
    numP f n i = if j = n then (0, 1) else if f j = 48 then fracP f n (j + 1) else if isD (f j) = true then fracP f n (re f n j) else (0, 2) := by
  unfold numP; simp only [← hj]

set_option maxRecDepth 100000 in
set_option maxHeartbeats 2000000 in
theorem scanNum_any (b : Nat) (n cap : Nat) (f : Nat → Int) (i : Nat) (w : World) (hr : Rd w (some ⟨b, 0, none⟩) n f) (hi : i < n) :
    Calls Try.prog 24 #[.slice (some ⟨b, 0, none⟩) n cap, .int .i64 i] w fun e w' => e = .returned (.tuple #[.int .i64 (numP f n i).1, .int .i64 (numP f n i).2]) ∧ w' = w := by
  have hn := hr.le
  obtain ⟨_, hb, hci⟩ := hr.cell i hi
  cases hb
  go_enter Try.func24, Try.ntmps24
  go_upto_if 12 with fail
  go_cut [6] from 7 to 14 (fun s6 wx => wx = w ∧ ∃ j : Nat, j = (if f i = 45 then i + 1 else i) ∧ s6 = .int .i64 j)
  case first =>
    by_cases h45 : f i = 45
    · have h45' : (f i == 45) = true := by simp [h45]
      have H45 : Hid (f i = 45) := h45
      clear h45
      go_wp2
      go_meet
      case rel => exact ⟨rfl, i + 1, by rw [if_pos H45.out], by go_num⟩
    · have h45' : (f i == 45) = false := by simp [h45]
      have H45 : Hid (¬ f i = 45) := h45
      clear h45
      go_wp2
      go_meet
      case rel => exact ⟨rfl, i, by rw [if_neg H45.out], rfl⟩
  case rest =>
    obtain ⟨rfl, j, hj, rfl⟩ := hcut
    have HJ : Hid (numP f n i = if j = n then (0, 1) else if f j = 48 then fracP f n (j + 1) else if isD (f j) = true then fracP f n (re f n j) else (0, 2)) := num_at hj
    have hjn : j ≤ n := by rw [hj]; split <;> omega
    clear hj hci
    go_upto_block 0 with fail
    go_cut [6] from 7 to 36 (fun s6 wx => wx = wc ∧ ∃ k : Nat, k ≤ n ∧ 1 ≤ k ∧ s6 = .int .i64 k ∧ numP f n i = fracP f n k)
    case first =>
      by_cases hjl : j < n
      · obtain ⟨b', hb', hcj⟩ := hr.cell j hjl
        cases hb'
        by_cases h48 : f j = 48
        · have h48' : (f j == 48) = true := by simp [h48]
          have H48 : Hid (f j = 48) := h48
          clear h48
          go_wp2
          go_meet
          case rel => exact ⟨rfl, j + 1, by omega, by omega, by go_num, by rw [HJ.out, if_neg (by omega), if_pos H48.out]⟩
        · have h48' : (f j == 48) = false := by simp [h48]
          have H48 : Hid (¬ f j = 48) := h48
          clear h48
          cases hd : isD (f j)
          · have HD : Hid (isD (f j) = false) := hd
            clear hd
            go_wp2_with (go_at_call 28; refine (isDigit_no _ _ HD.out).mono ?_; rintro e w' ⟨rfl, rfl⟩)
            go_ret2
            exact ⟨ret2 (by rw [HJ.out, if_neg (by omega), if_neg H48.out, if_neg (by rw [HD.out]; simp)]), rfl⟩
          · have HD : Hid (isD (f j) = true) := hd
            have hrun := re_run f n j
            have hlo := hrun.lo
            have hne : re f n j ≠ j := fun e => by have := hrun.stop (by omega); rw [e, hd] at this; cases this
            have hle := re_le f hjn
            obtain ⟨e1, he1⟩ : ∃ e1, e1 = re f n j := ⟨_, rfl⟩
            have HE : Hid (e1 = re f n j) := he1
            have HDE : Hid (Calls Try.prog 29 #[.slice (some ⟨b, 0, none⟩) n cap, .int .i64 j] wc fun e w' => e = .returned (.int .i64 e1) ∧ w' = wc) := by
              rw [he1]; exact digitsEnd_any (some ⟨b, 0, none⟩) n cap f j wc hr (by omega)
            rw [← he1] at hlo hne hle
            clear he1 hrun hd
            go_wp2_with (first | (go_at_call 28; refine (isDigit_yes _ _ HD.out).mono ?_; rintro e w' ⟨rfl, rfl⟩) | (go_at_call 29; refine HDE.out.mono ?_; rintro e w' ⟨rfl, rfl⟩))
            go_meet
            case rel => exact ⟨rfl, e1, hle, by omega, rfl, by rw [HJ.out, if_neg (by omega), if_neg H48.out, if_pos HD.out, ← HE.out]⟩
      · go_wp2
        go_ret2
        exact ⟨ret2 (by rw [HJ.out, if_pos (by omega)]), rfl⟩
    case rest =>
      obtain ⟨rfl, k, hkn, hk1, rfl, hN⟩ := hcut
      have HN : Hid (numP f n i = fracP f n k) := hN
      clear hN HJ hjn
      go_upto_region 11 with fail
      go_cut [47] from 7 to 47 (fun s47 wx => wx = wc ∧ s47 = .bool (dotB f n k))
      case first =>
        by_cases hkl : k < n
        · obtain ⟨b', hb', hck⟩ := hr.cell k hkl
          cases hb'
          by_cases h46 : f k = 46
          · have h46' : (f k == 46) = true := by simp [h46]
            have HB : Hid (dotB f n k = true) := by show dotB f n k = true; simp [dotB, hkl, h46]
            clear h46
            go_wp2
            go_meet
            case rel => exact ⟨rfl, by rw [HB.out]⟩
          · have h46' : (f k == 46) = false := by simp [h46]
            have HB : Hid (dotB f n k = false) := by show dotB f n k = false; simp [dotB, h46]
            clear h46
            go_wp2
            go_meet
            case rel => exact ⟨rfl, by rw [HB.out]⟩
        · have HB : Hid (dotB f n k = false) := by show dotB f n k = false; simp [dotB, hkl]
          go_wp2
          go_meet
          case rel => exact ⟨rfl, by rw [HB.out]⟩
      case rest =>
        obtain ⟨rfl, rfl⟩ := hcut
        go_upto_if 47 with fail
        go_cut [6] from 7 to 64 (fun s6 wx => wx = wc ∧ ∃ k2 : Nat, k2 ≤ n ∧ 1 ≤ k2 ∧ s6 = .int .i64 k2 ∧ numP f n i = expP f n k2)
        case first =>
          cases hB : dotB f n k
          · have HB : Hid (¬ (k < n ∧ f k = 46)) := dotB_false hB
            go_wp2
            go_meet
            case rel => exact ⟨rfl, k, hkn, hk1, rfl, by rw [HN.out, frac_none HB.out]⟩
          · have HB : Hid (k < n ∧ f k = 46) := dotB_true hB
            have hkl := HB.out.1
            obtain ⟨e1, he1⟩ : ∃ e1, re f n (k + 1) = e1 + 1 := ⟨re f n (k + 1) - 1, by have := (re_run f n (k + 1)).lo; omega⟩
            have hle : e1 + 1 ≤ n := by rw [← he1]; exact re_le f (by omega)
            have hde := digitsEnd_any (some ⟨b, 0, none⟩) n cap f (k + 1) wc hr (by omega)
            rw [he1, show ((e1 + 1 : Nat) : Int) = (e1 : Int) + 1 from by omega, show ((k + 1 : Nat) : Int) = (k : Int) + 1 from by omega] at hde
            have HDE : Hid (Calls Try.prog 29 #[.slice (some ⟨b, 0, none⟩) n cap, .int .i64 ((k : Int) + 1)] wc fun e w' => e = .returned (.int .i64 ((e1 : Int) + 1)) ∧ w' = wc) := hde
            have HE : Hid (re f n (k + 1) = e1 + 1) := he1
            clear hde he1
            obtain ⟨b', hb', hce⟩ := hr.cell e1 (by omega)
            cases hb'
            by_cases hen : e1 + 1 < n
            · cases hd : isD (f e1)
              · have HD : Hid (isD (f e1) = false) := hd
                clear hd
                go_wp2_with (first | (go_at_call 29; refine HDE.out.mono ?_; rintro e w' ⟨rfl, rfl⟩) | (go_at_call 28; refine (isDigit_no _ _ HD.out).mono ?_; rintro e w' ⟨rfl, rfl⟩))
                go_ret2
                exact ⟨ret2 (by rw [HN.out, frac_un HB.out HE.out ⟨hen, HD.out⟩]), rfl⟩
              · have HD : Hid (isD (f e1) = true) := hd
                clear hd
                go_wp2_with (first | (go_at_call 29; refine HDE.out.mono ?_; rintro e w' ⟨rfl, rfl⟩) | (go_at_call 28; refine (isDigit_yes _ _ HD.out).mono ?_; rintro e w' ⟨rfl, rfl⟩))
                go_meet
                case rel => exact ⟨rfl, e1 + 1, by omega, by omega, by go_num, by rw [HN.out, frac_ok HB.out HE.out (fun x => by have := x.2; simp [HD.out] at this)]⟩
            · go_wp2_with (go_at_call 29; refine HDE.out.mono ?_; rintro e w' ⟨rfl, rfl⟩)
              go_meet
              case rel => exact ⟨rfl, e1 + 1, by omega, by omega, by go_num, by rw [HN.out, frac_ok HB.out HE.out (fun x => by omega)]⟩
        case rest =>
          obtain ⟨rfl, k2, hkn2, hk12, rfl, hN2⟩ := hcut
          have HN2 : Hid (numP f n i = expP f n k2) := hN2
          clear hN2 HN hkn hk1
          go_upto_region 15 with fail
          go_cut [82] from 7 to 82 (fun s82 wx => wx = wc ∧ s82 = .bool (expB f n k2))
          case first =>
            by_cases hkl : k2 < n
            · obtain ⟨b', hb', hck⟩ := hr.cell k2 hkl
              cases hb'
              by_cases h101 : f k2 = 101
              · have h101' : (f k2 == 101) = true := by simp [h101]
                have HB : Hid (expB f n k2 = true) := by show expB f n k2 = true; simp [expB, hkl, h101]
                clear h101
                go_wp2
                go_meet
                case rel => exact ⟨rfl, by rw [HB.out]⟩
              · have h101' : (f k2 == 101) = false := by simp [h101]
                by_cases h69 : f k2 = 69
                · have h69' : (f k2 == 69) = true := by simp [h69]
                  have HB : Hid (expB f n k2 = true) := by show expB f n k2 = true; simp [expB, hkl, h69]
                  clear h101 h69
                  go_wp2
                  go_meet
                  case rel => exact ⟨rfl, by rw [HB.out]⟩
                · have h69' : (f k2 == 69) = false := by simp [h69]
                  have HB : Hid (expB f n k2 = false) := by show expB f n k2 = false; simp [expB, h69, h101]
                  clear h101 h69
                  go_wp2
                  go_meet
                  case rel => exact ⟨rfl, by rw [HB.out]⟩
            · have HB : Hid (expB f n k2 = false) := by show expB f n k2 = false; simp [expB, hkl]
              go_wp2
              go_meet
              case rel => exact ⟨rfl, by rw [HB.out]⟩
          case rest =>
            obtain ⟨rfl, rfl⟩ := hcut
            go_upto_if 82 with fail
            go_cut [6] from 7 to 120 (fun s6 wx => wx = wc ∧ ∃ k3 : Nat, k3 ≤ n ∧ 1 ≤ k3 ∧ s6 = .int .i64 k3 ∧ numP f n i = fin n k3)
            case first =>
              cases hB : expB f n k2
              · have HB : Hid (¬ (k2 < n ∧ (f k2 = 101 ∨ f k2 = 69))) := expB_false hB
                go_wp2
                go_meet
                case rel => exact ⟨rfl, k2, hkn2, hk12, rfl, by rw [HN2.out, exp_none HB.out]⟩
              · have HB : Hid (k2 < n ∧ (f k2 = 101 ∨ f k2 = 69)) := expB_true hB
                have hkl := HB.out.1
                by_cases hs : k2 + 1 < n
                · obtain ⟨b', hb', hck1⟩ := hr.cell (k2 + 1) hs
                  cases hb'
                  by_cases h43 : f (k2 + 1) = 43
                  · have h43' : (f (k2 + 1) == 43) = true := by simp [h43]
                    have HS : Hid ((if k2 + 1 < n ∧ (f (k2 + 1) = 43 ∨ f (k2 + 1) = 45) then k2 + 2 else k2 + 1) = k2 + 2) := by show _ = _; rw [if_pos ⟨hs, .inl h43⟩]
                    clear h43
                    obtain ⟨e1, he1⟩ : ∃ e1, re f n (k2 + 2) = e1 + 1 := ⟨re f n (k2 + 2) - 1, by have := (re_run f n (k2 + 2)).lo; omega⟩
                    have hle : e1 + 1 ≤ n := by rw [← he1]; exact re_le f (by omega)
                    have hde := digitsEnd_any (some ⟨b, 0, none⟩) n cap f (k2 + 2) wc hr (by omega)
                    rw [he1, show ((e1 + 1 : Nat) : Int) = (e1 : Int) + 1 from by omega, show ((k2 + 2 : Nat) : Int) = (k2 : Int) + 1 + 1 from by omega] at hde
                    have HDE : Hid (Calls Try.prog 29 #[.slice (some ⟨b, 0, none⟩) n cap, .int .i64 ((k2 : Int) + 1 + 1)] wc fun e w' => e = .returned (.int .i64 ((e1 : Int) + 1)) ∧ w' = wc) := hde
                    have HE : Hid (re f n (k2 + 2) = e1 + 1) := he1
                    clear hde he1
                    obtain ⟨b', hb', hce⟩ := hr.cell e1 (by omega)
                    cases hb'
                    by_cases hen : e1 + 1 < n
                    · cases hd : isD (f e1)
                      · have HD : Hid (isD (f e1) = false) := hd
                        clear hd
                        go_wp2_with (first | (go_at_call 29; refine HDE.out.mono ?_; rintro e w' ⟨rfl, rfl⟩) | (go_at_call 28; refine (isDigit_no _ _ HD.out).mono ?_; rintro e w' ⟨rfl, rfl⟩))
                        go_ret2
                        exact ⟨ret2 (by rw [HN2.out, exp_un HB.out HS.out HE.out ⟨hen, HD.out⟩]), rfl⟩
                      · have HD : Hid (isD (f e1) = true) := hd
                        clear hd
                        go_wp2_with (first | (go_at_call 29; refine HDE.out.mono ?_; rintro e w' ⟨rfl, rfl⟩) | (go_at_call 28; refine (isDigit_yes _ _ HD.out).mono ?_; rintro e w' ⟨rfl, rfl⟩))
                        go_meet
                        case rel => exact ⟨rfl, e1 + 1, by omega, by omega, by go_num, by rw [HN2.out, exp_ok HB.out HS.out HE.out (fun x => by have := x.2; simp [HD.out] at this)]⟩
                    · go_wp2_with (go_at_call 29; refine HDE.out.mono ?_; rintro e w' ⟨rfl, rfl⟩)
                      go_meet
                      case rel => exact ⟨rfl, e1 + 1, by omega, by omega, by go_num, by rw [HN2.out, exp_ok HB.out HS.out HE.out (fun x => by omega)]⟩
                  · have h43' : (f (k2 + 1) == 43) = false := by simp [h43]
                    by_cases h45 : f (k2 + 1) = 45
                    · have h45' : (f (k2 + 1) == 45) = true := by simp [h45]
                      have HS : Hid ((if k2 + 1 < n ∧ (f (k2 + 1) = 43 ∨ f (k2 + 1) = 45) then k2 + 2 else k2 + 1) = k2 + 2) := by show _ = _; rw [if_pos ⟨hs, .inr h45⟩]
                      clear h43 h45
                      obtain ⟨e1, he1⟩ : ∃ e1, re f n (k2 + 2) = e1 + 1 := ⟨re f n (k2 + 2) - 1, by have := (re_run f n (k2 + 2)).lo; omega⟩
                      have hle : e1 + 1 ≤ n := by rw [← he1]; exact re_le f (by omega)
                      have hde := digitsEnd_any (some ⟨b, 0, none⟩) n cap f (k2 + 2) wc hr (by omega)
                      rw [he1, show ((e1 + 1 : Nat) : Int) = (e1 : Int) + 1 from by omega, show ((k2 + 2 : Nat) : Int) = (k2 : Int) + 1 + 1 from by omega] at hde
                      have HDE : Hid (Calls Try.prog 29 #[.slice (some ⟨b, 0, none⟩) n cap, .int .i64 ((k2 : Int) + 1 + 1)] wc fun e w' => e = .returned (.int .i64 ((e1 : Int) + 1)) ∧ w' = wc) := hde
                      have HE : Hid (re f n (k2 + 2) = e1 + 1) := he1
                      clear hde he1
                      obtain ⟨b', hb', hce⟩ := hr.cell e1 (by omega)
                      cases hb'
                      by_cases hen : e1 + 1 < n
                      · cases hd : isD (f e1)
                        · have HD : Hid (isD (f e1) = false) := hd
                          clear hd
                          go_wp2_with (first | (go_at_call 29; refine HDE.out.mono ?_; rintro e w' ⟨rfl, rfl⟩) | (go_at_call 28; refine (isDigit_no _ _ HD.out).mono ?_; rintro e w' ⟨rfl, rfl⟩))
                          go_ret2
                          exact ⟨ret2 (by rw [HN2.out, exp_un HB.out HS.out HE.out ⟨hen, HD.out⟩]), rfl⟩
                        · have HD : Hid (isD (f e1) = true) := hd
                          clear hd
                          go_wp2_with (first | (go_at_call 29; refine HDE.out.mono ?_; rintro e w' ⟨rfl, rfl⟩) | (go_at_call 28; refine (isDigit_yes _ _ HD.out).mono ?_; rintro e w' ⟨rfl, rfl⟩))
                          go_meet
                          case rel => exact ⟨rfl, e1 + 1, by omega, by omega, by go_num, by rw [HN2.out, exp_ok HB.out HS.out HE.out (fun x => by have := x.2; simp [HD.out] at this)]⟩
                      · go_wp2_with (go_at_call 29; refine HDE.out.mono ?_; rintro e w' ⟨rfl, rfl⟩)
                        go_meet
                        case rel => exact ⟨rfl, e1 + 1, by omega, by omega, by go_num, by rw [HN2.out, exp_ok HB.out HS.out HE.out (fun x => by omega)]⟩
                    · have h45' : (f (k2 + 1) == 45) = false := by simp [h45]
                      have HS : Hid ((if k2 + 1 < n ∧ (f (k2 + 1) = 43 ∨ f (k2 + 1) = 45) then k2 + 2 else k2 + 1) = k2 + 1) := by show _ = _; rw [if_neg (fun x => by omega)]
                      clear h43 h45
                      obtain ⟨e1, he1⟩ : ∃ e1, re f n (k2 + 1) = e1 + 1 := ⟨re f n (k2 + 1) - 1, by have := (re_run f n (k2 + 1)).lo; omega⟩
                      have hle : e1 + 1 ≤ n := by rw [← he1]; exact re_le f (by omega)
                      have hde := digitsEnd_any (some ⟨b, 0, none⟩) n cap f (k2 + 1) wc hr (by omega)
                      rw [he1, show ((e1 + 1 : Nat) : Int) = (e1 : Int) + 1 from by omega, show ((k2 + 1 : Nat) : Int) = (k2 : Int) + 1 from by omega] at hde
                      have HDE : Hid (Calls Try.prog 29 #[.slice (some ⟨b, 0, none⟩) n cap, .int .i64 ((k2 : Int) + 1)] wc fun e w' => e = .returned (.int .i64 ((e1 : Int) + 1)) ∧ w' = wc) := hde
                      have HE : Hid (re f n (k2 + 1) = e1 + 1) := he1
                      clear hde he1
                      obtain ⟨b', hb', hce⟩ := hr.cell e1 (by omega)
                      cases hb'
                      by_cases hen : e1 + 1 < n
                      · cases hd : isD (f e1)
                        · have HD : Hid (isD (f e1) = false) := hd
                          clear hd
                          go_wp2_with (first | (go_at_call 29; refine HDE.out.mono ?_; rintro e w' ⟨rfl, rfl⟩) | (go_at_call 28; refine (isDigit_no _ _ HD.out).mono ?_; rintro e w' ⟨rfl, rfl⟩))
                          go_ret2
                          exact ⟨ret2 (by rw [HN2.out, exp_un HB.out HS.out HE.out ⟨hen, HD.out⟩]), rfl⟩
                        · have HD : Hid (isD (f e1) = true) := hd
                          clear hd
                          go_wp2_with (first | (go_at_call 29; refine HDE.out.mono ?_; rintro e w' ⟨rfl, rfl⟩) | (go_at_call 28; refine (isDigit_yes _ _ HD.out).mono ?_; rintro e w' ⟨rfl, rfl⟩))
                          go_meet
                          case rel => exact ⟨rfl, e1 + 1, by omega, by omega, by go_num, by rw [HN2.out, exp_ok HB.out HS.out HE.out (fun x => by have := x.2; simp [HD.out] at this)]⟩
                      · go_wp2_with (go_at_call 29; refine HDE.out.mono ?_; rintro e w' ⟨rfl, rfl⟩)
                        go_meet
                        case rel => exact ⟨rfl, e1 + 1, by omega, by omega, by go_num, by rw [HN2.out, exp_ok HB.out HS.out HE.out (fun x => by omega)]⟩
                · have HS : Hid ((if k2 + 1 < n ∧ (f (k2 + 1) = 43 ∨ f (k2 + 1) = 45) then k2 + 2 else k2 + 1) = k2 + 1) := by show _ = _; rw [if_neg (fun x => by omega)]
                  obtain ⟨e1, he1⟩ : ∃ e1, re f n (k2 + 1) = e1 + 1 := ⟨re f n (k2 + 1) - 1, by have := (re_run f n (k2 + 1)).lo; omega⟩
                  have hle : e1 + 1 ≤ n := by rw [← he1]; exact re_le f (by omega)
                  have hde := digitsEnd_any (some ⟨b, 0, none⟩) n cap f (k2 + 1) wc hr (by omega)
                  rw [he1, show ((e1 + 1 : Nat) : Int) = (e1 : Int) + 1 from by omega, show ((k2 + 1 : Nat) : Int) = (k2 : Int) + 1 from by omega] at hde
                  have HDE : Hid (Calls Try.prog 29 #[.slice (some ⟨b, 0, none⟩) n cap, .int .i64 ((k2 : Int) + 1)] wc fun e w' => e = .returned (.int .i64 ((e1 : Int) + 1)) ∧ w' = wc) := hde
                  have HE : Hid (re f n (k2 + 1) = e1 + 1) := he1
                  clear hde he1
                  obtain ⟨b', hb', hce⟩ := hr.cell e1 (by omega)
                  cases hb'
                  by_cases hen : e1 + 1 < n
                  · cases hd : isD (f e1)
                    · have HD : Hid (isD (f e1) = false) := hd
                      clear hd
                      go_wp2_with (first | (go_at_call 29; refine HDE.out.mono ?_; rintro e w' ⟨rfl, rfl⟩) | (go_at_call 28; refine (isDigit_no _ _ HD.out).mono ?_; rintro e w' ⟨rfl, rfl⟩))
                      go_ret2
                      exact ⟨ret2 (by rw [HN2.out, exp_un HB.out HS.out HE.out ⟨hen, HD.out⟩]), rfl⟩
                    · have HD : Hid (isD (f e1) = true) := hd
                      clear hd
                      go_wp2_with (first | (go_at_call 29; refine HDE.out.mono ?_; rintro e w' ⟨rfl, rfl⟩) | (go_at_call 28; refine (isDigit_yes _ _ HD.out).mono ?_; rintro e w' ⟨rfl, rfl⟩))
                      go_meet
                      case rel => exact ⟨rfl, e1 + 1, by omega, by omega, by go_num, by rw [HN2.out, exp_ok HB.out HS.out HE.out (fun x => by have := x.2; simp [HD.out] at this)]⟩
                  · go_wp2_with (go_at_call 29; refine HDE.out.mono ?_; rintro e w' ⟨rfl, rfl⟩)
                    go_meet
                    case rel => exact ⟨rfl, e1 + 1, by omega, by omega, by go_num, by rw [HN2.out, exp_ok HB.out HS.out HE.out (fun x => by omega)]⟩
            case rest =>
              obtain ⟨rfl, k3, hkn3, hk13, rfl, hN3⟩ := hcut
              have HN3 : Hid (numP f n i = fin n k3) := hN3
              clear hN3 HN2
              by_cases hend : k3 < n
              · go_wp2
                go_ret2
                exact ⟨ret2 (by rw [HN3.out]; unfold fin; rw [if_neg (by omega)]), rfl⟩
              · go_wp2
                go_ret2
                exact ⟨ret2 (by rw [HN3.out]; unfold fin; rw [if_pos (by omega)]), rfl⟩

theorem zzScanNum_any (b : Nat) (n cap : Nat) (f : Nat → Int) (i : Nat) (w : World) (hr : Rd w (some ⟨b, 0, none⟩) n f) (hi : i < n) :
    Calls Try.prog 17 #[.slice (some ⟨b, 0, none⟩) n cap, .int .i64 i] w fun e w' => e = .returned (.tuple #[.int .i64 (numP f n i).1, .int .i64 (numP f n i).2]) ∧ w' = w := by
  go_enter Try.func17, Try.ntmps17
  go_wp2_with (go_at_call 24; refine (scanNum_any _ _ _ _ _ _ hr hi).mono ?_; rintro e w' ⟨rfl, rfl⟩)
  go_ret2
  exact ⟨rfl, rfl⟩
end Go.Proofs.Qxb6602349a
