/-
  Seat b6602381a: the walks of tyNameStart (16), tyNameChar (17), tyIsName (10).
-/
import Derived.Test.Qxb6602381aTy
namespace Go.Proofs.Qxb6602381a
open Go.RowKit

def nsB (c : Int) : Bool := decide (c = 95 ∨ (97 ≤ c ∧ c ≤ 122) ∨ (65 ≤ c ∧ c ≤ 90))
def ncB (c : Int) : Bool := decide (c = 95 ∨ (97 ≤ c ∧ c ≤ 122) ∨ (65 ≤ c ∧ c ≤ 90) ∨ (48 ≤ c ∧ c ≤ 57))
theorem ns_nc {c : Int} (h : nsB c = true) : ncB c = true := by
  have := of_decide_eq_true h
  exact decide_eq_true (by omega)

theorem start_any (c : Int) (w : World) : Calls Try.prog 16 #[.int .u8 c] w fun e w' => e = .returned (.bool (nsB c)) ∧ w' = w := by
  by_cases h1 : c = 95
  · subst h1
    go_enter Try.func16, Try.ntmps16
    go_wp2_with fail
    go_ret
    exact ⟨rfl, rfl⟩
  · have h1' : (c == 95) = false := by simp [h1]
    by_cases h2 : 97 ≤ c
    · by_cases h3 : c ≤ 122
      · have e : nsB c = true := decide_eq_true (by omega)
        rw [e]
        clear h1 e
        go_enter Try.func16, Try.ntmps16
        go_wp2_with fail
        go_ret
        exact ⟨rfl, rfl⟩
      · have e : nsB c = false := decide_eq_false (by omega)
        rw [e]
        have h3' : decide (c ≤ 122) = false := by simp only [decide_eq_false_iff_not]; omega
        have h4 : 65 ≤ c := by omega
        have h5' : decide (c ≤ 90) = false := by simp only [decide_eq_false_iff_not]; omega
        clear h1 e
        go_enter Try.func16, Try.ntmps16
        go_wp2_with fail
        go_ret
        exact ⟨rfl, rfl⟩
    · have h2' : decide (97 ≤ c) = false := by simp only [decide_eq_false_iff_not]; omega
      by_cases h4 : 65 ≤ c
      · by_cases h5 : c ≤ 90
        · have e : nsB c = true := decide_eq_true (by omega)
          rw [e]
          clear h1 e
          go_enter Try.func16, Try.ntmps16
          go_wp2_with fail
          go_ret
          exact ⟨rfl, rfl⟩
        · have e : nsB c = false := decide_eq_false (by omega)
          rw [e]
          have h5' : decide (c ≤ 90) = false := by simp only [decide_eq_false_iff_not]; omega
          clear h1 e
          go_enter Try.func16, Try.ntmps16
          go_wp2_with fail
          go_ret
          exact ⟨rfl, rfl⟩
      · have e : nsB c = false := decide_eq_false (by omega)
        rw [e]
        have h4' : decide (65 ≤ c) = false := by simp only [decide_eq_false_iff_not]; omega
        clear h1 e
        go_enter Try.func16, Try.ntmps16
        go_wp2_with fail
        go_ret
        exact ⟨rfl, rfl⟩

theorem char_any (c : Int) (w : World) : Calls Try.prog 17 #[.int .u8 c] w fun e w' => e = .returned (.bool (ncB c)) ∧ w' = w := by
  cases hs : nsB c
  · have HS : Hid (nsB c = false) := hs
    have hn := of_decide_eq_false hs
    clear hs
    by_cases h1 : 48 ≤ c
    · by_cases h2 : c ≤ 57
      · have e : ncB c = true := decide_eq_true (by omega)
        rw [e]
        clear e hn
        go_enter Try.func17, Try.ntmps17
        go_wp2_with (go_at_call 16; refine (start_any _ _).mono ?_; rintro e w' ⟨rfl, rfl⟩; rw [HS.out])
        go_ret
        exact ⟨rfl, rfl⟩
      · have e : ncB c = false := decide_eq_false (by omega)
        rw [e]
        have h2' : decide (c ≤ 57) = false := by simp only [decide_eq_false_iff_not]; omega
        clear e hn
        go_enter Try.func17, Try.ntmps17
        go_wp2_with (go_at_call 16; refine (start_any _ _).mono ?_; rintro e w' ⟨rfl, rfl⟩; rw [HS.out])
        go_ret
        exact ⟨rfl, rfl⟩
    · have e : ncB c = false := decide_eq_false (by omega)
      rw [e]
      have h1' : decide (48 ≤ c) = false := by simp only [decide_eq_false_iff_not]; omega
      clear e hn
      go_enter Try.func17, Try.ntmps17
      go_wp2_with (go_at_call 16; refine (start_any _ _).mono ?_; rintro e w' ⟨rfl, rfl⟩; rw [HS.out])
      go_ret
      exact ⟨rfl, rfl⟩
  · have HS : Hid (nsB c = true) := hs
    have e : ncB c = true := ns_nc hs
    rw [e]
    clear hs e
    go_enter Try.func17, Try.ntmps17
    go_wp2_with (go_at_call 16; refine (start_any _ _).mono ?_; rintro e w' ⟨rfl, rfl⟩; rw [HS.out])
    go_ret
    exact ⟨rfl, rfl⟩

/-- a Bool is handed back, of which Q holds -/
def Ans (Q : Bool → Prop) (e : Ending) : Prop := ∃ b, e = .returned (.bool b) ∧ Q b
theorem ans {Q : Bool → Prop} {e : Ending} (b : Bool) (h : e = .returned (.bool b)) (q : Q b) : Ans Q e := ⟨b, h, q⟩

set_option maxHeartbeats 1000000 in
theorem isName_any (s : ByteArray) (w : World) (hs : s.size ≤ 1048576) :
    Calls Try.prog 10 #[.string s] w fun e w' => Ans (fun b => b = true → 1 ≤ s.size ∧ ∀ i (h : i < s.size), ncB (((s[i]'h).toNat : Nat) : Int) = true) e ∧ w' = w := by
  by_cases h0 : s.size = 0
  · have h0' : ((s.size : Int) == 0) = true := by simp [h0]
    go_enter Try.func10, Try.ntmps10
    go_wp2_with fail
    go_ret
    exact ⟨ans false rfl (fun h => by cases h), rfl⟩
  · have h0' : ((s.size : Int) == 0) = false := by simp only [beq_eq_false_iff_ne, ne_eq]; omega
    have hp : 0 < s.size := by omega
    cases hst : nsB (((s[0]'hp).toNat : Nat) : Int)
    · have HST : Hid (nsB (((s[0]'hp).toNat : Nat) : Int) = false) := hst
      clear hst h0
      go_enter Try.func10, Try.ntmps10
      go_wp2_with (go_at_call 16; refine (start_any _ _).mono ?_; rintro e w' ⟨rfl, rfl⟩; rw [HST.out])
      go_ret
      exact ⟨ans false rfl (fun h => by cases h), rfl⟩
    · have HST : Hid (nsB (((s[0]'hp).toNat : Nat) : Int) = true) := hst
      clear hst h0
      go_enter Try.func10, Try.ntmps10
      go_wp2_with (go_at_call 16; refine (start_any _ _).mono ?_; rintro e w' ⟨rfl, rfl⟩; rw [HST.out])
      go_loop [3] (fun t => ∃ k : Nat, 1 ≤ k ∧ k ≤ s.size ∧ t = .int .i64 k ∧ ∀ i (h : i < s.size), i < k → ncB (((s[i]'h).toNat : Nat) : Int) = true) (fun t => s.size - (intOf t).toNat)
      case atStart =>
        refine ⟨1, by omega, by omega, rfl, fun i h hi => ?_⟩
        obtain rfl : i = 0 := by omega
        exact ns_nc HST.out
      case round =>
        obtain ⟨k, hk1, hk, rfl, hall⟩ := hrel
        have HALL : Hid (∀ i (h : i < s.size), i < k → ncB (((s[i]'h).toNat : Nat) : Int) = true) := hall
        clear hall
        by_cases hlt : k < s.size
        · cases hc : ncB (((s[k]'hlt).toNat : Nat) : Int)
          · have HC : Hid (ncB (((s[k]'hlt).toNat : Nat) : Int) = false) := hc
            clear hc
            go_wp2_with (go_at_call 17; refine (char_any _ _).mono ?_; rintro e w' ⟨rfl, rfl⟩; rw [HC.out])
            go_ret
            exact ⟨ans false rfl (fun h => by cases h), rfl⟩
          · have HC : Hid (ncB (((s[k]'hlt).toNat : Nat) : Int) = true) := hc
            clear hc
            go_wp2_with (go_at_call 17; refine (char_any _ _).mono ?_; rintro e w' ⟨rfl, rfl⟩; rw [HC.out])
            go_round
            case rel =>
              refine ⟨k + 1, by omega, by omega, by go_num, fun i h hi => ?_⟩
              by_cases hik : i = k
              · subst hik; exact HC.out
              · exact HALL.out i h (by omega)
            case measure => simp [intOf]; omega
        · go_wp2_with fail
          go_ret
          exact ⟨ans true rfl (fun _ => ⟨by omega, fun i h => HALL.out i h (by omega)⟩), rfl⟩
end Go.Proofs.Qxb6602381a
