/-
  Seat b6602381a: the walk of tyParseMatches (11) over the bracket text: it answers true.
-/
import Derived.Test.Qxb6602381aLay
import Derived.Deep.CutRange
import Derived.RegionTactic
import Derived.Deep.QuietTactic
import Derived.BigQuiet
namespace Go.Proofs.Qxb6602381a
open Go.RowKit

theorem nc_not {c : Int} (h : ncB c = true) : (c == 91) = false := by
  have := of_decide_eq_true h
  simp only [beq_eq_false_iff_ne, ne_eq]; omega

theorem drewN_below {B : Nat} {a w : World} (h : Below B a w) (n : Nat) : Below B a (w.drewN n) := ⟨h.os, h.tape, h.output, h.size, h.block⟩

set_option maxRecDepth 100000 in
set_option maxHeartbeats 2000000 in
theorem parse_any (g n cap m : Nat) (S nm0 : ByteArray) (nm : Nat → ByteArray) (fl : Nat → Bool) (P : Nat → Nat) (w : World) (L : Lay S n m nm0 fl P) (hL : Lvs w g n nm fl) (hnm : nm n = nm0) (hm : 1 ≤ m) :
    Calls Try.prog 11 #[.string S, .slice (some ⟨g, 0, none⟩) (n + 1) cap] w fun e w' => e = .returned (.bool true) ∧ Below w.heap.size w w' := by
  have HL : Hid (Lay S n m nm0 fl P) := L
  have HV : Hid (Lvs w g n nm fl) := hL
  have hsz := L.sz
  have hle := L.le
  have hn := hL.le
  have HX : Hid (nm n = nm0) := hnm
  clear L hL hnm
  go_enter Try.func11, Try.ntmps11
  go_wp2_with fail
  go_loop [6] (fun t => ∃ p : Nat, p ≤ n ∧ t = .int .i64 p) (fun t => n - (intOf t).toNat)
  case atStart => exact ⟨0, Nat.zero_le _, rfl⟩
  case round =>
    obtain ⟨p, hp, rfl⟩ := hrel
    by_cases hlt : p < n
    · have hb := HL.out.op p hlt
      go_wp2_with fail
      go_round
      case rel => exact ⟨p + 1, by omega, by go_num⟩
      case measure => simp [intOf]; omega
    · have hpn : p = n := by omega
      subst hpn
      have hps : p < S.size := by omega
      have hb : (((S[p]'hps).toNat : Int) == 91) = false := nc_not (HL.out.nc p (Nat.le_refl _) (by omega) hps)
      go_wp2_with fail
      go_loop [6] (fun t => ∃ r : Nat, p ≤ r ∧ r ≤ p + m ∧ t = .int .i64 r) (fun t => p + m - (intOf t).toNat)
      case atStart => exact ⟨p, Nat.le_refl _, by omega, rfl⟩
      case round =>
        obtain ⟨r, hr1, hr2, rfl⟩ := hrel
        by_cases hlr : r < p + m
        · have hrs : r < S.size := by omega
          have HC : Hid (ncB (((S[r]'hrs).toNat : Nat) : Int) = true) := HL.out.nc r hr1 hlr hrs
          go_wp2_with (go_at_call 17; refine (char_any _ _).mono ?_; rintro e w' ⟨rfl, rfl⟩; rw [HC.out])
          go_round
          case rel => exact ⟨r + 1, by omega, by omega, by go_num⟩
          case measure => simp [intOf]; omega
        · have hrp : r = p + m := by omega
          have hc0 := HV.out.c0 p (Nat.le_refl _)
          have hc2 := HV.out.c2 p (Nat.le_refl _)
          have hex : S.extract p r = nm p := by rw [hrp, HX.out]; exact HL.out.ex
          have HRP : Hid (r = p + m) := hrp
          have hrle : r ≤ S.size := by omega
          cases hf : fl p
          · have hbase := HL.out.baseF hf
            have HP0 : Hid (P 0 = r) := by show _ = _; rw [HRP.out]; exact hbase.1
            by_cases hrs : r < S.size
            · have HC : Hid (ncB 93 = false) := rfl
              have hb3 : (S[r]'hrs).toNat = 93 := by
                have h2 := hbase.2
                have h3 := HRP.out
                subst h3
                exact h2 hrs
              clear hbase hrp hlr
              go_wp2_with (go_at_call 17; refine (char_any _ _).mono ?_; rintro e w' ⟨rfl, rfl⟩; rw [HC.out])
              go_quiet (fail)
              go_wp2_with fail
              go_loop [6, 8, 9] (fun t6 t8 t9 => ∃ (c : Nat) (K : Int), c ≤ p ∧ K = (p : Int) - 1 - c ∧ t9 = .int .i64 K ∧ t6 = .int .i64 (P c : Nat)) (fun _ _ t => (intOf t + 1).toNat)
              case atStart => exact ⟨0, _, Nat.zero_le _, by simp, rfl, by rw [HP0.out] <;> go_num⟩
              case round =>
                obtain ⟨c, K, hc, hK, rfl, rfl⟩ := hrel
                by_cases hcp : c < p
                · obtain ⟨q, hq⟩ : ∃ q : Nat, q = p - (c + 1) := ⟨_, rfl⟩
                  have hKq : K = (q : Int) := by omega
                  have HQ : Hid (q = p - (c + 1)) := hq
                  have HQC : Hid (q + c + 1 = p) := by show q + c + 1 = p; omega
                  have hqp : q ≤ p := by omega
                  obtain ⟨hcl1, hcl2⟩ := HL.out.cl c hcp
                  have hv2 := HV.out.c2 q hqp
                  obtain ⟨y, hy⟩ : ∃ y, y = P c := ⟨_, rfl⟩
                  have HY : Hid (y = P c) := hy
                  rw [← hy]
                  rw [← hy] at hcl1
                  have hb1 : (S[y]'hcl1).toNat = 93 := by have := hcl2 (by rw [← hy]; exact hcl1); simpa only [hy] using this
                  clear hK hq hcl2 hy
                  subst hKq
                  cases hf : fl q
                  · have hx := HL.out.nxF c hcp (by rw [← HQ.out]; exact hf)
                    have HPN : Hid (P (c + 1) = y + 1) := by show _ = _; rw [HY.out]; exact hx.1
                    by_cases hy1 : y + 1 < S.size
                    · have hb2 : (S[y + 1]'hy1).toNat = 93 := by
                        have h2 := hx.2
                        have h3 := HY.out
                        subst h3
                        exact h2 hy1
                      clear hx
                      go_wp2_with fail
                      go_round
                      case rel => exact ⟨c + 1, _, by omega, by have := HQC.out; omega, rfl, by rw [HPN.out]; go_num⟩
                      case measure => simp [intOf]
                    · clear hx
                      go_wp2_with fail
                      go_round
                      case rel => exact ⟨c + 1, _, by omega, by have := HQC.out; omega, rfl, by rw [HPN.out]; go_num⟩
                      case measure => simp [intOf]
                  · have hx := HL.out.nxT c hcp (by rw [← HQ.out]; exact hf)
                    have HPN : Hid (P (c + 1) = y + 2) := by show _ = _; rw [HY.out]; exact hx.2.2
                    have hy1 : y + 1 < S.size := by rw [HY.out]; exact hx.1
                    have hb2 : (S[y + 1]'hy1).toNat = 33 := by
                      have h2 := hx.2.1
                      have h3 := HY.out
                      subst h3
                      exact h2 hy1
                    clear hx
                    go_wp2_with fail
                    go_round
                    case rel => exact ⟨c + 1, _, by omega, by have := HQC.out; omega, rfl, by rw [HPN.out]; go_num⟩
                    case measure => simp [intOf]
                · have hcc : c = p := by omega
                  have hK1 : K = -1 := by omega
                  subst hcc hK1
                  have hfin : ((P c : Nat) : Int) = (S.size : Int) := by rw [HL.out.fin]
                  go_wp2_with fail
                  go_ret
                  refine ⟨?_, drewN_below (Below.refl _ _) _⟩
                  simp
            · clear hbase hrp hlr
              go_wp2_with fail
              go_quiet (fail)
              go_wp2_with fail
              go_loop [6, 8, 9] (fun t6 t8 t9 => ∃ (c : Nat) (K : Int), c ≤ p ∧ K = (p : Int) - 1 - c ∧ t9 = .int .i64 K ∧ t6 = .int .i64 (P c : Nat)) (fun _ _ t => (intOf t + 1).toNat)
              case atStart => exact ⟨0, _, Nat.zero_le _, by simp, rfl, by rw [HP0.out] <;> go_num⟩
              case round =>
                obtain ⟨c, K, hc, hK, rfl, rfl⟩ := hrel
                by_cases hcp : c < p
                · obtain ⟨q, hq⟩ : ∃ q : Nat, q = p - (c + 1) := ⟨_, rfl⟩
                  have hKq : K = (q : Int) := by omega
                  have HQ : Hid (q = p - (c + 1)) := hq
                  have HQC : Hid (q + c + 1 = p) := by show q + c + 1 = p; omega
                  have hqp : q ≤ p := by omega
                  obtain ⟨hcl1, hcl2⟩ := HL.out.cl c hcp
                  have hv2 := HV.out.c2 q hqp
                  obtain ⟨y, hy⟩ : ∃ y, y = P c := ⟨_, rfl⟩
                  have HY : Hid (y = P c) := hy
                  rw [← hy]
                  rw [← hy] at hcl1
                  have hb1 : (S[y]'hcl1).toNat = 93 := by have := hcl2 (by rw [← hy]; exact hcl1); simpa only [hy] using this
                  clear hK hq hcl2 hy
                  subst hKq
                  cases hf : fl q
                  · have hx := HL.out.nxF c hcp (by rw [← HQ.out]; exact hf)
                    have HPN : Hid (P (c + 1) = y + 1) := by show _ = _; rw [HY.out]; exact hx.1
                    by_cases hy1 : y + 1 < S.size
                    · have hb2 : (S[y + 1]'hy1).toNat = 93 := by
                        have h2 := hx.2
                        have h3 := HY.out
                        subst h3
                        exact h2 hy1
                      clear hx
                      go_wp2_with fail
                      go_round
                      case rel => exact ⟨c + 1, _, by omega, by have := HQC.out; omega, rfl, by rw [HPN.out]; go_num⟩
                      case measure => simp [intOf]
                    · clear hx
                      go_wp2_with fail
                      go_round
                      case rel => exact ⟨c + 1, _, by omega, by have := HQC.out; omega, rfl, by rw [HPN.out]; go_num⟩
                      case measure => simp [intOf]
                  · have hx := HL.out.nxT c hcp (by rw [← HQ.out]; exact hf)
                    have HPN : Hid (P (c + 1) = y + 2) := by show _ = _; rw [HY.out]; exact hx.2.2
                    have hy1 : y + 1 < S.size := by rw [HY.out]; exact hx.1
                    have hb2 : (S[y + 1]'hy1).toNat = 33 := by
                      have h2 := hx.2.1
                      have h3 := HY.out
                      subst h3
                      exact h2 hy1
                    clear hx
                    go_wp2_with fail
                    go_round
                    case rel => exact ⟨c + 1, _, by omega, by have := HQC.out; omega, rfl, by rw [HPN.out]; go_num⟩
                    case measure => simp [intOf]
                · have hcc : c = p := by omega
                  have hK1 : K = -1 := by omega
                  subst hcc hK1
                  have hfin : ((P c : Nat) : Int) = (S.size : Int) := by rw [HL.out.fin]
                  go_wp2_with fail
                  go_ret
                  refine ⟨?_, drewN_below (Below.refl _ _) _⟩
                  simp
          · have hbase := HL.out.baseT hf
            have hrs : r < S.size := by rw [HRP.out]; exact hbase.1
            have HC : Hid (ncB 33 = false) := rfl
            have hb3 : (S[r]'hrs).toNat = 33 := by
              have h2 := hbase.2.1
              have h3 := HRP.out
              subst h3
              exact h2 hrs
            have HP0 : Hid (P 0 = r + 1) := by show _ = _; rw [HRP.out]; exact hbase.2.2
            clear hbase hrp hlr
            go_wp2_with (go_at_call 17; refine (char_any _ _).mono ?_; rintro e w' ⟨rfl, rfl⟩; rw [HC.out])
            go_quiet (fail)
            go_wp2_with fail
            go_loop [6, 8, 9] (fun t6 t8 t9 => ∃ (c : Nat) (K : Int), c ≤ p ∧ K = (p : Int) - 1 - c ∧ t9 = .int .i64 K ∧ t6 = .int .i64 (P c : Nat)) (fun _ _ t => (intOf t + 1).toNat)
            case atStart => exact ⟨0, _, Nat.zero_le _, by simp, rfl, by rw [HP0.out] <;> go_num⟩
            case round =>
              obtain ⟨c, K, hc, hK, rfl, rfl⟩ := hrel
              by_cases hcp : c < p
              · obtain ⟨q, hq⟩ : ∃ q : Nat, q = p - (c + 1) := ⟨_, rfl⟩
                have hKq : K = (q : Int) := by omega
                have HQ : Hid (q = p - (c + 1)) := hq
                have HQC : Hid (q + c + 1 = p) := by show q + c + 1 = p; omega
                have hqp : q ≤ p := by omega
                obtain ⟨hcl1, hcl2⟩ := HL.out.cl c hcp
                have hv2 := HV.out.c2 q hqp
                obtain ⟨y, hy⟩ : ∃ y, y = P c := ⟨_, rfl⟩
                have HY : Hid (y = P c) := hy
                rw [← hy]
                rw [← hy] at hcl1
                have hb1 : (S[y]'hcl1).toNat = 93 := by have := hcl2 (by rw [← hy]; exact hcl1); simpa only [hy] using this
                clear hK hq hcl2 hy
                subst hKq
                cases hf : fl q
                · have hx := HL.out.nxF c hcp (by rw [← HQ.out]; exact hf)
                  have HPN : Hid (P (c + 1) = y + 1) := by show _ = _; rw [HY.out]; exact hx.1
                  by_cases hy1 : y + 1 < S.size
                  · have hb2 : (S[y + 1]'hy1).toNat = 93 := by
                      have h2 := hx.2
                      have h3 := HY.out
                      subst h3
                      exact h2 hy1
                    clear hx
                    go_wp2_with fail
                    go_round
                    case rel => exact ⟨c + 1, _, by omega, by have := HQC.out; omega, rfl, by rw [HPN.out]; go_num⟩
                    case measure => simp [intOf]
                  · clear hx
                    go_wp2_with fail
                    go_round
                    case rel => exact ⟨c + 1, _, by omega, by have := HQC.out; omega, rfl, by rw [HPN.out]; go_num⟩
                    case measure => simp [intOf]
                · have hx := HL.out.nxT c hcp (by rw [← HQ.out]; exact hf)
                  have HPN : Hid (P (c + 1) = y + 2) := by show _ = _; rw [HY.out]; exact hx.2.2
                  have hy1 : y + 1 < S.size := by rw [HY.out]; exact hx.1
                  have hb2 : (S[y + 1]'hy1).toNat = 33 := by
                    have h2 := hx.2.1
                    have h3 := HY.out
                    subst h3
                    exact h2 hy1
                  clear hx
                  go_wp2_with fail
                  go_round
                  case rel => exact ⟨c + 1, _, by omega, by have := HQC.out; omega, rfl, by rw [HPN.out]; go_num⟩
                  case measure => simp [intOf]
              · have hcc : c = p := by omega
                have hK1 : K = -1 := by omega
                subst hcc hK1
                have hfin : ((P c : Nat) : Int) = (S.size : Int) := by rw [HL.out.fin]
                go_wp2_with fail
                go_ret
                refine ⟨?_, drewN_below (Below.refl _ _) _⟩
                simp
end Go.Proofs.Qxb6602381a
