/-
  The proof of Rows.FnScanNumberAgreesWithScanIntOnIntegersSaid, in the shell that the kit's tool wrote for this function.
-/
import Derived.Test.Qxb6602349aRows
import Derived.Test.Qxb6602349aClone
import Derived.Test.Qxb6602349aScanNum
import Derived.WalkKit
import Derived.ProofKit
import Derived.OpenShut
import Derived.ShutString
import Derived.ChangeOld
import Derived.Below
namespace Go.Proofs.Qxb6602349a.fnScanNumberAgreesWithScanIntOnIntegers
open Go.ChangeShapes Go.WideShapes Go.ChangeAt Go.RowKit
open Go.ChangeMaps (open_string shut_string)
set_option linter.unusedVariables false

theorem own : ownKnob Try.prog.godebug = none := by kernel_rfl
theorem laidOut : laidOutB Try.prog = true := by kernel_rfl

/-- WHAT THE WALK IS TOLD OF A SLICE OF INTEGERS THAT CAME IN: it is nil; or it leads to a row of 'cap' cells, the numbers 'zs' (the first 'len' are its elements, the rest its spare room), each fitting its kind. -/
def IsRow (k : IntKind) (w : World) (a : Option Addr) (len cap : Nat) (zs : List Int) : Prop :=
  (a = none ∧ len = 0 ∧ cap = 0 ∧ zs = []) ∨
  ∃ x, a = some x ∧ len ≤ cap ∧ cap ≤ maxLen ∧ zs.length = cap ∧ (∀ i, i < zs.length → w.cell? (x.add i) = some (.int k (zs.getD i 0))) ∧ ∀ n ∈ zs, (Lit.int k n).wf = true

/-! ### STEP 1: THE WALK -/
open Plain

set_option maxHeartbeats 1000000 in
theorem walk (a0 : Option Addr) (len0 cap0 : Nat) (z0 : List Int) (a1 : Int) (w : World) (w0 : IsRow .u8 w a0 len0 cap0 z0) (w1 : (Lit.int .i64 a1).wf = true) :
    Calls Try.prog 7 #[.slice a0 len0 cap0, .int .i64 a1] w fun e w' => e = .returned (.bool true) ∧ Below w.heap.size w w' := by
  by_cases hlen : 1048576 < len0
  · go_enter Try.func7, Try.ntmps7
    go_wp2
    go_ret
    exact ⟨rfl, Below.refl _ _⟩
  · by_cases hneg : a1 < 0
    · go_enter Try.func7, Try.ntmps7
      go_wp2
      go_ret
      exact ⟨rfl, Below.refl _ _⟩
    · obtain ⟨i, rfl⟩ : ∃ i : Nat, a1 = (i : Int) := ⟨a1.toNat, by omega⟩
      have hi : (i : Int) ≤ 9223372036854775807 := by
        simp [Lit.wf, IntKind.min, IntKind.max, IntKind.signed, IntKind.bits] at w1
        omega
      have W0 : Hid (IsRow .u8 w a0 len0 cap0 z0) := w0
      have hl : len0 ≤ 1048576 := by omega
      clear w0 w1
      by_cases hs : (scanP (fun i => z0.getD i 0) len0 i).2.2 = 0
      · obtain ⟨k, hk, hkn, hin, hlaw⟩ := num_of_scan _ _ _ hs
        have HSC : Hid (∀ (W : World) (a : Option Addr), Rd W a len0 (fun i => z0.getD i 0) → Calls Try.prog 11 #[.slice a len0 len0, .int .i64 i] W fun e w' => e = .returned (.tuple #[.int .i64 (scanP (fun i => z0.getD i 0) len0 i).1, .int .i64 (k : Int), .int .i64 0]) ∧ w' = W) := by
          intro W a hrd
          have := zzScanInt_any a len0 len0 _ i W hrd hi
          rw [hk, hs] at this
          exact this
        obtain ⟨x1, hx1⟩ : ∃ x1, x1 = (scanP (fun i => z0.getD i 0) len0 i).1 := ⟨_, rfl⟩
        rw [← hx1] at HSC
        obtain ⟨c, hc⟩ : ∃ c, c = z0.getD k 0 := ⟨_, rfl⟩
        have hlaw : c ≠ 46 → c ≠ 101 → c ≠ 69 → numP (fun i => z0.getD i 0) len0 i = ((k : Int), 0) := by rw [hc]; exact hlaw
        have HC : Hid (c = z0.getD k 0) := hc
        clear hx1 hs hk hc
        by_cases h46 : c = 46
        · have h46' : (c == 46) = true := by simp [h46]
          clear h46 hlaw
          go_enter Try.func7, Try.ntmps7
          go_wp2_with (first
            | (go_at_call 10; refine (clone_any _ _ _ _ _ W0.out hl).mono ?_; rintro e w1 ⟨a', rfl, hr, hb⟩; obtain ⟨bb, rfl, hcell⟩ := hr.cell k hkn; rw [← HC.out] at hcell)
            | (go_at_call 11; refine (HSC.out _ _ (by assumption)).mono ?_; rintro e w2 ⟨rfl, rfl⟩)
            | go_in)
          go_ret
          exact ⟨rfl, by assumption⟩
        · have h46' : (c == 46) = false := by simp [h46]
          by_cases h101 : c = 101
          · have h101' : (c == 101) = true := by simp [h101]
            clear h46 h101 hlaw
            go_enter Try.func7, Try.ntmps7
            go_wp2_with (first
              | (go_at_call 10; refine (clone_any _ _ _ _ _ W0.out hl).mono ?_; rintro e w1 ⟨a', rfl, hr, hb⟩; obtain ⟨bb, rfl, hcell⟩ := hr.cell k hkn; rw [← HC.out] at hcell)
              | (go_at_call 11; refine (HSC.out _ _ (by assumption)).mono ?_; rintro e w2 ⟨rfl, rfl⟩)
              | go_in)
            go_ret
            exact ⟨rfl, by assumption⟩
          · have h101' : (c == 101) = false := by simp [h101]
            by_cases h69 : c = 69
            · have h69' : (c == 69) = true := by simp [h69]
              clear h46 h101 h69 hlaw
              go_enter Try.func7, Try.ntmps7
              go_wp2_with (first
                | (go_at_call 10; refine (clone_any _ _ _ _ _ W0.out hl).mono ?_; rintro e w1 ⟨a', rfl, hr, hb⟩; obtain ⟨bb, rfl, hcell⟩ := hr.cell k hkn; rw [← HC.out] at hcell)
                | (go_at_call 11; refine (HSC.out _ _ (by assumption)).mono ?_; rintro e w2 ⟨rfl, rfl⟩)
                | go_in)
              go_ret
              exact ⟨rfl, by assumption⟩
            · have h69' : (c == 69) = false := by simp [h69]
              have HNUM : Hid (numP (fun i => z0.getD i 0) len0 i = ((k : Int), 0)) := hlaw h46 h101 h69
              clear h46 h101 h69 hlaw
              go_enter Try.func7, Try.ntmps7
              go_wp2_with (first
                | (go_at_call 10; refine (clone_any _ _ _ _ _ W0.out hl).mono ?_; rintro e w1 ⟨a', rfl, hr, hb⟩; obtain ⟨bb, rfl, hcell⟩ := hr.cell k hkn; rw [← HC.out] at hcell)
                | (go_at_call 11; refine (HSC.out _ _ (by assumption)).mono ?_; rintro e w2 ⟨rfl, rfl⟩)
                | (go_at_call 17; refine (zzScanNum_any _ _ _ _ _ _ (by assumption) hin).mono ?_; rintro e w2 ⟨rfl, rfl⟩; rw [HNUM.out])
                | go_in)
              go_ret
              exact ⟨rfl, by assumption⟩
      · obtain ⟨x3, hx3⟩ : ∃ x3, x3 = (scanP (fun i => z0.getD i 0) len0 i).2.2 := ⟨_, rfl⟩
        have HX : Hid (x3 = (scanP (fun i => z0.getD i 0) len0 i).2.2) := hx3
        have hs' : (x3 != 0) = true := by rw [hx3]; simpa using hs
        clear hs hx3
        go_enter Try.func7, Try.ntmps7
        go_wp2_with (first
          | (go_at_call 10; refine (clone_any _ _ _ _ _ W0.out hl).mono ?_; rintro e w1 ⟨a', rfl, hr, hb⟩)
          | (go_at_call 11; refine (zzScanInt_any _ _ _ _ _ _ (by assumption) hi).mono ?_; rintro e w2 ⟨rfl, rfl⟩; rw [← HX.out])
          | go_in)
        go_ret
        exact ⟨rfl, by assumption⟩

/-! ### THE ROW's STEP: WRITTEN OUT: LEAVE IT -/
set_option maxRecDepth 100000 in
theorem lifted (os : Os) (started : os.Started) (H : Type) (enc : TypeId × Value → H) :
    ReturnsInHanded {} Try.checked os 7 .any (Rows.fnScanNumberAgreesWithScanIntOnIntegersSpec.pre6 enc Try.prog Try.f7 Rows.fnScanNumberAgreesWithScanIntOnIntegersRow.domain false) (Rows.fnScanNumberAgreesWithScanIntOnIntegersSpec.post enc Try.prog Try.f7 false true false false) := by
  refine returnsInHanded_of_change (C := Try.checked) own started (by kernel_rfl) Try.func7
    (ChangeSpec.witness6 (enc := enc) (C := Try.checked) false ⟨#[], #[.slice none 0 0, .int .i64 0], []⟩ 8 (by kernel_rfl) (by kernel_rfl) (by kernel_rfl) (by kernel_rfl)) ?_
  intro W base args ds gs before hval0 hW hcnd _
  have hval : ∀ (j : Nat) t v, Try.f7.params[j]? = some t → args[j]? = some v → Value.okWide Try.prog W .any base t v := hval0
  have hW' := hW
  obtain ⟨p, q, hA0, hV, rfl, hfz, hnd⟩ := hW
  have hA : DataW.TrodAll enc Try.prog W 0 (fun _ => true) true Try.f7.params.toList args.toList ds p := hA0
  rw [Try.params7] at hA hval
  obtain ⟨v0, vs0, d0, ds0, p0, q0, hargs, rfl, rfl, h0, r0⟩ := trodAll_cons hA
  obtain ⟨v1, vs1, d1, ds1, p1, q1, rfl, rfl, rfl, h1, r1⟩ := trodAll_cons r0
  obtain ⟨rfl, rfl, rfl⟩ := trodAll_nil r1
  obtain rfl : args = #[v0, v1] := by cases args; simp_all
  obtain ⟨rfl, rfl⟩ := trodVars_none hV
  obtain ⟨a0, len0, cap0, rfl⟩ := okWide_slice Try.underlying22 (hval 0 22 v0 rfl rfl)
  have k0 := h0
  have lt0 : ∀ x ∈ p0, x.block < W.heap.size := by obtain ⟨m, hm⟩ := k0; exact DataW.trod_lt m _ _ _ hm
  obtain ⟨z0, w0⟩ : ∃ zs, IsRow .u8 W a0 len0 cap0 zs := by
    obtain ⟨fuel, hf⟩ := h0
    rcases open_ints Try.underlying22 Try.underlying5 (by kernel_rfl) hf with ⟨hcs, _⟩ | ⟨x, l, c, zs, hcs, _, hl, hm, hz, _, hcell, hwz⟩
    · simp [Value.cells] at hcs
      obtain ⟨rfl, rfl, rfl⟩ := hcs
      exact ⟨[], .inl ⟨rfl, rfl, rfl, rfl⟩⟩
    · simp [Value.cells] at hcs
      obtain ⟨rfl, rfl, rfl⟩ := hcs
      exact ⟨zs, .inr ⟨_, rfl, hl, hm, by simpa using hz, hcell, hwz⟩⟩
  obtain ⟨a1, rfl, rfl, rfl, w1⟩ := open_int Try.underlying3 (hval 1 3 v1 rfl rfl) h1
  clear hA0 hval0
  refine (walk a0 len0 cap0 z0 a1 W w0 w1).mono fun e W' ⟨he, bel⟩ => ?_
  subst he
  exact ⟨_, rfl, _, _, _, [], _, [], hW', trodAll_mk1 (shut_bool Try.underlying4 _), (trodAll_cons_mk (Below.trod laidOut (by kernel_rfl) (of_decide_eq_true (by kernel_rfl)) k0 bel lt0) (trodAll_cons_mk (shut_int Try.underlying3 w1) trodAll_mk0)), rfl, bel.frame _, fun h => by cases h⟩

theorem over : Rows.fnScanNumberAgreesWithScanIntOnIntegersRow.holds Try.pinned (OpenSpec.ofChange Rows.fnScanNumberAgreesWithScanIntOnIntegersSpec) :=
  OpenClaim.holds_of_wide 7 Try.f7 rfl rfl rfl rfl rfl rfl rfl ⟨rfl, rfl, rfl, rfl, rfl⟩ rfl rfl rfl rfl rfl (by kernel_rfl) Try.func7 (by kernel_rfl)
    (of_decide_eq_true (by kernel_rfl)) (by unfold Func.isWrapper; first | (rw [if_pos (by decide +kernel)]; kernel_rfl) | (rw [if_neg (by decide +kernel)]; exact ⟨rfl, rfl⟩))
    (fun os started H enc _ => lifted os started H enc)

/-- ████ THE STATEMENT ████ -/
theorem proved : Rows.FnScanNumberAgreesWithScanIntOnIntegersSaid := over
end Go.Proofs.Qxb6602349a.fnScanNumberAgreesWithScanIntOnIntegers

namespace Go.Proofs.Qxb6602349a
theorem fnScanNumberAgreesWithScanIntOnIntegers_proved : Rows.FnScanNumberAgreesWithScanIntOnIntegersSaid := fnScanNumberAgreesWithScanIntOnIntegers.proved
end Go.Proofs.Qxb6602349a
