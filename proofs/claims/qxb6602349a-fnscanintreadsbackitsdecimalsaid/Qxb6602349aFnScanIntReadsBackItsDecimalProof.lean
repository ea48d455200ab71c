/-
  The proof of Rows.FnScanIntReadsBackItsDecimalSaid, in the shell that the kit's tool wrote for this function.
-/
import Derived.Test.Qxb6602349aRows
import Derived.Test.Qxb6602349aDecWalk
import Derived.WalkKit
import Derived.ProofKit
import Derived.OpenShut
import Derived.ShutString
import Derived.ChangeOld
import Derived.Below
namespace Go.Proofs.Qxb6602349a.fnScanIntReadsBackItsDecimal
open Go.ChangeShapes Go.WideShapes Go.ChangeAt Go.RowKit
open Go.ChangeMaps (open_string shut_string)
set_option linter.unusedVariables false

theorem own : ownKnob Try.prog.godebug = none := by kernel_rfl
theorem laidOut : laidOutB Try.prog = true := by kernel_rfl

/-- WHAT THE WALK IS TOLD OF A SLICE OF INTEGERS THAT CAME IN: it is nil; or it leads to a row of 'cap' cells, the numbers 'zs' (the first 'len' are its elements, the rest its spare room), each fitting its kind. -/
def IsRow (k : IntKind) (w : World) (a : Option Addr) (len cap : Nat) (zs : List Int) : Prop :=
  (a = none ∧ len = 0 ∧ cap = 0 ∧ zs = []) ∨
  ∃ x, a = some x ∧ len ≤ cap ∧ cap ≤ maxLen ∧ zs.length = cap ∧ (∀ i, i < zs.length → w.cell? (x.add i) = some (.int k (zs.getD i 0))) ∧ ∀ n ∈ zs, (Lit.int k n).wf = true

/-! ### STEP 1: THE WALK -/
open Plain

/-- the clone's bytes as a list -/
theorem pre_len (f : Nat → Int) (len : Nat) : ((List.range len).map f).length = len := by simp
theorem pre_cells {w w3 : World} {a : Option Addr} {len : Nat} {f : Nat → Int} (hr : Rd w a len f) (hb : Below w.heap.size w w3) :
    ∀ ad, a = some ad → ∀ j u, (((List.range len).map f).map (Value.int .u8))[j]? = some u → w3.cell? (ad.add j) = some u := by
  intro ad ha j u hu
  have hj : j < len := by have := (List.getElem?_eq_some_iff.1 hu).1; simpa using this
  obtain ⟨b, hab, hc⟩ := hr.cell j hj
  rw [ha] at hab
  cases hab
  have hu2 : u = .int .u8 (f j) := by
    simp [List.getElem?_range hj] at hu
    exact hu.symm
  rw [hu2, Addr.add_lit]
  exact cell_later hb (by simpa using hc)
theorem pre_nil {w : World} {a : Option Addr} {len : Nat} {f : Nat → Int} (hr : Rd w a len f) : a = none → len = 0 ∧ len = 0 := by
  intro h
  have : len = 0 := by
    apply Classical.byContradiction
    intro h0
    obtain ⟨b, hb, _⟩ := hr.cell 0 (by omega)
    rw [h] at hb; cases hb
  exact ⟨this, this⟩
theorem pre_bd {w : World} {a : Option Addr} {len : Nat} {f : Nat → Int} (hr : Rd w a len f) : ∀ z ∈ (List.range len).map f, 0 ≤ z ∧ z ≤ 255 := by
  intro z hz
  obtain ⟨i, hi, rfl⟩ := List.mem_map.1 hz
  have hi := List.mem_range.1 hi
  exact ⟨hr.lo i hi, hr.hi i hi⟩

theorem text_cells {w2 w3 w4 : World} {B g L cap : Nat} {T : List Int} (h : w2.ownsRow B 5 1 (.slice (some ⟨g, 0, none⟩) L cap) L (T.map (Value.int .u8)))
    (h3 : w2.grownBy w3 none) (h4 : w3.grownBy w4 (some w2.heap.size)) : ∀ j u, (T.map (Value.int .u8))[j]? = some u → w4.cell? ((⟨g, 0, none⟩ : Addr).add j) = some u := by
  have hlt := (h.lt g rfl).2
  exact ((h.kept h3 (.inr (by simp [Value.ownBlock]))).kept h4 (.inr (by simp [Value.ownBlock]; omega))).cells rfl
theorem own_join {w : World} {B g n cap : Nat} {P T : List Int} {p : Int} (h : w.ownsRow B 5 1 (.slice (some ⟨g, 0, none⟩) n cap) n (P.map (Value.int .u8) ++ T.map (Value.int .u8) ++ [.int .u8 p])) :
    w.ownsRow B 5 1 (.slice (some ⟨g, 0, none⟩) n cap) n ((P ++ (T ++ [p])).map (Value.int .u8)) := by
  simpa using h

set_option maxHeartbeats 1000000 in
theorem walk (a0 : Option Addr) (len0 cap0 : Nat) (z0 : List Int) (a1 : Int) (a2 : Int) (w : World) (w0 : IsRow .u8 w a0 len0 cap0 z0) (w1 : (Lit.int .i64 a1).wf = true) (w2 : (Lit.int .u8 a2).wf = true) :
    Calls Try.prog 4 #[.slice a0 len0 cap0, .int .i64 a1, .int .u8 a2] w fun e w' => e = .returned (.bool true) ∧ Below w.heap.size w w' := by
  obtain ⟨i0, hi, hz0, hz1, hz2⟩ := info_parts Try.info5
  have hp0 : 0 ≤ a2 ∧ a2 ≤ 255 := by
    simpa [Lit.wf, IntKind.min, IntKind.max, IntKind.signed, IntKind.bits] using w2
  by_cases hlen : 1048576 < len0
  · go_enter Try.func4, Try.ntmps4
    go_wp2
    go_ret
    exact ⟨rfl, Below.refl _ _⟩
  · by_cases hlo : a1 < -999999999999999999
    · go_enter Try.func4, Try.ntmps4
      go_wp2
      go_ret
      exact ⟨rfl, Below.refl _ _⟩
    · by_cases hhi : 999999999999999999 < a1
      · go_enter Try.func4, Try.ntmps4
        go_wp2
        go_ret
        exact ⟨rfl, Below.refl _ _⟩
      · cases hd : isD a2
        · have HD : Hid (isD a2 = false) := hd
          have W0 : Hid (IsRow .u8 w a0 len0 cap0 z0) := w0
          have hl : len0 ≤ 1048576 := by omega
          clear w0 w1 w2 hd
          go_enter Try.func4, Try.ntmps4
          go_wp2_with (first
            | (go_at_call 14; refine (zzIsDigit_no _ _ HD.out).mono ?_; rintro e ww ⟨rfl, rfl⟩)
            | (go_at_call 10; refine (clone_any _ _ _ _ _ W0.out hl).mono ?_; rintro e w1 ⟨a', rfl, hr, hb1⟩)
            | (go_at_call 15; refine (dec_any _ (by omega) (by omega) _).mono ?_; rintro e w2 ⟨neg, N, m, L, g, cap, T, rfl, hL, HDEC, HOWN, hb2⟩)
            | (at_make; refine wpList_make_own _ rfl _ _ 22 rfl w2.heap.size 5 i0 (.int .u8 0) 1 Try.underlying22 hi hz0 hz1 _ _ _ (len0 + L + 1) rfl rfl (by omega) (by rw [hz2]; omega) (by unfold maxLen; omega) (Nat.le_refl _) ?_; intro w3 hown3 hgrow3)
            | (at_builtin; refine wpList_append_fits_any _ rfl (.tmp 39) (.tmp 40) 22 rfl w2.heap.size 5 i0 1 Try.underlying22 hi hz1 w2.heap.size 0 (len0 + L + 1) _ rfl hown3 a' len0 len0 (((List.range len0).map (fun i => z0.getD i 0)).map (Value.int .u8)) rfl (by simp) (pre_nil hr) (pre_cells hr (hb2.grown hgrow3 hb2.size (fun k hk => by cases hk))) (ints_oneCell _ _) (by omega) ?_; intro w4 hown4 hgrow4; simp only [Nat.zero_add, List.nil_append] at hown4)
            | (at_builtin; refine wpList_append_fits _ rfl (.tmp 42) (.tmp 43) 22 rfl w2.heap.size 5 i0 1 Try.underlying22 hi hz1 w2.heap.size len0 (len0 + L + 1) _ rfl hown4 ⟨g, 0, none⟩ L cap (T.map (Value.int .u8)) rfl (by simp [HDEC.out.len]) (text_cells HOWN.out hgrow3 hgrow4) (ints_oneCell _ _) (by omega) ?_; intro w5 hown5 hgrow5)
            | (at_builtin; refine wpList_append_fits _ rfl (.tmp 45) (.tmp 47) 22 rfl w2.heap.size 5 i0 1 Try.underlying22 hi hz1 w2.heap.size (len0 + L) (len0 + L + 1) _ rfl (hown5.alloc _) ⟨w5.heap.size, 0, none⟩ 1 1 [.int .u8 a2] rfl rfl (cell_one_new _ _ _) (ints_oneCell .u8 [a2]) (by omega) ?_; intro w6 hown6 hgrow6)
            | (go_at_call 11; refine (back_call HDEC.out (pre_len _ _) hl hL (pre_bd hr) HD.out hp0.1 hp0.2 (own_join hown6)).mono ?_; rintro e ww ⟨rfl, rfl⟩)
            | go_in)
          go_ret
          refine ⟨rfl, ?_⟩
          have hs1 := hb1.size
          have hs2 := hb2.size
          have hs3 := hgrow3.size
          have hs4 := hgrow4.size
          have hs5 := hgrow5.size
          have b2 := hb1.trans (hb2.mono hs1)
          have b3 := b2.grown hgrow3 (by omega) (fun k hk => by cases hk)
          have b4 := b3.grown hgrow4 (by omega) (fun k hk => by cases hk; omega)
          have b5 := b4.grown hgrow5 (by omega) (fun k hk => by cases hk; omega)
          exact (b5.alloc (by omega) _).grown hgrow6 (by simp; omega) (fun k hk => by cases hk; omega)
        · have HD : Hid (isD a2 = true) := hd
          clear hd
          go_enter Try.func4, Try.ntmps4
          go_wp2_with (first
            | (go_at_call 14; refine (zzIsDigit_yes _ _ HD.out).mono ?_; rintro e w1 ⟨rfl, rfl⟩)
            | go_in)
          go_ret
          exact ⟨rfl, Below.refl _ _⟩

/-! ### THE ROW's STEP: WRITTEN OUT: LEAVE IT -/
set_option maxRecDepth 100000 in
theorem lifted (os : Os) (started : os.Started) (H : Type) (enc : TypeId × Value → H) :
    ReturnsInHanded {} Try.checked os 4 .any (Rows.fnScanIntReadsBackItsDecimalSpec.pre6 enc Try.prog Try.f4 Rows.fnScanIntReadsBackItsDecimalRow.domain false) (Rows.fnScanIntReadsBackItsDecimalSpec.post enc Try.prog Try.f4 false true false false) := by
  refine returnsInHanded_of_change (C := Try.checked) own started (by kernel_rfl) Try.func4
    (ChangeSpec.witness6 (enc := enc) (C := Try.checked) false ⟨#[], #[.slice none 0 0, .int .i64 0, .int .u8 0], []⟩ 8 (by kernel_rfl) (by kernel_rfl) (by kernel_rfl) (by kernel_rfl)) ?_
  intro W base args ds gs before hval0 hW hcnd _
  have hval : ∀ (j : Nat) t v, Try.f4.params[j]? = some t → args[j]? = some v → Value.okWide Try.prog W .any base t v := hval0
  have hW' := hW
  obtain ⟨p, q, hA0, hV, rfl, hfz, hnd⟩ := hW
  have hA : DataW.TrodAll enc Try.prog W 0 (fun _ => true) true Try.f4.params.toList args.toList ds p := hA0
  rw [Try.params4] at hA hval
  obtain ⟨v0, vs0, d0, ds0, p0, q0, hargs, rfl, rfl, h0, r0⟩ := trodAll_cons hA
  obtain ⟨v1, vs1, d1, ds1, p1, q1, rfl, rfl, rfl, h1, r1⟩ := trodAll_cons r0
  obtain ⟨v2, vs2, d2, ds2, p2, q2, rfl, rfl, rfl, h2, r2⟩ := trodAll_cons r1
  obtain ⟨rfl, rfl, rfl⟩ := trodAll_nil r2
  obtain rfl : args = #[v0, v1, v2] := by cases args; simp_all
  obtain ⟨rfl, rfl⟩ := trodVars_none hV
  obtain ⟨a0, len0, cap0, rfl⟩ := okWide_slice Try.underlying22 (hval 0 22 v0 rfl rfl)
  have k0 := h0
  have lt0 : ∀ x ∈ p0, x.block < W.heap.size := by obtain ⟨m, hm⟩ := k0; exact DataW.trod_lt m _ _ _ hm
  obtain ⟨z0, w0⟩ : ∃ zs, IsRow .u8 W a0 len0 cap0 zs := by
    obtain ⟨fuel, hf⟩ := h0
    rcases open_ints Try.underlying22 Try.underlying5 (by kernel_rfl) hf with ⟨hcs, _⟩ | ⟨x, l, c, zs, hcs, _, hl, hm, hz, _, hcell, hwz⟩
    · simp [Value.cells] at hcs
      obtain ⟨rfl, rfl, rfl⟩ := hcs
      exact ⟨[], .inl ⟨rfl, rfl, rfl, rfl⟩⟩
    · simp [Value.cells] at hcs
      obtain ⟨rfl, rfl, rfl⟩ := hcs
      exact ⟨zs, .inr ⟨_, rfl, hl, hm, by simpa using hz, hcell, hwz⟩⟩
  obtain ⟨a1, rfl, rfl, rfl, w1⟩ := open_int Try.underlying2 (hval 1 2 v1 rfl rfl) h1
  obtain ⟨a2, rfl, rfl, rfl, w2⟩ := open_int Try.underlying5 (hval 2 5 v2 rfl rfl) h2
  clear hA0 hval0
  refine (walk a0 len0 cap0 z0 a1 a2 W w0 w1 w2).mono fun e W' ⟨he, bel⟩ => ?_
  subst he
  exact ⟨_, rfl, _, _, _, [], _, [], hW', trodAll_mk1 (shut_bool Try.underlying4 _), (trodAll_cons_mk (Below.trod laidOut (by kernel_rfl) (of_decide_eq_true (by kernel_rfl)) k0 bel lt0) (trodAll_cons_mk (shut_int Try.underlying2 w1) (trodAll_cons_mk (shut_int Try.underlying5 w2) trodAll_mk0))), rfl, bel.frame _, fun h => by cases h⟩

theorem over : Rows.fnScanIntReadsBackItsDecimalRow.holds Try.pinned (OpenSpec.ofChange Rows.fnScanIntReadsBackItsDecimalSpec) :=
  OpenClaim.holds_of_wide 4 Try.f4 rfl rfl rfl rfl rfl rfl rfl ⟨rfl, rfl, rfl, rfl, rfl⟩ rfl rfl rfl rfl rfl (by kernel_rfl) Try.func4 (by kernel_rfl)
    (of_decide_eq_true (by kernel_rfl)) (by unfold Func.isWrapper; first | (rw [if_pos (by decide +kernel)]; kernel_rfl) | (rw [if_neg (by decide +kernel)]; exact ⟨rfl, rfl⟩))
    (fun os started H enc _ => lifted os started H enc)

/-- ████ THE STATEMENT ████ -/
theorem proved : Rows.FnScanIntReadsBackItsDecimalSaid := over
end Go.Proofs.Qxb6602349a.fnScanIntReadsBackItsDecimal

namespace Go.Proofs.Qxb6602349a
theorem fnScanIntReadsBackItsDecimal_proved : Rows.FnScanIntReadsBackItsDecimalSaid := fnScanIntReadsBackItsDecimal.proved
end Go.Proofs.Qxb6602349a
