/-
  The proof of Rows.FnTypeStringParsesBackToItsTypeSaid: the walk, and the frame round it (after the kit's template; the argument is a struct that holds a pointer).
-/
import Derived.Test.Qxb6602381aRows
import Derived.Test.Qxb6602381aParse
import Derived.WalkKit
import Derived.ProofKit
import Derived.OpenShut
import Derived.ShutString
import Derived.ChangeOld
import Derived.Below
import Derived.Lib.SmallJoins
namespace Go.Proofs.Qxb6602381a.fnTypeStringParsesBackToItsType
open Go.ChangeShapes Go.WideShapes Go.ChangeAt Go.RowKit Go.Joins
open Go.ChangeMaps (open_string shut_string)
set_option linter.unusedVariables false

theorem own : ownKnob Try.prog.godebug = none := by kernel_rfl
theorem laidOut : laidOutB Try.prog = true := by kernel_rfl
theorem cells24 : Try.prog.cellsOf 24 = 3 := by kernel_rfl
theorem cells9 : Try.prog.cellsOf 9 = 1 := by kernel_rfl
theorem cells22 : Try.prog.cellsOf 22 = 1 := by kernel_rfl
theorem cells4 : Try.prog.cellsOf 4 = 1 := by kernel_rfl

/-! ### what reads as a pointer to a ZType is a chain -/
theorem chain_of {H : Type} {enc : TypeId × Value → H} {W : World} {base : Nat} {sp : Nat → Bool} {hd : Bool} : ∀ (fuel : Nat) (v : Value) (x : DataW H × List MemPlace), DataW.trod enc Try.prog W base sp hd fuel 22 [v] = some x → ∃ l, Chain W l v := by
  intro fuel
  induction fuel using Nat.strongRecOn with
  | _ fuel ih =>
    intro v x h
    rcases DataW.trod_pointer Try.underlying22 h with ⟨hv, _⟩ | ⟨a, cs, y, m, hm, hv, _, hcells, hy⟩
    · exact ⟨[], by show v = _; simpa using hv⟩
    · obtain ⟨_, hlen, hcell⟩ := World.cells?_some hcells
      rw [cells24] at hlen hcell
      obtain ⟨xs, n, hn, _, _, hxs, hf⟩ := DataW.trod_struct Try.underlying24 hy
      match cs, hlen with
      | [c0, c1, c2], _ =>
        have f0 : DataW.trod enc Try.prog W base sp hd n 9 (List.take (Try.prog.cellsOf 9) (List.drop 0 [c0, c1, c2])) = xs[0]? := hf 0 _ rfl
        have f1 : DataW.trod enc Try.prog W base sp hd n 22 (List.take (Try.prog.cellsOf 22) (List.drop 1 [c0, c1, c2])) = xs[1]? := hf 1 _ rfl
        have f2 : DataW.trod enc Try.prog W base sp hd n 4 (List.take (Try.prog.cellsOf 4) (List.drop 2 [c0, c1, c2])) = xs[2]? := hf 2 _ rfl
        rw [cells9] at f0
        rw [cells22] at f1
        rw [cells4] at f2
        simp only [List.drop_zero, List.take_succ_cons, List.take_zero, List.drop_succ_cons] at f0 f1 f2
        have hx : 3 ≤ xs.length := by rw [hxs]; exact Nat.le_refl _
        rw [List.getElem?_eq_getElem (by omega)] at f0 f1 f2
        obtain ⟨s, hs, _, _⟩ := DataW.trod_string Try.underlying9 f0
        obtain ⟨b, hb, _⟩ := DataW.trod_bool Try.underlying4 f2
        obtain ⟨l, hl⟩ := ih n (by omega) c1 _ f1
        simp at hs hb hv
        subst hs hb hv
        have k0 := hcell 0 (by omega)
        have k1 := hcell 1 (by omega)
        have k2 := hcell 2 (by omega)
        obtain ⟨bb, off, spot⟩ := a
        have k0' : W.cell? ((⟨bb, off, spot⟩ : Addr).add 0) = some (.string s) := k0
        have hspot : spot = none := by
          have h1 := World.cell?_spot k0'
          cases spot with
          | none => rfl
          | some z => simp [Addr.add] at h1
        subst hspot
        simp only [Addr.add_lit] at k0 k1 k2
        exact ⟨(s, b) :: l, bb, off, c1, rfl, by simpa using k0, by simpa using k1, by simpa using k2, hl⟩

theorem levels_fn2 (s : ByteArray) (nn : Bool) (q : Value) (l : List (ByteArray × Bool)) (w : World) (hq : Chain w l q) (hs : s.size ≤ 1048576) :
    Calls Try.prog 6 #[.agg #[.string s, q, .bool nn]] w fun e w' => (e = .returned (.tuple #[.slice none 0 0, .bool false]) ∨
      ∃ (g cap n : Nat) (nm : Nat → ByteArray) (fl : Nat → Bool), e = .returned (.tuple #[.slice (some ⟨g, 0, none⟩) (n + 1) cap, .bool true]) ∧ Hid (Lvs w' g n nm fl) ∧ n ≤ 4096 ∧ w'.cell? ⟨g, n * 3, none⟩ = some (.string (nm n)) ∧ (nm n).size ≤ 1048576) ∧ Below w.heap.size w w' := by
  refine (levels_fn s nn q l w hq hs).mono ?_
  rintro e w' ⟨h | ⟨g, cap, n, nm, fl, he, hL⟩, hb⟩
  · exact ⟨.inl h, hb⟩
  · exact ⟨.inr ⟨g, cap, n, nm, fl, he, hL, hL.out.le, hL.out.c0 n (Nat.le_refl _), hL.out.sz n (Nat.le_refl _)⟩, hb⟩


set_option maxHeartbeats 1000000 in
theorem walk (s : ByteArray) (q : Value) (nn : Bool) (l : List (ByteArray × Bool)) (w : World) (hq : Chain w l q) :
    Calls Try.prog 4 #[.agg #[.string s, q, .bool nn]] w fun e w' => e = .returned (.bool true) ∧ Below w.heap.size w w' := by
  by_cases hlen : 1048576 < s.size
  · obtain ⟨a, rfl⟩ := chain_ptr hq
    clear hq
    go_enter Try.func4, Try.ntmps4
    go_wp2_with fail
    go_ret
    exact ⟨rfl, (Below.refl _ _).alloc (Nat.le_refl _) _⟩
  · obtain ⟨a, rfl⟩ := chain_ptr hq
    have hb0 : ∀ ob, Below w.heap.size w (w.alloc ob) := fun ob => (Below.refl _ _).alloc (Nat.le_refl _) ob
    have HQ : Hid (∀ ob, Chain (w.alloc ob) l (.pointer a)) := fun ob => hq.later (hb0 ob)
    have hs : s.size ≤ 1048576 := by omega
    clear hq hb0
    go_enter Try.func4, Try.ntmps4
    go_wp2_with (first
      | (go_at_call 6; refine (levels_fn2 s nn _ l _ (HQ.out _) hs).mono ?_; rintro e w1 ⟨rfl | ⟨g, cap, n, nm, fl, rfl, hL, hn, hcn, HSN⟩, hb1⟩)
      | (go_at_call 10; refine (isName_any _ _ HSN).mono ?_; rintro e w1' ⟨⟨bn, rfl, hname⟩, rfl⟩; cases bn))
    · go_ret
      exact ⟨rfl, ((Below.refl _ _).alloc (Nat.le_refl _) _).trans (hb1.mono (by simp))⟩
    · go_ret
      exact ⟨rfl, ((Below.refl _ _).alloc (Nat.le_refl _) _).trans (hb1.mono (by simp))⟩
    · have s1 := hb1.size
      simp at s1
      have HB1 : Hid (Below w.heap.size w w1') := ((Below.refl _ _).alloc (Nat.le_refl _) _).trans (hb1.mono (by simp))
      clear hb1
      have HNAME : Hid (1 ≤ (nm n).size ∧ ∀ i (h : i < (nm n).size), ncB ((((nm n)[i]'h).toNat : Nat) : Int) = true) := hname (by first | trivial | rfl)
      have HLAY : Hid (Lay (pre n ++ mid nm fl n n) n (nm n).size (nm n) fl (fun c => n + (mid nm fl n c).size)) := lay_of nm fl n hL.out.le HSN HNAME.out.2
      clear hname hcn
      go_wp2_with (first
        | (go_at_call 7; refine (build_any g n cap nm fl _ hL.out.c0 hL.out.c2 hL.out.le).mono ?_; rintro e w2 ⟨q2, rfl, hc2, hb2⟩)
        | (go_at_call 8; refine (string_of hL.out.le hL.out.sz hc2).mono ?_; rintro e w3 ⟨rfl, hb3⟩; have HL3 : Hid (Lvs w3 g n nm fl) := (hL.out.later hb2).later hb3)
        | (go_at_call 11; refine (parse_any g n cap (nm n).size _ (nm n) nm fl _ _ HLAY.out HL3.out rfl HNAME.out.1).mono ?_; rintro e w4 ⟨rfl, hb4⟩))
      go_ret
      refine ⟨rfl, ?_⟩
      have s2 := hb2.size
      have s3 := hb3.size
      exact ((HB1.out.trans (hb2.mono (by omega))).trans (hb3.mono (by omega))).trans (hb4.mono (by omega))

/-! ### THE ROW's STEP -/
set_option maxRecDepth 100000 in
theorem lifted (os : Os) (started : os.Started) (H : Type) (enc : TypeId × Value → H) :
    ReturnsInHanded {} Try.checked os 4 .any (Rows.fnTypeStringParsesBackToItsTypeSpec.pre6 enc Try.prog Try.f4 Rows.fnTypeStringParsesBackToItsTypeRow.domain false) (Rows.fnTypeStringParsesBackToItsTypeSpec.post enc Try.prog Try.f4 false true false false) := by
  refine returnsInHanded_of_change (C := Try.checked) own started (by kernel_rfl) Try.func4
    (ChangeSpec.witness6 (enc := enc) (C := Try.checked) false ⟨#[], #[.agg #[.string ByteArray.empty, .pointer none, .bool false]], []⟩ 8 (by kernel_rfl) (by kernel_rfl) (by kernel_rfl) (by kernel_rfl)) ?_
  intro W base args ds gs before hval0 hW hcnd _
  have hval : ∀ (j : Nat) t v, Try.f4.params[j]? = some t → args[j]? = some v → Value.okWide Try.prog W .any base t v := hval0
  have hW' := hW
  obtain ⟨p, q, hA0, hV, rfl, hfz, hnd⟩ := hW
  have hA : DataW.TrodAll enc Try.prog W 0 (fun _ => true) true Try.f4.params.toList args.toList ds p := hA0
  rw [Try.params4] at hA hval
  obtain ⟨v0, vs0, d0, ds0, p0, q0, hargs, rfl, rfl, h0, r0⟩ := trodAll_cons hA
  obtain ⟨rfl, rfl, rfl⟩ := trodAll_nil r0
  obtain rfl : args = #[v0] := by cases args; simp_all
  obtain ⟨rfl, rfl⟩ := trodVars_none hV
  have k0 := h0
  have lt0 : ∀ x ∈ p0, x.block < W.heap.size := by obtain ⟨m, hm⟩ := k0; exact DataW.trod_lt m _ _ _ hm
  obtain ⟨c0, c1, c2, y0, y1, y2, m, hv0, _, _, t0, t1, t2⟩ := open_agg3 Try.underlying24 (by kernel_rfl) cells24 (hval 0 24 v0 rfl rfl) h0
  obtain ⟨s, e0, _, _⟩ := DataW.trod_string Try.underlying9 t0
  obtain ⟨b, e2, _⟩ := DataW.trod_bool Try.underlying4 t2
  obtain ⟨l, hl⟩ := chain_of m c1 _ t1
  simp at e0 e2
  subst e0 e2 hv0
  clear hA0 hval0
  refine (walk s c1 b l W hl).mono fun e W' ⟨he, bel⟩ => ?_
  subst he
  exact ⟨_, rfl, _, _, _, [], _, [], hW', trodAll_mk1 (shut_bool Try.underlying4 _), (trodAll_cons_mk (Below.trod laidOut (by kernel_rfl) (of_decide_eq_true (by kernel_rfl)) k0 bel lt0) trodAll_mk0), rfl, bel.frame _, fun h => by cases h⟩

theorem over : Rows.fnTypeStringParsesBackToItsTypeRow.holds Try.pinned (OpenSpec.ofChange Rows.fnTypeStringParsesBackToItsTypeSpec) :=
  OpenClaim.holds_of_wide 4 Try.f4 rfl rfl rfl rfl rfl rfl rfl ⟨rfl, rfl, rfl, rfl, rfl⟩ rfl rfl rfl rfl rfl (by kernel_rfl) Try.func4 (by kernel_rfl)
    (of_decide_eq_true (by kernel_rfl)) (by unfold Func.isWrapper; first | (rw [if_pos (by decide +kernel)]; kernel_rfl) | (rw [if_neg (by decide +kernel)]; exact ⟨rfl, rfl⟩))
    (fun os started H enc _ => lifted os started H enc)

/-- THE STATEMENT -/
theorem proved : Rows.FnTypeStringParsesBackToItsTypeSaid := over
end Go.Proofs.Qxb6602381a.fnTypeStringParsesBackToItsType

namespace Go.Proofs.Qxb6602381a
theorem fnTypeStringParsesBackToItsType_proved : Rows.FnTypeStringParsesBackToItsTypeSaid := fnTypeStringParsesBackToItsType.proved
end Go.Proofs.Qxb6602381a
