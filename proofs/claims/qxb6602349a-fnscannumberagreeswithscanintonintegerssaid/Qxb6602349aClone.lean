/-
  The walks of zzCloneBytes (10) and ZZScanInt (11).
-/
import Derived.Test.Qxb6602349aWalks
import Derived.Laws.CopyOwn
import Derived.Deep.OwnRows
namespace Go.Proofs.Qxb6602349a
open Go.RowKit
open Plain

theorem Try.info5 : (Try.prog.info? 5).map (fun i => (i.zero, i.size, i.bytes)) = some (some (.int .u8 0), 1, 1) := by kernel_rfl
theorem Try.size5 : (Try.prog.info? 5).map (·.size) = some 1 := by kernel_rfl

def InRow (w : World) (a : Option Addr) (len cap : Nat) (zs : List Int) : Prop :=
  (a = none ∧ len = 0 ∧ cap = 0 ∧ zs = []) ∨
  ∃ x, a = some x ∧ len ≤ cap ∧ cap ≤ maxLen ∧ zs.length = cap ∧ (∀ i, i < zs.length → w.cell? (x.add i) = some (.int .u8 (zs.getD i 0))) ∧ ∀ n ∈ zs, (Lit.int .u8 n).wf = true

theorem clone_any (a : Option Addr) (len cap : Nat) (zs : List Int) (w : World) (h : InRow w a len cap zs) (hlen : len ≤ 1048576) :
    Calls Try.prog 10 #[.slice a len cap] w fun e w' => ∃ a', e = .returned (.slice a' len len) ∧ Rd w' a' len (fun i => zs.getD i 0) ∧ Below w.heap.size w w' := by
  have q22 : ∀ (w : World) (a : Option Addr) (n c n' c' : Nat), (binOp .eql 22 (.slice a n c) (.slice none n' c')).run Try.prog w = .ok (.bool a.isNone) w := fun w a n c n' c' => Lib.run_eql_slice_nil w _ _ a n c n' c' Try.underlying22
  rcases h with ⟨rfl, rfl, rfl, rfl⟩ | ⟨x, rfl, hlc, hcm, hz, hc, hwf⟩
  · go_enter Try.func10, Try.ntmps10
    go_wp2
    go_ret
    exact ⟨none, rfl, ⟨fun i hi => by omega, fun i hi => by omega, fun i hi => by omega, by omega⟩, Below.refl _ _⟩
  · have hmk := run_make_row' (P := Try.prog) 22 5 (.int .u8 0) 1 Try.underlying22 Try.info5 rfl .i64 .i64 len (by omega) (by omega)
    have hb1 : Below w.heap.size w (w.alloc (Obj.cells (madeCells #[Value.int IntKind.u8 0] len) 5)) := (Below.refl _ _).alloc (Nat.le_refl _) _
    obtain ⟨cs, hcs⟩ : ∃ cs : List Value, cs = (zs.take len).map (fun z => Value.int .u8 z) := ⟨_, rfl⟩
    have hl : cs.length = len := by rw [hcs]; simp; omega
    have hget : ∀ j, j < len → cs[j]? = some (.int .u8 (zs.getD j 0)) := by
      intro j hj
      rw [hcs, List.getElem?_map, List.getElem?_take, if_pos hj, List.getD_eq_getElem?_getD, List.getElem?_eq_getElem (by omega)]
      rfl
    obtain ⟨cur, hcur⟩ : ∃ cur : List Value, cur.toArray = madeCells #[Value.int IntKind.u8 0] len := ⟨_, Array.toArray_toList⟩
    have hcl : cur.length = len := by have := congrArg Array.size hcur; simpa [madeCells] using this
    have hsrc : ∀ j v, cs[j]? = some v → (w.alloc (Obj.cells (madeCells #[Value.int IntKind.u8 0] len) 5)).cell? (x.add j) = some v := by
      intro j v hj
      have hjl : j < len := by have := (List.getElem?_eq_some_iff.1 hj).1; omega
      rw [hget j hjl] at hj
      cases hj
      exact cell_later hb1 (hc j (by omega))
    have h1c : ∀ v ∈ cs, v.oneCell' = true := by
      intro v hv
      rw [hcs] at hv
      obtain ⟨z, _, rfl⟩ := List.mem_map.1 hv
      rfl
    have hheap : (w.alloc (Obj.cells (madeCells #[Value.int IntKind.u8 0] len) 5)).heap[w.heap.size]? = some (.cells cur.toArray 5 (0, 0)) := by
      rw [hcur]; show (w.heap.push _)[w.heap.size]? = _; simp
    obtain ⟨W2, hcp, hrow, hb2⟩ : ∃ W2, (Builtin.copy_ #[22, 22] 3 #[Value.slice (some ⟨w.heap.size, 0, none⟩) len len, Value.slice (some x) len cap]).run Try.prog (w.alloc (Obj.cells (madeCells #[Value.int IntKind.u8 0] len) 5)) = .ok (goInt len) W2
        ∧ Hid (W2.heap[w.heap.size]? = some (.cells cs.toArray 5 (0, 0))) ∧ Hid (Below w.heap.size w W2) := by
      have hrun := run_copy_row (P := Try.prog) (w.alloc (Obj.cells (madeCells #[Value.int IntKind.u8 0] len) 5)) 22 22 3 5 w.heap.size 0 len len x len cap cur.toArray 5 cs Try.underlying22 Try.size5 hheap (by rw [hl]; exact (Nat.min_self len).symm) hsrc (by simp; omega) h1c
      have hsp : List.take 0 cur ++ cs ++ List.drop (0 + cs.length) cur = cs := by
        rw [List.take_zero, List.nil_append, List.drop_of_length_le (by omega), List.append_nil]
      simp only [List.append_assoc] at hrun hsp
      rw [hsp, hl] at hrun
      exact ⟨_, hrun, setRow_heap _ w.heap.size _ cs.toArray 5 _ hheap, below_setRow hb1 (Nat.le_refl _) _⟩
    have HG : Hid (∀ j, j < len → cs[j]? = some (.int .u8 (zs.getD j 0))) := hget
    clear hsrc hget hheap hl hcl hb1 hcs hcur hc h1c
    go_enter Try.func10, Try.ntmps10
    go_wp2
    go_ret
    refine ⟨some ⟨w.heap.size, 0, none⟩, rfl, ?_, hb2.out⟩
    have hb : ∀ i, i < len → 0 ≤ zs.getD i 0 ∧ zs.getD i 0 ≤ 255 := by
      intro i hi
      have hm : zs.getD i 0 ∈ zs := by
        rw [List.getD_eq_getElem?_getD, List.getElem?_eq_getElem (by omega)]
        exact List.getElem_mem _
      have := hwf _ hm
      simpa [Lit.wf, IntKind.min, IntKind.max, IntKind.signed, IntKind.bits] using this
    refine ⟨fun i hi => ⟨w.heap.size, rfl, ?_⟩, fun i hi => (hb i hi).1, fun i hi => (hb i hi).2, by omega⟩
    have := HG.out i hi
    simp [World.cell?, hrow.out, this]

theorem zzScanInt_any (a : Option Addr) (n cap : Nat) (f : Nat → Int) (i : Nat) (w : World) (hr : Rd w a n f) (hi : (i : Int) ≤ 9223372036854775807) :
    Calls Try.prog 11 #[.slice a n cap, .int .i64 i] w fun e w' => e = .returned (.tuple #[.int .i64 (scanP f n i).1, .int .i64 (scanP f n i).2.1, .int .i64 (scanP f n i).2.2]) ∧ w' = w := by
  go_enter Try.func11, Try.ntmps11
  go_wp2_with (go_at_call 23; refine (scanInt_aux _ _ _ _ _ _ _ hr hi rfl).mono ?_; rintro e w' ⟨rfl, rfl⟩)
  go_ret3
  exact ⟨rfl, rfl⟩
end Go.Proofs.Qxb6602349a
