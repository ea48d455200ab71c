/-
  Seat b6602381a, the script of scalars: the walk of (*File).Scalar (14).
-/
import Derived.Test.Qxb6602381aProg
import Derived.Test.Qxb6602381aScPlain
import Derived.WalkKit
import Derived.WalkSpells
import Derived.Below
import Derived.OwnWalk
import Derived.WalkLawsBesides
namespace Go.Proofs.Qxb6602381a.Sc
open Go.RowKit

theorem info49 : (Try.prog.info? 49).map (fun i => (i.zero, i.size, i.bytes)) = some (some (.agg #[.string ByteArray.empty, .string ByteArray.empty]), 2, 32) := by kernel_rfl

theorem toList_iff (a b : ByteArray) : (a.toList == b.toList) = true ↔ a = b := by
  rw [ByteArray.toList_eq, ByteArray.toList_eq, beq_iff_eq]
  constructor
  · intro h; exact ByteArray.ext (Array.ext' h)
  · intro h; rw [h]

/-- the definitions' cells -/
def flat2 (ds : List ByteArray) : List Value := ds.flatMap (fun x => [.string x, .string (txt x)])
theorem flat2_snoc (ds : List ByteArray) (x : ByteArray) : flat2 (ds ++ [x]) = flat2 ds ++ [.string x, .string (txt x)] := by simp [flat2]
theorem flat2_get : ∀ (ds : List ByteArray) (i : Nat) (h : i < ds.length), (flat2 ds)[i * 2]? = some (.string ds[i]) ∧ (flat2 ds)[i * 2 + 1]? = some (.string (txt ds[i]))
  | [], i, h => by simp at h
  | x :: ds, 0, _ => by simp [flat2]
  | x :: ds, i + 1, h => by
    have ih := flat2_get ds i (by simpa using h)
    have e : flat2 (x :: ds) = [.string x, .string (txt x)] ++ flat2 ds := rfl
    have e1 : (i + 1) * 2 = 2 + i * 2 := by omega
    have e2 : (i + 1) * 2 + 1 = 2 + (i * 2 + 1) := by omega
    rw [e, e2, e1, List.getElem?_append_right (by simp), List.getElem?_append_right (by simp)]
    simpa using ih

/-- block F is a File that holds the definitions ds, in the slice v -/
structure FileOK (w : World) (F : Nat) (v : Value) (ds : List ByteArray) : Prop where
  cell : w.heap[F]? = some (.cells #[v] 41 (0, 0))
  own : w.ownsRow (F + 1) 49 2 v ds.length (flat2 ds)

theorem FileOK.lt {w : World} {F : Nat} {v : Value} {ds : List ByteArray} (h : FileOK w F v ds) : F < w.heap.size := (Array.getElem?_eq_some_iff.1 h.cell).1
theorem FileOK.alloc {w : World} {F : Nat} {v : Value} {ds : List ByteArray} (h : FileOK w F v ds) (ob : Obj) : FileOK (w.alloc ob) F v ds :=
  ⟨by rw [Below.heap_alloc _ _ _ h.lt]; exact h.cell, h.own.alloc ob⟩
theorem FileOK.cell0 {w : World} {F : Nat} {v : Value} {ds : List ByteArray} (h : FileOK w F v ds) : w.cell? ⟨F, 0, none⟩ = some v := by simp [World.cell?, h.cell]

/-- what Scalar does to the list -/
def add (ds : List ByteArray) (x : ByteArray) : List ByteArray := if has ds x = true then ds else ds ++ [x]

theorem new_two (W : World) (a b : Value) (e : TypeId) : ∀ j u, [a, b][j]? = some u → (W.alloc (.cells #[a, b] e)).cell? ((⟨W.heap.size, 0, none⟩ : Addr).add j) = some u := by
  intro j u h
  have hh := heap_alloc_new W (.cells #[a, b] e)
  rw [Addr.add_lit]
  simp only [World.cell?, hh]
  match j, h with
  | 0, h | 1, h => simpa using h
  | n + 2, h => simp at h
theorem two_one (a b : ByteArray) : ∀ u ∈ [Value.string a, .string b], u.oneCell' = true := by
  intro u hu
  simp at hu
  rcases hu with rfl | rfl <;> rfl
theorem own_shape {w : World} {B : Nat} {e : TypeId} {size : Nat} {v : Value} {n : Nat} {xs : List Value} (h : w.ownsRow B e size v (n + 1) xs) : ∃ g cap, v = .slice (some ⟨g, 0, none⟩) (n + 1) cap := by
  rcases h.2 with ⟨_, h0⟩ | ⟨g, cap, _, h, _⟩
  · omega
  · exact ⟨g, cap, h⟩

/-- the world behind the append and the store into the field -/
theorem file_step {wr w1 w : World} {F : Nat} {v v' : Value} {ds : List ByteArray} {x : ByteArray} {ob : Obj} (h : FileOK wr F v ds) (hb : Below F w wr) (hg : (wr.alloc ob).grownBy w1 v.ownBlock)
    (ho : w1.ownsRow (F + 1) 49 2 v' (ds.length + 1) (flat2 ds ++ [.string x, .string (txt x)])) (hx : has ds x = false) :
    w1.cell? ⟨F, 0, none⟩ = some v ∧ w1.frozen? ⟨F, 0, none⟩ = false ∧ Hid (FileOK (w1.setCell ⟨F, 0, none⟩ v') F v' (add ds x) ∧ Below F w (w1.setCell ⟨F, 0, none⟩ v')) := by
  have hF := h.lt
  have h1 : w1.heap[F]? = some (.cells #[v] 41 (0, 0)) := by
    rw [hg.block F (by simp; omega) (by
      intro e
      have := (h.own.lt F e.symm).1
      omega)]
    exact (h.alloc ob).cell
  refine ⟨by simp [World.cell?, h1], by simp [World.frozen?, h1], ⟨?_, ?_⟩, ?_⟩
  · simp [World.setCell, Array.getElem?_modify, h1]
  · have e : add ds x = ds ++ [x] := by unfold add; rw [hx]; simp
    rw [e, flat2_snoc]
    have : (ds ++ [x]).length = ds.length + 1 := by simp
    rw [this]
    exact ownsRow_setCell_below ho (by show F < F + 1; omega) _
  · refine ((hb.alloc (by omega) ob).grown hg (by simp; omega) (fun k hk => ?_)).setCell (Nat.le_refl _) _
    have := (h.own.lt k hk).1
    omega

set_option maxHeartbeats 1000000 in
theorem scalar_nil (F : Nat) (x : ByteArray) (w : World) (h : FileOK w F (.slice none 0 0) []) (hx : x.size ≤ 1048576) :
    Calls Try.prog 14 #[.pointer (some ⟨F, 0, none⟩), .string x] w fun e w' => e = .returned (.tuple #[]) ∧ (∃ v', FileOK w' F v' (add [] x)) ∧ Below F w w' := by
  obtain ⟨i0, hi, hz0, hz1, hz2⟩ := info_parts info49
  have c0 := h.cell0
  have H : Hid (FileOK w F (.slice none 0 0) []) := h
  have hF := h.lt
  have hown := h.own
  have hl0 : ([] : List ByteArray).length = 0 := rfl
  rw [hl0] at hown
  clear h
  go_enter Try.func14, Try.ntmps14
  go_wp2_with fail
  go_loop [11] (fun i => i = .int .i64 0) (fun _ => 0)
  case atStart => exact rfl
  case round =>
    subst hrel
    go_wp2_with (at_builtin; refine wpList_append_own _ rfl (.tmp 24) (.tmp 30) 39 rfl (F + 1) 49 i0 (.agg #[.string ByteArray.empty, .string ByteArray.empty]) 2 32 Try.underlying39 hi hz0 hz1 hz2 rfl (by decide) _ 0 (flat2 []) rfl (hown.alloc _) ⟨w.heap.size, 0, none⟩ 1 1 [.string x, .string (txt x)] rfl rfl (new_two _ _ _ _) (two_one _ _) (by unfold maxLen; omega) (by omega) (by simp; omega) ?_; intro v' w1 hown1 hgrow1 _; obtain ⟨g', cap', rfl⟩ := own_shape hown1; obtain ⟨hc1, hf1, HST⟩ := file_step H.out (Below.refl _ _) hgrow1 hown1 rfl)
    go_end0
    exact ⟨rfl, ⟨_, HST.out.1⟩, HST.out.2⟩

set_option maxHeartbeats 1000000 in
theorem scalar_some (F g cap : Nat) (x : ByteArray) (ds : List ByteArray) (w : World) (h : FileOK w F (.slice (some ⟨g, 0, none⟩) ds.length cap) ds) (hd : ds.length ≤ 4096) (hx : x.size ≤ 1048576) :
    Calls Try.prog 14 #[.pointer (some ⟨F, 0, none⟩), .string x] w fun e w' => e = .returned (.tuple #[]) ∧ (∃ v', FileOK w' F v' (add ds x)) ∧ Below F w w' := by
  obtain ⟨i0, hi, hz0, hz1, hz2⟩ := info_parts info49
  have c0 := h.cell0
  have H : Hid (FileOK w F (.slice (some ⟨g, 0, none⟩) ds.length cap) ds) := h
  clear h
  go_enter Try.func14, Try.ntmps14
  go_wp2_with fail
  go_loopw [11] (fun i wr => ∃ k : Nat, k ≤ ds.length ∧ i = .int .i64 k ∧ (∀ y ∈ ds.take k, y ≠ x) ∧ FileOK wr F (.slice (some ⟨g, 0, none⟩) ds.length cap) ds ∧ Below F w wr) (fun i _ => ds.length - (intOf i).toNat)
  case atStart => exact ⟨0, Nat.zero_le _, rfl, by simp, H.out, Below.refl _ _⟩
  case round =>
    obtain ⟨k, hk, rfl, hno, hf, hb⟩ := hrel
    have HF : Hid (FileOK wr F (.slice (some ⟨g, 0, none⟩) ds.length cap) ds) := hf
    have HB : Hid (Below F w wr) := hb
    have HNO : Hid (∀ y ∈ ds.take k, y ≠ x) := hno
    have hF := hf.lt
    have k0 := hf.cell0
    have hown := hf.own
    clear hf hb hno
    by_cases hlt : k < ds.length
    · have hcs := hown.cells (g := g) rfl
      have c1 : wr.cell? ⟨g, k * 2, none⟩ = some (.string ds[k]) := by have := hcs _ _ (flat2_get ds k hlt).1; rw [Addr.add_lit] at this; simpa using this
      have c2 : wr.cell? ⟨g, k * 2 + 1, none⟩ = some (.string (txt ds[k])) := by have := hcs _ _ (flat2_get ds k hlt).2; rw [Addr.add_lit] at this; simpa using this
      clear hcs hown
      by_cases heq : ds[k] = x
      · have heq' : (ds[k].toList == x.toList) = true := (toList_iff _ _).2 heq
        have HEQ : Hid (ds[k] = x) := heq
        clear heq
        go_wp2_with fail
        refine bodyPost_ret (results_none rfl _ _ _) rfl ?_
        refine ⟨rfl, ⟨.slice (some ⟨g, 0, none⟩) ds.length cap, ?_⟩, HB.out.alloc (by omega) _⟩
        have e : add ds x = ds := by
          unfold add
          rw [if_pos ((has_iff _ _).2 (by rw [← HEQ.out]; exact List.getElem_mem _))]
        rw [e]
        exact HF.out.alloc _
      · have heq' : (ds[k].toList == x.toList) = false := by
          cases hh : (ds[k].toList == x.toList)
          · rfl
          · exact absurd ((toList_iff _ _).1 hh) heq
        have HEQ : Hid (¬ ds[k] = x) := heq
        clear heq
        go_wp2_with fail
        go_roundw
        case rel =>
          refine ⟨k + 1, by omega, by go_num, ?_, HF.out.alloc _, HB.out.alloc (by omega) _⟩
          intro y hy
          rw [List.take_succ_eq_append_getElem hlt] at hy
          rcases List.mem_append.1 hy with hy | hy
          · exact HNO.out y hy
          · rw [List.mem_singleton.1 hy]; exact HEQ.out
        case measure => simp [intOf]; omega
    · have HX : Hid (has ds x = false) := by
        show has ds x = false
        rw [has_no]
        intro hm
        exact HNO.out x (by rw [List.take_of_length_le (by omega)]; exact hm) rfl
      go_wp2_with (at_builtin; refine wpList_append_own _ rfl (.tmp 24) (.tmp 30) 39 rfl (F + 1) 49 i0 (.agg #[.string ByteArray.empty, .string ByteArray.empty]) 2 32 Try.underlying39 hi hz0 hz1 hz2 rfl (by decide) _ ds.length (flat2 ds) rfl (hown.alloc _) ⟨wr.heap.size, 0, none⟩ 1 1 [.string x, .string (txt x)] rfl rfl (new_two _ _ _ _) (two_one _ _) (by unfold maxLen; omega) (by omega) (by simp; omega) ?_; intro v' w1 hown1 hgrow1 _; obtain ⟨g', cap', rfl⟩ := own_shape hown1; obtain ⟨hc1, hf1, HST⟩ := file_step HF.out HB.out hgrow1 hown1 HX.out)
      go_end0
      exact ⟨rfl, ⟨_, HST.out.1⟩, HST.out.2⟩

theorem scalar_any (F : Nat) (v : Value) (x : ByteArray) (ds : List ByteArray) (w : World) (h : FileOK w F v ds) (hd : ds.length ≤ 4096) (hx : x.size ≤ 1048576) :
    Calls Try.prog 14 #[.pointer (some ⟨F, 0, none⟩), .string x] w fun e w' => e = .returned (.tuple #[]) ∧ (∃ v', FileOK w' F v' (add ds x)) ∧ Below F w w' := by
  rcases h.own.2 with ⟨hv, h0⟩ | ⟨g, cap, _, hv, _⟩
  · have : ds = [] := List.eq_nil_of_length_eq_zero h0
    subst this hv
    exact scalar_nil F x w h hx
  · subst hv
    exact scalar_some F g cap x ds w h hd hx
end Go.Proofs.Qxb6602381a.Sc
