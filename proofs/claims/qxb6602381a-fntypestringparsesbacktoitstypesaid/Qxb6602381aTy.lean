/-
  Seat b6602381a: the list of levels in the walk's words; String of what tyBuild makes.
-/
import Derived.Test.Qxb6602381aModel
namespace Go.Proofs.Qxb6602381a
open Go.RowKit

/-- the levels lie in w from block g on: names and flags -/
structure Lvs (w : World) (g n : Nat) (nm : Nat → ByteArray) (fl : Nat → Bool) : Prop where
  c0 : ∀ i, i ≤ n → w.cell? ⟨g, i * 3, none⟩ = some (.string (nm i))
  c2 : ∀ i, i ≤ n → w.cell? ⟨g, i * 3 + 2, none⟩ = some (.bool (fl i))
  le : n ≤ 4096
  sz : ∀ i, i ≤ n → (nm i).size ≤ 1048576

theorem Lvs.later {w w' : World} {g n : Nat} {nm : Nat → ByteArray} {fl : Nat → Bool} (h : Lvs w g n nm fl) (hb : Below w.heap.size w w') : Lvs w' g n nm fl :=
  ⟨fun i hi => cell_later hb (h.c0 i hi), fun i hi => cell_later hb (h.c2 i hi), h.le, h.sz⟩

theorem flat_get : ∀ (L : List Lv) (i : Nat) (h : i < L.length), (flat L)[i * 3]? = some (.string L[i].s) ∧ (flat L)[i * 3 + 2]? = some (.bool L[i].nn)
  | [], i, h => by simp at h
  | x :: L, 0, _ => by simp [flat]
  | x :: L, i + 1, h => by
    have ih := flat_get L i (by simpa using h)
    have e : flat (x :: L) = [.string x.s, x.q, .bool x.nn] ++ flat L := rfl
    have e1 : (i + 1) * 3 = 3 + i * 3 := by omega
    have e2 : (i + 1) * 3 + 2 = 3 + (i * 3 + 2) := by omega
    rw [e, e2, e1, List.getElem?_append_right (by simp), List.getElem?_append_right (by simp)]
    simpa using ih

theorem levels_fn (s : ByteArray) (nn : Bool) (q : Value) (l : List (ByteArray × Bool)) (w : World) (hq : Chain w l q) (hs : s.size ≤ 1048576) :
    Calls Try.prog 6 #[.agg #[.string s, q, .bool nn]] w fun e w' => (e = .returned (.tuple #[.slice none 0 0, .bool false]) ∨
      ∃ (g cap n : Nat) (nm : Nat → ByteArray) (fl : Nat → Bool), e = .returned (.tuple #[.slice (some ⟨g, 0, none⟩) (n + 1) cap, .bool true]) ∧ Hid (Lvs w' g n nm fl)) ∧ Below w.heap.size w w' := by
  refine (levels_any s nn q l w hq hs).mono ?_
  rintro e w' (⟨he, hb⟩ | ⟨g, cap, L, he, hown, hnm, htot, hlen, hb⟩)
  · exact ⟨.inl he, hb⟩
  · have hl : 1 ≤ L.length := by
      have := congrArg List.length hnm
      rw [names_len] at this
      simp at this
      omega
    have hc := hown.cells (g := g) rfl
    have e1 : L.length - 1 + 1 = L.length := by omega
    refine ⟨.inr ⟨g, cap, L.length - 1, fun i => (L.getD i ⟨ByteArray.empty, .pointer none, false⟩).s, fun i => (L.getD i ⟨ByteArray.empty, .pointer none, false⟩).nn, by rw [e1]; exact he, ?_⟩, hb⟩
    have hg : ∀ i, i ≤ L.length - 1 → ∃ h : i < L.length, L.getD i ⟨ByteArray.empty, .pointer none, false⟩ = L[i] := by
      intro i hi
      refine ⟨by omega, ?_⟩
      rw [List.getD_eq_getElem?_getD, List.getElem?_eq_getElem (by omega)]
      rfl
    refine ⟨fun i hi => ?_, fun i hi => ?_, by omega, fun i hi => ?_⟩
    · obtain ⟨h, e⟩ := hg i hi
      simp only [e]
      have := hc _ _ (flat_get L i h).1
      rw [Addr.add_lit] at this
      simpa using this
    · obtain ⟨h, e⟩ := hg i hi
      simp only [e]
      have := hc _ _ (flat_get L i h).2
      rw [Addr.add_lit] at this
      simpa using this
    · obtain ⟨h, e⟩ := hg i hi
      simp only [e]
      have hm : (L[i].s, L[i].nn) ∈ names L := by
        unfold names
        exact List.mem_map.2 ⟨L[i], List.getElem_mem _, rfl⟩
      have := tot_mem hm
      simp at this
      omega

theorem sfx_len (nm : Nat → ByteArray) (fl : Nat → Bool) : ∀ c j, (sfx nm fl c j).length = c
  | 0, _ => rfl
  | c + 1, j => by simp [sfx, sfx_len nm fl c]
theorem sfx_sz {nm : Nat → ByteArray} {fl : Nat → Bool} {n M : Nat} (h : ∀ i, i ≤ n → (nm i).size ≤ M) : ∀ c j, c + j ≤ n + 1 → ∀ x ∈ sfx nm fl c j, x.1.size ≤ M
  | 0, _, _, x, hx => by simp [sfx] at hx
  | c + 1, j, hj, x, hx => by
    rw [sfx] at hx
    rcases List.mem_cons.1 hx with rfl | hx
    · exact h j (by omega)
    · exact sfx_sz h c (j + 1) (by omega) x hx

/-- String of what tyBuild hands back: the model's text -/
theorem string_of {w : World} {n : Nat} {nm : Nat → ByteArray} {fl : Nat → Bool} {q : Value} (hn : n ≤ 4096) (hs : ∀ i, i ≤ n → (nm i).size ≤ 1048576) (hc : Chain w (sfx nm fl n 1) q) :
    Calls Try.prog 8 #[.agg #[.string (nm 0), q, .bool (fl 0)]] w fun e w' => e = .returned (.string (pre n ++ mid nm fl n n)) ∧ Below w.heap.size w w' := by
  have h := str_mid nm fl n n (Nat.le_refl _)
  rw [Nat.sub_self, Nat.zero_add] at h
  rw [← h]
  exact str_any 1048576 (by omega) (sfx nm fl n 1) (nm 0) (fl 0) q w (by rw [sfx_len]; omega) (hs 0 (Nat.zero_le _)) (sfx_sz hs n 1 (by omega)) hc
end Go.Proofs.Qxb6602381a
