/-
  Seat b6602381a: the walk of tyLevels (6): the chain, listed from the outside in.
-/
import Derived.Test.Qxb6602381aStr
import Derived.Deep.LoopGhost
namespace Go.Proofs.Qxb6602381a
open Go.RowKit

/-- a level as it lies in the list: its name, the pointer to its element, its flag -/
structure Lv where
  s : ByteArray
  q : Value
  nn : Bool
def flat (L : List Lv) : List Value := L.flatMap (fun x => [.string x.s, x.q, .bool x.nn])
def names (L : List Lv) : List (ByteArray × Bool) := L.map (fun x => (x.s, x.nn))
def tot : List (ByteArray × Bool) → Nat
  | [] => 0
  | x :: l => x.1.size + tot l

theorem flat_len (L : List Lv) : (flat L).length = L.length * 3 := by
  induction L with
  | nil => rfl
  | cons x l ih => simp only [flat, List.flatMap_cons, List.length_append, List.length_cons, List.length_nil] at ih ⊢; omega
theorem flat_snoc (L : List Lv) (x : Lv) : flat (L ++ [x]) = flat L ++ [.string x.s, x.q, .bool x.nn] := by simp [flat]
theorem names_len (L : List Lv) : (names L).length = L.length := by simp [names]
theorem tot_app (a b : List (ByteArray × Bool)) : tot (a ++ b) = tot a + tot b := by
  induction a with
  | nil => simp [tot]
  | cons x l ih => simp [tot, ih]; omega
theorem tot_mem {l : List (ByteArray × Bool)} {x : ByteArray × Bool} (h : x ∈ l) : x.1.size ≤ tot l := by
  induction l with
  | nil => cases h
  | cons y l ih =>
    rcases List.mem_cons.1 h with rfl | h
    · simp [tot]
    · have := ih h; simp [tot]; omega

theorem Try.info24 : (Try.prog.info? 24).map (fun i => (i.zero, i.size, i.bytes)) = some (some (.agg #[.string ByteArray.empty, .pointer none, .bool false]), 3, 32) := by kernel_rfl

/-- the list of levels lies in wr, owned by the call -/
structure Lis (w wr : World) (v : Value) (done : List Lv) (B : Nat) : Prop where
  own : wr.ownsRow B 24 3 v done.length (flat done)
  below : Below B w wr

theorem own_first (w : World) (ob : Obj) (x : Lv) : ((w.alloc ob).alloc (.cells #[.string x.s, x.q, .bool x.nn] 24)).ownsRow w.heap.size 24 3 (.slice (some ⟨w.heap.size + 1, 0, none⟩) 1 1) [x].length (flat [x]) := by
  refine ⟨by simp [flat], .inr ⟨w.heap.size + 1, 1, #[.string x.s, x.q, .bool x.nn], rfl, by omega, ?_, by simp, by unfold maxLen; omega, rfl, by simp [flat]⟩⟩
  have := heap_alloc_new (w.alloc ob) (.cells #[.string x.s, x.q, .bool x.nn] 24)
  simpa using this

theorem new_three (W : World) (a b c : Value) (e : TypeId) : ∀ j u, [a, b, c][j]? = some u → (W.alloc (.cells #[a, b, c] e)).cell? ((⟨W.heap.size, 0, none⟩ : Addr).add j) = some u := by
  intro j u h
  have hh := heap_alloc_new W (.cells #[a, b, c] e)
  rw [Addr.add_lit]
  simp only [World.cell?, hh]
  match j, h with
  | 0, h | 1, h | 2, h => simpa using h
  | n + 3, h => simp at h

theorem chain_ptr {w : World} : ∀ {l : List (ByteArray × Bool)} {v : Value}, Chain w l v → ∃ a, v = .pointer a
  | [], _, h => ⟨_, h⟩
  | _ :: _, _, ⟨_, _, _, h, _⟩ => ⟨_, h⟩
theorem chain_one {w : World} {l : List (ByteArray × Bool)} {v : Value} (h : Chain w l v) : v.oneCell' = true := by
  obtain ⟨a, rfl⟩ := chain_ptr h; rfl

theorem three_one {w : World} {l : List (ByteArray × Bool)} {s : ByteArray} {nn : Bool} {v : Value} (h : Chain w l v) : ∀ u ∈ [Value.string s, v, .bool nn], u.oneCell' = true := by
  intro u hu
  simp at hu
  rcases hu with rfl | rfl | rfl
  · rfl
  · exact chain_one h
  · rfl
theorem grow_below {B : Nat} {w wr w1 : World} {ob : Obj} {row : Option Nat} (h : Below B w wr) (hg : (wr.alloc ob).grownBy w1 row) (hB : B ≤ wr.heap.size) (hr : ∀ k, row = some k → B ≤ k) : Below B w w1 :=
  (h.alloc hB ob).grown hg (by simp; omega) hr

set_option maxHeartbeats 1000000 in
theorem levels_any (s : ByteArray) (nn : Bool) (q : Value) (l : List (ByteArray × Bool)) (w : World) (hq : Chain w l q) (hs : s.size ≤ 1048576) :
    Calls Try.prog 6 #[.agg #[.string s, q, .bool nn]] w fun e w' => (e = .returned (.tuple #[.slice none 0 0, .bool false]) ∧ Below w.heap.size w w') ∨
      ∃ (g cap : Nat) (L : List Lv), e = .returned (.tuple #[.slice (some ⟨g, 0, none⟩) L.length cap, .bool true]) ∧ w'.ownsRow w.heap.size 24 3 (.slice (some ⟨g, 0, none⟩) L.length cap) L.length (flat L) ∧ names L = (s, nn) :: l ∧
        tot (names L) ≤ 1048576 ∧ L.length ≤ 4097 ∧ Below w.heap.size w w' := by
  obtain ⟨i0, hi, hz0, hz1, hz2⟩ := info_parts Try.info24
  obtain ⟨a, ha⟩ : ∃ a, q = .pointer a := by
    cases l with
    | nil => exact ⟨_, hq⟩
    | cons x l => obtain ⟨b, o, _, h, _⟩ := hq; exact ⟨_, h⟩
  subst ha
  have HQ : Hid (Chain w l (.pointer a)) := hq
  clear hq
  go_enter Try.func6, Try.ntmps6
  go_wp2_with fail
  go_loopg [4, 5, 6] l.length (fun k v y p wr => ∃ (done : List Lv) (rest : List (ByteArray × Bool)), rest.length = k ∧ Chain w rest p ∧ y = .int .i64 ((tot (names done) : Nat) : Int) ∧ tot (names done) ≤ 1048576 ∧ 1 ≤ done.length ∧ done.length ≤ 4097 ∧
    wr.ownsRow w.heap.size 24 3 v done.length (flat done) ∧ names done ++ rest = (s, nn) :: l ∧ Below w.heap.size w wr)
  case atStart =>
    have hb : Below w.heap.size w ((w.alloc (Obj.cells #[Value.string s, Value.pointer a, Value.bool nn] 24)).alloc (Obj.cells #[Value.string s, Value.pointer a, Value.bool nn] 24)) :=
      ((Below.refl _ _).alloc (Nat.le_refl _) _).alloc (by simp) _
    exact ⟨[⟨s, .pointer a, nn⟩], l, rfl, HQ.out, by simp [names, tot], by simp [names, tot]; exact hs, by simp, by simp, own_first w _ ⟨s, .pointer a, nn⟩, by simp [names], hb⟩
  case round =>
    obtain ⟨done, rest, hk, hch, rfl, htot, hd1, hd2, hown, hsplit, hbel⟩ := hrel
    obtain ⟨g, cap, rfl⟩ : ∃ g cap, u4 = .slice (some ⟨g, 0, none⟩) done.length cap := by
      rcases hown.2 with ⟨_, h⟩ | ⟨g, cap, _, h, _⟩
      · omega
      · exact ⟨g, cap, h⟩
    have HO : Hid (wr.ownsRow w.heap.size 24 3 (.slice (some ⟨g, 0, none⟩) done.length cap) done.length (flat done)) := hown
    have HB : Hid (Below w.heap.size w wr) := hbel
    have HS : Hid (names done ++ rest = (s, nn) :: l) := hsplit
    have hbs := hbel.size
    have hgl := hown.lt g rfl
    obtain ⟨T, hT⟩ : ∃ T, T = tot (names done) := ⟨_, rfl⟩
    rw [← hT] at htot
    obtain ⟨D, hD⟩ : ∃ D, D = done.length := ⟨_, rfl⟩
    have HT : Hid (T = tot (names done)) := hT
    have HD : Hid (D = done.length) := hD
    rw [← hT, ← hD]
    rw [← hD] at hd1 hd2
    clear hown hbel hsplit hT hD
    cases rest with
    | nil =>
      cases hch
      go_wp2_with fail
      go_ret2
      refine .inr ⟨g, cap, done, by rw [← HD.out]; rfl, HO.out, ?_, ?_, by rw [← HD.out]; exact hd2, HB.out⟩
      · have := HS.out; simpa using this
      · rw [← HT.out]; exact htot
    | cons x rest =>
      obtain ⟨b, o, q', rfl, h0, h1, h2, hch'⟩ := hch
      have HCH : Hid (Chain w rest q') := hch'
      have K1 : Hid (w.cell? ⟨b, o + 1, none⟩ = some q') := h1
      have h0 := cell_later HB.out h0
      have h1 := cell_later HB.out h1
      have h2 := cell_later HB.out h2
      have hb1 : ∀ ob, Below w.heap.size w (wr.alloc ob) := fun ob => HB.out.alloc hbs ob
      have k1 : ∀ ob, (wr.alloc ob).cell? ⟨b, o + 1, none⟩ = some q' := fun ob => cell_later (hb1 ob) K1.out
      clear hch' hb1
      by_cases c1 : 4096 < D
      · go_wp2_with fail
        go_ret2
        exact .inl ⟨rfl, HB.out⟩
      · by_cases c2 : 1048576 < x.1.size
        · go_wp2_with fail
          go_ret2
          exact .inl ⟨rfl, HB.out⟩
        · by_cases c3 : 1048576 < T + x.1.size
          · go_wp2_with fail
            go_ret2
            exact .inl ⟨rfl, HB.out⟩
          · have hO2 : wr.ownsRow w.heap.size 24 3 (.slice (some ⟨g, 0, none⟩) D cap) D (flat done) := by rw [HD.out]; exact HO.out
            go_wp2_with (at_builtin; refine wpList_append_own _ rfl (.tmp 40) (.tmp 44) 25 rfl w.heap.size 24 i0 (.agg #[.string ByteArray.empty, .pointer none, .bool false]) 3 32 Try.underlying25 hi hz0 hz1 hz2 rfl (by decide) _ D (flat done) rfl (hO2.alloc _) ⟨wr.heap.size, 0, none⟩ 1 1 [.string x.1, q', .bool x.2] rfl rfl (new_three _ _ _ _ _) (three_one HCH.out) (by unfold maxLen; omega) (by omega) (by simp; omega) ?_; intro v' w1 hown1 hgrow1 _; have HB1 : Hid (Below w.heap.size w w1) := grow_below HB.out hgrow1 hbs (fun k hk => by cases hk; exact hgl.1); have k2 := cell_later HB1.out K1.out)
            have hlen : (done ++ [(⟨x.1, q', x.2⟩ : Lv)]).length = D + 1 := by simp [HD.out]
            have hnm : names (done ++ [(⟨x.1, q', x.2⟩ : Lv)]) = names done ++ [x] := by simp [names]
            have htt : tot (names (done ++ [(⟨x.1, q', x.2⟩ : Lv)])) = T + x.1.size := by rw [hnm, tot_app, HT.out]; simp [tot]
            go_roundg rest.length
            case measure => simp at hk; omega
            case rel => exact ⟨done ++ [⟨x.1, q', x.2⟩], rest, rfl, HCH.out, by rw [htt]; go_num, by omega, by omega, by omega, by rw [hlen, flat_snoc]; exact hown1, by rw [hnm]; have := HS.out; simpa using this, HB1.out⟩
end Go.Proofs.Qxb6602381a
