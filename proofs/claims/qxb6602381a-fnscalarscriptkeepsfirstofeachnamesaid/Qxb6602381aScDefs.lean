/-
  Seat b6602381a, the script of scalars: the walk of ZZFileDefs (15): the names and the texts, in two new slices.
-/
import Derived.Test.Qxb6602381aScalar
namespace Go.Proofs.Qxb6602381a.Sc
open Go.RowKit

theorem info9 : (Try.prog.info? 9).map (fun i => (i.zero, i.size, i.bytes)) = some (some (.string ByteArray.empty), 1, 16) := by kernel_rfl

def strs (ds : List ByteArray) : List Value := ds.map Value.string
theorem strs_one (x : ByteArray) : ∀ u ∈ [Value.string x], u.oneCell' = true := by
  intro u hu; simp at hu; subst hu; rfl

/-- two rows whose first cells differ lie in two blocks -/
theorem rows_apart {w : World} {B : Nat} {v4 v5 : Value} {n m : Nat} {xs ys : List Value} {a b : Value} (h4 : w.ownsRow B 9 1 v4 n xs) (h5 : w.ownsRow B 9 1 v5 m ys) (ha : xs[0]? = some a) (hb : ys[0]? = some b) (hab : a ≠ b) :
    v4.ownBlock ≠ v5.ownBlock := by
  intro e
  have hs : ∃ g, v4.ownBlock = some g := by
    rcases h4.2 with ⟨rfl, h0⟩ | ⟨g, cap, cur, rfl, _⟩
    · have hl := h4.1
      have : xs = [] := List.eq_nil_of_length_eq_zero (by omega)
      rw [this] at ha; simp at ha
    · exact ⟨g, rfl⟩
  obtain ⟨g, hg⟩ := hs
  have k4 := h4.cells hg 0 a ha
  have k5 := h5.cells (e ▸ hg) 0 b hb
  rw [k4] at k5
  exact hab (Option.some.inj k5)

/-- what is gathered when k definitions have been looked at -/
structure Got (w wr : World) (B : Nat) (ds : List ByteArray) (k : Nat) (v4 v5 : Value) : Prop where
  nm : wr.ownsRow B 9 1 v4 k (strs (ds.take k))
  tx : wr.ownsRow B 9 1 v5 k (strs ((ds.take k).map txt))
  nil4 : k = 0 → v4 = .slice none 0 0
  nil5 : k = 0 → v5 = .slice none 0 0
  below : Below B w wr

theorem take_strs (ds : List ByteArray) (k : Nat) (h : k < ds.length) : strs (ds.take (k + 1)) = strs (ds.take k) ++ [.string ds[k]] := by
  rw [List.take_succ_eq_append_getElem h]; simp only [strs, List.map_append, List.map_cons, List.map_nil]
theorem take_txts (ds : List ByteArray) (k : Nat) (h : k < ds.length) : strs ((ds.take (k + 1)).map txt) = strs ((ds.take k).map txt) ++ [.string (txt ds[k])] := by
  rw [List.take_succ_eq_append_getElem h]; simp only [strs, List.map_append, List.map_cons, List.map_nil]
theorem first_nm (ds : List ByteArray) (k : Nat) (h : k < ds.length) : (strs (ds.take (k + 1)))[0]? = some (.string (ds[0]'(by omega))) := by
  cases ds with
  | nil => simp at h
  | cons x ds => simp [strs]
theorem first_tx (ds : List ByteArray) (k : Nat) (hk : 0 < k) (h : k < ds.length) : (strs ((ds.take k).map txt))[0]? = some (.string (txt (ds[0]'(by omega)))) := by
  cases ds with
  | nil => simp at h
  | cons x ds =>
    obtain ⟨j, rfl⟩ : ∃ j, k = j + 1 := ⟨k - 1, by omega⟩
    simp [strs]

theorem Got.apart {w wr : World} {B : Nat} {ds : List ByteArray} {k : Nat} {v4 v5 : Value} (h : Got w wr B ds k v4 v5) (hk : k < ds.length) : v5.ownBlock = none ∨ v5.ownBlock ≠ v4.ownBlock := by
  by_cases h0 : k = 0
  · left; rw [h.nil5 h0]; rfl
  · right
    obtain ⟨j, rfl⟩ : ∃ j, k = j + 1 := ⟨k - 1, by omega⟩
    intro e
    refine rows_apart h.nm h.tx (first_nm ds j (by omega)) (first_tx ds (j + 1) (by omega) hk) ?_ e.symm
    intro e2
    exact txt_ne _ (Value.string.inj e2).symm

/-- behind the append of the name -/
theorem got_mid {w wr w1 : World} {B : Nat} {ds : List ByteArray} {k : Nat} {v4 v5 v4' : Value} {ob : Obj} (h : Got w wr B ds k v4 v5) (hk : k < ds.length) (hB : B ≤ wr.heap.size)
    (ho : w1.ownsRow B 9 1 v4' (k + 1) (strs (ds.take k) ++ [.string ds[k]])) (hg : (wr.alloc ob).grownBy w1 v4.ownBlock) :
    w1.ownsRow B 9 1 v5 k (strs ((ds.take k).map txt)) ∧ Below B w w1 ∧ (v4'.ownBlock = none ∨ v4'.ownBlock ≠ v5.ownBlock) := by
  have h5 := (h.tx.alloc ob).kept hg (h.apart hk)
  refine ⟨h5, (h.below.alloc hB ob).grown hg (by simp; omega) (fun j hj => (h.nm.lt j hj).1), .inr ?_⟩
  by_cases h0 : k = 0
  · rw [h.nil5 h0]
    obtain ⟨g, cap, e⟩ := own_shape ho
    rw [e]; simp [Value.ownBlock]
  · rw [← take_strs ds k hk] at ho
    refine rows_apart ho h5 (first_nm ds k hk) (first_tx ds k (by omega) hk) ?_
    intro e2
    exact txt_ne _ (Value.string.inj e2).symm
/-- behind the append of the text -/
theorem got_next {w w1 w2 : World} {B : Nat} {ds : List ByteArray} {k : Nat} {v5 v4' v5' : Value} {ob : Obj} (hk : k < ds.length) (hB : B ≤ w1.heap.size)
    (ho : w1.ownsRow B 9 1 v4' (k + 1) (strs (ds.take k) ++ [.string ds[k]])) (h5 : w1.ownsRow B 9 1 v5 k (strs ((ds.take k).map txt))) (hb : Below B w w1) (hne : v4'.ownBlock = none ∨ v4'.ownBlock ≠ v5.ownBlock)
    (ho5 : w2.ownsRow B 9 1 v5' (k + 1) (strs ((ds.take k).map txt) ++ [.string (txt ds[k])])) (hg : (w1.alloc ob).grownBy w2 v5.ownBlock) : Got w w2 B ds (k + 1) v4' v5' :=
  ⟨by rw [take_strs ds k hk]; exact (ho.alloc ob).kept hg hne, by rw [take_txts ds k hk]; exact ho5, fun h => by omega, fun h => by omega, (hb.alloc hB ob).grown hg (by simp; omega) (fun j hj => (h5.lt j hj).1)⟩

set_option maxHeartbeats 1000000 in
theorem defs_nil (F : Nat) (w : World) (h : FileOK w F (.slice none 0 0) []) :
    Calls Try.prog 15 #[.pointer (some ⟨F, 0, none⟩)] w fun e w' => ∃ v4 v5, e = .returned (.tuple #[v4, v5]) ∧ Got w w' w.heap.size [] 0 v4 v5 := by
  have c0 := h.cell0
  clear h
  go_enter Try.func15, Try.ntmps15
  go_wp2_with fail
  go_loop [4, 5, 6] (fun v4 v5 i => v4 = .slice none 0 0 ∧ v5 = .slice none 0 0 ∧ i = .int .i64 0) (fun _ _ _ => 0)
  case atStart => exact ⟨rfl, rfl, rfl⟩
  case round =>
    obtain ⟨rfl, rfl, rfl⟩ := hrel
    go_wp2_with fail
    go_ret2
    exact ⟨_, _, rfl, World.ownsRow_nil _ _ _ _, World.ownsRow_nil _ _ _ _, fun _ => rfl, fun _ => rfl, Below.refl _ _⟩

set_option maxHeartbeats 1000000 in
theorem defs_some (F g cap : Nat) (ds : List ByteArray) (w : World) (h : FileOK w F (.slice (some ⟨g, 0, none⟩) ds.length cap) ds) (hd : ds.length ≤ 4096) :
    Calls Try.prog 15 #[.pointer (some ⟨F, 0, none⟩)] w fun e w' => ∃ v4 v5, e = .returned (.tuple #[v4, v5]) ∧ Got w w' w.heap.size ds ds.length v4 v5 := by
  obtain ⟨i0, hi, hz0, hz1, hz2⟩ := info_parts info9
  have c0 := h.cell0
  have H : Hid (FileOK w F (.slice (some ⟨g, 0, none⟩) ds.length cap) ds) := h
  have hcs := h.own.cells (g := g) rfl
  have HC1 : Hid (∀ k (hk : k < ds.length), w.cell? ⟨g, k * 2, none⟩ = some (.string ds[k])) := by intro k hk; have := hcs _ _ (flat2_get ds k hk).1; rw [Addr.add_lit] at this; simpa using this
  have HC2 : Hid (∀ k (hk : k < ds.length), w.cell? ⟨g, k * 2 + 1, none⟩ = some (.string (txt ds[k]))) := by intro k hk; have := hcs _ _ (flat2_get ds k hk).2; rw [Addr.add_lit] at this; simpa using this
  clear h hcs
  go_enter Try.func15, Try.ntmps15
  go_wp2_with fail
  go_loopw [4, 5, 6] (fun v4 v5 i wr => ∃ k : Nat, k ≤ ds.length ∧ i = .int .i64 k ∧ Got w wr w.heap.size ds k v4 v5) (fun _ _ i _ => ds.length - (intOf i).toNat)
  case atStart => exact ⟨0, Nat.zero_le _, rfl, World.ownsRow_nil _ _ _ _, World.ownsRow_nil _ _ _ _, fun _ => rfl, fun _ => rfl, Below.refl _ _⟩
  case round =>
    obtain ⟨k, hk, rfl, hG⟩ := hrel
    have HG : Hid (Got w wr w.heap.size ds k u4 u5) := hG
    have hbs := hG.below.size
    have k0 := cell_later hG.below H.out.cell0
    have hnm := hG.nm
    clear hG
    by_cases hlt : k < ds.length
    · have k1 := cell_later HG.out.below (HC1.out k hlt)
      have k2 := cell_later HG.out.below (HC2.out k hlt)
      go_wp2_with (first
        | (at_builtin; refine wpList_append_own _ rfl (.tmp 16) (.tmp 25) 37 rfl w.heap.size 9 i0 (.string ByteArray.empty) 1 16 Try.underlying37 hi hz0 hz1 hz2 rfl (by decide) _ k _ rfl (hnm.alloc _) ⟨wr.heap.size, 0, none⟩ 1 1 [.string ds[k]] rfl rfl (cell_one_new _ _ _) (strs_one _) (by unfold maxLen; omega) (by omega) (by simp; omega) ?_; intro v4' w1 hown1 hgrow1 _; have hmid := got_mid HG.out hlt hbs hown1 hgrow1; have H5 : Hid (w1.ownsRow w.heap.size 9 1 u5 k (strs ((ds.take k).map txt))) := hmid.1; have HB1 : Hid (Below w.heap.size w w1) := hmid.2.1; have HNE := hmid.2.2; have hbs1 := HB1.out.size; have m0 := cell_later HB1.out H.out.cell0; have m2 := cell_later HB1.out (HC2.out k hlt); have HO1 : Hid (w1.ownsRow w.heap.size 9 1 v4' (k + 1) (strs (ds.take k) ++ [.string ds[k]])) := hown1; clear hmid)
        | (at_builtin; refine wpList_append_own _ rfl (.tmp 27) (.tmp 36) 37 rfl w.heap.size 9 i0 (.string ByteArray.empty) 1 16 Try.underlying37 hi hz0 hz1 hz2 rfl (by decide) _ k _ rfl (World.ownsRow.alloc H5.out _) ⟨w1.heap.size, 0, none⟩ 1 1 [.string (txt ds[k])] rfl rfl (cell_one_new _ _ _) (strs_one _) (by unfold maxLen; omega) (by omega) (by simp; omega) ?_; intro v5' w2 hown2 hgrow2 _))
      go_roundw
      case rel => exact ⟨k + 1, by omega, by go_num, got_next hlt hbs1 HO1.out H5.out HB1.out HNE hown2 hgrow2⟩
      case measure => simp [intOf]; omega
    · have hkk : k = ds.length := by omega
      go_wp2_with fail
      go_ret2
      exact ⟨_, _, rfl, hkk ▸ HG.out⟩

theorem defs_any (F : Nat) (v : Value) (ds : List ByteArray) (w : World) (h : FileOK w F v ds) (hd : ds.length ≤ 4096) :
    Calls Try.prog 15 #[.pointer (some ⟨F, 0, none⟩)] w fun e w' => ∃ v4 v5, e = .returned (.tuple #[v4, v5]) ∧ Got w w' w.heap.size ds ds.length v4 v5 := by
  rcases h.own.2 with ⟨hv, h0⟩ | ⟨g, cap, _, hv, _⟩
  · have : ds = [] := List.eq_nil_of_length_eq_zero h0
    subst this hv
    exact defs_nil F w h
  · subst hv
    exact defs_some F g cap ds w h hd
end Go.Proofs.Qxb6602381a.Sc
