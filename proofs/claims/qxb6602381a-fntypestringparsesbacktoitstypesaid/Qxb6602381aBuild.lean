/-
  Seat b6602381a: the walk of tyBuild (7): it makes the chain of types.
-/
import Derived.Test.Qxb6602381aLevels
import Derived.RegionTactic
import Derived.ChangeAlike
namespace Go.Proofs.Qxb6602381a
open Go.RowKit

/-- the types from place j on, c of them -/
def sfx (nm : Nat → ByteArray) (fl : Nat → Bool) : Nat → Nat → List (ByteArray × Bool)
  | 0, _ => []
  | c + 1, j => (nm j, fl j) :: sfx nm fl c (j + 1)

/-- as Chain, all nodes from block lo on -/
def ChainG (w : World) (lo : Nat) : List (ByteArray × Bool) → Value → Prop
  | [], v => v = .pointer none
  | x :: l, v => ∃ (b o : Nat) (q : Value), lo ≤ b ∧ v = .pointer (some ⟨b, o, none⟩) ∧ w.cell? ⟨b, o, none⟩ = some (.string x.1) ∧ w.cell? ⟨b, o + 1, none⟩ = some q ∧ w.cell? ⟨b, o + 2, none⟩ = some (.bool x.2) ∧ ChainG w lo l q

theorem ChainG.chain {w : World} {lo : Nat} : ∀ {l : List (ByteArray × Bool)} {v : Value}, ChainG w lo l v → Chain w l v
  | [], _, h => h
  | _ :: _, _, ⟨b, o, q, _, hv, h0, h1, h2, hq⟩ => ⟨b, o, q, hv, h0, h1, h2, hq.chain⟩
theorem ChainG.carry {w w' : World} {lo : Nat} (hc : ∀ b o v, lo ≤ b → w.cell? ⟨b, o, none⟩ = some v → w'.cell? ⟨b, o, none⟩ = some v) : ∀ {l : List (ByteArray × Bool)} {v : Value}, ChainG w lo l v → ChainG w' lo l v
  | [], _, h => h
  | _ :: _, _, ⟨b, o, q, hb, hv, h0, h1, h2, hq⟩ => ⟨b, o, q, hb, hv, hc b o _ hb h0, hc b (o + 1) _ hb h1, hc b (o + 2) _ hb h2, hq.carry hc⟩

theorem three_set {W : World} {B : Nat} {a b c : Value} {t : TypeId} (h : W.heap[B]? = some (.cells #[a, b, c] t (0, 0))) (x y z : Value) :
    (((W.setCell ⟨B, 0, none⟩ x).setCell ⟨B, 1, none⟩ y).setCell ⟨B, 2, none⟩ z).heap[B]? = some (.cells #[x, y, z] t (0, 0)) := by
  simp [World.setCell, Array.getElem?_modify, h]
theorem three_other {W : World} {B k : Nat} (x y z : Value) (hk : k ≠ B) :
    (((W.setCell ⟨B, 0, none⟩ x).setCell ⟨B, 1, none⟩ y).setCell ⟨B, 2, none⟩ z).heap[k]? = W.heap[k]? := by
  rw [Below.heap_setCell _ _ _ _ hk, Below.heap_setCell _ _ _ _ hk, Below.heap_setCell _ _ _ _ hk]
theorem three_size {W : World} {B : Nat} (x y z : Value) :
    (((W.setCell ⟨B, 0, none⟩ x).setCell ⟨B, 1, none⟩ y).setCell ⟨B, 2, none⟩ z).heap.size = W.heap.size := by simp [World.setCell]
theorem three_below {W w : World} {A B : Nat} (h : Below A w W) (hB : A ≤ B) (x y z : Value) :
    Below A w (((W.setCell ⟨B, 0, none⟩ x).setCell ⟨B, 1, none⟩ y).setCell ⟨B, 2, none⟩ z) := ((h.setCell hB x).setCell hB y).setCell hB z

/-- one round of tyBuild's loop: the cell 'cur' (block B) holds the next level outward, a copy of what it held lies in a new block -/
theorem build_round {W : World} {B : Nat} {a b c x y : Value} {s : ByteArray} {nn : Bool} {q : Value} {l : List (ByteArray × Bool)} (h : W.heap[B]? = some (.cells #[a, b, c] 30 (0, 0))) (hch : ChainG W (B + 1) l q) :
    ChainG ((((W.setCell ⟨B, 0, none⟩ x).setCell ⟨B, 1, none⟩ (.pointer (some ⟨W.heap.size, 0, none⟩))).setCell ⟨B, 2, none⟩ y).alloc (.cells #[.string s, q, .bool nn] 30)).drew (B + 1) ((s, nn) :: l) (.pointer (some ⟨W.heap.size, 0, none⟩)) := by
  have hlt : B < W.heap.size := (Array.getElem?_eq_some_iff.1 h).1
  obtain ⟨W3, hW3⟩ : ∃ W3, W3 = ((W.setCell ⟨B, 0, none⟩ x).setCell ⟨B, 1, none⟩ (.pointer (some ⟨W.heap.size, 0, none⟩))).setCell ⟨B, 2, none⟩ y := ⟨_, rfl⟩
  have hs : W3.heap.size = W.heap.size := by rw [hW3]; exact three_size _ _ _
  have ho : ∀ k, k ≠ B → W3.heap[k]? = W.heap[k]? := by intro k hk; rw [hW3]; exact three_other _ _ _ hk
  rw [← hW3]
  have hnew := heap_alloc_new W3 (.cells #[.string s, q, .bool nn] 30)
  rw [hs] at hnew
  refine ⟨W.heap.size, 0, q, by omega, rfl, ?_, ?_, ?_, ?_⟩
  · show (W3.alloc _).cell? _ = _; simp only [World.cell?, hnew]; rfl
  · show (W3.alloc _).cell? _ = _; simp only [World.cell?, hnew]; rfl
  · show (W3.alloc _).cell? _ = _; simp only [World.cell?, hnew]; rfl
  · refine hch.carry ?_
    intro b' o' v' hb' hc'
    have hbl : b' < W.heap.size := World.block_lt_of_cell? W _ hc'
    have e : (W3.alloc (.cells #[.string s, q, .bool nn] 30)).heap[b']? = W.heap[b']? := by
      rw [Below.heap_alloc W3 _ b' (by omega), ho b' (by omega)]
    show (W3.alloc _).cell? _ = _
    exact (World.cell?_of_block (w := W) (a := ⟨b', o', none⟩) e).trans hc'

set_option maxHeartbeats 1000000 in
theorem build_any (g n cap : Nat) (nm : Nat → ByteArray) (fl : Nat → Bool) (w : World) (h0 : ∀ i, i ≤ n → w.cell? ⟨g, i * 3, none⟩ = some (.string (nm i))) (h2 : ∀ i, i ≤ n → w.cell? ⟨g, i * 3 + 2, none⟩ = some (.bool (fl i))) (hn : n ≤ 4096) :
    Calls Try.prog 7 #[.slice (some ⟨g, 0, none⟩) (n + 1) cap] w fun e w' => ∃ q, e = .returned (.agg #[.string (nm 0), q, .bool (fl 0)]) ∧ Chain w' (sfx nm fl n 1) q ∧ Below w.heap.size w w' := by
  have hn0 := h0 n (Nat.le_refl _)
  have hn2 := h2 n (Nat.le_refl _)
  have hg : g < w.heap.size := World.block_lt_of_cell? w _ hn0
  have H0 : Hid (∀ i, i ≤ n → w.cell? ⟨g, i * 3, none⟩ = some (.string (nm i))) := h0
  have H2 : Hid (∀ i, i ≤ n → w.cell? ⟨g, i * 3 + 2, none⟩ = some (.bool (fl i))) := h2
  clear h0 h2
  go_enter Try.func7, Try.ntmps7
  go_wp2_with fail
  go_region
  go_wp2_with fail
  go_loopw [5] (fun i wr => ∃ (j : Nat) (K : Int) (p : Value), j ≤ n ∧ K = (j : Int) - 1 ∧ i = .int .i64 K ∧
      wr.heap[w.heap.size]? = some (.cells #[.string ⟨#[]⟩, .pointer none, .bool false] 30 (0, 0)) ∧ wr.heap[w.heap.size + 1]? = some (.cells #[.string (nm j), p, .bool (fl j)] 30 (0, 0)) ∧
      ChainG wr (w.heap.size + 2) (sfx nm fl (n - j) (j + 1)) p ∧ Below w.heap.size w wr) (fun i _ => (intOf i + 1).toNat)
  case atStart =>
    refine ⟨n, _, .pointer none, Nat.le_refl _, rfl, rfl, ?_, ?_, ?_, ?_⟩
    · show ((w.alloc _).alloc _).heap[w.heap.size]? = _
      rw [Below.heap_alloc _ _ _ (by simp), heap_alloc_new]
    · show ((w.alloc _).alloc _).heap[w.heap.size + 1]? = _
      have := heap_alloc_new (w.alloc (Obj.cells #[Value.string { data := #[] }, Value.pointer none, Value.bool false] 30)) (Obj.cells #[Value.string (nm n), Value.pointer none, Value.bool (fl n)] 30)
      simpa using this
    · simp [sfx, ChainG]
    · exact (((Below.refl _ _).alloc (Nat.le_refl _) _).alloc (by simp) _).drew
  case round =>
    obtain ⟨j, K, p, hj, hK, rfl, hB0, hB1, hch, hbel⟩ := hrel
    obtain ⟨pa, rfl⟩ := chain_ptr hch.chain
    have HB0 : Hid (wr.heap[w.heap.size]? = some (.cells #[.string ⟨#[]⟩, .pointer none, .bool false] 30 (0, 0))) := hB0
    have HB1 : Hid (wr.heap[w.heap.size + 1]? = some (.cells #[.string (nm j), .pointer pa, .bool (fl j)] 30 (0, 0))) := hB1
    have HCH : Hid (ChainG wr (w.heap.size + 2) (sfx nm fl (n - j) (j + 1)) (.pointer pa)) := hch
    have HBEL : Hid (Below w.heap.size w wr) := hbel
    have hsz : w.heap.size + 1 < wr.heap.size := (Array.getElem?_eq_some_iff.1 hB1).1
    have c0 : wr.cell? ⟨w.heap.size + 1, 0, none⟩ = some (.string (nm j)) := by simp [World.cell?, hB1]
    have c1 : wr.cell? ⟨w.heap.size + 1, 1, none⟩ = some (.pointer pa) := by simp [World.cell?, hB1]
    have c2 : wr.cell? ⟨w.heap.size + 1, 2, none⟩ = some (.bool (fl j)) := by simp [World.cell?, hB1]
    have f0 : ∀ o, wr.frozen? ⟨w.heap.size + 1, o, none⟩ = false := by intro o; simp [World.frozen?, hB1]
    have r0 : wr.cell? ⟨w.heap.size, 0, none⟩ = some (.string ⟨#[]⟩) := by simp [World.cell?, hB0]
    have r1 : wr.cell? ⟨w.heap.size, 1, none⟩ = some (.pointer none) := by simp [World.cell?, hB0]
    have r2 : wr.cell? ⟨w.heap.size, 2, none⟩ = some (.bool false) := by simp [World.cell?, hB0]
    have rf : ∀ o, wr.frozen? ⟨w.heap.size, o, none⟩ = false := by intro o; simp [World.frozen?, hB0]
    clear hB0 hB1 hch hbel hn0 hn2
    by_cases hj0 : 0 < j
    · obtain ⟨m, rfl⟩ : ∃ m, j = m + 1 := ⟨j - 1, by omega⟩
      have hKm : K = (m : Int) := by omega
      clear hK
      subst hKm
      have hm0 := cell_later HBEL.out (H0.out m (by omega))
      have hm2 := cell_later HBEL.out (H2.out m (by omega))
      have hgw : g < wr.heap.size := by omega
      go_wp2_with fail
      go_region
      go_wp2_with fail
      have hlen : n - m = (n - (m + 1)) + 1 := by omega
      have hR := build_round (x := .string (nm m)) (y := .bool (fl m)) (s := nm (m + 1)) (nn := fl (m + 1)) HB1.out HCH.out
      have hA : ∀ ob : Obj, ∀ k, k < wr.heap.size → ((((wr.setCell ⟨w.heap.size + 1, 0, none⟩ (.string (nm m))).setCell ⟨w.heap.size + 1, 1, none⟩ (.pointer (some ⟨wr.heap.size, 0, none⟩))).setCell ⟨w.heap.size + 1, 2, none⟩ (.bool (fl m))).alloc ob).drew.heap[k]? = (((wr.setCell ⟨w.heap.size + 1, 0, none⟩ (.string (nm m))).setCell ⟨w.heap.size + 1, 1, none⟩ (.pointer (some ⟨wr.heap.size, 0, none⟩))).setCell ⟨w.heap.size + 1, 2, none⟩ (.bool (fl m))).heap[k]? := by
        intro ob k hk
        exact Below.heap_alloc _ ob k (by rw [three_size]; exact hk)
      go_roundw
      case rel =>
        refine ⟨m, _, .pointer (some ⟨wr.heap.size, 0, none⟩), by omega, rfl, rfl, ?_, ?_, ?_, ?_⟩
        · rw [hA _ _ (by omega), three_other _ _ _ (by omega)]; exact HB0.out
        · rw [hA _ _ (by omega)]; exact three_set HB1.out _ _ _
        · rw [hlen]; exact hR
        · exact ((three_below HBEL.out (by omega) _ _ _).alloc (by rw [three_size]; omega) _).drew
      case measure => simp [intOf]
    · have hK0 : K = -1 := by omega
      have hj00 : j = 0 := by omega
      clear hK
      subst hK0 hj00
      go_wp2_with fail
      have hB := three_set HB0.out (.string (nm 0)) (.pointer pa) (.bool (fl 0))
      refine bodyPost_ret (v := .agg #[.string (nm 0), .pointer pa, .bool (fl 0)]) (by simp [results, Try.results7, go_sem, World.cell?, hB]) rfl ⟨_, rfl, ?_, three_below HBEL.out (Nat.le_refl _) _ _ _⟩
      refine (HCH.out.carry ?_).chain
      intro b' o' v' hb' hc'
      exact (World.cell?_of_block (w := wr) (a := ⟨b', o', none⟩) (three_other _ _ _ (by show b' ≠ _; omega))).trans hc'
end Go.Proofs.Qxb6602381a
