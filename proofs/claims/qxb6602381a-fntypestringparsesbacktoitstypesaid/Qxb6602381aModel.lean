/-
  Seat b6602381a: the walk of tyModel (9): the text, bracket by bracket; and that String writes the same.
-/
import Derived.Test.Qxb6602381aBuild
import Derived.Lib.AppendStr
import Derived.Laws.BytesString
import Derived.Deep.CutRange
namespace Go.Proofs.Qxb6602381a
open Go.RowKit
open Go.Lib (strCells strCells_length)

/-! ### plain: the text -/
def bang (b : Bool) : ByteArray := if b = true then ⟨#[33]⟩ else ByteArray.empty
/-- k opening brackets -/
def pre : Nat → ByteArray
  | 0 => ByteArray.empty
  | k + 1 => pre k ++ ⟨#[91]⟩
/-- the innermost name and flag, then c closing brackets with their flags -/
def mid (nm : Nat → ByteArray) (fl : Nat → Bool) (n : Nat) : Nat → ByteArray
  | 0 => nm n ++ bang (fl n)
  | c + 1 => mid nm fl n c ++ ⟨#[93]⟩ ++ bang (fl (n - (c + 1)))

theorem one_size (c : UInt8) : (⟨#[c]⟩ : ByteArray).size = 1 := rfl
theorem bang_size (b : Bool) : (bang b).size ≤ 1 := by cases b <;> decide
theorem pre_size : ∀ k, (pre k).size = k
  | 0 => rfl
  | k + 1 => by rw [pre, ByteArray.size_append, pre_size k, one_size]
theorem mid_size (nm : Nat → ByteArray) (fl : Nat → Bool) (n : Nat) : ∀ c, (mid nm fl n c).size ≤ (nm n).size + 1 + 2 * c
  | 0 => by have := bang_size (fl n); rw [mid, ByteArray.size_append]; omega
  | c + 1 => by
    have := bang_size (fl (n - (c + 1)))
    have ih := mid_size nm fl n c
    rw [mid, ByteArray.size_append, ByteArray.size_append, one_size]; omega
theorem pre_front : ∀ k, pre (k + 1) = ⟨#[91]⟩ ++ pre k
  | 0 => rfl
  | k + 1 => by
    have ih := pre_front k
    have e : pre (k + 1) = pre k ++ ⟨#[91]⟩ := rfl
    rw [pre, ih, ByteArray.append_assoc, ← e, ih]
theorem app_bang (x : ByteArray) (b : Bool) : x ++ bang b = if b = true then x ++ ⟨#[33]⟩ else x := by
  cases b <;> simp [bang]

/-- THE PLAIN LAW: String's text from level n - c on is c brackets and the middle -/
theorem str_mid (nm : Nat → ByteArray) (fl : Nat → Bool) (n : Nat) : ∀ c, c ≤ n → str (sfx nm fl c (n - c + 1)) (nm (n - c)) (fl (n - c)) = pre c ++ mid nm fl n c
  | 0, _ => by simp [sfx, str, pre, mid, app_bang]
  | c + 1, h => by
    have ih := str_mid nm fl n c (by omega)
    have e : n - (c + 1) + 1 = n - c := by omega
    rw [sfx, e]
    show (if fl (n - (c + 1)) = true then ⟨#[91]⟩ ++ str (sfx nm fl c (n - c + 1)) (nm (n - c)) (fl (n - c)) ++ ⟨#[93]⟩ ++ ⟨#[33]⟩ else ⟨#[91]⟩ ++ str (sfx nm fl c (n - c + 1)) (nm (n - c)) (fl (n - c)) ++ ⟨#[93]⟩) = _
    rw [ih, ← app_bang, pre_front, mid]
    simp only [ByteArray.append_assoc]

/-! ### what the call owns, byte by byte -/
theorem strCells_append (a b : ByteArray) : strCells (a ++ b) = strCells a ++ strCells b := by
  simp [strCells, ByteArray.data_append]
theorem own_push {w : World} {B : Nat} {v : Value} {T : ByteArray} {c : UInt8} (h : w.ownsRow B 5 1 v (T.size + 1) (strCells T ++ [.int .u8 c.toNat])) :
    w.ownsRow B 5 1 v (T ++ ⟨#[c]⟩).size (strCells (T ++ ⟨#[c]⟩)) := by
  rw [ByteArray.size_append, one_size, strCells_append]; exact h
theorem own_add {w : World} {B : Nat} {v : Value} {T s : ByteArray} (h : w.ownsRow B 5 1 v (T.size + s.size) (strCells T ++ strCells s)) :
    w.ownsRow B 5 1 v (T ++ s).size (strCells (T ++ s)) := by
  rw [ByteArray.size_append, strCells_append]; exact h

theorem fold_push (l : List UInt8) : ∀ s : ByteArray, (l.map (fun b => ((b.toNat : Nat) : Int))).foldl (fun r n => r.push (UInt8.ofNat n.toNat)) s = ⟨s.data ++ l.toArray⟩ := by
  induction l with
  | nil => intro s; simp
  | cons c l ih =>
    intro s
    simp only [List.map_cons, List.foldl_cons]
    rw [ih]
    have e : (s.push (UInt8.ofNat ((c.toNat : Int).toNat))).data = s.data.push c := by
      rw [Int.toNat_natCast, UInt8.ofNat_toNat]; rfl
    rw [e]
    congr 1
    apply Array.ext'
    simp

theorem conv_own {w : World} {B : Nat} {v : Value} {T : ByteArray} (h : w.ownsRow B 5 1 v T.size (strCells T)) : (convert 46 9 v).run Try.prog w = .ok (.string T) w := by
  rcases h.2 with ⟨rfl, h0⟩ | ⟨g, cap, cur, rfl, hg⟩
  · have : T = ByteArray.empty := by
      apply ByteArray.ext; apply Array.eq_empty_of_size_eq_zero; exact h0
    subst this
    rw [run_convert_bytes_string w 46 9 5 none 0 0 Try.underlying46 Try.underlying5 Try.underlying9]
    rfl
  · rw [run_convert_bytes_string w 46 9 5 (some ⟨g, 0, none⟩) T.size cap Try.underlying46 Try.underlying5 Try.underlying9]
    have hc := h.cells (g := g) rfl
    have hl := run_loadCells_list (P := Try.prog) w ⟨g, 0, none⟩ (strCells T) hc
    rw [strCells_length] at hl
    rw [run_bytesToString w ⟨g, 0, none⟩ T.size cap (T.data.toList.map (fun b => ((b.toNat : Nat) : Int))) (by
      rw [hl]; simp [strCells])]
    rw [fold_push]
    congr 1
    simp

theorem Try.info5 : (Try.prog.info? 5).map (fun i => (i.zero, i.size, i.bytes)) = some (some (.int .u8 0), 1, 1) := by kernel_rfl

theorem own_row {w : World} {B : Nat} {v : Value} {n : Nat} {xs : List Value} (h : w.ownsRow B 5 1 v n xs) : ∀ k, v.ownBlock = some k → B ≤ k := fun k hk => (h.lt k hk).1

set_option maxRecDepth 100000 in
set_option maxHeartbeats 2000000 in
theorem model_any (g n cap : Nat) (nm : Nat → ByteArray) (fl : Nat → Bool) (w : World) (h0 : ∀ i, i ≤ n → w.cell? ⟨g, i * 3, none⟩ = some (.string (nm i))) (h2 : ∀ i, i ≤ n → w.cell? ⟨g, i * 3 + 2, none⟩ = some (.bool (fl i))) (hn : n ≤ 4096)
    (hs : (nm n).size ≤ 1048576) :
    Calls Try.prog 9 #[.slice (some ⟨g, 0, none⟩) (n + 1) cap] w fun e w' => e = .returned (.string (pre n ++ mid nm fl n n)) ∧ Below w.heap.size w w' := by
  obtain ⟨i0, hi, hz0, hz1, hz2⟩ := info_parts Try.info5
  have H0 : Hid (∀ i, i ≤ n → w.cell? ⟨g, i * 3, none⟩ = some (.string (nm i))) := h0
  have H2 : Hid (∀ i, i ≤ n → w.cell? ⟨g, i * 3 + 2, none⟩ = some (.bool (fl i))) := h2
  clear h0 h2
  go_enter Try.func9, Try.ntmps9
  go_wp2_with fail
  go_loopw [4, 5] (fun v i wr => ∃ k : Nat, k ≤ n ∧ i = .int .i64 k ∧ wr.ownsRow w.heap.size 5 1 v (pre k).size (strCells (pre k)) ∧ Below w.heap.size w wr) (fun _ i _ => n - (intOf i).toNat)
  case atStart => exact ⟨0, Nat.zero_le _, rfl, World.ownsRow_nil _ _ _ _, Below.refl _ _⟩
  case round =>
    obtain ⟨k, hk, rfl, hown, hbel⟩ := hrel
    have hps := pre_size k
    have hps2 : (pre k).size ≤ 4096 := by omega
    obtain ⟨T, hT⟩ : ∃ T, T = pre k := ⟨_, rfl⟩
    rw [← hT] at hown hps2
    have HT : Hid (T = pre k) := hT
    have HB : Hid (Below w.heap.size w wr) := hbel
    have HO : Hid (wr.ownsRow w.heap.size 5 1 u4 T.size (strCells T)) := hown
    have hbs := hbel.size
    clear hps hT hbel
    by_cases hlt : k < n
    · go_wp2_with (at_builtin; refine wpList_append_own _ rfl (.tmp 15) (.tmp 16) 46 rfl w.heap.size 5 i0 (.int .u8 0) 1 1 Try.underlying46 hi hz0 hz1 hz2 rfl (by decide) _ T.size (strCells T) rfl (hown.alloc _) ⟨wr.heap.size, 0, none⟩ 1 1 [.int .u8 91] rfl rfl (cell_one_new _ _ _) (ints_oneCell .u8 [91]) (by unfold maxLen; omega) (by omega) (by simp; omega) ?_; intro v1 w1 hown1 hgrow1 _)
      have hb1 := grow_below HB.out hgrow1 hbs (own_row HO.out)
      have ho1 := own_push (c := 91) hown1
      go_roundw
      case rel => exact ⟨k + 1, by omega, by go_num, by rw [pre, ← HT.out]; exact ho1, hb1⟩
      case measure => simp [intOf]; omega
    · have hkn : k = n := by omega
      subst hkn
      have hc0 := cell_later HB.out (H0.out k (Nat.le_refl _))
      have hc2 := cell_later HB.out (H2.out k (Nat.le_refl _))
      go_upto_if 29 with (at_builtin; refine Lib.wpList_append_own_string _ rfl (.tmp 18) (.tmp 23) 46 9 rfl w.heap.size 5 i0 Try.underlying46 Try.underlying9 hi hz0 hz1 hz2 _ T.size (strCells T) rfl hown (nm k) rfl (by unfold maxLen; omega) (by omega) hbs ?_; intro v1 w1 hown1 hgrow1 _; have HB1 : Hid (Below w.heap.size w w1) := HB.out.grown hgrow1 hbs (own_row HO.out); have hd2 := cell_later HB1.out (H2.out k (Nat.le_refl _)))
      have ho1 := own_add hown1
      go_cut [4] from 7 to 32 (fun v wx => wx.ownsRow w.heap.size 5 1 v (pre k ++ mid nm fl k 0).size (strCells (pre k ++ mid nm fl k 0)) ∧ Below w.heap.size w wx)
      case first =>
        have hTs : (T ++ nm k).size ≤ 2000000 := by rw [ByteArray.size_append]; omega
        obtain ⟨U, hU⟩ : ∃ U, U = T ++ nm k := ⟨_, rfl⟩
        rw [← hU] at ho1 hTs
        have HU : Hid (U = T ++ nm k) := hU
        have HO1 : Hid (w1.ownsRow w.heap.size 5 1 v1 U.size (strCells U)) := ho1
        have hbs1 := HB1.out.size
        clear hU hown hown1
        cases hfl : fl k
        · have HF : Hid (fl k = false) := hfl
          go_wp2_with fail
          go_meet
          case rel =>
            have e : pre k ++ mid nm fl k 0 = U := by rw [mid, HF.out, HU.out, HT.out]; simp [bang]
            rw [e]; exact ⟨HO1.out, HB1.out⟩
        · have HF : Hid (fl k = true) := hfl
          go_wp2_with (at_builtin; refine wpList_append_own _ rfl (.tmp 30) (.tmp 31) 46 rfl w.heap.size 5 i0 (.int .u8 0) 1 1 Try.underlying46 hi hz0 hz1 hz2 rfl (by decide) _ U.size (strCells U) rfl (ho1.alloc _) ⟨w1.heap.size, 0, none⟩ 1 1 [.int .u8 33] rfl rfl (cell_one_new _ _ _) (ints_oneCell .u8 [33]) (by unfold maxLen; omega) (by omega) (by simp; omega) ?_; intro v2 w2 hown2 hgrow2 _)
          have hb2 := grow_below HB1.out hgrow2 hbs1 (own_row HO1.out)
          have ho2 := own_push (c := 33) hown2
          go_meet
          case rel =>
            have e : pre k ++ mid nm fl k 0 = U ++ ⟨#[33]⟩ := by rw [mid, HF.out, HU.out, HT.out, ByteArray.append_assoc]; rfl
            rw [e]; exact ⟨ho2, hb2⟩
      case rest =>
        obtain ⟨hown3, hb3⟩ := hcut
        have HO3 : Hid (wc.ownsRow w.heap.size 5 1 u4 (pre k ++ mid nm fl k 0).size (strCells (pre k ++ mid nm fl k 0))) := hown3
        have HB3 : Hid (Below w.heap.size w wc) := hb3
        clear hown3 hb3 hown hown1 ho1 hc0 hc2 hd2 hbs hlt
        go_wp2_with fail
        go_loopw [4, 6] (fun v i wr => ∃ (c : Nat) (K : Int), c ≤ k ∧ K = (k : Int) - 1 - c ∧ i = .int .i64 K ∧ wr.ownsRow w.heap.size 5 1 v (pre k ++ mid nm fl k c).size (strCells (pre k ++ mid nm fl k c)) ∧ Below w.heap.size w wr) (fun _ i _ => (intOf i + 1).toNat)
        case atStart => exact ⟨0, _, Nat.zero_le _, by simp, rfl, HO3.out, HB3.out⟩
        case round =>
          obtain ⟨c, K, hck, hK, rfl, hown4, hbel4⟩ := hrel
          have hsz : (pre k ++ mid nm fl k c).size ≤ 3000000 := by
            have h1 := pre_size k
            have h2 := mid_size nm fl k c
            rw [ByteArray.size_append]; omega
          obtain ⟨U, hU⟩ : ∃ U, U = pre k ++ mid nm fl k c := ⟨_, rfl⟩
          rw [← hU] at hown4 hsz
          have HU : Hid (U = pre k ++ mid nm fl k c) := hU
          have HO4 : Hid (wr.ownsRow w.heap.size 5 1 u4 U.size (strCells U)) := hown4
          have HB4 : Hid (Below w.heap.size w wr) := hbel4
          have hbs4 := hbel4.size
          clear hU hbel4
          by_cases hlt : c < k
          · obtain ⟨m, hm⟩ : ∃ m : Nat, m = k - (c + 1) := ⟨_, rfl⟩
            have hKm : K = (m : Int) := by omega
            have HM : Hid (m = k - (c + 1)) := hm
            have hmk : m < k := by omega
            have HMC : Hid (m + c + 1 = k) := by show m + c + 1 = k; omega
            clear hK hm
            subst hKm
            have hcm := cell_later HB4.out (H2.out m (by omega))
            have hgm : ∀ ob, (wr.alloc ob).cell? ⟨g, m * 3 + 2, none⟩ = some (.bool (fl m)) := fun ob => cell_later (HB4.out.alloc hbs4 ob) (H2.out m (by omega))
            cases hfl : fl m
            · have HF : Hid (fl m = false) := hfl
              go_wp2_with (at_builtin; refine wpList_append_own _ rfl (.tmp 39) (.tmp 40) 46 rfl w.heap.size 5 i0 (.int .u8 0) 1 1 Try.underlying46 hi hz0 hz1 hz2 rfl (by decide) _ U.size (strCells U) rfl (hown4.alloc _) ⟨wr.heap.size, 0, none⟩ 1 1 [.int .u8 93] rfl rfl (cell_one_new _ _ _) (ints_oneCell .u8 [93]) (by unfold maxLen; omega) (by omega) (by simp; omega) ?_; intro v5 w5 hown5 hgrow5 _; have HB5 : Hid (Below w.heap.size w w5) := grow_below HB4.out hgrow5 hbs4 (own_row HO4.out); have hd5 := cell_later HB5.out (H2.out m (by omega)))
              have ho5 := own_push (c := 93) hown5
              have e : pre k ++ mid nm fl k (c + 1) = U ++ ⟨#[93]⟩ := by rw [mid, ← HM.out, HF.out, HU.out]; simp [bang, ByteArray.append_assoc]
              go_roundw
              case rel => exact ⟨c + 1, _, by omega, by have := HMC.out; omega, rfl, by rw [e]; exact ho5, HB5.out⟩
              case measure => simp [intOf]
            · have HF : Hid (fl m = true) := hfl
              go_wp2_with (first
                | (at_builtin; refine wpList_append_own _ rfl (.tmp 39) (.tmp 40) 46 rfl w.heap.size 5 i0 (.int .u8 0) 1 1 Try.underlying46 hi hz0 hz1 hz2 rfl (by decide) _ U.size (strCells U) rfl (hown4.alloc _) ⟨wr.heap.size, 0, none⟩ 1 1 [.int .u8 93] rfl rfl (cell_one_new _ _ _) (ints_oneCell .u8 [93]) (by unfold maxLen; omega) (by omega) (by simp; omega) ?_; intro v5 w5 hown5 hgrow5 _; have HB5 : Hid (Below w.heap.size w w5) := grow_below HB4.out hgrow5 hbs4 (own_row HO4.out); have hd5 := cell_later HB5.out (H2.out m (by omega)); have hbs5 := HB5.out.size)
                | (at_builtin; refine wpList_append_own _ rfl (.tmp 47) (.tmp 48) 46 rfl w.heap.size 5 i0 (.int .u8 0) 1 1 Try.underlying46 hi hz0 hz1 hz2 rfl (by decide) _ (U.size + 1) _ rfl (hown5.alloc _) ⟨w5.heap.size, 0, none⟩ 1 1 [.int .u8 33] rfl rfl (cell_one_new _ _ _) (ints_oneCell .u8 [33]) (by unfold maxLen; omega) (by omega) (by simp; omega) ?_; intro v6 w6 hown6 hgrow6 _))
              have hb6 := grow_below HB5.out hgrow6 hbs5 (own_row hown5)
              have e6 : w6.ownsRow w.heap.size 5 1 v6 (U ++ ⟨#[93]⟩ ++ ⟨#[33]⟩).size (strCells (U ++ ⟨#[93]⟩ ++ ⟨#[33]⟩)) := by
                have : (U ++ ⟨#[93]⟩).size = U.size + 1 := by rw [ByteArray.size_append, one_size]
                refine own_push ?_
                rw [this, strCells_append]
                exact hown6
              have e : pre k ++ mid nm fl k (c + 1) = U ++ ⟨#[93]⟩ ++ ⟨#[33]⟩ := by rw [mid, ← HM.out, HF.out, HU.out]; simp [bang, ByteArray.append_assoc]
              go_roundw
              case rel => exact ⟨c + 1, _, by omega, by have := HMC.out; omega, rfl, by rw [e]; exact e6, hb6⟩
              case measure => simp [intOf]
          · have hK1 : K = -1 := by omega
            have hcc : c = k := by omega
            clear hK
            subst hK1 hcc
            have hconv := conv_own hown4
            go_wp2_with fail
            go_ret
            exact ⟨by rw [HU.out]; rfl, HB4.out⟩
end Go.Proofs.Qxb6602381a
