/-
  Plain: the decimal text of a number, and that scanP reads it back.
-/
import Derived.Test.Qxb6602349aPlain
namespace Go.Proofs.Qxb6602349a.Plain

/-- the t-th digit of N from the right, as a byte -/
def dig (N t : Nat) : Int := 48 + ((N / 10 ^ t % 10 : Nat) : Int)
/-- the digits of N from the left, m in all, of which the first r -/
def digs (N m r : Nat) : List Int := (List.range r).map (fun p => dig N (m - 1 - p))
/-- the text -/
def txt (neg : Bool) (N m : Nat) : List Int := (if neg = true then [45] else []) ++ digs N m m

theorem digs_len (N m r : Nat) : (digs N m r).length = r := by simp [digs]
theorem digs_succ (N m r : Nat) : digs N m (r + 1) = digs N m r ++ [dig N (m - 1 - r)] := by simp [digs, List.range_succ]
theorem digs_get (N m r p : Nat) (h : p < r) : (digs N m r).getD p 0 = dig N (m - 1 - p) := by
  simp [digs, List.getD_eq_getElem?_getD, List.getElem?_range h]
theorem dig_isD (N t : Nat) : isD (dig N t) = true := by
  rw [isD_iff]; unfold dig; omega
theorem dig_lo (N t : Nat) : 48 ≤ dig N t := ((isD_iff _).1 (dig_isD N t)).1
theorem dig_hi (N t : Nat) : dig N t ≤ 57 := ((isD_iff _).1 (dig_isD N t)).2

/-- o: how many signs stand ahead of the digits -/
def sgn (neg : Bool) : Nat := if neg = true then 1 else 0
theorem txt_len (neg : Bool) (N m : Nat) : (txt neg N m).length = sgn neg + m := by
  cases neg <;> simp [txt, sgn, digs_len]; omega

theorem getD_app {l r : List Int} (j : Nat) (h : l.length ≤ j) : (l ++ r).getD j 0 = r.getD (j - l.length) 0 := by
  simp [List.getD_eq_getElem?_getD, List.getElem?_append_right h]
theorem getD_app_lt {l r : List Int} (j : Nat) (h : j < l.length) : (l ++ r).getD j 0 = l.getD j 0 := by
  simp [List.getD_eq_getElem?_getD, List.getElem?_append_left h]

theorem valF_digs (f : Nat → Int) (s N m : Nat) (hN : N < 10 ^ m) (hf : ∀ p, p < m → f (s + p) = dig N (m - 1 - p)) :
    ∀ t, t ≤ m → valF f s t = ((N / 10 ^ (m - t) : Nat) : Int)
  | 0, _ => by
    have : N / 10 ^ (m - 0) = 0 := by simpa using Nat.div_eq_of_lt hN
    rw [this]; rfl
  | t + 1, h => by
    simp only [valF]
    rw [valF_digs f s N m hN hf t (by omega), hf t (by omega)]
    obtain ⟨q, hq⟩ : ∃ q, m - t = q + 1 := ⟨m - t - 1, by omega⟩
    have e1 : m - (t + 1) = q := by omega
    have e2 : m - 1 - t = q := by omega
    rw [hq, e1, e2]
    unfold dig
    have e3 : N / 10 ^ (q + 1) = N / 10 ^ q / 10 := by rw [Nat.pow_succ, Nat.div_div_eq_div_mul]
    rw [e3]
    omega

/-- THE PLAIN LAW: the text of N (m digits, no leading nought unless m = 1), behind any bytes and ahead of a byte that is no digit, is read back -/
theorem scan_txt (pre : List Int) (neg : Bool) (N m : Nat) (post : Int) (hN : N < 10 ^ m) (h1 : 1 ≤ m) (h18 : m ≤ 18) (hlead : m = 1 ∨ 0 < N / 10 ^ (m - 1)) (hp : isD post = false)
    (bs : List Int) (hbs : bs = pre ++ (txt neg N m ++ [post])) (n : Nat) (hn : n = bs.length) :
    scanP (fun i => bs.getD i 0) n pre.length = ((if neg = true then - (N : Int) else (N : Int)), ((pre.length + (txt neg N m).length : Nat) : Int), 0) := by
  have hT := txt_len neg N m
  have hnl : n = pre.length + (sgn neg + m) + 1 := by rw [hn, hbs]; simp [hT]; omega
  obtain ⟨f, hf⟩ : ∃ f : Nat → Int, f = fun i => bs.getD i 0 := ⟨_, rfl⟩
  rw [← hf]
  have fT : ∀ j, j < sgn neg + m → f (pre.length + j) = (txt neg N m).getD j 0 := by
    intro j hj
    rw [hf, hbs]
    show (pre ++ (txt neg N m ++ [post])).getD (pre.length + j) 0 = _
    rw [getD_app _ (by omega), getD_app_lt _ (by omega)]
    congr 1; omega
  have fP : f (pre.length + (sgn neg + m)) = post := by
    rw [hf, hbs]
    show (pre ++ (txt neg N m ++ [post])).getD (pre.length + (sgn neg + m)) 0 = _
    rw [getD_app _ (by omega), getD_app _ (by omega)]
    have : pre.length + (sgn neg + m) - pre.length - (txt neg N m).length = 0 := by omega
    rw [this]; rfl
  have fD : ∀ p, p < m → f (pre.length + sgn neg + p) = dig N (m - 1 - p) := by
    intro p hpm
    rw [Nat.add_assoc, fT _ (by omega)]
    cases neg
    · simp only [txt, sgn]
      simpa using digs_get N m m p hpm
    · simp only [txt, sgn, if_true]
      rw [getD_app _ (by simp)]
      have : 1 + p - [(45 : Int)].length = p := by simp
      rw [this]
      exact digs_get N m m p hpm
  have f0 : neg = true → f pre.length = 45 := by
    intro h
    have := fT 0 (by omega)
    rw [Nat.add_zero] at this
    rw [this, h]; rfl
  have hst : st f n pre.length = pre.length + sgn neg := by
    unfold st sgn
    cases neg
    · have := fD 0 (by omega)
      simp only [sgn] at this
      have h48 := dig_lo N (m - 1 - 0)
      rw [if_neg]
      · simp
      · rintro ⟨_, h⟩
        simp at this
        rw [h] at this
        simp at h48
        omega
    · rw [if_pos ⟨by omega, f0 rfl⟩]
      simp
  have hr : Run f n (pre.length + sgn neg) (pre.length + sgn neg + m) := by
    refine ⟨by omega, .inl (by omega), fun t h1 h2 => ?_, fun _ => ?_⟩
    · have := fD (t - (pre.length + sgn neg)) (by omega)
      have e : pre.length + sgn neg + (t - (pre.length + sgn neg)) = t := by omega
      rw [e] at this
      rw [this]; exact dig_isD _ _
    · rw [Nat.add_assoc, fP]; exact hp
  have hv := valF_digs f (pre.length + sgn neg) N m hN fD m (Nat.le_refl _)
  simp at hv
  have he := hr.eq
  unfold scanP
  simp only [hst, ← he]
  rw [if_neg (by omega), if_neg]
  · have e1 : pre.length + sgn neg + m - (pre.length + sgn neg) = m := by omega
    have e2 : pre.length + sgn neg + m = pre.length + (txt neg N m).length := by omega
    rw [e1, hv, e2]
    cases neg
    · rw [if_neg, if_neg (by simp)]
      rintro ⟨_, h⟩
      have := fD 0 (by omega)
      simp [sgn] at this
      rw [h] at this
      have h48 := dig_lo N (m - 1)
      omega
    · rw [if_pos ⟨by omega, f0 rfl⟩, if_pos rfl]
  · rintro (h | h | ⟨h, h48⟩)
    · omega
    · omega
    · have := fD 0 (by omega)
      rw [Nat.add_zero] at this
      rw [this] at h48
      unfold dig at h48
      have hl : 0 < N / 10 ^ (m - 1) := by rcases hlead with x | x <;> omega
      have hlt : N / 10 ^ (m - 1) < 10 := by
        have hm : m = m - 1 + 1 := by omega
        rw [hm, Nat.pow_succ] at hN
        exact Nat.div_lt_of_lt_mul hN
      rw [Nat.sub_zero, Nat.mod_eq_of_lt hlt] at h48
      omega
end Go.Proofs.Qxb6602349a.Plain
