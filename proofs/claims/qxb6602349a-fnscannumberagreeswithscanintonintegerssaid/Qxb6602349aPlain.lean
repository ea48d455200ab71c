/-
  The plain mathematics of the seat b6602349a: runs of digits, their value, the number automaton. No Go in sight.
-/
namespace Go.Proofs.Qxb6602349a.Plain

/-- is the byte a decimal digit -/
def isD (c : Int) : Bool := decide (48 ≤ c) && decide (c ≤ 57)

theorem isD_true {c : Int} (h1 : 48 ≤ c) (h2 : c ≤ 57) : isD c = true := by simp [isD, h1, h2]
theorem isD_iff (c : Int) : isD c = true ↔ 48 ≤ c ∧ c ≤ 57 := by simp [isD]
theorem isD_false_iff (c : Int) : isD c = false ↔ c < 48 ∨ 57 < c := by
  rw [← Bool.not_eq_true, isD_iff]; omega

/-- e is where the run of digits from s on ends (s itself where s lies beyond n) -/
structure Run (f : Nat → Int) (n s e : Nat) : Prop where
  lo : s ≤ e
  hi : e ≤ n ∨ e = s
  dig : ∀ t, s ≤ t → t < e → isD (f t) = true
  stop : e < n → isD (f e) = false

/-- the same, before the end is known -/
structure Pre (f : Nat → Int) (n s e : Nat) : Prop where
  lo : s ≤ e
  hi : e ≤ n ∨ e = s
  dig : ∀ t, s ≤ t → t < e → isD (f t) = true

theorem Pre.start (f : Nat → Int) (n s : Nat) : Pre f n s s := ⟨Nat.le_refl _, .inr rfl, fun t h1 h2 => by omega⟩
theorem Pre.next {f : Nat → Int} {n s e : Nat} (h : Pre f n s e) (hlt : e < n) (hd : isD (f e) = true) : Pre f n s (e + 1) :=
  ⟨by have := h.lo; omega, .inl hlt, fun t h1 h2 => by
    by_cases ht : t = e
    · subst ht; exact hd
    · exact h.dig t h1 (by omega)⟩
theorem Pre.run {f : Nat → Int} {n s e : Nat} (h : Pre f n s e) (hs : e < n → isD (f e) = false) : Run f n s e := ⟨h.lo, h.hi, h.dig, hs⟩

theorem Run.unique {f : Nat → Int} {n s e e' : Nat} (h : Run f n s e) (k : Run f n s e') : e = e' := by
  rcases Nat.lt_trichotomy e e' with c | c | c
  · have h1 := k.dig e h.lo c
    have h2 := h.stop (by rcases k.hi with x | x <;> have := h.lo <;> omega)
    simp [h1] at h2
  · exact c
  · have h1 := h.dig e' k.lo c
    have h2 := k.stop (by rcases h.hi with x | x <;> have := k.lo <;> omega)
    simp [h1] at h2

def reF (f : Nat → Int) : Nat → Nat → Nat
  | 0, s => s
  | m + 1, s => if isD (f s) = true then reF f m (s + 1) else s
/-- the end of the run -/
def re (f : Nat → Int) (n s : Nat) : Nat := reF f (n - s) s

theorem reF_run (f : Nat → Int) (n : Nat) : ∀ m s, n - s = m → Run f n s (reF f m s)
  | 0, s, h => ⟨Nat.le_refl _, .inr rfl, fun t h1 h2 => by simp [reF] at h2; omega, fun h2 => by simp [reF] at h2; omega⟩
  | m + 1, s, h => by
    unfold reF
    by_cases hd : isD (f s) = true
    · rw [if_pos hd]
      have ih := reF_run f n m (s + 1) (by omega)
      refine ⟨by have := ih.lo; omega, ?_, fun t h1 h2 => ?_, ih.stop⟩
      · rcases ih.hi with x | x
        · exact .inl x
        · rw [x]; exact .inl (by omega)
      · by_cases ht : t = s
        · subst ht; exact hd
        · exact ih.dig t (by omega) h2
    · rw [if_neg hd]
      exact ⟨Nat.le_refl _, .inr rfl, fun t h1 h2 => by omega, fun _ => by simpa using hd⟩

theorem re_run (f : Nat → Int) (n s : Nat) : Run f n s (re f n s) := reF_run f n _ s rfl
theorem Run.eq {f : Nat → Int} {n s e : Nat} (h : Run f n s e) : e = re f n s := h.unique (re_run f n s)

/-! ### the value of a run, read from the left and from the right -/
def valF (f : Nat → Int) (s : Nat) : Nat → Int
  | 0 => 0
  | m + 1 => valF f s m * 10 + (f (s + m) - 48)
def valB (f : Nat → Int) (e : Nat) : Nat → Int
  | 0 => 0
  | t + 1 => valB f e t + (f (e - 1 - t) - 48) * 10 ^ t

theorem ten_pos (t : Nat) : 0 < (10 : Int) ^ t := Int.pow_pos (by decide)
theorem ten_le {t : Nat} (h : t ≤ 18) : (10 : Int) ^ t ≤ 1000000000000000000 := by
  have : (10 : Nat) ^ t ≤ 10 ^ 18 := Nat.pow_le_pow_right (by decide) h
  have h2 : ((10 ^ t : Nat) : Int) ≤ ((10 ^ 18 : Nat) : Int) := by exact_mod_cast this
  rw [Int.natCast_pow] at h2
  simpa using h2

theorem valF_bd (f : Nat → Int) (s : Nat) : ∀ m, (∀ t, s ≤ t → t < s + m → isD (f t) = true) → 0 ≤ valF f s m ∧ valF f s m < 10 ^ m
  | 0, _ => by simp [valF]
  | m + 1, h => by
    have ih := valF_bd f s m (fun t h1 h2 => h t h1 (by omega))
    have hd := (isD_iff _).1 (h (s + m) (by omega) (by omega))
    simp only [valF, Int.pow_succ]
    omega

theorem valB_bd (f : Nat → Int) (e : Nat) : ∀ m, m ≤ e → (∀ t, e - m ≤ t → t < e → isD (f t) = true) → 0 ≤ valB f e m ∧ valB f e m < 10 ^ m
  | 0, _, _ => by simp [valB]
  | m + 1, hm, h => by
    have ih := valB_bd f e m (by omega) (fun t h1 h2 => h t (by omega) h2)
    have hd := (isD_iff _).1 (h (e - 1 - m) (by omega) (by omega))
    simp only [valB, Int.pow_succ]
    have hp := ten_pos m
    have h9 : (f (e - 1 - m) - 48) * 10 ^ m ≤ 9 * 10 ^ m := Int.mul_le_mul_of_nonneg_right (by omega) (by omega)
    have h0 : 0 ≤ (f (e - 1 - m) - 48) * 10 ^ m := Int.mul_nonneg (by omega) (by omega)
    omega

theorem valF_split (f : Nat → Int) (s m : Nat) : ∀ t, t ≤ m → valF f s m = valF f s (m - t) * 10 ^ t + valB f (s + m) t
  | 0, _ => by simp [valB]
  | t + 1, h => by
    rw [valF_split f s m t (by omega)]
    obtain ⟨q, hq⟩ : ∃ q, m - t = q + 1 := ⟨m - t - 1, by omega⟩
    have e1 : m - (t + 1) = q := by omega
    have e2 : s + m - 1 - t = s + q := by omega
    rw [hq, e1]
    simp only [valF, valB, e2, Int.pow_succ, Int.add_mul, Int.sub_mul]
    have : valF f s q * 10 * 10 ^ t = valF f s q * (10 ^ t * 10) := by rw [Int.mul_assoc, Int.mul_comm 10]
    rw [this]; omega

theorem valB_all (f : Nat → Int) (s m : Nat) : valB f (s + m) m = valF f s m := by
  have := valF_split f s m m (Nat.le_refl _)
  simp [valF] at this
  exact this.symm

/-! ### scanInt's answer -/
/-- where the digits begin -/
def st (f : Nat → Int) (n i : Nat) : Nat := if i < n ∧ f i = 45 then i + 1 else i

/-- the number, the index behind it, found (0 scanned, 1 cut, 2 unusual) -/
def scanP (f : Nat → Int) (n i : Nat) : Int × Int × Int :=
  let s := st f n i
  let e := re f n s
  if e = n then (0, 0, 1)
  else if e = s ∨ 18 < e - s ∨ (1 < e - s ∧ f s = 48) then (0, 0, 2)
  else (if i < n ∧ f i = 45 then - valF f s (e - s) else valF f s (e - s), (e : Int), 0)


/-! ### scanNumber's answer and the automaton's -/
/-- the automaton's step: numberStep -/
def step (q c : Int) : Int :=
  if q = 0 then (if c = 45 then 1 else if c = 48 then 2 else if isD c = true then 3 else -1)
  else if q = 1 then (if c = 48 then 2 else if isD c = true then 3 else -1)
  else if q = 2 then (if c = 46 then 4 else if c = 101 ∨ c = 69 then 6 else -1)
  else if q = 3 then (if isD c = true then 3 else if c = 46 then 4 else if c = 101 ∨ c = 69 then 6 else -1)
  else if q = 4 then (if isD c = true then 5 else -1)
  else if q = 5 then (if isD c = true then 5 else if c = 101 ∨ c = 69 then 6 else -1)
  else if q = 6 then (if c = 43 ∨ c = 45 then 7 else if isD c = true then 8 else -1)
  else if q = 7 then (if isD c = true then 8 else -1)
  else if q = 8 then (if isD c = true then 8 else -1)
  else -1
/-- numberAccepting -/
def acc (q : Int) : Bool := q == 2 || (q == 3 || (q == 5 || q == 8))

def autF (f : Nat → Int) : Nat → Nat → Int → Int × Int
  | 0, _, _ => (0, 1)
  | m + 1, k, q => if step q (f k) < 0 then (if acc q = true then ((k : Int), 0) else (0, 2)) else autF f m (k + 1) (step q (f k))
/-- modelScanNumber from place k in state q on -/
def aut (f : Nat → Int) (n k : Nat) (q : Int) : Int × Int := autF f (n - k) k q

theorem aut_end (f : Nat → Int) (n : Nat) (q : Int) {k : Nat} (h : n ≤ k) : aut f n k q = (0, 1) := by
  have : n - k = 0 := by omega
  simp [aut, this, autF]
theorem aut_step (f : Nat → Int) {n k : Nat} (h : k < n) {q : Int} (hs : ¬ step q (f k) < 0) : aut f n k q = aut f n (k + 1) (step q (f k)) := by
  obtain ⟨m, hm⟩ : ∃ m, n - k = m + 1 := ⟨n - k - 1, by omega⟩
  have : n - (k + 1) = m := by omega
  simp only [aut, hm, this, autF]
  rw [if_neg hs]
theorem aut_yes (f : Nat → Int) {n k : Nat} (h : k < n) {q : Int} (hs : step q (f k) < 0) (ha : acc q = true) : aut f n k q = ((k : Int), 0) := by
  obtain ⟨m, hm⟩ : ∃ m, n - k = m + 1 := ⟨n - k - 1, by omega⟩
  simp only [aut, hm, autF]
  rw [if_pos hs, if_pos ha]
theorem aut_no (f : Nat → Int) {n k : Nat} (h : k < n) {q : Int} (hs : step q (f k) < 0) (ha : acc q = false) : aut f n k q = (0, 2) := by
  obtain ⟨m, hm⟩ : ∃ m, n - k = m + 1 := ⟨n - k - 1, by omega⟩
  simp only [aut, hm, autF]
  rw [if_pos hs, if_neg (by simp [ha])]

/-- a state that a digit leads back to itself eats a run of digits -/
theorem aut_run (f : Nat → Int) (n : Nat) (q : Int) (hq : ∀ c, isD c = true → step q c = q) (h0 : ¬ q < 0) {s e : Nat} (hr : Run f n s e) : aut f n s q = aut f n e q := by
  obtain ⟨m, hm⟩ : ∃ m, e = s + m := ⟨e - s, by have := hr.lo; omega⟩
  have key : ∀ m, s + m ≤ e → aut f n s q = aut f n (s + m) q := by
    intro m
    induction m with
    | zero => intro _; rfl
    | succ m ih =>
      intro hle
      have hd := hr.dig (s + m) (by omega) (by omega)
      rw [ih (by omega), aut_step f (by rcases hr.hi with x | x <;> omega) (by rw [hq _ hd]; exact h0), hq _ hd]
      rfl
  subst hm
  exact key m (Nat.le_refl _)

/-- the last part: the end is reached, or the number stands -/
def fin (n j : Nat) : Int × Int := if j = n then (0, 1) else ((j : Int), 0)
/-- the exponent -/
def expP (f : Nat → Int) (n j : Nat) : Int × Int :=
  if j < n ∧ (f j = 101 ∨ f j = 69) then
    let k := if j + 1 < n ∧ (f (j + 1) = 43 ∨ f (j + 1) = 45) then j + 2 else j + 1
    let e := re f n k
    if e < n ∧ isD (f (e - 1)) = false then (0, 2) else fin n e
  else fin n j
/-- the fraction, then the exponent -/
def fracP (f : Nat → Int) (n j : Nat) : Int × Int :=
  if j < n ∧ f j = 46 then
    let e := re f n (j + 1)
    if e < n ∧ isD (f (e - 1)) = false then (0, 2) else expP f n e
  else expP f n j
/-- the whole number: the index behind it, found -/
def numP (f : Nat → Int) (n i : Nat) : Int × Int :=
  let j := if f i = 45 then i + 1 else i
  if j = n then (0, 1)
  else if f j = 48 then fracP f n (j + 1)
  else if isD (f j) = true then fracP f n (re f n j)
  else (0, 2)

theorem not_isD_of {c : Int} (h : c < 48 ∨ 57 < c) : isD c = false := (isD_false_iff c).2 h

/-- digits that must be there: from j on in state q0, where a digit leads to q, q to itself -/
theorem aut_digits (f : Nat → Int) (n j : Nat) (q0 q : Int) (hj : j ≤ n) (h0 : ∀ c, isD c = true → step q0 c = q) (hq : ∀ c, isD c = true → step q c = q) (hpos : ¬ q < 0)
    (hb : isD (f (j - 1)) = false) (hj1 : 1 ≤ j)
    (hno : ∀ c, isD c = false → step q0 c < 0) (hacc : acc q0 = false) :
    aut f n j q0 = if re f n j < n ∧ isD (f (re f n j - 1)) = false then (0, 2) else aut f n (re f n j) q := by
  have hr := re_run f n j
  have hle : re f n j ≤ n := by rcases hr.hi with x | x <;> omega
  by_cases hjn : j < n
  · cases hd : isD (f j)
    · have e : re f n j = j := (Run.eq ⟨Nat.le_refl _, .inr rfl, fun t h1 h2 => by omega, fun _ => hd⟩).symm
      rw [e, if_pos ⟨hjn, hb⟩]
      exact aut_no f hjn (hno _ hd) hacc
    · have hne : re f n j ≠ j := fun e => by have := hr.stop (by omega); rw [e, hd] at this; cases this
      have hlo := hr.lo
      have hlast := hr.dig (re f n j - 1) (by omega) (by omega)
      rw [if_neg (by simp [hlast])]
      rw [aut_step f hjn (by rw [h0 _ hd]; exact hpos), h0 _ hd]
      refine aut_run f n q hq hpos ⟨by omega, .inl hle, fun t h1 h2 => hr.dig t (by omega) h2, hr.stop⟩
  · have e : re f n j = j := by have := hr.lo; omega
    rw [e, if_neg (by omega), aut_end f n q0 (by omega), aut_end f n q (by omega)]

theorem aut8 (f : Nat → Int) (n j : Nat) (hj : j ≤ n) (hs : j < n → isD (f j) = false) : aut f n j 8 = fin n j := by
  unfold fin
  by_cases h : j = n
  · rw [if_pos h]; exact aut_end f n 8 (by omega)
  · rw [if_neg h]
    have := hs (by omega)
    exact aut_yes f (by omega) (by simp [step, this]) rfl

theorem re_le (f : Nat → Int) {n j : Nat} (h : j ≤ n) : re f n j ≤ n := by
  rcases (re_run f n j).hi with x | x <;> omega

/-- the exponent, in a state (2, 3, 5) from which 'e' leads to 6 and all else that is left leads nowhere -/
theorem aut_exp (f : Nat → Int) (n j : Nat) (q : Int) (hj : j ≤ n) (hacc : acc q = true)
    (he : ∀ c, c = 101 ∨ c = 69 → step q c = 6) (hn : j < n → ¬ (f j = 101 ∨ f j = 69) → step q (f j) < 0) : aut f n j q = expP f n j := by
  unfold expP
  by_cases h : j < n ∧ (f j = 101 ∨ f j = 69)
  · rw [if_pos h]
    obtain ⟨hlt, hc⟩ := h
    rw [aut_step f hlt (by rw [he _ hc]; omega), he _ hc]
    have hnd : isD (f j) = false := not_isD_of (by omega)
    by_cases h1 : j + 1 < n ∧ (f (j + 1) = 43 ∨ f (j + 1) = 45)
    · rw [if_pos h1]
      obtain ⟨h1n, h1c⟩ := h1
      have hs7 : step 6 (f (j + 1)) = 7 := by simp [step, h1c]
      rw [aut_step f h1n (by rw [hs7]; omega), hs7]
      have hnd1 : isD (f (j + 1)) = false := not_isD_of (by omega)
      rw [aut_digits f n (j + 1 + 1) 7 8 (by omega) (fun c hc => by simp [step, hc]) (fun c hc => by simp [step, hc]) (by omega) (by simpa using hnd1) (by omega) (fun c hc => by simp [step, hc]) (by rfl)]
      show _ = if re f n (j + 2) < n ∧ isD (f (re f n (j + 2) - 1)) = false then (0, 2) else fin n (re f n (j + 2))
      rw [aut8 f n _ (re_le f (by omega)) (re_run f n (j + 1 + 1)).stop]
    · rw [if_neg h1]
      show _ = if re f n (j + 1) < n ∧ isD (f (re f n (j + 1) - 1)) = false then (0, 2) else fin n (re f n (j + 1))
      have key : aut f n (j + 1) 6 = aut f n (j + 1) 7 := by
        by_cases h1n : j + 1 < n
        · have h1c : ¬ (f (j + 1) = 43 ∨ f (j + 1) = 45) := fun x => h1 ⟨h1n, x⟩
          have hs : step 6 (f (j + 1)) = step 7 (f (j + 1)) := by simp [step, h1c]
          by_cases hneg : step 6 (f (j + 1)) < 0
          · rw [aut_no f h1n hneg rfl, aut_no f h1n (hs ▸ hneg) rfl]
          · rw [aut_step f h1n hneg, aut_step f h1n (hs ▸ hneg), hs]
        · rw [aut_end f n 6 (by omega), aut_end f n 7 (by omega)]
      rw [key, aut_digits f n (j + 1) 7 8 (by omega) (fun c hc => by simp [step, hc]) (fun c hc => by simp [step, hc]) (by omega) (by simpa using hnd) (by omega) (fun c hc => by simp [step, hc]) (by rfl)]
      rw [aut8 f n _ (re_le f (by omega)) (re_run f n (j + 1)).stop]
  · rw [if_neg h]
    unfold fin
    by_cases hjn : j = n
    · rw [if_pos hjn]; exact aut_end f n q (by omega)
    · rw [if_neg hjn]
      exact aut_yes f (by omega) (hn (by omega) (fun x => h ⟨by omega, x⟩)) hacc

theorem aut_frac (f : Nat → Int) (n j : Nat) (q : Int) (hj : j ≤ n) (hacc : acc q = true) (h46 : step q 46 = 4)
    (he : ∀ c, c = 101 ∨ c = 69 → step q c = 6) (hn : j < n → f j ≠ 46 → ¬ (f j = 101 ∨ f j = 69) → step q (f j) < 0) : aut f n j q = fracP f n j := by
  unfold fracP
  by_cases h : j < n ∧ f j = 46
  · rw [if_pos h]
    obtain ⟨hlt, hc⟩ := h
    rw [aut_step f hlt (by rw [hc, h46]; omega), hc, h46]
    have hnd : isD (f j) = false := not_isD_of (by omega)
    rw [aut_digits f n (j + 1) 4 5 (by omega) (fun c hc => by simp [step, hc]) (fun c hc => by simp [step, hc]) (by omega) (by simpa using hnd) (by omega) (fun c hc => by simp [step, hc]) (by rfl)]
    show _ = if re f n (j + 1) < n ∧ isD (f (re f n (j + 1) - 1)) = false then (0, 2) else expP f n (re f n (j + 1))
    rw [aut_exp f n _ 5 (re_le f (by omega)) rfl]
    · intro c hc
      have : isD c = false := not_isD_of (by omega)
      simp [step, this, hc]
    · intro hlt2 hne
      have := (re_run f n (j + 1)).stop hlt2
      simp [step, this, hne]
  · rw [if_neg h]
    exact aut_exp f n j q hj hacc he (fun h1 h2 => hn h1 (fun x => h ⟨h1, x⟩) h2)

/-- THE PLAIN LAW: scanNumber's answer is the automaton's -/
theorem numP_aut (f : Nat → Int) (n i : Nat) (hi : i < n) : numP f n i = aut f n i 0 := by
  have h1 : ∀ j, j < n → (∀ q : Int, q = 0 ∨ q = 1 → (q = 0 → f j ≠ 45) → aut f n j q = if f j = 48 then fracP f n (j + 1) else if isD (f j) = true then fracP f n (re f n j) else (0, 2)) := by
    intro j hj q hq h45
    by_cases h48 : f j = 48
    · rw [if_pos h48]
      have hs : step q (f j) = 2 := by rcases hq with rfl | rfl <;> simp [step, h48]
      rw [aut_step f hj (by rw [hs]; omega), hs]
      refine aut_frac f n (j + 1) 2 (by omega) rfl rfl (fun c hc => ?_) (fun _ a b => ?_)
      · have : c ≠ 46 := by omega
        simp [step, this, hc]
      · simp [step, a, b]
    · rw [if_neg h48]
      cases hd : isD (f j)
      · rw [if_neg (by simp)]
        refine aut_no f hj ?_ (by rcases hq with rfl | rfl <;> rfl)
        rcases hq with rfl | rfl
        · simp [step, h48, hd, h45 rfl]
        · simp [step, h48, hd]
      · rw [if_pos rfl]
        have hs : step q (f j) = 3 := by
          rcases hq with rfl | rfl
          · simp [step, h48, hd, h45 rfl]
          · simp [step, h48, hd]
        rw [aut_step f hj (by rw [hs]; omega), hs]
        have hr := re_run f n j
        have hne : re f n j ≠ j := fun e => by have := hr.stop (by omega); rw [e, hd] at this; cases this
        have hlo := hr.lo
        rw [aut_run f n 3 (fun c hc => by simp [step, hc]) (by omega) (s := j + 1) (e := re f n j) ⟨by omega, .inl (re_le f (by omega)), fun t h1 h2 => hr.dig t (by omega) h2, hr.stop⟩]
        refine aut_frac f n _ 3 (re_le f (by omega)) rfl ?_ (fun c hc => ?_) (fun hlt a b => ?_)
        · have : isD 46 = false := rfl
          simp [step, this]
        · have h1 : isD c = false := not_isD_of (by omega)
          have h2 : c ≠ 46 := by omega
          simp [step, h1, h2, hc]
        · have := hr.stop hlt
          simp [step, this, a, b]
  unfold numP
  by_cases h45 : f i = 45
  · simp only [h45, if_true]
    have hs : step 0 (f i) = 1 := by simp [step, h45]
    rw [aut_step f hi (by rw [hs]; omega), hs]
    by_cases hn : i + 1 = n
    · rw [if_pos hn, aut_end f n 1 (by omega)]
    · rw [if_neg hn, h1 (i + 1) (by omega) 1 (.inr rfl) (fun h => by cases h)]
  · simp only [h45, if_false]
    rw [if_neg (by omega), h1 i hi 0 (.inl rfl) (fun _ => h45)]

/-- THE PLAIN LAW: where scanInt reads an integer and no point or 'e' follows, scanNumber ends there too -/
theorem num_of_scan (f : Nat → Int) (n i : Nat) (h : (scanP f n i).2.2 = 0) :
    ∃ e : Nat, (scanP f n i).2.1 = (e : Int) ∧ e < n ∧ i < n ∧ (f e ≠ 46 → f e ≠ 101 → f e ≠ 69 → numP f n i = ((e : Int), 0)) := by
  revert h
  unfold scanP
  have hr := re_run f n (st f n i)
  have hlo := hr.lo
  by_cases h1 : re f n (st f n i) = n
  · simp [h1]
  · simp only [h1, if_false]
    by_cases h2 : re f n (st f n i) = st f n i ∨ 18 < re f n (st f n i) - st f n i ∨ (1 < re f n (st f n i) - st f n i ∧ f (st f n i) = 48)
    · simp [h2]
    · rw [if_neg h2]
      intro _
      have hlt : re f n (st f n i) < n := by rcases hr.hi with x | x <;> omega
      have hist : i ≤ st f n i := by unfold st; split <;> omega
      have hin : i < n := by omega
      refine ⟨_, rfl, hlt, hin, fun ha hb hc => ?_⟩
      have hfin : ∀ e, e = re f n (st f n i) → fracP f n e = ((e : Int), 0) := by
        intro e he
        subst he
        unfold fracP
        rw [if_neg (fun x => ha x.2)]
        unfold expP
        rw [if_neg (fun x => by omega)]
        unfold fin
        rw [if_neg h1]
      have hj : (if f i = 45 then i + 1 else i) = st f n i := by
        unfold st
        by_cases h45 : f i = 45 <;> simp [h45, hin]
      unfold numP
      simp only [hj]
      rw [if_neg (by omega)]
      have hd := hr.dig (st f n i) (Nat.le_refl _) (by omega)
      by_cases h48 : f (st f n i) = 48
      · rw [if_pos h48]
        have e1 : st f n i + 1 = re f n (st f n i) := by omega
        rw [e1]; exact hfin _ rfl
      · rw [if_neg h48, if_pos hd]; exact hfin _ rfl
end Go.Proofs.Qxb6602349a.Plain
