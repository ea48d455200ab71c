/-
  Seat b6602381a, the script of scalars: plain: the first of each name, in order.
-/
namespace Go.Proofs.Qxb6602381a.Sc

/-- does the list hold the name -/
def has (l : List ByteArray) (x : ByteArray) : Bool := l.any (fun y => y.data == x.data)
theorem has_iff (l : List ByteArray) (x : ByteArray) : has l x = true ↔ x ∈ l := by
  unfold has
  rw [List.any_eq_true]
  constructor
  · rintro ⟨y, hy, e⟩
    have : y = x := ByteArray.ext (by simpa using e)
    rw [← this]; exact hy
  · intro h; exact ⟨x, h, by simp⟩
theorem has_no (l : List ByteArray) (x : ByteArray) : has l x = false ↔ x ∉ l := by
  rw [← has_iff]; simp

/-- the distinct ones among the first k names, in the order of their first appearance -/
def firsts (nm : Nat → ByteArray) : Nat → List ByteArray
  | 0 => []
  | k + 1 => if has (firsts nm k) (nm k) = true then firsts nm k else firsts nm k ++ [nm k]

theorem mem_firsts (nm : Nat → ByteArray) : ∀ k x, x ∈ firsts nm k ↔ ∃ j, j < k ∧ nm j = x
  | 0, x => by simp [firsts]
  | k + 1, x => by
    have ih := mem_firsts nm k
    unfold firsts
    by_cases h : nm k ∈ firsts nm k
    · rw [if_pos ((has_iff _ _).2 h), ih]
      constructor
      · rintro ⟨j, hj, e⟩; exact ⟨j, by omega, e⟩
      · rintro ⟨j, hj, e⟩
        by_cases hk : j = k
        · subst hk; rw [← e]; exact (ih _).1 h
        · exact ⟨j, by omega, e⟩
    · rw [if_neg (fun x => h ((has_iff _ _).1 x)), List.mem_append, ih]
      constructor
      · rintro (⟨j, hj, e⟩ | hx)
        · exact ⟨j, by omega, e⟩
        · exact ⟨k, by omega, (List.mem_singleton.1 hx).symm⟩
      · rintro ⟨j, hj, e⟩
        by_cases hk : j = k
        · subst hk; exact .inr (List.mem_singleton.2 e.symm)
        · exact .inl ⟨j, by omega, e⟩

theorem firsts_len_le (nm : Nat → ByteArray) : ∀ k, (firsts nm k).length ≤ k
  | 0 => Nat.le_refl _
  | k + 1 => by
    have ih := firsts_len_le nm k
    unfold firsts
    split
    · omega
    · simp; omega

theorem firsts_prefix (nm : Nat → ByteArray) (k : Nat) : ∀ m, ∃ r, firsts nm (k + m) = firsts nm k ++ r
  | 0 => ⟨[], by simp⟩
  | m + 1 => by
    obtain ⟨r, hr⟩ := firsts_prefix nm k m
    show ∃ r, (if has (firsts nm (k + m)) (nm (k + m)) = true then firsts nm (k + m) else firsts nm (k + m) ++ [nm (k + m)]) = firsts nm k ++ r
    split
    · exact ⟨r, hr⟩
    · exact ⟨r ++ [nm (k + m)], by rw [hr, List.append_assoc]⟩

/-- a name that is new at place i stands in the whole list at the place that the count has reached -/
theorem firsts_get (nm : Nat → ByteArray) (n i : Nat) (hi : i < n) (h : nm i ∉ firsts nm i) : (firsts nm n)[(firsts nm i).length]? = some (nm i) := by
  obtain ⟨r, hr⟩ := firsts_prefix nm (i + 1) (n - (i + 1))
  have e : i + 1 + (n - (i + 1)) = n := by omega
  rw [e] at hr
  have e1 : firsts nm (i + 1) = firsts nm i ++ [nm i] := by
    show (if has (firsts nm i) (nm i) = true then _ else _) = _
    rw [if_neg (fun x => h ((has_iff _ _).1 x))]
  rw [hr, e1, List.append_assoc, List.getElem?_append_right (Nat.le_refl _)]
  simp
theorem firsts_lt (nm : Nat → ByteArray) (n i : Nat) (hi : i < n) (h : nm i ∉ firsts nm i) : (firsts nm i).length < (firsts nm n).length :=
  (List.getElem?_eq_some_iff.1 (firsts_get nm n i hi h)).1

/-- the text of a definition -/
def txt (x : ByteArray) : ByteArray := ⟨#[115, 99, 97, 108, 97, 114, 32]⟩ ++ x ++ ⟨#[10]⟩
theorem txt_size (x : ByteArray) : (txt x).size = x.size + 8 := by
  have e1 : (⟨#[115, 99, 97, 108, 97, 114, 32]⟩ : ByteArray).size = 7 := rfl
  have e2 : (⟨#[10]⟩ : ByteArray).size = 1 := rfl
  unfold txt
  rw [ByteArray.size_append, ByteArray.size_append, e1, e2]
  omega
theorem txt_ne (x : ByteArray) : txt x ≠ x := by
  intro h
  have := congrArg ByteArray.size h
  rw [txt_size] at this
  omega
end Go.Proofs.Qxb6602381a.Sc
