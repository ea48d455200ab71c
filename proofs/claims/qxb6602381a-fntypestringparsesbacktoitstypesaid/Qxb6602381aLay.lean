/-
  Seat b6602381a: plain: the bytes of the bracket text, place by place.
-/
import Derived.Test.Qxb6602381aName
namespace Go.Proofs.Qxb6602381a

/-- the byte at place i -/
def bt (S : ByteArray) (i : Nat) : Nat := (S.data.toList.getD i 0).toNat
theorem bt_get (S : ByteArray) (i : Nat) (h : i < S.size) : (S[i]'h).toNat = bt S i := by
  unfold bt
  have h' : i < S.data.toList.length := by rw [Array.length_toList]; exact h
  rw [List.getD_eq_getElem?_getD, List.getElem?_eq_getElem h']
  simp [ByteArray.getElem_eq_getElem_data]
theorem bt_lt {A B : ByteArray} {i : Nat} (h : i < A.size) : bt (A ++ B) i = bt A i := by
  unfold bt
  have h' : i < A.data.toList.length := by rw [Array.length_toList]; exact h
  rw [ByteArray.data_append, Array.toList_append, List.getD_eq_getElem?_getD, List.getElem?_append_left h', ← List.getD_eq_getElem?_getD]
theorem bt_ge (A B : ByteArray) (j : Nat) : bt (A ++ B) (A.size + j) = bt B j := by
  unfold bt
  have h' : A.data.toList.length = A.size := by rw [Array.length_toList]; rfl
  rw [ByteArray.data_append, Array.toList_append, List.getD_eq_getElem?_getD, ← h', List.getElem?_append_right (by omega), ← List.getD_eq_getElem?_getD]
  congr 2; omega
theorem bt_at {A B : ByteArray} {i : Nat} (h : i = A.size) : bt (A ++ B) i = bt B 0 := by
  have := bt_ge A B 0
  rw [h]; exact this

theorem pre_bt : ∀ k i, i < k → bt (pre k) i = 91
  | 0, i, h => by omega
  | k + 1, i, h => by
    rw [pre]
    have hs := pre_size k
    by_cases hi : i < k
    · rw [bt_lt (by omega)]; exact pre_bt k i hi
    · rw [bt_at (by omega)]; rfl

theorem mid_prefix (nm : Nat → ByteArray) (fl : Nat → Bool) (n c : Nat) : ∀ k, ∃ X, mid nm fl n (c + k) = mid nm fl n c ++ X
  | 0 => ⟨ByteArray.empty, by simp⟩
  | k + 1 => by
    obtain ⟨X, hX⟩ := mid_prefix nm fl n c k
    refine ⟨X ++ (⟨#[93]⟩ ++ bang (fl (n - (c + k + 1)))), ?_⟩
    show mid nm fl n ((c + k) + 1) = _
    rw [mid, hX]
    simp only [ByteArray.append_assoc]

theorem ext_mid (A B C : ByteArray) : (A ++ (B ++ C)).extract A.size (A.size + B.size) = B := by
  apply ByteArray.ext
  rw [ByteArray.data_extract, ByteArray.data_append, ByteArray.data_append]
  show (A.data ++ (B.data ++ C.data)).extract A.data.size (A.data.size + B.data.size) = B.data
  apply Array.ext'
  rw [Array.toList_extract, Array.toList_append, Array.toList_append]
  simp [List.extract]

/-- the text S: n opening brackets, the name (m bytes), its flag, then n closing brackets with their flags; P c: the place behind c closings -/
structure Lay (S : ByteArray) (n m : Nat) (nm0 : ByteArray) (fl : Nat → Bool) (P : Nat → Nat) : Prop where
  sz : S.size ≤ 2000000
  op : ∀ i, i < n → ∀ h, (S[i]'h).toNat = 91
  le : n + m ≤ S.size
  nc : ∀ p, n ≤ p → p < n + m → ∀ h, ncB (((S[p]'h).toNat : Nat) : Int) = true
  ex : S.extract n (n + m) = nm0
  stop : ∀ h, ncB (((S[n + m]'h).toNat : Nat) : Int) = false
  baseT : fl n = true → n + m < S.size ∧ (∀ h, (S[n + m]'h).toNat = 33) ∧ P 0 = n + m + 1
  baseF : fl n = false → P 0 = n + m ∧ (∀ h, (S[n + m]'h).toNat = 93)
  cl : ∀ c, c < n → P c < S.size ∧ ∀ h, (S[P c]'h).toNat = 93
  nxT : ∀ c, c < n → fl (n - (c + 1)) = true → P c + 1 < S.size ∧ (∀ h, (S[P c + 1]'h).toNat = 33) ∧ P (c + 1) = P c + 2
  nxF : ∀ c, c < n → fl (n - (c + 1)) = false → P (c + 1) = P c + 1 ∧ (∀ h, (S[P c + 1]'h).toNat = 93)
  fin : P n = S.size

theorem lay_of (nm : Nat → ByteArray) (fl : Nat → Bool) (n : Nat) (hn : n ≤ 4096) (hs : (nm n).size ≤ 1048576) (hnc : ∀ i (h : i < (nm n).size), ncB ((((nm n)[i]'h).toNat : Nat) : Int) = true) :
    Lay (pre n ++ mid nm fl n n) n (nm n).size (nm n) fl (fun c => n + (mid nm fl n c).size) := by
  have hps := pre_size n
  have hms := mid_size nm fl n n
  have hS : (pre n ++ mid nm fl n n).size = n + (mid nm fl n n).size := by rw [ByteArray.size_append, hps]
  -- the text, cut behind the name
  obtain ⟨X0, hX0⟩ := mid_prefix nm fl n 0 n
  rw [Nat.zero_add] at hX0
  have e0 : pre n ++ mid nm fl n n = pre n ++ (nm n ++ (bang (fl n) ++ X0)) := by
    rw [hX0, mid]; simp only [ByteArray.append_assoc]
  -- the text, cut ahead of the closing c
  have eC : ∀ c, c < n → ∃ X, pre n ++ mid nm fl n n = (pre n ++ mid nm fl n c) ++ (⟨#[93]⟩ ++ (bang (fl (n - (c + 1))) ++ X)) := by
    intro c hc
    obtain ⟨X, hX⟩ := mid_prefix nm fl n (c + 1) (n - (c + 1))
    rw [show c + 1 + (n - (c + 1)) = n from by omega] at hX
    refine ⟨X, ?_⟩
    rw [hX, mid]
    simp only [ByteArray.append_assoc]
  have one1 : ∀ c : UInt8, (⟨#[c]⟩ : ByteArray).size = 1 := fun _ => rfl
  have hsz : ∀ c, (pre n ++ mid nm fl n c).size = n + (mid nm fl n c).size := fun c => by rw [ByteArray.size_append, hps]
  have hcl : ∀ c, c < n → n + (mid nm fl n c).size < (pre n ++ mid nm fl n n).size ∧ bt (pre n ++ mid nm fl n n) (n + (mid nm fl n c).size) = 93 := by
    intro c hc
    obtain ⟨X, hX⟩ := eC c hc
    rw [hX, ByteArray.size_append, hsz, ByteArray.size_append, one1]
    refine ⟨by omega, ?_⟩
    rw [bt_at (hsz c).symm, bt_lt (by rw [one1]; omega)]
    rfl
  have hname : ∀ p, n ≤ p → p < n + (nm n).size → bt (pre n ++ mid nm fl n n) p = bt (nm n) (p - n) := by
    intro p h1 h2
    rw [e0]
    have := bt_ge (pre n) (nm n ++ (bang (fl n) ++ X0)) (p - n)
    rw [hps, show n + (p - n) = p from by omega] at this
    rw [this, bt_lt (by omega)]
  have hmid0 : (mid nm fl n 0).size = (nm n).size + (bang (fl n)).size := by rw [mid, ByteArray.size_append]
  have hle : n + (nm n).size ≤ (pre n ++ mid nm fl n n).size := by
    rw [e0, ByteArray.size_append, ByteArray.size_append, hps]; omega
  have hflag : fl n = true → n + (nm n).size < (pre n ++ mid nm fl n n).size ∧ bt (pre n ++ mid nm fl n n) (n + (nm n).size) = 33 ∧ n + (mid nm fl n 0).size = n + (nm n).size + 1 := by
    intro hf
    have eb : bang (fl n) = ⟨#[33]⟩ := by rw [hf]; rfl
    refine ⟨?_, ?_, ?_⟩
    · rw [e0, eb, ByteArray.size_append, ByteArray.size_append, ByteArray.size_append, one1, hps]; omega
    · rw [e0, ← ByteArray.append_assoc, bt_at (by rw [ByteArray.size_append, hps]), eb, bt_lt (by rw [one1]; omega)]
      rfl
    · rw [hmid0, eb, one1]; omega
  have hflagF : fl n = false → n + (mid nm fl n 0).size = n + (nm n).size := by
    intro hf
    have eb : (bang (fl n)).size = 0 := by rw [hf]; rfl
    rw [hmid0, eb]; omega
  have hfin93 : fl n = false → n + (nm n).size < (pre n ++ mid nm fl n n).size → bt (pre n ++ mid nm fl n n) (n + (nm n).size) = 93 := by
    intro hf hlt
    by_cases h0 : 0 < n
    · have := (hcl 0 h0).2
      rw [hflagF hf] at this
      exact this
    · obtain rfl : n = 0 := by omega
      have := hflagF hf
      omega
  refine ⟨by omega, fun i hi h => ?_, hle, fun p h1 h2 h => ?_, ?_, fun h => ?_, fun hf => ?_, fun hf => ?_, fun c hc => ?_, fun c hc hf => ?_, fun c hc hf => ?_, hS.symm⟩
  · rw [bt_get, bt_lt (by omega)]; exact pre_bt n i hi
  · rw [bt_get, hname p h1 h2, ← bt_get (nm n) (p - n) (by omega)]; exact hnc _ _
  · rw [e0]
    have := ext_mid (pre n) (nm n) (bang (fl n) ++ X0)
    rw [hps] at this
    exact this
  · rw [bt_get]
    cases hf : fl n
    · rw [hfin93 hf h]; rfl
    · rw [(hflag hf).2.1]; rfl
  · obtain ⟨a, b, c⟩ := hflag hf
    exact ⟨a, fun h => by rw [bt_get]; exact b, c⟩
  · exact ⟨hflagF hf, fun h => by rw [bt_get]; exact hfin93 hf h⟩
  · obtain ⟨a, b⟩ := hcl c hc
    exact ⟨a, fun h => by rw [bt_get]; exact b⟩
  · obtain ⟨X, hX⟩ := eC c hc
    have eb : bang (fl (n - (c + 1))) = ⟨#[33]⟩ := by rw [hf]; rfl
    refine ⟨?_, fun h => ?_, ?_⟩
    · rw [hX, eb, ByteArray.size_append, hsz, ByteArray.size_append, ByteArray.size_append, one1, one1]; omega
    · rw [bt_get, hX, eb, ← ByteArray.append_assoc, bt_at (by rw [ByteArray.size_append, hsz, one1]), bt_lt (by rw [one1]; omega)]
      rfl
    · show n + (mid nm fl n (c + 1)).size = _
      rw [mid, ByteArray.size_append, ByteArray.size_append, eb, one1, one1]; omega
  · have eb : (bang (fl (n - (c + 1)))).size = 0 := by rw [hf]; rfl
    have e1 : n + (mid nm fl n (c + 1)).size = n + (mid nm fl n c).size + 1 := by
      rw [mid, ByteArray.size_append, ByteArray.size_append, eb, one1]; omega
    refine ⟨e1, fun h => ?_⟩
    rw [bt_get]
    by_cases hc1 : c + 1 < n
    · have := (hcl (c + 1) hc1).2
      rw [e1] at this
      exact this
    · exfalso
      have : c + 1 = n := by omega
      rw [this] at e1
      omega
end Go.Proofs.Qxb6602381a
