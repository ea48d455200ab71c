/-
  Seat b6602381a: the chain of types, and the walk of String (8), which calls itself.
-/
import Derived.Test.Qxb6602381aProg
import Derived.WalkKit
import Derived.WalkSpells
import Derived.Below
import Derived.OwnWalk
namespace Go.Proofs.Qxb6602381a
open Go.RowKit

/-- the pointer v leads to the types l, one inside the other -/
def Chain (w : World) : List (ByteArray × Bool) → Value → Prop
  | [], v => v = .pointer none
  | x :: l, v => ∃ (b o : Nat) (q : Value), v = .pointer (some ⟨b, o, none⟩) ∧ w.cell? ⟨b, o, none⟩ = some (.string x.1) ∧ w.cell? ⟨b, o + 1, none⟩ = some q ∧ w.cell? ⟨b, o + 2, none⟩ = some (.bool x.2) ∧ Chain w l q

theorem Chain.later {w w' : World} (hb : Below w.heap.size w w') : ∀ {l : List (ByteArray × Bool)} {v : Value}, Chain w l v → Chain w' l v
  | [], _, h => h
  | _ :: _, _, ⟨b, o, q, hv, h0, h1, h2, hq⟩ => ⟨b, o, q, hv, cell_later hb h0, cell_later hb h1, cell_later hb h2, hq.later hb⟩

theorem bcell {W w1 : World} (hb : Below W.heap.size W w1) : (∀ b o, b < W.heap.size → w1.cell? ⟨b, o, none⟩ = W.cell? ⟨b, o, none⟩) ∧ (∀ b o, b < W.heap.size → w1.frozen? ⟨b, o, none⟩ = W.frozen? ⟨b, o, none⟩) :=
  ⟨fun b o h => hb.cell (p := ⟨b, o, none⟩) h, fun b o h => hb.frozen (p := ⟨b, o, none⟩) h⟩

/-- what String writes -/
def str : List (ByteArray × Bool) → ByteArray → Bool → ByteArray
  | [], s, nn => if nn = true then s ++ ⟨#[33]⟩ else s
  | x :: l, _, nn => if nn = true then ⟨#[91]⟩ ++ str l x.1 x.2 ++ ⟨#[93]⟩ ++ ⟨#[33]⟩ else ⟨#[91]⟩ ++ str l x.1 x.2 ++ ⟨#[93]⟩

theorem str_size (M : Nat) : ∀ (l : List (ByteArray × Bool)) (s : ByteArray) (nn : Bool), s.size ≤ M → (∀ x ∈ l, x.1.size ≤ M) → (str l s nn).size ≤ M + 3 * l.length + 1
  | [], s, nn, hs, _ => by
    cases nn <;> simp [str, ByteArray.size_append] <;> first | omega | (have : (⟨#[33]⟩ : ByteArray).size = 1 := rfl; omega)
  | x :: l, s, nn, hs, hl => by
    have ih := str_size M l x.1 x.2 (hl x (by simp)) (fun y hy => hl y (by simp [hy]))
    have e1 : (⟨#[33]⟩ : ByteArray).size = 1 := rfl
    have e2 : (⟨#[91]⟩ : ByteArray).size = 1 := rfl
    have e3 : (⟨#[93]⟩ : ByteArray).size = 1 := rfl
    cases nn <;> simp only [str, ByteArray.size_append, List.length_cons, e1, e2, e3, if_true, Bool.false_eq_true, if_false] <;> omega

theorem str_any (M : Nat) (hM : M ≤ 2097152) : ∀ (l : List (ByteArray × Bool)) (s : ByteArray) (nn : Bool) (q : Value) (w : World), l.length ≤ 65536 → s.size ≤ M → (∀ x ∈ l, x.1.size ≤ M) → Chain w l q →
    Calls Try.prog 8 #[.agg #[.string s, q, .bool nn]] w fun e w' => e = .returned (.string (str l s nn)) ∧ Below w.heap.size w w'
  | [], s, nn, q, w, hlen, hs, hl, hq => by
    cases hq
    cases nn
    · go_enter Try.func8, Try.ntmps8
      go_wp2_with fail
      go_ret
      exact ⟨rfl, (Below.refl _ _).alloc (Nat.le_refl _) _⟩
    · go_enter Try.func8, Try.ntmps8
      go_wp2_with fail
      go_ret
      exact ⟨rfl, (Below.refl _ _).alloc (Nat.le_refl _) _⟩
  | x :: l, s, nn, q, w, hlen, hs, hl, hq => by
    obtain ⟨b, o, q', rfl, h0, h1, h2, hq'⟩ := hq
    have hbl : ∀ ob, Below w.heap.size w (w.alloc ob) := fun ob => (Below.refl _ _).alloc (Nat.le_refl _) ob
    have k0 : ∀ ob, (w.alloc ob).cell? ⟨b, o, none⟩ = some (.string x.1) := fun ob => cell_later (hbl ob) h0
    have k1 : ∀ ob, (w.alloc ob).cell? ⟨b, o + 1, none⟩ = some q' := fun ob => cell_later (hbl ob) h1
    have k2 : ∀ ob, (w.alloc ob).cell? ⟨b, o + 2, none⟩ = some (.bool x.2) := fun ob => cell_later (hbl ob) h2
    have HC : Hid (∀ ob, Chain (w.alloc ob) l q') := fun ob => hq'.later (hbl ob)
    have ih := fun ob => str_any M hM l x.1 x.2 q' (w.alloc ob) (by simp at hlen; omega) (hl x (by simp)) (fun y hy => hl y (by simp [hy])) (HC.out ob)
    have hsz := str_size M l x.1 x.2 (hl x (by simp)) (fun y hy => hl y (by simp [hy]))
    have hsz2 : (str l x.1 x.2).size ≤ 3000000 := by simp at hlen; omega
    obtain ⟨r, hr⟩ : ∃ r, r = str l x.1 x.2 := ⟨_, rfl⟩
    rw [← hr] at ih hsz2
    have IH : Hid (∀ ob, Calls Try.prog 8 #[.agg #[.string x.1, q', .bool x.2]] (w.alloc ob) fun e w' => e = .returned (.string r) ∧ Below (w.alloc ob).heap.size (w.alloc ob) w') := ih
    have HR : Hid (r = str l x.1 x.2) := hr
    clear h0 h1 h2 hq' HC ih hsz hr hl hbl hlen
    cases nn
    · go_enter Try.func8, Try.ntmps8
      go_wp2_with (go_at_call 8; refine (IH.out _).mono ?_; rintro e w1 ⟨rfl, hb⟩; obtain ⟨hc, hf⟩ := bcell hb)
      go_ret
      refine ⟨?_, ((Below.refl _ _).alloc (Nat.le_refl _) _).trans (hb.mono (by simp))⟩
      simp [str, HR.out]
    · go_enter Try.func8, Try.ntmps8
      go_wp2_with (go_at_call 8; refine (IH.out _).mono ?_; rintro e w1 ⟨rfl, hb⟩; obtain ⟨hc, hf⟩ := bcell hb)
      go_ret
      refine ⟨?_, ((Below.refl _ _).alloc (Nat.le_refl _) _).trans (hb.mono (by simp))⟩
      simp [str, HR.out]
end Go.Proofs.Qxb6602381a
