/-
  Seat b6602381a, the script of scalars: the walks of zzBytes (12) and scNamesFit (13), and the names as they are read.
-/
import Derived.Test.Qxb6602381aScDefs
namespace Go.Proofs.Qxb6602381a.Sc
open Go.RowKit

/-- a Bool is handed back, of which Q holds -/
def Ans (Q : Bool → Prop) (e : Ending) : Prop := ∃ b, e = .returned (.bool b) ∧ Q b
theorem ans {Q : Bool → Prop} {e : Ending} (b : Bool) (h : e = .returned (.bool b)) (q : Q b) : Ans Q e := ⟨b, h, q⟩

/-- the slice reads in w as the names nm 0, .., nm (n - 1) -/
def Nms (w : World) (a : Option Addr) (n : Nat) (nm : Nat → ByteArray) : Prop :=
  ∀ i, i < n → ∃ b o, a = some ⟨b, o, none⟩ ∧ w.cell? ⟨b, o + i, none⟩ = some (.string (nm i))

theorem Nms.later {w w' : World} {a : Option Addr} {n : Nat} {nm : Nat → ByteArray} (h : Nms w a n nm) (hb : Below w.heap.size w w') : Nms w' a n nm := by
  intro i hi
  obtain ⟨b, o, ha, hc⟩ := h i hi
  exact ⟨b, o, ha, cell_later hb hc⟩

set_option maxHeartbeats 1000000 in
theorem bytes_any (a : Option Addr) (n cap : Nat) (nm : Nat → ByteArray) (w : World) (h : Nms w a n nm) (hn : n ≤ maxLen) :
    Calls Try.prog 12 #[.slice a n cap] w fun e w' => Ans (fun _ => True) e ∧ w' = w := by
  unfold maxLen at hn
  by_cases hlen : 1048576 < n
  · go_enter Try.func12, Try.ntmps12
    go_wp2_with fail
    go_ret
    exact ⟨ans _ rfl trivial, rfl⟩
  · go_enter Try.func12, Try.ntmps12
    go_wp2_with fail
    go_loop [3, 4] (fun t i => ∃ (k T : Nat), k ≤ n ∧ T ≤ 1048576 ∧ i = .int .i64 k ∧ t = .int .i64 T) (fun _ i => n - (intOf i).toNat)
    case atStart => exact ⟨0, n, Nat.zero_le _, by omega, rfl, by go_num⟩
    case round =>
      obtain ⟨k, T, hk, hT, rfl, rfl⟩ := hrel
      by_cases hlt : k < n
      · obtain ⟨b, o, rfl, hc⟩ := h k hlt
        by_cases h1 : 1048576 < (nm k).size
        · go_wp2_with fail
          go_ret
          exact ⟨ans _ rfl trivial, rfl⟩
        · by_cases h2 : 1048576 < T + (nm k).size
          · go_wp2_with fail
            go_ret
            exact ⟨ans _ rfl trivial, rfl⟩
          · go_wp2_with fail
            go_round
            case rel => exact ⟨k + 1, T + (nm k).size, by omega, by omega, by go_num, by go_num⟩
            case measure => simp [intOf]; omega
      · go_wp2_with fail
        go_ret
        exact ⟨ans _ rfl trivial, rfl⟩

set_option maxHeartbeats 1000000 in
theorem fit_any (a : Option Addr) (n cap : Nat) (nm : Nat → ByteArray) (w : World) (h : Nms w a n nm) (hn : n ≤ maxLen) :
    Calls Try.prog 13 #[.slice a n cap] w fun e w' => Ans (fun b => b = true → n ≤ 4096 ∧ ∀ i, i < n → (nm i).size ≤ 1048576) e ∧ w' = w := by
  unfold maxLen at hn
  by_cases hlen : 4096 < n
  · go_enter Try.func13, Try.ntmps13
    go_wp2_with fail
    go_ret
    exact ⟨ans false rfl (fun h => by cases h), rfl⟩
  · go_enter Try.func13, Try.ntmps13
    go_wp2_with fail
    go_loop [3, 4] (fun t i => ∃ (k T : Nat), k ≤ n ∧ T ≤ 1048576 ∧ i = .int .i64 k ∧ t = .int .i64 T ∧ ∀ j, j < k → (nm j).size ≤ 1048576) (fun _ i => n - (intOf i).toNat)
    case atStart => exact ⟨0, 16 * n, Nat.zero_le _, by omega, rfl, by go_num, fun j hj => by omega⟩
    case round =>
      obtain ⟨k, T, hk, hT, rfl, rfl, hs⟩ := hrel
      have HS : Hid (∀ j, j < k → (nm j).size ≤ 1048576) := hs
      clear hs
      by_cases hlt : k < n
      · obtain ⟨b, o, rfl, hc⟩ := h k hlt
        by_cases h1 : 1048576 < (nm k).size
        · go_wp2_with fail
          go_ret
          exact ⟨ans false rfl (fun h => by cases h), rfl⟩
        · by_cases h2 : 1048576 < T + (nm k).size
          · go_wp2_with fail
            go_ret
            exact ⟨ans false rfl (fun h => by cases h), rfl⟩
          · go_wp2_with fail
            go_round
            case rel =>
              refine ⟨k + 1, T + (nm k).size, by omega, by omega, by go_num, by go_num, fun j hj => ?_⟩
              by_cases hjk : j = k
              · subst hjk; omega
              · exact HS.out j (by omega)
            case measure => simp [intOf]; omega
      · go_wp2_with fail
        go_ret
        exact ⟨ans true rfl (fun _ => ⟨by omega, fun j hj => HS.out j (by omega)⟩), rfl⟩
end Go.Proofs.Qxb6602381a.Sc
