/-
  Seat b6602381a, the script of scalars: the law's own walk (5).
-/
import Derived.Test.Qxb6602381aScFit
import Derived.Laws.CopyOwn
import Derived.Deep.OwnRows
import Derived.Deep.CutRange
import Derived.Deep.CutBlock
import Derived.Deep.LoopGhost
import Derived.Deep.QuietTactic
import Derived.BigQuiet
import Derived.RegionTactic
namespace Go.Proofs.Qxb6602381a.Sc
open Go.RowKit

theorem size9 : (Try.prog.info? 9).map (·.size) = some 1 := by kernel_rfl

/-- what the walk is told of the slice of strings that came in -/
def InStrs (w : World) (a : Option Addr) (len cap : Nat) (ss : List ByteArray) : Prop :=
  (a = none ∧ len = 0 ∧ cap = 0) ∨
  ∃ x, a = some x ∧ len ≤ cap ∧ cap ≤ maxLen ∧ ss.length = cap ∧ ∀ i, i < ss.length → w.cell? (x.add i) = some (.string (ss.getD i ByteArray.empty))

theorem in_nms {w : World} {a : Option Addr} {len cap : Nat} {ss : List ByteArray} (h : InStrs w a len cap ss) : Nms w a len (fun i => ss.getD i ByteArray.empty) := by
  intro i hi
  rcases h with ⟨_, h0, _⟩ | ⟨x, rfl, hlc, _, hl, hc⟩
  · omega
  · have h0 := hc 0 (by omega)
    obtain ⟨b, o, sp⟩ := x
    have hsp : sp = none := by simpa [Addr.add] using World.cell?_spot h0
    subst hsp
    refine ⟨b, o, rfl, ?_⟩
    have := hc i (by omega)
    rw [Addr.add_lit] at this
    exact this

theorem in_len {w : World} {a : Option Addr} {len cap : Nat} {ss : List ByteArray} (h : InStrs w a len cap ss) : len ≤ maxLen := by
  rcases h with ⟨_, h0, _⟩ | ⟨x, _, hlc, hcm, _⟩
  · omega
  · omega

/-- the copy into a new row: the run's equation -/
theorem clone_run {w : World} {x : Addr} {len cap : Nat} {ss : List ByteArray} (hlc : len ≤ cap) (hl : ss.length = cap) (hc : ∀ i, i < ss.length → w.cell? (x.add i) = some (.string (ss.getD i ByteArray.empty))) :
    ∃ W2, (Builtin.copy_ #[37, 37] 3 #[Value.slice (some ⟨w.heap.size, 0, none⟩) len len, Value.slice (some x) len cap]).run Try.prog (w.alloc (Obj.cells (madeCells #[Value.string ByteArray.empty] len) 9)) = .ok (goInt len) W2
      ∧ Hid (Nms W2 (some ⟨w.heap.size, 0, none⟩) len (fun i => ss.getD i ByteArray.empty)) ∧ Hid (Below w.heap.size w W2) := by
  have hb1 : Below w.heap.size w (w.alloc (Obj.cells (madeCells #[Value.string ByteArray.empty] len) 9)) := (Below.refl _ _).alloc (Nat.le_refl _) _
  obtain ⟨cs, hcs⟩ : ∃ cs : List Value, cs = (ss.take len).map Value.string := ⟨_, rfl⟩
  have hcl : cs.length = len := by rw [hcs]; simp; omega
  have hget : ∀ j, j < len → cs[j]? = some (.string (ss.getD j ByteArray.empty)) := by
    intro j hj
    rw [hcs, List.getElem?_map, List.getElem?_take, if_pos hj, List.getD_eq_getElem?_getD, List.getElem?_eq_getElem (by omega)]
    rfl
  obtain ⟨cur, hcur⟩ : ∃ cur : List Value, cur.toArray = madeCells #[Value.string ByteArray.empty] len := ⟨_, Array.toArray_toList⟩
  have hcul : cur.length = len := by have := congrArg Array.size hcur; simpa [madeCells] using this
  have hsrc : ∀ j v, cs[j]? = some v → (w.alloc (Obj.cells (madeCells #[Value.string ByteArray.empty] len) 9)).cell? (x.add j) = some v := by
    intro j v hj
    have hjl : j < len := by have := (List.getElem?_eq_some_iff.1 hj).1; omega
    rw [hget j hjl] at hj
    cases hj
    exact cell_later hb1 (hc j (by omega))
  have h1c : ∀ v ∈ cs, v.oneCell' = true := by
    intro v hv
    rw [hcs] at hv
    obtain ⟨z, _, rfl⟩ := List.mem_map.1 hv
    rfl
  have hheap : (w.alloc (Obj.cells (madeCells #[Value.string ByteArray.empty] len) 9)).heap[w.heap.size]? = some (.cells cur.toArray 9 (0, 0)) := by
    rw [hcur]; exact heap_alloc_new w _
  have hrun := run_copy_row (P := Try.prog) (w.alloc (Obj.cells (madeCells #[Value.string ByteArray.empty] len) 9)) 37 37 3 9 w.heap.size 0 len len x len cap cur.toArray 9 cs Try.underlying37 size9 hheap (by rw [hcl]; exact (Nat.min_self len).symm) hsrc (by simp; omega) h1c
  have hsp : List.take 0 cur ++ cs ++ List.drop (0 + cs.length) cur = cs := by
    rw [List.take_zero, List.nil_append, List.drop_of_length_le (by omega), List.append_nil]
  simp only [List.append_assoc] at hrun hsp
  rw [hsp, hcl] at hrun
  refine ⟨_, hrun, ?_, below_setRow hb1 (Nat.le_refl _) _⟩
  intro i hi
  refine ⟨w.heap.size, 0, rfl, ?_⟩
  have hrow := setRow_heap _ w.heap.size _ cs.toArray 9 _ hheap
  have := hget i hi
  rw [Nat.zero_add]
  simp only [World.cell?, hrow]
  simpa using this

theorem got_nms {w : World} {B : Nat} {v : Value} {d : Nat} {L : List ByteArray} (h : w.ownsRow B 9 1 v d (strs L)) (hL : L.length = d) : ∃ a c, v = .slice a d c ∧ Nms w a d (fun i => L.getD i ByteArray.empty) := by
  rcases h.2 with ⟨rfl, h0⟩ | ⟨g, cap, _, rfl, _⟩
  · subst h0
    exact ⟨none, 0, rfl, fun i hi => by omega⟩
  · refine ⟨_, cap, rfl, fun i hi => ⟨g, 0, rfl, ?_⟩⟩
    have := h.cells (g := g) rfl i (.string (L.getD i ByteArray.empty)) (by
      rw [strs, List.getElem?_map, List.getD_eq_getElem?_getD, List.getElem?_eq_getElem (by omega)]; rfl)
    rw [Addr.add_lit] at this
    exact this

theorem defs_fn (F : Nat) (v : Value) (ds : List ByteArray) (w : World) (h : FileOK w F v ds) (hd : ds.length ≤ 4096) :
    Calls Try.prog 15 #[.pointer (some ⟨F, 0, none⟩)] w fun e w' => ∃ a4 c4 a5 c5, e = .returned (.tuple #[.slice a4 ds.length c4, .slice a5 ds.length c5]) ∧ Hid (Nms w' a4 ds.length (fun i => ds.getD i ByteArray.empty)) ∧ Hid (Nms w' a5 ds.length (fun i => txt (ds.getD i ByteArray.empty))) ∧ Below w.heap.size w w' := by
  refine (defs_any F v ds w h hd).mono ?_
  rintro e w' ⟨v4, v5, rfl, hG⟩
  have h4 := hG.nm
  have h5 := hG.tx
  rw [List.take_length] at h4 h5
  obtain ⟨a4, c4, rfl, hN4⟩ := got_nms h4 rfl
  obtain ⟨a5, c5, rfl, hN5⟩ := got_nms h5 (by simp)
  refine ⟨a4, c4, a5, c5, rfl, hN4, ?_, hG.below⟩
  intro i hi
  obtain ⟨b, o, ha, hc⟩ := hN5 i hi
  refine ⟨b, o, ha, ?_⟩
  rw [hc]
  simp [List.getD_eq_getElem?_getD, List.getElem?_eq_getElem hi]

theorem drewN_below {B : Nat} {a w : World} (h : Below B a w) (n : Nat) : Below B a (w.drewN n) := ⟨h.os, h.tape, h.output, h.size, h.block⟩

set_option maxRecDepth 100000 in
set_option maxHeartbeats 2000000 in
theorem law_any (a0 : Option Addr) (len0 cap0 : Nat) (ss : List ByteArray) (w : World) (h : InStrs w a0 len0 cap0 ss) :
    Calls Try.prog 5 #[.slice a0 len0 cap0] w fun e w' => e = .returned (.bool true) ∧ Below w.heap.size w w' := by
  have hN := in_nms h
  have hlen := in_len h
  have HIN : Hid (InStrs w a0 len0 cap0 ss) := h
  obtain ⟨nm, hnm⟩ : ∃ nm : Nat → ByteArray, nm = fun i => ss.getD i ByteArray.empty := ⟨_, rfl⟩
  rw [← hnm] at hN
  have HNM : Hid (nm = fun i => ss.getD i ByteArray.empty) := hnm
  have HN : Hid (Nms w a0 len0 nm) := hN
  have HL : Hid (len0 ≤ maxLen) := hlen
  unfold maxLen at hlen
  clear h hnm hN
  go_enter Try.func5, Try.ntmps5
  go_upto_if 22 with (first | (go_at_call 12; refine (bytes_any _ _ _ _ _ HN.out HL.out).mono ?_; rintro e ww ⟨⟨bb, rfl, _⟩, rfl⟩; cases bb) | (go_at_call 13; refine (fit_any _ _ _ _ _ HN.out HL.out).mono ?_; rintro e ww ⟨⟨bc, rfl, hfit⟩, rfl⟩; cases bc))
  · go_ret
    exact ⟨rfl, Below.refl _ _⟩
  · go_ret
    exact ⟨rfl, Below.refl _ _⟩
  · go_ret
    exact ⟨rfl, Below.refl _ _⟩
  · obtain ⟨h4096, hsz⟩ := hfit (by first | trivial | rfl)
    have HSZ : Hid (∀ i, i < len0 → (nm i).size ≤ 1048576) := hsz
    clear hfit hsz
    go_cut [0] from 12 to 29 (fun s0 wx => ∃ a1 c1, s0 = .slice a1 len0 c1 ∧ Nms wx a1 len0 nm ∧ Below ww.heap.size ww wx)
    case first =>
      rcases HIN.out with ⟨ha, h0, hc0⟩ | ⟨x, ha, hlc, hcm, hl, hc⟩
      · subst ha
        have HHN := HN.out
        clear HIN HN HL
        go_wp2_with fail
        go_meet
        case rel => exact ⟨none, cap0, rfl, HHN, Below.refl _ _⟩
      · subst ha
        obtain ⟨W2, hcp, hnms, hb2⟩ := clone_run hlc hl hc
        rw [← HNM.out] at hnms
        have hmk := run_make_row' (P := Try.prog) 37 9 (.string ByteArray.empty) 16 Try.underlying37 info9 rfl .i64 .i64 len0 (by omega) (by omega)
        clear HIN HN HL hc hlc hcm hl
        go_wp2_with fail
        go_meet
        case rel => exact ⟨_, len0, rfl, hnms.out, hb2.out⟩
    case rest =>
      obtain ⟨a1, c1, rfl, hN1, hb1⟩ := hcut
      have HN1 : Hid (Nms wc a1 len0 nm) := hN1
      have HB1 : Hid (Below ww.heap.size ww wc) := hb1
      clear hN1 hb1 HIN HN HL HNM
      go_wp2_with fail
      go_loopw [5] (fun i wr => ∃ k : Nat, k ≤ len0 ∧ i = .int .i64 k ∧ (∃ v, FileOK wr wc.heap.size v (firsts nm k)) ∧ Below wc.heap.size wc wr) (fun i _ => len0 - (intOf i).toNat)
      case atStart => exact ⟨0, Nat.zero_le _, rfl, ⟨.slice none 0 0, heap_alloc_new wc _, World.ownsRow_nil _ _ _ _⟩, (Below.refl _ _).alloc (Nat.le_refl _) _⟩
      case round =>
        obtain ⟨k, hk, rfl, ⟨v, hf⟩, hb⟩ := hrel
        have HF : Hid (FileOK wr wc.heap.size v (firsts nm k)) := hf
        have HB : Hid (Below wc.heap.size wc wr) := hb
        have hfl := firsts_len_le nm k
        clear hf hb
        by_cases hlt : k < len0
        · obtain ⟨b, o, ha1, hc1⟩ := HN1.out.later HB.out k hlt
          subst ha1
          have HX := HSZ.out k hlt
          go_wp2_with (go_at_call 14; refine (scalar_any _ _ _ _ _ HF.out (by omega) HX).mono ?_; rintro e w2 ⟨rfl, ⟨v2, hf2⟩, hb2⟩)
          go_roundw
          case rel => exact ⟨k + 1, by omega, by go_num, ⟨v2, hf2⟩, HB.out.trans hb2⟩
          case measure => simp [intOf]; omega
        · have hkk : k = len0 := by omega
          subst hkk
          go_wp2_with (go_at_call 15; refine (defs_fn _ _ _ _ HF.out (by omega)).mono ?_; rintro e w3 ⟨a4, c4, a5, c5, rfl, hN4, hN5, hb3⟩)
          have HB3 : Hid (Below wr.heap.size wr w3) := hb3
          have HNM3 : Hid (∀ W, Below w3.heap.size w3 W → Nms W a1 k nm) := fun W hW => ((HN1.out.later HB.out).later HB3.out).later hW
          have HW : Hid (Below ww.heap.size ww w3) := by
            have s1 := HB1.out.size
            have s2 := HB.out.size
            exact (HB1.out.trans (HB.out.mono (by omega))).trans (HB3.out.mono (by omega))
          obtain ⟨d, hd⟩ : ∃ d, d = (firsts nm k).length := ⟨_, rfl⟩
          rw [← hd] at hN4 hN5 hfl ⊢
          have HD : Hid (d = (firsts nm k).length) := hd
          have HN4 : Hid (∀ W, Below w3.heap.size w3 W → Nms W a4 d (fun i => (firsts nm k).getD i ByteArray.empty)) := fun W hW => hN4.out.later hW
          have HN5 : Hid (∀ W, Below w3.heap.size w3 W → Nms W a5 d (fun i => txt ((firsts nm k).getD i ByteArray.empty))) := fun W hW => hN5.out.later hW
          clear hN4 hN5 hb3 hd HF HB HN1 HB1 HB3
          go_loopg [8, 9] k (fun gk s8 s9 wr => ∃ i : Nat, i + gk = k ∧ s9 = .int .i64 i ∧ s8 = .int .i64 ((firsts nm i).length : Nat) ∧ Below w3.heap.size w3 wr)
          case atStart => exact ⟨0, by omega, rfl, rfl, Below.refl _ _⟩
          case round =>
            obtain ⟨i, hi, rfl, rfl, hbw⟩ := hrel
            have HBW : Hid (Below w3.heap.size w3 wr) := hbw
            have hfi := firsts_len_le nm i
            clear hbw
            by_cases hik : i < k
            · go_upto_block 4 with fail
              have hsi := HSZ.out i hik
              go_cut [10] from 50 to 100 (fun s10 wx => s10 = .bool (has (firsts nm i) (nm i)) ∧ Below w3.heap.size w3 wx)
              case first =>
                go_wp2_with fail
                go_loopg [10, 11] i (fun gj s10 s11 wx => ∃ j : Nat, j + gj = i ∧ s10 = .bool false ∧ s11 = .int .i64 j ∧ (∀ t, t < j → nm t ≠ nm i) ∧ Below w3.heap.size w3 wx)
                case atStart => exact ⟨0, by omega, rfl, rfl, fun t ht => by omega, HBW.out⟩
                case round =>
                  obtain ⟨j, hj, rfl, rfl, hno, hbj⟩ := hrel
                  have HNO : Hid (∀ t, t < j → nm t ≠ nm i) := hno
                  have HBJ : Hid (Below w3.heap.size w3 wr) := hbj
                  have hNr := HNM3.out wr hbj
                  obtain ⟨b, o, ha1, hci⟩ := hNr i hik
                  subst ha1
                  clear hno hbj
                  by_cases hji : j < i
                  · obtain ⟨b', o', hb', hcj⟩ := hNr j (by omega)
                    cases hb'
                    clear hNr
                    by_cases heq : nm j = nm i
                    · have heq' : ((nm j).toList == (nm i).toList) = true := (toList_iff _ _).2 heq
                      have HEQ : Hid (nm j = nm i) := heq
                      clear heq
                      go_wp2_with fail
                      go_region
                      go_wp2_with fail
                      go_meet
                      case rel =>
                        refine ⟨?_, HBJ.out.drew⟩
                        have : has (firsts nm i) (nm i) = true := (has_iff _ _).2 ((mem_firsts nm i _).2 ⟨j, hji, HEQ.out⟩)
                        rw [this]
                    · have heq' : ((nm j).toList == (nm i).toList) = false := by
                        cases hh : ((nm j).toList == (nm i).toList)
                        · rfl
                        · exact absurd ((toList_iff _ _).1 hh) heq
                      have HEQ : Hid (¬ nm j = nm i) := heq
                      clear heq
                      go_wp2_with fail
                      go_region
                      go_wp2_with fail
                      go_roundg (gk - 1)
                      case measure => omega
                      case rel =>
                        refine ⟨j + 1, by omega, rfl, by go_num, fun t ht => ?_, HBJ.out.drew⟩
                        by_cases htj : t = j
                        · subst htj; exact HEQ.out
                        · exact HNO.out t (by omega)
                  · clear hNr
                    go_wp2_with fail
                    go_meet
                    case rel =>
                      refine ⟨?_, HBJ.out⟩
                      have : has (firsts nm i) (nm i) = false := (has_no _ _).2 (fun hm => by
                        obtain ⟨t, ht, e⟩ := (mem_firsts nm i _).1 hm
                        exact HNO.out t (by omega) e)
                      rw [this]
              case rest =>
                obtain ⟨rfl, hbw2⟩ := hcut
                have HBW2 : Hid (Below w3.heap.size w3 wc) := hbw2
                clear hbw2
                cases hh : has (firsts nm i) (nm i)
                · have HH : Hid (nm i ∉ firsts nm i) := (has_no _ _).1 hh
                  have hlt2 : (firsts nm i).length < d := by rw [HD.out]; exact firsts_lt nm k i hik HH.out
                  have hgetd : (firsts nm k).getD (firsts nm i).length ByteArray.empty = nm i := by
                    rw [List.getD_eq_getElem?_getD, firsts_get nm k i hik HH.out]; rfl
                  obtain ⟨b, o, ha1, hci⟩ := HNM3.out wc HBW2.out i hik
                  obtain ⟨b4, o4, ha4, hc4⟩ := HN4.out wc HBW2.out _ hlt2
                  obtain ⟨b5, o5, ha5, hc5⟩ := HN5.out wc HBW2.out _ hlt2
                  subst ha1 ha4 ha5
                  simp only [hgetd, txt] at hc4 hc5
                  obtain ⟨c, hc⟩ : ∃ c, c = (firsts nm i).length := ⟨_, rfl⟩
                  rw [← hc] at hlt2 hc4 hc5 hfi ⊢
                  have HCC : Hid (c = (firsts nm i).length) := hc
                  have hg1 : decide ((d : Int) ≤ (c : Int)) = false := by simp only [decide_eq_false_iff_not]; omega
                  have hs1 : ∀ W, (Op.stringOp .add ⟨#[115, 99, 97, 108, 97, 114, 32]⟩ (nm i)).run Try.prog W = .ok (.string (⟨#[115, 99, 97, 108, 97, 114, 32]⟩ ++ nm i)) W := fun W => run_string_add_sum W _ _ (by have : (⟨#[115, 99, 97, 108, 97, 114, 32]⟩ : ByteArray).size = 7 := rfl; omega)
                  have hs2 : ∀ W, (Op.stringOp .add (⟨#[115, 99, 97, 108, 97, 114, 32]⟩ ++ nm i) ⟨#[10]⟩).run Try.prog W = .ok (.string (⟨#[115, 99, 97, 108, 97, 114, 32]⟩ ++ nm i ++ ⟨#[10]⟩)) W := fun W => run_string_add_sum W _ _ (by
                    have e1 : (⟨#[115, 99, 97, 108, 97, 114, 32]⟩ : ByteArray).size = 7 := rfl
                    have e2 : (⟨#[10]⟩ : ByteArray).size = 1 := rfl
                    rw [ByteArray.size_append]; omega)
                  have hq1 : ¬ (9223372036854775807 < 7 + (nm i).size) := by omega
                  have hq2 : ¬ (9223372036854775807 < 7 + (nm i).size + 1) := by omega
                  clear hgetd hc
                  go_wp2_with fail
                  go_quiet (fail)
                  go_wp2_with fail
                  have e : (firsts nm (i + 1)).length = c + 1 := by
                    show (if has (firsts nm i) (nm i) = true then firsts nm i else firsts nm i ++ [nm i]).length = _
                    rw [if_neg (fun x => HH.out ((has_iff _ _).1 x)), List.length_append, ← HCC.out]; rfl
                  go_roundg (gk - 1)
                  case measure => omega
                  case rel => exact ⟨i + 1, by omega, by go_num, by rw [e]; go_num, drewN_below HBW2.out _⟩
                · have HH : Hid (has (firsts nm i) (nm i) = true) := hh
                  clear hh
                  go_wp2_with fail
                  go_roundg (gk - 1)
                  case measure => omega
                  case rel =>
                    have e : firsts nm (i + 1) = firsts nm i := by
                      show (if has (firsts nm i) (nm i) = true then _ else _) = _
                      rw [if_pos HH.out]
                    exact ⟨i + 1, by omega, by go_num, by rw [e], HBW2.out⟩
            · have hik2 : i = k := by omega
              subst hik2
              have hdd : (((firsts nm i).length : Nat) : Int) = (d : Int) := by rw [HD.out]
              go_wp2_with fail
              go_ret
              refine ⟨?_, ?_⟩
              · simp
              · have s3 := HW.out.size
                exact HW.out.trans (HBW.out.mono (by omega))
end Go.Proofs.Qxb6602381a.Sc
