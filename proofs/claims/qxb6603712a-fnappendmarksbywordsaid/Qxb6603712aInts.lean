/-
  Rows of integers: what a slice that came in, or a copy of it, is told to the walks. Shared by both laws of this seat.
-/
import Derived.Test.Qxb6603712aProg
import Derived.WalkKit
import Derived.WalkSpells
import Derived.WalkLawsBesides
import Derived.Deep.QuietTactic
import Derived.BigQuiet
namespace Go.Proofs.Qxb6603712a
open Go.RowKit

/-- Block g is a row of n integers, the numbers s 0, s 1, .., none of its cells frozen. -/
def IRow (k : IntKind) (w : World) (g n : Nat) (s : Nat → Int) : Prop := ∃ cur e, w.heap[g]? = some (.cells cur e (0, 0)) ∧ cur.size = n ∧ ∀ j, j < n → cur[j]? = some (.int k (s j))

theorem IRow.lt {k : IntKind} {w : World} {g n : Nat} {s : Nat → Int} (h : IRow k w g n s) : g < w.heap.size := by
  obtain ⟨cur, e, h, _⟩ := h
  exact (Array.getElem?_eq_some_iff.1 h).1
theorem IRow.cell {k : IntKind} {w : World} {g n : Nat} {s : Nat → Int} (h : IRow k w g n s) (j : Nat) (hj : j < n) : w.cell? ⟨g, j, none⟩ = some (.int k (s j)) := by
  obtain ⟨cur, e, h, hn, hp⟩ := h
  rw [cell_of_row w g j cur e (0, 0) h, hp j hj]
theorem IRow.free {k : IntKind} {w : World} {g n : Nat} {s : Nat → Int} (h : IRow k w g n s) (j : Nat) : w.frozen? ⟨g, j, none⟩ = false := by
  obtain ⟨cur, e, h, hn⟩ := h
  exact frozen_of_row w g j cur e h
theorem IRow.set {k : IntKind} {w : World} {g n : Nat} {s : Nat → Int} (h : IRow k w g n s) (j : Nat) (v : Int) : IRow k (w.setCell ⟨g, j, none⟩ (.int k v)) g n (fun i => if i = j then v else s i) := by
  obtain ⟨cur, e, h, hn, hp⟩ := h
  refine ⟨cur.setIfInBounds j (.int k v), e, heap_setCell_same w g j cur e _ h, by simpa using hn, fun i hi => ?_⟩
  rw [Array.getElem?_setIfInBounds]
  by_cases e1 : j = i
  · subst e1; simp [hn, hi]
  · have e2 : ¬ i = j := fun q => e1 q.symm
    rw [if_neg e1, hp i hi]
    simp [e2]
theorem IRow.keep {k : IntKind} {w w' : World} {g n : Nat} {s : Nat → Int} (hb : Below w.heap.size w w') (h : IRow k w g n s) : IRow k w' g n s := by
  have hl := h.lt
  obtain ⟨cur, e, h, hn⟩ := h
  exact ⟨cur, e, by rw [hb.block g hl]; exact h, hn⟩
theorem IRow.congr {k : IntKind} {w : World} {g n : Nat} {s t : Nat → Int} (h : IRow k w g n s) (he : ∀ i, i < n → s i = t i) : IRow k w g n t := by
  obtain ⟨cur, e, h, hn, hp⟩ := h
  exact ⟨cur, e, h, hn, fun j hj => by rw [hp j hj, he j hj]⟩
theorem IRow.of {k : IntKind} {e : TypeId} {w w1 : World} {n : Nat} (hown : w1.ownsRow w.heap.size e 1 (.slice (some ⟨w.heap.size, 0, none⟩) n n) n (madeCells (Value.int k 0).cells (n * 1)).toList) (hgrow : w.grownBy w1 none) :
    IRow k w1 w.heap.size n (fun _ => 0) ∧ Below w.heap.size w w1 := by
  refine ⟨?_, (Below.refl _ _).grown hgrow (Nat.le_refl _) (by intro k hk; cases hk)⟩
  rcases hown.2 with ⟨h', _⟩ | ⟨g', cap', cur, h', _, hg, _, _, hs, ht⟩
  · simp at h'
  · simp only [Value.slice.injEq, Option.some.injEq, Addr.mk.injEq, and_true, true_and] at h'
    obtain ⟨rfl, rfl⟩ := h'
    refine ⟨cur, e, hg, by simpa using hs, fun j hj => ?_⟩
    rw [List.take_of_length_le (by simp; omega), Nat.mul_one, show (Value.int k 0).cells = #[.int k 0] from rfl, toList_madeCells_one] at ht
    rw [← Array.getElem?_toList, ht, List.getElem?_replicate, if_pos hj]

/-- The n cells behind an address hold the numbers s 0, s 1, .. -/
def Ints (k : IntKind) (w : World) (a : Option Addr) (n : Nat) (s : Nat → Int) : Prop := n = 0 ∨ ∃ b off, a = some ⟨b, off, none⟩ ∧ b < w.heap.size ∧ ∀ i, i < n → w.cell? ⟨b, off + i, none⟩ = some (.int k (s i))
theorem Ints.keep {k : IntKind} {w w' : World} {a : Option Addr} {n : Nat} {s : Nat → Int} (hb : Below w.heap.size w w') (h : Ints k w a n s) : Ints k w' a n s := by
  rcases h with h | ⟨b, off, ha, hl, h⟩
  · exact .inl h
  · exact .inr ⟨b, off, ha, Nat.lt_of_lt_of_le hl hb.size, fun i hi => (hb.cell (p := ⟨b, off + i, none⟩) hl).trans (h i hi)⟩
theorem IRow.ints {k : IntKind} {w : World} {g n : Nat} {s : Nat → Int} (h : IRow k w g n s) : Ints k w (some ⟨g, 0, none⟩) n s :=
  .inr ⟨g, 0, rfl, h.lt, fun i hi => by rw [Nat.zero_add]; exact h.cell i hi⟩

theorem info3 : (Try.prog.info? 3).map (fun i => (i.zero, i.size, i.bytes)) = some (some (.int .i64 0), 1, 8) := by kernel_rfl
theorem info5 : (Try.prog.info? 5).map (fun i => (i.zero, i.size, i.bytes)) = some (some (.int .u8 0), 1, 1) := by kernel_rfl
theorem below_draws {B : Nat} {a w : World} (h : Below B a w) (n : Nat) : Below B a (w.drewN n) := ⟨h.os, h.tape, h.output, h.size, h.block⟩
theorem ret_bool {b c : Bool} (h : b = c) : Ending.returned (.bool b) = .returned (.bool c) := by rw [h]

/-- How a copy ends. -/
def Copied (k : IntKind) (w : World) (n : Nat) (s : Nat → Int) (e : Ending) (w' : World) : Prop := ∃ a' c', e = .returned (.slice a' n c') ∧ Ints k w' a' n s ∧ (a' = none → n = 0) ∧ Below w.heap.size w w'

/-- Numbers stored one after another agree with what is copied. -/
theorem copy_step {s t : Nat → Int} {k : Nat} (h : ∀ i, i < k → t i = s i) : ∀ i, i < k + 1 → (if i = k then s k else t i) = s i := by
  intro i hi
  by_cases e : i = k
  · rw [if_pos e, e]
  · rw [if_neg e]; exact h i (by omega)

set_option maxHeartbeats 800000 in
theorem copyInts_any (a : Option Addr) (len cap : Nat) (s : Nat → Int) (w : World) (ha : a = none → len = 0) (hr : Ints .i64 w a len s) (hl : len ≤ 65536) :
    Calls Try.prog 6 #[.slice a len cap] w fun e w' => Copied .i64 w len s e w' := by
  have hnil := fun w => Lib.run_eql_slice_nil (P := Try.prog) w 22 3 a len cap 0 0 Try.underlying22
  obtain ⟨i0, hi, hz0, hz1, hz2⟩ := info_parts info3
  cases a with
  | none =>
    obtain rfl := ha rfl
    go_enter Try.func6, Try.ntmps6
    go_wp2
    go_ret
    exact ⟨none, 0, rfl, .inl rfl, fun _ => rfl, Below.refl _ _⟩
  | some x =>
    go_enter Try.func6, Try.ntmps6
    go_wp2_with (at_make; refine wpList_make_full _ rfl _ _ 22 rfl w.heap.size 3 i0 (.int .i64 0) 1 Try.underlying22 hi hz0 hz1 _ _ _ _ len rfl rfl rfl rfl (by rw [hz2]; omega) (by unfold maxLen; omega) (Nat.le_refl _) ?_; intro w1 hown hgrow)
    obtain ⟨hrow, hb1⟩ := IRow.of hown hgrow
    clear hown hgrow
    go_loopw [4] (fun i wr => ∃ (k : Nat) (t : Nat → Int), k ≤ len ∧ i = .int .i64 k ∧ IRow .i64 wr w.heap.size len t ∧ Hid (∀ i, i < k → t i = s i) ∧ Below w.heap.size w wr) (fun i _ => len - (intOf i).toNat)
    case atStart => exact ⟨0, _, Nat.zero_le _, rfl, hrow, fun i hi => absurd hi (by omega), hb1⟩
    case round =>
      clear hrow hb1 hnil
      obtain ⟨k, t, hk, rfl, hR, hT, hB⟩ := hrel
      by_cases hlt : k < len
      · rcases hr with h0 | ⟨b, off, hx, hbl, hc⟩
        · omega
        cases hx
        have hv2 := (hB.cell (p := ⟨b, off + k, none⟩) hbl).trans (hc k hlt)
        have hv1 := hR.cell k hlt
        have hf := hR.free k
        clear hc
        go_wp2
        go_roundw
        case rel => exact ⟨k + 1, _, by omega, by go_num, hR.set _ _, copy_step hT.out, hB.setCell (Nat.le_refl _) _⟩
        case measure => simp [intOf]; omega
      · go_wp2
        go_ret
        exact ⟨_, _, rfl, (hR.congr (fun i hi => hT.out i (by omega))).ints, (fun h => by cases h), hB⟩

set_option maxHeartbeats 800000 in
theorem copyBytes_any (a : Option Addr) (len cap : Nat) (s : Nat → Int) (w : World) (ha : a = none → len = 0) (hr : Ints .u8 w a len s) (hl : len ≤ 65536) :
    Calls Try.prog 9 #[.slice a len cap] w fun e w' => Copied .u8 w len s e w' := by
  have hnil := fun w => Lib.run_eql_slice_nil (P := Try.prog) w 27 5 a len cap 0 0 Try.underlying27
  obtain ⟨i0, hi, hz0, hz1, hz2⟩ := info_parts info5
  cases a with
  | none =>
    obtain rfl := ha rfl
    go_enter Try.func9, Try.ntmps9
    go_wp2
    go_ret
    exact ⟨none, 0, rfl, .inl rfl, fun _ => rfl, Below.refl _ _⟩
  | some x =>
    go_enter Try.func9, Try.ntmps9
    go_wp2_with (at_make; refine wpList_make_full _ rfl _ _ 27 rfl w.heap.size 5 i0 (.int .u8 0) 1 Try.underlying27 hi hz0 hz1 _ _ _ _ len rfl rfl rfl rfl (by rw [hz2]; omega) (by unfold maxLen; omega) (Nat.le_refl _) ?_; intro w1 hown hgrow)
    obtain ⟨hrow, hb1⟩ := IRow.of hown hgrow
    clear hown hgrow
    go_loopw [4] (fun i wr => ∃ (k : Nat) (t : Nat → Int), k ≤ len ∧ i = .int .i64 k ∧ IRow .u8 wr w.heap.size len t ∧ Hid (∀ i, i < k → t i = s i) ∧ Below w.heap.size w wr) (fun i _ => len - (intOf i).toNat)
    case atStart => exact ⟨0, _, Nat.zero_le _, rfl, hrow, fun i hi => absurd hi (by omega), hb1⟩
    case round =>
      clear hrow hb1 hnil
      obtain ⟨k, t, hk, rfl, hR, hT, hB⟩ := hrel
      by_cases hlt : k < len
      · rcases hr with h0 | ⟨b, off, hx, hbl, hc⟩
        · omega
        cases hx
        have hv2 := (hB.cell (p := ⟨b, off + k, none⟩) hbl).trans (hc k hlt)
        have hv1 := hR.cell k hlt
        have hf := hR.free k
        clear hc
        go_wp2
        go_roundw
        case rel => exact ⟨k + 1, _, by omega, by go_num, hR.set _ _, copy_step hT.out, hB.setCell (Nat.le_refl _) _⟩
        case measure => simp [intOf]; omega
      · go_wp2
        go_ret
        exact ⟨_, _, rfl, (hR.congr (fun i hi => hT.out i (by omega))).ints, (fun h => by cases h), hB⟩
end Go.Proofs.Qxb6603712a
