/-
  The copy of the items, and what the laws need of the items behind the finder's own writes.
-/
import Derived.Test.Qxb6604422aStates
namespace Go.Proofs.Qxb6604422a
open Go.RowKit

/-- Block g is a row of n integers, the numbers s 0, s 1, .., none of its cells frozen. -/
def IRow (w : World) (g n : Nat) (s : Nat → Int) : Prop := ∃ cur e, w.heap[g]? = some (.cells cur e (0, 0)) ∧ cur.size = n ∧ ∀ j, j < n → cur[j]? = some (.int .i64 (s j))
theorem IRow.lt {w : World} {g n : Nat} {s : Nat → Int} (h : IRow w g n s) : g < w.heap.size := by
  obtain ⟨cur, e, h, _⟩ := h
  exact (Array.getElem?_eq_some_iff.1 h).1
theorem IRow.cell {w : World} {g n : Nat} {s : Nat → Int} (h : IRow w g n s) (j : Nat) (hj : j < n) : w.cell? ⟨g, j, none⟩ = some (.int .i64 (s j)) := by
  obtain ⟨cur, e, h, hn, hp⟩ := h
  rw [cell_of_row w g j cur e (0, 0) h, hp j hj]
theorem IRow.free {w : World} {g n : Nat} {s : Nat → Int} (h : IRow w g n s) (j : Nat) : w.frozen? ⟨g, j, none⟩ = false := by
  obtain ⟨cur, e, h, hn⟩ := h
  exact frozen_of_row w g j cur e h
theorem IRow.set {w : World} {g n : Nat} {s : Nat → Int} (h : IRow w g n s) (j : Nat) (v : Int) : IRow (w.setCell ⟨g, j, none⟩ (.int .i64 v)) g n (fun i => if i = j then v else s i) := by
  obtain ⟨cur, e, h, hn, hp⟩ := h
  refine ⟨cur.setIfInBounds j (.int .i64 v), e, heap_setCell_same w g j cur e _ h, by simpa using hn, fun i hi => ?_⟩
  rw [Array.getElem?_setIfInBounds]
  by_cases e1 : j = i
  · subst e1; simp [hn, hi]
  · have e2 : ¬ i = j := fun q => e1 q.symm
    rw [if_neg e1, hp i hi]
    simp [e2]
theorem IRow.congr {w : World} {g n : Nat} {s t : Nat → Int} (h : IRow w g n s) (he : ∀ i, i < n → s i = t i) : IRow w g n t := by
  obtain ⟨cur, e, h, hn, hp⟩ := h
  exact ⟨cur, e, h, hn, fun j hj => by rw [hp j hj, he j hj]⟩
theorem IRow.of {e : TypeId} {w w1 : World} {n : Nat} (hown : w1.ownsRow w.heap.size e 1 (.slice (some ⟨w.heap.size, 0, none⟩) n n) n (madeCells (Value.int .i64 0).cells (n * 1)).toList) (hgrow : w.grownBy w1 none) :
    IRow w1 w.heap.size n (fun _ => 0) ∧ Below w.heap.size w w1 := by
  refine ⟨?_, (Below.refl _ _).grown hgrow (Nat.le_refl _) (by intro k hk; cases hk)⟩
  rcases hown.2 with ⟨h', _⟩ | ⟨g', cap', cur, h', _, hg, _, _, hs, ht⟩
  · simp at h'
  · simp only [Value.slice.injEq, Option.some.injEq, Addr.mk.injEq, and_true, true_and] at h'
    obtain ⟨rfl, rfl⟩ := h'
    refine ⟨cur, e, hg, by simpa using hs, fun j hj => ?_⟩
    rw [List.take_of_length_le (by simp; omega), Nat.mul_one, show (Value.int .i64 0).cells = #[.int .i64 0] from rfl, toList_madeCells_one] at ht
    rw [← Array.getElem?_toList, ht, List.getElem?_replicate, if_pos hj]
theorem IRow.ints {w : World} {g n : Nat} {s : Nat → Int} (h : IRow w g n s) : Ints w (some ⟨g, 0, none⟩) n s :=
  .inr ⟨g, 0, rfl, h.lt, fun i hi => by rw [Nat.zero_add]; exact h.cell i hi⟩
theorem copy_step {s t : Nat → Int} {k : Nat} (h : ∀ i, i < k → t i = s i) : ∀ i, i < k + 1 → (if i = k then s k else t i) = s i := by
  intro i hi
  by_cases e : i = k
  · rw [if_pos e, e]
  · rw [if_neg e]; exact h i (by omega)
theorem info2 : (Try.prog.info? 2).map (fun i => (i.zero, i.size, i.bytes)) = some (some (.int .i64 0), 1, 8) := by kernel_rfl

theorem zzBytes5_any (a : Option Addr) (n cap : Nat) (tl : Int) (av ta : Bool) (w : World) (hn : n ≤ maxLen) :
    Calls Try.prog 5 #[.slice a n cap, .int .i64 tl, .bool av, .bool ta] w fun e w' => ∃ b : Bool, e = .returned (.bool b) ∧ w' = w := by
  unfold maxLen at hn
  go_enter Try.func5, Try.ntmps5
  go_wp2
  all_goals (go_ret; exact ⟨_, rfl, rfl⟩)

/-- The items, where the finder has turned its own blocks alone. -/
theorem Ints.upd {X : List Nat} {w1 w2 W : World} {a : Option Addr} {n : Nat} {s : Nat → Int} (h : Ints w1 a n s) (hb : Below w1.heap.size w1 w2) (hU : Upd X w2 W) (hX : ∀ k, k ∈ X → w1.heap.size ≤ k) : Ints W a n s :=
  (h.keep (hb.trans (hU.below hX)))

theorem Ready.fixed {w w' : World} {F T H O c I S : Nat} {ta : Bool} {of : Value} (h : Ready w w' F T H O c I S ta of) : Fix w' w' ⟨F, T, H, O, c, I, S⟩ ta :=
  ⟨h.fin, h.cap, h.test, h.opn, h.apart, Upd.refl _ _⟩

end Go.Proofs.Qxb6604422a
