/-
  What the two laws on the quorum share: a slice of strings that is read; its copy; the view over it; the view's quorum.
-/
import Derived.Test.Qxb6603565aProg
import Derived.WalkKit
import Derived.WalkSpells
import Derived.WalkLawsBesides
namespace Go.Proofs.Qxb6603565a
open Go.RowKit

/-- Block g is a row of n cells, none of them frozen, each as P says. -/
def Row (P : Value → Prop) (w : World) (g n : Nat) : Prop := ∃ cur e, w.heap[g]? = some (.cells cur e (0, 0)) ∧ cur.size = n ∧ ∀ (j : Nat) (v : Value), cur[j]? = some v → P v
def Any (_ : Value) : Prop := True

theorem Row.lt {P : Value → Prop} {w : World} {g n : Nat} (h : Row P w g n) : g < w.heap.size := by
  obtain ⟨cur, e, h, _⟩ := h
  exact (Array.getElem?_eq_some_iff.1 h).1
theorem Row.cell {P : Value → Prop} {w : World} {g n : Nat} (h : Row P w g n) (j : Nat) (hj : j < n) : ∃ v, w.cell? ⟨g, j, none⟩ = some v ∧ P v := by
  obtain ⟨cur, e, h, hn, hp⟩ := h
  rw [cell_of_row w g j cur e (0, 0) h]
  have he : cur[j]? = some cur[j] := by simp [hn, hj]
  exact ⟨cur[j], he, hp j _ he⟩
theorem Row.free {P : Value → Prop} {w : World} {g n : Nat} (h : Row P w g n) (j : Nat) : w.frozen? ⟨g, j, none⟩ = false := by
  obtain ⟨cur, e, h, hn⟩ := h
  exact frozen_of_row w g j cur e h
theorem Row.set {P : Value → Prop} {w : World} {g n : Nat} (h : Row P w g n) (j : Nat) (u : Value) (hu : P u) : Row P (w.setCell ⟨g, j, none⟩ u) g n := by
  obtain ⟨cur, e, h, hn, hp⟩ := h
  refine ⟨cur.setIfInBounds j u, e, heap_setCell_same w g j cur e u h, by simpa using hn, fun i v hv => ?_⟩
  rw [Array.getElem?_setIfInBounds] at hv
  split at hv
  · split at hv
    · cases hv; exact hu
    · cases hv
  · exact hp i v hv
theorem Row.keep {P : Value → Prop} {w w' : World} {g n : Nat} (hb : Below w.heap.size w w') (h : Row P w g n) : Row P w' g n := by
  have hl := h.lt
  obtain ⟨cur, e, h, hn⟩ := h
  exact ⟨cur, e, by rw [hb.block g hl]; exact h, hn⟩
theorem Row.of {P : Value → Prop} {w : World} {base e size n g : Nat} {xs : List Value} (h : w.ownsRow base e size (.slice (some ⟨g, 0, none⟩) n n) n xs) (hp : ∀ v, v ∈ xs → P v) : Row P w g (n * size) := by
  rcases h.2 with ⟨h', _⟩ | ⟨g', cap', cur, h', _, hg, _, _, hs, ht⟩
  · simp at h'
  · simp only [Value.slice.injEq, Option.some.injEq, Addr.mk.injEq, and_true, true_and] at h'
    obtain ⟨rfl, rfl⟩ := h'
    refine ⟨cur, e, hg, hs, fun j v hv => hp v ?_⟩
    rw [← ht, List.take_of_length_le (by simp; omega)]
    exact Array.mem_toList_iff.2 (Array.mem_of_getElem? hv)

/-- The first n cells behind an address hold strings. -/
def Readable (w : World) (a : Option Addr) (n : Nat) : Prop := n = 0 ∨ ∃ b off, a = some ⟨b, off, none⟩ ∧ b < w.heap.size ∧ ∀ i, i < n → ∃ s, w.cell? ⟨b, off + i, none⟩ = some (.string s) ∧ s.size ≤ maxLen
theorem Readable.keep {w w' : World} {a : Option Addr} {n : Nat} (hb : Below w.heap.size w w') (h : Readable w a n) : Readable w' a n := by
  rcases h with h | ⟨b, off, ha, hl, h⟩
  · exact .inl h
  · refine .inr ⟨b, off, ha, Nat.lt_of_lt_of_le hl hb.size, fun i hi => ?_⟩
    obtain ⟨v, hv, hm⟩ := h i hi
    exact ⟨v, (hb.cell (p := ⟨b, off + i, none⟩) hl).trans hv, hm⟩
def IsStrM (v : Value) : Prop := ∃ s : ByteArray, v = .string s ∧ s.size ≤ maxLen
theorem Row.readable {w : World} {g n : Nat} (h : Row IsStrM w g n) : Readable w (some ⟨g, 0, none⟩) n :=
  .inr ⟨g, 0, rfl, h.lt, fun i hi => by
    obtain ⟨v, hv, s, rfl, hm⟩ := h.cell i hi
    rw [Nat.zero_add]
    exact ⟨s, hv, hm⟩⟩

theorem info9 : (Try.prog.info? 9).map (fun i => (i.zero, i.size, i.bytes)) = some (some (.string ByteArray.empty), 1, 16) := by kernel_rfl
theorem info56 : (Try.prog.info? 56).map (fun i => (i.zero, i.size, i.bytes)) = some (some (.agg #[.string ByteArray.empty, .string ByteArray.empty, .string ByteArray.empty, .string ByteArray.empty, .int .i64 0, .int .u64 0]), 6, 80) := by kernel_rfl

/-- How the copy ends. -/
def Cloned (w : World) (len : Nat) (e : Ending) (w' : World) : Prop := ∃ a' c', e = .returned (.slice a' len c') ∧ Readable w' a' len ∧ (a' = none → len = 0) ∧ Below w.heap.size w w'

set_option maxHeartbeats 800000 in
theorem clone_any (a : Option Addr) (len cap : Nat) (w : World) (ha : a = none → len = 0) (hr : Readable w a len) (hl : len ≤ 65536) :
    Calls Try.prog 15 #[.slice a len cap] w fun e w' => Cloned w len e w' := by
  have hnil := fun w => Lib.run_eql_slice_nil (P := Try.prog) w 32 9 a len cap 0 0 Try.underlying32
  obtain ⟨i0, hi, hz0, hz1, hz2⟩ := info_parts info9
  cases a with
  | none =>
    obtain rfl := ha rfl
    go_enter Try.func15, Try.ntmps15
    go_wp2
    go_ret
    exact ⟨none, 0, rfl, .inl rfl, fun _ => rfl, Below.refl _ _⟩
  | some x =>
    go_enter Try.func15, Try.ntmps15
    go_wp2_with (at_make; refine wpList_make_full _ rfl _ _ 32 rfl w.heap.size 9 i0 (.string ByteArray.empty) 1 Try.underlying32 hi hz0 hz1 _ _ _ _ len rfl rfl rfl rfl (by rw [hz2]; omega) (by unfold maxLen; omega) (Nat.le_refl _) ?_; intro w1 hown hgrow)
    have hrow : Row IsStrM w1 w.heap.size (len * 1) := Row.of hown (by
      intro v hv
      rw [Nat.mul_one, show (Value.string ByteArray.empty).cells = #[.string ByteArray.empty] from rfl, toList_madeCells_one] at hv
      exact ⟨ByteArray.empty, (List.eq_of_mem_replicate hv), by decide⟩)
    rw [Nat.mul_one] at hrow
    have hb1 : Below w.heap.size w w1 := (Below.refl _ _).grown hgrow (Nat.le_refl _) (by intro k hk; cases hk)
    clear hown hgrow
    go_loopw [4] (fun i wr => ∃ k : Nat, k ≤ len ∧ i = .int .i64 k ∧ Row IsStrM wr w.heap.size len ∧ Below w.heap.size w wr) (fun i _ => len - (intOf i).toNat)
    case atStart => exact ⟨0, Nat.zero_le _, rfl, hrow, hb1⟩
    case round =>
      obtain ⟨k, hk, rfl, hR, hB⟩ := hrel
      by_cases hlt : k < len
      · rcases hr with h0 | ⟨b, off, hx, hbl, hc⟩
        · omega
        cases hx
        obtain ⟨v, hv, hvm⟩ := hc k hlt
        have hv2 := (hB.cell (p := ⟨b, off + k, none⟩) hbl).trans hv
        obtain ⟨v1, hv1, _⟩ := hR.cell k hlt
        have hf := hR.free k
        go_wp2
        go_roundw
        case rel => exact ⟨k + 1, by omega, by go_num, hR.set _ _ ⟨v, rfl, hvm⟩, hB.setCell (Nat.le_refl _) _⟩
        case measure => simp [intOf]; omega
      · go_wp2
        go_ret
        exact ⟨_, _, rfl, hR.readable, (fun h => by cases h), hB⟩

/-- How the making of a view ends: a view over len members. -/
def Viewed (w : World) (len : Nat) (e : Ending) (w' : World) : Prop := ∃ g a c, e = .returned (.pointer (some ⟨g, 0, none⟩)) ∧ w'.cell? ⟨g, 2, none⟩ = some (.slice a len c) ∧ g < w'.heap.size ∧ Below w.heap.size w w'

set_option maxHeartbeats 800000 in
theorem newView_any (a : Option Addr) (len cap : Nat) (w : World) (hr : Readable w a len) (hl : len ≤ 65540) :
    Calls Try.prog 17 #[.slice a len cap] w fun e w' => Viewed w len e w' := by
  obtain ⟨i0, hi, hz0, hz1, hz2⟩ := info_parts info56
  go_enter Try.func17, Try.ntmps17
  go_wp2_with (at_make; refine wpList_make_full _ rfl _ _ 54 rfl w.heap.size 56 i0 _ 6 Try.underlying54 hi hz0 hz1 _ _ _ _ len rfl rfl rfl rfl (by rw [hz2]; omega) (by unfold maxLen; omega) (Nat.le_refl _) ?_; intro w1 hown hgrow)
  have hrow : Row Any w1 w.heap.size (len * 6) := Row.of hown (fun _ _ => trivial)
  have hb1 : Below w.heap.size w w1 := (Below.refl _ _).grown hgrow (Nat.le_refl _) (by intro k hk; cases hk)
  clear hown hgrow
  go_loopw [10] (fun i wr => ∃ k : Nat, k ≤ len ∧ i = .int .i64 k ∧ Row Any wr w.heap.size (len * 6) ∧ Below w.heap.size w wr) (fun i _ => len - (intOf i).toNat)
  case atStart => exact ⟨0, Nat.zero_le _, rfl, hrow, hb1⟩
  case round =>
    obtain ⟨k, hk, rfl, hR, hB⟩ := hrel
    by_cases hlt : k < len
    · rcases hr with h0 | ⟨b, off, hx, hbl, hc⟩
      · omega
      cases hx
      obtain ⟨v, hv, hvm⟩ := hc k hlt
      have hv2 := (hB.cell (p := ⟨b, off + k, none⟩) hbl).trans hv
      obtain ⟨v1, hv1, _⟩ := hR.cell (k * 6) (by omega)
      have hf := hR.free (k * 6)
      go_wp2
      go_roundw
      case rel => exact ⟨k + 1, by omega, by go_num, hR.set _ _ trivial, hB.setCell (Nat.le_refl _) _⟩
      case measure => simp [intOf]; omega
    · go_wp2
      go_ret
      exact ⟨wr.heap.size, some ⟨w.heap.size, 0, none⟩, len, rfl, by simp [go_sem], by simp, hB.alloc hB.size _⟩

/-- The quorum of a view over len members. -/
theorem quorum_any (g : Nat) (a : Option Addr) (len c : Nat) (w : World) (h : w.cell? ⟨g, 2, none⟩ = some (.slice a len c)) (hl : len ≤ 65540) :
    Calls Try.prog 16 #[.pointer (some ⟨g, 0, none⟩)] w fun e w' => e = .returned (.int .i64 ((len : Int) / 2 + 1)) ∧ w' = w := by
  go_enter Try.func16, Try.ntmps16
  go_wp2
  go_ret
  exact ⟨rfl, rfl⟩
end Go.Proofs.Qxb6603565a
