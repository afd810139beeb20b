/-
  The walk of FnBallotLessIsKeyByteOrder.
-/
import Derived.Test.Qxb6603565aBallot
import Derived.Deep.QuietTactic
import Derived.BigQuiet
namespace Go.Proofs.Qxb6603565a
open Go.RowKit

/-- Block g is a row of bytes, the numbers xs, none of its cells frozen. -/
def Bytes (w : World) (g : Nat) (xs : List Int) : Prop := ∃ e, w.heap[g]? = some (.cells (xs.map (Value.int .u8)).toArray e (0, 0))

theorem Bytes.lt {w : World} {g : Nat} {xs : List Int} (h : Bytes w g xs) : g < w.heap.size := by
  obtain ⟨e, h⟩ := h
  exact (Array.getElem?_eq_some_iff.1 h).1
theorem Bytes.cell {w : World} {g : Nat} {xs : List Int} (h : Bytes w g xs) (j : Nat) (hj : j < xs.length) : w.cell? ⟨g, j, none⟩ = some (.int .u8 (xs[j]?.getD 0)) := by
  obtain ⟨e, h⟩ := h
  rw [cell_of_row w g j _ e (0, 0) h]
  simp [hj]
theorem Bytes.free {w : World} {g : Nat} {xs : List Int} (h : Bytes w g xs) (j : Nat) : w.frozen? ⟨g, j, none⟩ = false := by
  obtain ⟨e, h⟩ := h
  exact frozen_of_row w g j _ e h
theorem Bytes.set {w : World} {g : Nat} {xs : List Int} (h : Bytes w g xs) (j : Nat) (v : Int) : Bytes (w.setCell ⟨g, j, none⟩ (.int .u8 v)) g (xs.set j v) := by
  obtain ⟨e, h⟩ := h
  refine ⟨e, ?_⟩
  rw [heap_setCell_same w g j _ e _ h]
  congr 2
  apply Array.ext'
  simp [List.map_set]
theorem Bytes.keep {w w' : World} {g : Nat} {xs : List Int} (hb : Below w.heap.size w w') (h : Bytes w g xs) : Bytes w' g xs := by
  have hl := h.lt
  obtain ⟨e, h⟩ := h
  exact ⟨e, by rw [hb.block g hl]; exact h⟩
theorem Bytes.of {w w1 : World} {n : Nat} (hown : w1.ownsRow w.heap.size 5 1 (.slice (some ⟨w.heap.size, 0, none⟩) n n) n (madeCells (Value.int .u8 0).cells (n * 1)).toList) (hgrow : w.grownBy w1 none) :
    Bytes w1 w.heap.size (List.replicate n 0) ∧ Below w.heap.size w w1 := by
  refine ⟨?_, (Below.refl _ _).grown hgrow (Nat.le_refl _) (by intro k hk; cases hk)⟩
  rcases hown.2 with ⟨h', _⟩ | ⟨g', cap', cur, h', _, hg, _, _, hs, ht⟩
  · simp at h'
  · simp only [Value.slice.injEq, Option.some.injEq, Addr.mk.injEq, and_true, true_and] at h'
    obtain ⟨rfl, rfl⟩ := h'
    refine ⟨5, ?_⟩
    rw [hg]
    congr 2
    apply Array.ext'
    rw [List.take_of_length_le (by simp; omega)] at ht
    rw [ht, Nat.mul_one, show (Value.int .u8 0).cells = #[.int .u8 0] from rfl, toList_madeCells_one]
    simp

theorem take_set (xs : List Int) (k : Nat) (v : Int) (h : k < xs.length) : (xs.set k v).take (k + 1) = xs.take k ++ [v] := by
  rw [List.take_succ_eq_append_getElem (by simpa using h), List.getElem_set_self, List.take_set_of_le (Nat.le_refl k)]

theorem be8_step {xs : List Int} {r : Int} {k n : Nat} {v : Int} (hlen : xs.length = 8 + n) (htk : xs.take k = (be8 r).take k) (hk : k < 8) (hv : (be8 r)[k]? = some v) : (xs.set k v).take (k + 1) = (be8 r).take (k + 1) := by
  rw [take_set _ _ _ (by omega), htk, List.take_add_one, hv]; rfl
theorem nums_step {xs : List Int} {b : List Int} {l : ByteArray} {k n : Nat} {v : Int} (hlen : xs.length = 8 + n) (htk : xs.take (8 + k) = b ++ (nums l.toList).take k) (hk : k < n) (hv : (nums l.toList)[k]? = some v) :
    (xs.set (8 + k) v).take (8 + (k + 1)) = b ++ (nums l.toList).take (k + 1) := by
  rw [← Nat.add_assoc, take_set _ _ _ (by omega), htk, List.take_add_one, hv, List.append_assoc]; rfl
theorem nums_at (l : ByteArray) (k : Nat) (hk : k < l.size) : (nums l.toList)[k]? = some (l[k].toNat : Int) := by
  rw [ByteArray.toList_eq]
  have hk' : k < l.data.size := hk
  simp only [nums, List.getElem?_map, Array.getElem?_toList, Array.getElem?_eq_getElem hk']
  rfl
theorem nums_len (l : ByteArray) : (nums l.toList).length = l.size := by
  rw [ByteArray.toList_eq]; simp [nums]

theorem info5 : (Try.prog.info? 5).map (fun i => (i.zero, i.size, i.bytes)) = some (some (.int .u8 0), 1, 1) := by kernel_rfl

/-- How the making of a key ends. -/
def Keyed (w : World) (xs : List Int) (e : Ending) (w' : World) : Prop := ∃ g c, e = .returned (.slice (some ⟨g, 0, none⟩) xs.length c) ∧ Bytes w' g xs ∧ Below w.heap.size w w'

set_option maxHeartbeats 800000 in
theorem key_any (r : Int) (l : ByteArray) (w : World) (h0 : 0 ≤ r) (h1 : r < 18446744073709551616) (hl : l.size ≤ 524288) :
    Calls Try.prog 12 #[.int .u64 r, .string l] w fun e w' => Keyed w (be8 r ++ nums l.toList) e w' := by
  obtain ⟨i0, hi, hz0, hz1, hz2⟩ := info_parts info5
  go_enter Try.func12, Try.ntmps12
  go_wp2_with (at_make; refine wpList_make_full _ rfl _ _ 29 rfl w.heap.size 5 i0 (.int .u8 0) 1 Try.underlying29 hi hz0 hz1 _ _ _ _ (8 + l.size) rfl rfl (by omega) (by omega) (by rw [hz2]; omega) (by unfold maxLen; omega) (Nat.le_refl _) ?_; intro w1 hown hgrow)
  obtain ⟨hR, hB⟩ := Bytes.of hown hgrow
  clear hown hgrow
  go_loopw [6] (fun i wr => ∃ (k : Nat) (xs : List Int), k ≤ 8 ∧ i = .int .i64 k ∧ Bytes wr w.heap.size xs ∧ xs.length = 8 + l.size ∧ xs.take k = (be8 r).take k ∧ Below w.heap.size w wr) (fun i _ => 8 - (intOf i).toNat)
  case atStart => exact ⟨0, _, Nat.zero_le _, rfl, hR, by simp, rfl, hB⟩
  case round =>
    clear hR hB
    obtain ⟨k, xs, hk, rfl, hR, hlen, htk, hB⟩ := hrel
    have Hlen : Hid (xs.length = 8 + l.size) := hlen
    have Htk : Hid (xs.take k = (be8 r).take k) := htk
    have hlen' : 8 + l.size ≤ xs.length := by omega
    clear hlen htk
    by_cases hlt : k < 8
    · have hc := hR.cell k (by omega)
      have hf := hR.free k
      rcases (show k = 0 ∨ k = 1 ∨ k = 2 ∨ k = 3 ∨ k = 4 ∨ k = 5 ∨ k = 6 ∨ k = 7 by omega) with rfl | rfl | rfl | rfl | rfl | rfl | rfl | rfl
      all_goals
        go_wp2
        go_roundw
        case rel => exact ⟨_ + 1, xs.set _ _, by omega, rfl, hR.set _ _, by rw [List.length_set]; exact Hlen.out, be8_step Hlen.out Htk.out (by omega) (by first | rfl | (simp [be8]; omega)), hB.setCell (Nat.le_refl _) _⟩
        case measure => simp [intOf]
    · obtain rfl : k = 8 := by omega
      go_wp2
      go_loopw [7] (fun i wr => ∃ (k : Nat) (xs : List Int), k ≤ l.size ∧ i = .int .i64 k ∧ Bytes wr w.heap.size xs ∧ xs.length = 8 + l.size ∧ xs.take (8 + k) = be8 r ++ (nums l.toList).take k ∧ Below w.heap.size w wr) (fun i _ => l.size - (intOf i).toNat)
      case atStart => exact ⟨0, xs, Nat.zero_le _, rfl, hR, Hlen.out, by rw [List.take_zero, List.append_nil]; exact Htk.out, hB⟩
      case round =>
        clear hR hB Hlen Htk
        obtain ⟨k, xs, hk, rfl, hR, hlen, htk, hB⟩ := hrel
        have Hlen : Hid (xs.length = 8 + l.size) := hlen
        have Htk : Hid (xs.take (8 + k) = be8 r ++ (nums l.toList).take k) := htk
        have hlen' : 8 + l.size ≤ xs.length := by omega
        clear hlen htk
        by_cases hlt : k < l.size
        · have hc := hR.cell (8 + k) (by omega)
          have hf := hR.free (8 + k)
          go_wp2
          go_roundw
          case rel => exact ⟨k + 1, xs.set (8 + k) _, by omega, by go_num, hR.set _ _, by rw [List.length_set]; exact Hlen.out, nums_step Hlen.out Htk.out hlt (nums_at l k hlt), hB.setCell (Nat.le_refl _) _⟩
          case measure => simp [intOf]; omega
        · go_wp2
          go_ret
          obtain rfl : k = l.size := by omega
          have e1 : xs = be8 r ++ nums l.toList := by
            have := Htk.out
            rwa [List.take_of_length_le (by have := Hlen.out; omega), List.take_of_length_le (by rw [nums_len]; omega)] at this
          subst e1
          have e2 : (be8 r ++ nums l.toList).length = 8 + l.size := Hlen.out
          refine ⟨w.heap.size, 8 + l.size, ?_, hR, hB⟩
          rw [e2]
          rfl

theorem ltI_step {x y : List Int} {k : Nat} {p q : Int} (hx : k < x.length) (hy : k < y.length) (hp : p = x[k]?.getD 0) (hq : q = y[k]?.getD 0) :
    ltI (x.drop k) (y.drop k) = if p = q then ltI (x.drop (k + 1)) (y.drop (k + 1)) else decide (p < q) := by
  rw [List.drop_eq_getElem_cons hx, List.drop_eq_getElem_cons hy]
  have e1 : p = x[k] := by rw [hp]; simp [hx]
  have e2 : q = y[k] := by rw [hq]; simp [hy]
  rw [e1, e2]
  rfl
theorem ltI_end {x y : List Int} {k : Nat} (h1 : k ≤ x.length) (h2 : k ≤ y.length) (h : k = x.length ∨ k = y.length) : ltI (x.drop k) (y.drop k) = decide (x.length < y.length) := by
  rcases h with h | h
  · by_cases e : y.length = k
    · rw [List.drop_of_length_le (l := x) (by omega), List.drop_of_length_le (l := y) (by omega)]
      rw [decide_eq_false (by omega)]; rfl
    · rw [List.drop_of_length_le (l := x) (by omega), List.drop_eq_getElem_cons (l := y) (by omega), decide_eq_true (by omega)]; rfl
  · rw [List.drop_of_length_le (l := y) (by omega), decide_eq_false (by omega)]
    cases x.drop k <;> rfl

theorem below_draws {B : Nat} {a w : World} (h : Below B a w) (n : Nat) : Below B a (w.drewN n) := ⟨h.os, h.tape, h.output, h.size, h.block⟩
theorem ret_bool {b c : Bool} (h : b = c) : Ending.returned (.bool b) = .returned (.bool c) := by rw [h]

set_option maxHeartbeats 1600000 in
theorem bytesLess_any (g1 g2 c1 c2 : Nat) (x y : List Int) (w : World) (h1 : Bytes w g1 x) (h2 : Bytes w g2 y) (l1 : x.length ≤ 1000000) :
    Calls Try.prog 11 #[.slice (some ⟨g1, 0, none⟩) x.length c1, .slice (some ⟨g2, 0, none⟩) y.length c2] w fun e w' => e = .returned (.bool (ltI x y)) ∧ Below w.heap.size w w' := by
  go_enter Try.func11, Try.ntmps11
  go_wp2
  go_loopw [5] (fun i wr => ∃ k : Nat, k ≤ x.length ∧ k ≤ y.length ∧ i = .int .i64 k ∧ Hid (ltI (x.drop k) (y.drop k) = ltI x y) ∧ Below w.heap.size w wr) (fun i _ => x.length - (intOf i).toNat)
  case atStart => exact ⟨0, Nat.zero_le _, Nat.zero_le _, rfl, rfl, Below.refl _ _⟩
  case round =>
    obtain ⟨k, hk1, hk2, rfl, hR, hB⟩ := hrel
    by_cases ha : k < x.length
    · by_cases hb : k < y.length
      · obtain ⟨p, hp⟩ : ∃ p, p = x[k]?.getD 0 := ⟨_, rfl⟩
        obtain ⟨q, hq⟩ : ∃ q, q = y[k]?.getD 0 := ⟨_, rfl⟩
        have cx := (h1.keep hB).cell k ha
        have cy := (h2.keep hB).cell k hb
        rw [← hp] at cx
        rw [← hq] at cy
        have hs := ltI_step ha hb hp hq
        rw [hR.out] at hs
        have HS : Hid (p = q → ltI (x.drop (k + 1)) (y.drop (k + 1)) = ltI x y) := fun e => by rw [hs, if_pos e]
        have HT : Hid (p ≠ q → decide (p < q) = ltI x y) := fun e => by rw [hs, if_neg e]
        clear hs hp hq
        have ha' : (k : Int) < (x.length : Int) := by omega
        have hb' : (k : Int) < (y.length : Int) := by omega
        have hk0 : (0 : Int) ≤ (k : Int) := by omega
        by_cases hpq : p = q
        · have HU : Hid (ltI (x.drop (k + 1)) (y.drop (k + 1)) = ltI x y) := HS.out hpq
          clear HS HT
          subst hpq
          go_wp2
          go_quiet (fail)
          go_wp2
          go_roundw
          case rel => exact ⟨k + 1, by omega, by omega, by go_num, HU, below_draws hB _⟩
          case measure => simp [intOf]; omega
        · have hne : (p == q) = false := by simp [hpq]
          go_wp2
          go_quiet (fail)
          go_wp2
          go_quiet (fail)
          go_wp2
          go_ret
          exact ⟨ret_bool (b := decide (p < q)) (HT.out hpq), below_draws (below_draws hB _) _⟩
      · go_wp2
        go_ret
        exact ⟨ret_bool (b := decide (x.length < y.length)) (by rw [← hR.out, ltI_end hk1 hk2 (by omega)]), hB⟩
    · go_wp2
      go_ret
      exact ⟨ret_bool (b := decide (x.length < y.length)) (by rw [← hR.out, ltI_end hk1 hk2 (by omega)]), hB⟩

theorem zzBytes8_any (a0 : Int) (a1 : ByteArray) (a2 : Int) (a3 : ByteArray) (w : World) (h1 : a1.size ≤ maxLen) (h3 : a3.size ≤ maxLen) :
    Calls Try.prog 8 #[.int .u64 a0, .string a1, .int .u64 a2, .string a3] w fun e w' => ∃ b : Bool, e = .returned (.bool b) ∧ w' = w := by
  unfold maxLen at h1 h3
  go_enter Try.func8, Try.ntmps8
  go_wp2
  all_goals (go_ret; exact ⟨_, rfl, rfl⟩)

/-- THE PLAIN LAW: the order of the keys is the order of the ballots. -/
theorem key_law (r s : Int) (l m : ByteArray) (hr : 0 ≤ r) (hr' : r < 18446744073709551616) (hs : 0 ≤ s) (hs' : s < 18446744073709551616) :
    ltI (be8 r ++ nums l.toList) (be8 s ++ nums m.toList) = lessB r l s m := by
  rw [ltI_val (be8 r) (be8 s) rfl (be8_dig r) (be8_dig s), be8_val r hr hr', be8_val s hs hs', ltI_nums]
  rfl

theorem key_any' (r : Int) (l : ByteArray) (xs : List Int) (hxs : Hid (xs = be8 r ++ nums l.toList)) (w : World) (h0 : 0 ≤ r) (h1 : r < 18446744073709551616) (hl : l.size ≤ 524288) :
    Calls Try.prog 12 #[.int .u64 r, .string l] w fun e w' => Keyed w xs e w' := by
  have e := hxs.out
  subst e
  exact key_any r l w h0 h1 hl

set_option maxHeartbeats 800000 in
theorem key_walk (a0 : Int) (a1 : ByteArray) (a2 : Int) (a3 : ByteArray) (w0 : 0 ≤ a0 ∧ a0 < 18446744073709551616) (w1 : a1.size ≤ maxLen) (w2 : 0 ≤ a2 ∧ a2 < 18446744073709551616) (w3 : a3.size ≤ maxLen) (w : World) :
    Calls Try.prog 3 #[.int .u64 a0, .string a1, .int .u64 a2, .string a3] w fun e w' => e = .returned (.bool true) ∧ Below w.heap.size w w' := by
  have g1 := w1; have g3 := w3
  unfold maxLen at g1 g3
  by_cases k1 : (524288 : Int) < a1.size
  · go_enter Try.func3, Try.ntmps3
    go_wp2_with (go_at_call 8; refine (zzBytes8_any _ _ _ _ _ w1 w3).mono ?_; rintro e w' ⟨b, rfl, rfl⟩; cases b)
    all_goals (go_ret; exact ⟨rfl, Below.refl _ _⟩)
  by_cases k3 : (524288 : Int) < a3.size
  · go_enter Try.func3, Try.ntmps3
    go_wp2_with (go_at_call 8; refine (zzBytes8_any _ _ _ _ _ w1 w3).mono ?_; rintro e w' ⟨b, rfl, rfl⟩; cases b)
    all_goals (go_ret; exact ⟨rfl, Below.refl _ _⟩)
  obtain ⟨xa, hxa⟩ : ∃ xa, xa = be8 a0 ++ nums a1.toList := ⟨_, rfl⟩
  obtain ⟨xb, hxb⟩ : ∃ xb, xb = be8 a2 ++ nums a3.toList := ⟨_, rfl⟩
  have hlaw : Hid (ltI xa xb = lessB a0 a1 a2 a3) := by
    rw [hxa, hxb]; exact key_law a0 a2 a1 a3 w0.1 w0.2 w2.1 w2.2
  have hla : xa.length ≤ 1000000 := by rw [hxa, List.length_append, nums_len]; show 8 + a1.size ≤ _; omega
  have Hxa : Hid (xa = be8 a0 ++ nums a1.toList) := hxa
  have Hxb : Hid (xb = be8 a2 ++ nums a3.toList) := hxb
  clear hxa hxb
  go_enter Try.func3, Try.ntmps3
  go_wp2_with fail
  refine (zzBytes8_any _ _ _ _ _ w1 w3).mono ?_
  rintro e w' ⟨b, rfl, rfl⟩
  cases b
  · go_wp2_with fail
    go_ret
    exact ⟨rfl, Below.refl _ _⟩
  go_wp2_with fail
  refine (newBallot_any _ _ _).mono ?_
  rintro e x1 ⟨rfl, b1⟩
  go_wp2_with fail
  refine (newBallot_any _ _ _).mono ?_
  rintro e x2 ⟨rfl, b2⟩
  go_wp2_with fail
  refine (ballotLess_any _ _ _ _ _).mono ?_
  rintro e x3 ⟨rfl, b3⟩
  go_wp2_with fail
  refine (key_any' a0 a1 xa Hxa _ w0.1 w0.2 (by omega)).mono ?_
  rintro e x4 ⟨ga, ca, rfl, hya, b4⟩
  go_wp2_with fail
  refine (key_any' a2 a3 xb Hxb _ w2.1 w2.2 (by omega)).mono ?_
  rintro e x5 ⟨gb, cb, rfl, hyb, b5⟩
  go_wp2_with fail
  refine (bytesLess_any ga gb ca cb xa xb _ (hya.keep b5) hyb hla).mono ?_
  rintro e x6 ⟨rfl, b6⟩
  have fin : Below w'.heap.size w' x6 := by
    have z1 := b1.size; have z2 := b2.size; have z3 := b3.size; have z4 := b4.size; have z5 := b5.size
    exact ((((b1.trans (b2.mono (by omega))).trans (b3.mono (by omega))).trans (b4.mono (by omega))).trans (b5.mono (by omega))).trans (b6.mono (by omega))
  rw [hlaw.out]
  clear hlaw b1 b2 b3 b4 b5 b6 hya hyb
  go_wp2_with fail
  go_ret
  exact ⟨rfl, fin⟩
end Go.Proofs.Qxb6603565a
