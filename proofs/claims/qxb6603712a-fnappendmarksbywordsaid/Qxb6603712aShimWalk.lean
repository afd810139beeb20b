/-
  The walk of ZZAppendMarks: it copies both slices, calls appendMarks and copies its answer.
-/
import Derived.Test.Qxb6603712aAppendWalk
namespace Go.Proofs.Qxb6603712a
open Go.RowKit

/-- Block g is a row of bytes of type e, the numbers xs, none of its cells frozen. -/
def ERow (e : TypeId) (w : World) (g : Nat) (xs : List Int) : Prop := w.heap[g]? = some (.cells (xs.map (Value.int .u8)).toArray e (0, 0))

theorem ERow.lt {e : TypeId} {w : World} {g : Nat} {xs : List Int} (h : ERow e w g xs) : g < w.heap.size := (Array.getElem?_eq_some_iff.1 h).1
theorem ERow.cell {e : TypeId} {w : World} {g : Nat} {xs : List Int} (h : ERow e w g xs) (j : Nat) (hj : j < xs.length) : w.cell? ⟨g, j, none⟩ = some (.int .u8 (xs[j]?.getD 0)) := by
  rw [cell_of_row w g j _ e (0, 0) h]
  simp [hj]
theorem ERow.free {e : TypeId} {w : World} {g : Nat} {xs : List Int} (h : ERow e w g xs) (j : Nat) : w.frozen? ⟨g, j, none⟩ = false := frozen_of_row w g j _ e h
theorem ERow.set {e : TypeId} {w : World} {g : Nat} {xs : List Int} (h : ERow e w g xs) (j : Nat) (v : Int) : ERow e (w.setCell ⟨g, j, none⟩ (.int .u8 v)) g (xs.set j v) := by
  unfold ERow
  rw [heap_setCell_same w g j _ e _ h]
  congr 2
  apply Array.ext'
  simp [List.map_set]
theorem ERow.keepB {e : TypeId} {w w' : World} {B g : Nat} {xs : List Int} (hb : Below B w w') (hg : g < B) (h : ERow e w g xs) : ERow e w' g xs := by
  unfold ERow
  rw [hb.block g hg]; exact h
theorem ERow.of {e : TypeId} {w w1 : World} {n : Nat} (hown : w1.ownsRow w.heap.size e 1 (.slice (some ⟨w.heap.size, 0, none⟩) n n) n (madeCells (Value.int .u8 0).cells (n * 1)).toList) (hgrow : w.grownBy w1 none) :
    ERow e w1 w.heap.size (List.replicate n 0) ∧ Below w.heap.size w w1 := by
  refine ⟨?_, (Below.refl _ _).grown hgrow (Nat.le_refl _) (by intro k hk; cases hk)⟩
  rcases hown.2 with ⟨h', _⟩ | ⟨g', cap', cur, h', _, hg, _, _, hs, ht⟩
  · simp at h'
  · simp only [Value.slice.injEq, Option.some.injEq, Addr.mk.injEq, and_true, true_and] at h'
    obtain ⟨rfl, rfl⟩ := h'
    unfold ERow
    rw [hg]
    congr 2
    apply Array.ext'
    rw [List.take_of_length_le (by simp; omega)] at ht
    rw [ht, Nat.mul_one, show (Value.int .u8 0).cells = #[.int .u8 0] from rfl, toList_madeCells_one]
    simp
theorem ERow.owns {e : TypeId} {w : World} {g base : Nat} {xs : List Int} (h : ERow e w g xs) (hb : base ≤ g) (hl : xs.length ≤ maxLen) :
    w.ownsRow base e 1 (.slice (some ⟨g, 0, none⟩) xs.length xs.length) xs.length (xs.map (Value.int .u8)) :=
  ⟨by simp, .inr ⟨g, xs.length, _, rfl, hb, h, Nat.le_refl _, hl, by simp, by simp [List.take_of_length_le]⟩⟩
theorem owned_lt {w : World} {base e g n cap : Nat} {xs : List Value} (h : w.ownsRow base e 1 (.slice (some ⟨g, 0, none⟩) n cap) n xs) : g < w.heap.size := by
  rcases h.2 with ⟨h', _⟩ | ⟨g', cap', cur, h', _, hg, _⟩
  · simp at h'
  · simp only [Value.slice.injEq, Option.some.injEq, Addr.mk.injEq, and_true, true_and] at h'
    obtain ⟨rfl, rfl⟩ := h'
    exact (Array.getElem?_eq_some_iff.1 hg).1
theorem owned_cell {w : World} {base e g cap : Nat} {R : List Int} (h : w.ownsRow base e 1 (.slice (some ⟨g, 0, none⟩) R.length cap) R.length (R.map (Value.int .u8))) (j : Nat) (hj : j < R.length) : w.cell? ⟨g, j, none⟩ = some (.int .u8 (R[j]?.getD 0)) := by
  rw [h.cellAt j (by omega)]
  simp [hj]

theorem take_set (xs : List Int) (k : Nat) (v : Int) (h : k < xs.length) : (xs.set k v).take (k + 1) = xs.take k ++ [v] := by
  rw [List.take_succ_eq_append_getElem (by simpa using h), List.getElem_set_self, List.take_set_of_le (Nat.le_refl k)]
/-- One number more is copied. -/
theorem fill_step {xs ml : List Int} {k : Nat} {v : Int} (hl : xs.length = ml.length) (ht : xs.take k = ml.take k) (hk : k < ml.length) (hv : ml[k]? = some v) : (xs.set k v).take (k + 1) = ml.take (k + 1) := by
  rw [take_set _ _ _ (by omega), ht, List.take_add_one, hv]; rfl
theorem fill_end {xs ml : List Int} {k : Nat} (hl : xs.length = ml.length) (ht : xs.take k = ml.take k) (hk : ml.length ≤ k) : xs = ml := by
  rwa [List.take_of_length_le (by omega), List.take_of_length_le hk] at ht

/-- The first n numbers as a list. -/
def lst (n : Nat) (p : Nat → Int) : List Int := (List.range n).map p
theorem lst_len (n : Nat) (p : Nat → Int) : (lst n p).length = n := by simp [lst]
theorem lst_at {n k : Nat} (p : Nat → Int) (h : k < n) : (lst n p)[k]? = some (p k) := by simp [lst, h]

theorem info41 : (Try.prog.info? 41).map (fun i => (i.zero, i.size, i.bytes)) = some (some (.int .u8 0), 1, 1) := by kernel_rfl

def GotMarks (w : World) (R : List Int) (e : Ending) (w' : World) : Prop := ∃ g c, e = .returned (.slice (some ⟨g, 0, none⟩) R.length c) ∧ ERow 5 w' g R ∧ Below w.heap.size w w'

/-- What the answer is. -/
def answer (n1 : Nat) (p : Nat → Int) (n : Nat) (f : Nat → Int) (st : Int) (gap : Bool) : List Int :=
  lst n1 p ++ (outs (fun j => gB (f j)) (fun j => rB (f j)) (fun j => cB (f j)) st n ++ [fin (fun j => gB (f j)) (fun j => rB (f j)) st gap n])
theorem answer_len (n1 : Nat) (p : Nat → Int) (n : Nat) (f : Nat → Int) (st : Int) (gap : Bool) : (answer n1 p n f st gap).length ≤ n1 + n + 1 := by
  have := outs_len (fun j => gB (f j)) (fun j => rB (f j)) (fun j => cB (f j)) st n
  simp only [answer, List.length_append, lst_len, List.length_singleton]
  omega

/-- appendMarks, at the row that the shim has made. -/
theorem marks_call (base n1 cap1 g2 n cap2 : Nat) (p : Nat → Int) (st : Int) (gap : Bool) (f : Nat → Int) (w : World) (R : List Int) (hR : Hid (R = answer n1 p n f st gap))
    (hown : Hid (w.ownsRow base 39 1 (.slice (some ⟨base, 0, none⟩) (lst n1 p).length (lst n1 p).length) (lst n1 p).length ((lst n1 p).map (Value.int .u8)))) (hc : cap1 = n1)
    (hg : base ≠ g2) (hg2 : g2 < w.heap.size) (hb : base ≤ w.heap.size) (hfl : Hid (∀ j, j < n → w.cell? ⟨g2, j, none⟩ = some (.int .u8 (f j)))) (hn : n ≤ 4096) (hms : n1 ≤ 65536) :
    Calls Try.prog 13 #[.slice (some ⟨base, 0, none⟩) n1 cap1, .slice (some ⟨g2, 0, none⟩) n cap2, .int .i64 st, .bool gap] w fun e w' => Marked base w R e w' := by
  have e1 := hR.out
  subst e1
  subst hc
  have h := marks_any base base (lst cap1 p).length g2 n cap2 (lst cap1 p) st gap f w hown.out hg hg2 hb hfl hn (by rw [lst_len]; exact hms)
  rw [lst_len] at h
  exact h

set_option maxRecDepth 100000 in
set_option maxHeartbeats 1600000 in
theorem shim_any (a1 : Option Addr) (n1 cap1 : Nat) (p : Nat → Int) (a2 : Option Addr) (n cap2 : Nat) (f : Nat → Int) (st : Int) (gap : Bool) (w : World) (h1 : Ints .u8 w a1 n1 p) (h2 : Ints .u8 w a2 n f) (hn1 : n1 ≤ 65536) (hn : n ≤ 4096) :
    Calls Try.prog 10 #[.slice a1 n1 cap1, .slice a2 n cap2, .int .i64 st, .bool gap] w fun e w' => GotMarks w (answer n1 p n f st gap) e w' := by
  obtain ⟨i0, hi, hz0, hz1, hz2⟩ := info_parts info39
  obtain ⟨j0, hj, hy0, hy1, hy2⟩ := info_parts info41
  obtain ⟨l0, hl, hx0, hx1, hx2⟩ := info_parts info5
  obtain ⟨R, hRR⟩ : ∃ R, R = answer n1 p n f st gap := ⟨_, rfl⟩
  have hRl : R.length ≤ 69633 := by rw [hRR]; have := answer_len n1 p n f st gap; omega
  rw [← hRR]
  have HRR : Hid (R = answer n1 p n f st gap) := hRR
  clear hRR
  go_enter Try.func10, Try.ntmps10
  go_wp2_with (at_make; refine wpList_make_full _ rfl (.tmp 17) (.tmp 17) 38 rfl w.heap.size 39 i0 (.int .u8 0) 1 Try.underlying38 hi hz0 hz1 _ _ _ _ n1 rfl rfl rfl rfl (by rw [hz2]; omega) (by unfold maxLen; omega) (Nat.le_refl _) ?_; intro w1 hown hgrow)
  obtain ⟨hrow, hb1⟩ := ERow.of hown hgrow
  clear hown hgrow
  go_loopw [10] (fun i wr => ∃ (k : Nat) (xs : List Int), k ≤ n1 ∧ i = .int .i64 k ∧ ERow 39 wr w.heap.size xs ∧ Hid (xs.length = (lst n1 p).length) ∧ Hid (xs.take k = (lst n1 p).take k) ∧ Below w.heap.size w wr) (fun i _ => n1 - (intOf i).toNat)
  case atStart => exact ⟨0, _, Nat.zero_le _, rfl, hrow, (by show _ = _; simp [lst_len]), rfl, hb1⟩
  case round =>
    clear hrow hb1
    obtain ⟨k, xs, hk, rfl, hR, hL, hT, hB⟩ := hrel
    have hL' : xs.length = n1 := by rw [hL.out, lst_len]
    by_cases hlt : k < n1
    · rcases h1 with h0 | ⟨b, off, hx, hbl, hc⟩
      · omega
      cases hx
      have hv2 := (hB.cell (p := ⟨b, off + k, none⟩) hbl).trans (hc k hlt)
      have hv1 := hR.cell k (by omega)
      have hf := hR.free k
      have HS : Hid ((xs.set k (p k)).take (k + 1) = (lst n1 p).take (k + 1)) := fill_step hL.out hT.out (by rw [lst_len]; exact hlt) (lst_at p hlt)
      clear hc hL' hT
      go_wp2
      go_roundw
      case rel => exact ⟨k + 1, _, by omega, by go_num, hR.set _ _, (by show (xs.set k (p k)).length = _; rw [List.length_set]; exact hL.out), HS, hB.setCell (Nat.le_refl _) _⟩
      case measure => simp [intOf]; omega
    · have e1 : xs = lst n1 p := fill_end hL.out hT.out (by rw [lst_len]; omega)
      subst e1
      clear hL hT hL'
      rename World => wa
      go_wp2_with (at_make; refine wpList_make_full _ rfl (.tmp 33) (.tmp 33) 40 rfl wa.heap.size 41 j0 (.int .u8 0) 1 Try.underlying40 hj hy0 hy1 _ _ _ _ n rfl rfl rfl rfl (by rw [hy2]; omega) (by unfold maxLen; omega) (Nat.le_refl _) ?_; intro w2 hown hgrow)
      obtain ⟨hrow2, hb2⟩ := ERow.of hown hgrow
      clear hown hgrow
      have hg1 := hR.lt
      go_loopw [12] (fun i wx => ∃ (k : Nat) (xs : List Int), k ≤ n ∧ i = .int .i64 k ∧ ERow 41 wx wa.heap.size xs ∧ Hid (xs.length = (lst n f).length) ∧ Hid (xs.take k = (lst n f).take k) ∧ Below wa.heap.size wa wx) (fun i _ => n - (intOf i).toNat)
      case atStart => exact ⟨0, _, Nat.zero_le _, rfl, hrow2, (by show _ = _; simp [lst_len]), rfl, hb2⟩
      case round =>
        clear hrow2 hb2
        obtain ⟨k, xs, hk, rfl, hF, hL, hT, hB2⟩ := hrel
        have hBB : Below w.heap.size w wr := hB.trans (hB2.mono hB.size)
        have hL' : xs.length = n := by rw [hL.out, lst_len]
        by_cases hlt : k < n
        · rcases h2 with h0 | ⟨b, off, hx, hbl, hc⟩
          · omega
          cases hx
          have hv2 := (hBB.cell (p := ⟨b, off + k, none⟩) hbl).trans (hc k hlt)
          have hv1 := hF.cell k (by omega)
          have hf := hF.free k
          have HS : Hid ((xs.set k (f k)).take (k + 1) = (lst n f).take (k + 1)) := fill_step hL.out hT.out (by rw [lst_len]; exact hlt) (lst_at f hlt)
          clear hc hL' hT
          go_wp2
          go_roundw
          case rel => exact ⟨k + 1, _, by omega, by go_num, hF.set _ _, (by show (xs.set k (f k)).length = _; rw [List.length_set]; exact hL.out), HS, hB2.setCell (Nat.le_refl _) _⟩
          case measure => simp [intOf]; omega
        · have e1 : xs = lst n f := fill_end hL.out hT.out (by rw [lst_len]; omega)
          subst e1
          clear hL hT hL'
          rename World => wb
          have hR2 := hR.keepB hB2 hg1
          have hg2 := hF.lt
          have hfl : Hid (∀ j, j < n → wb.cell? ⟨wa.heap.size, j, none⟩ = some (.int .u8 (f j))) := fun j hj => by rw [hF.cell j (by rw [lst_len]; exact hj), lst_at f hj]; rfl
          have hwz : w.heap.size ≤ wb.heap.size := hBB.size
          have HO : Hid (wb.ownsRow w.heap.size 39 1 (.slice (some ⟨w.heap.size, 0, none⟩) (lst n1 p).length (lst n1 p).length) (lst n1 p).length ((lst n1 p).map (Value.int .u8))) := hR2.owns (Nat.le_refl _) (by rw [lst_len]; unfold maxLen; omega)
          go_wp2_with fail
          refine (marks_call w.heap.size n1 n1 wa.heap.size n n p st gap f wb R HRR HO rfl (by omega) hg2 hwz hfl hn hn1).mono ?_
          rintro e w3 ⟨g, cap, rfl, hown3, hb3⟩
          have hs3 := hb3.size
          have h3lt := owned_lt hown3
          have hcell3 : Hid (∀ j, j < R.length → w3.cell? ⟨g, j, none⟩ = some (.int .u8 (R[j]?.getD 0))) := owned_cell hown3
          have fin3 : Below w.heap.size w w3 := hBB.trans hb3
          clear hown3 hb3 HO hfl
          go_wp2_with (at_make; refine wpList_make_full _ rfl (.tmp 54) (.tmp 54) 27 rfl w3.heap.size 5 l0 (.int .u8 0) 1 Try.underlying27 hl hx0 hx1 _ _ _ _ R.length rfl rfl rfl rfl (by rw [hx2]; omega) (by unfold maxLen; omega) (Nat.le_refl _) ?_; intro w4 hown hgrow)
          obtain ⟨hrow4, hb4⟩ := ERow.of hown hgrow
          clear hown hgrow
          go_loopw [15] (fun i wx => ∃ (k : Nat) (xs : List Int), k ≤ R.length ∧ i = .int .i64 k ∧ ERow 5 wx w3.heap.size xs ∧ Hid (xs.length = R.length) ∧ Hid (xs.take k = R.take k) ∧ Below w3.heap.size w3 wx) (fun i _ => R.length - (intOf i).toNat)
          case atStart => exact ⟨0, _, Nat.zero_le _, rfl, hrow4, (by show _ = _; simp), rfl, hb4⟩
          case round =>
            clear hrow4 hb4
            obtain ⟨k, xs, hk, rfl, hQ, hL, hT, hB4⟩ := hrel
            have hL' : R.length ≤ xs.length := by rw [hL.out]; omega
            by_cases hlt : k < R.length
            · obtain ⟨c, hc⟩ : ∃ c, R[k]? = some c := ⟨R[k], by simp [hlt]⟩
              have hv2 := (hB4.cell (p := ⟨g, k, none⟩) h3lt).trans (hcell3.out k hlt)
              rw [hc, Option.getD_some] at hv2
              have hv1 := hQ.cell k (by omega)
              have hf := hQ.free k
              have HS : Hid ((xs.set k c).take (k + 1) = R.take (k + 1)) := fill_step hL.out hT.out hlt hc
              clear hc hL' hT
              go_wp2
              go_roundw
              case rel => exact ⟨k + 1, _, by omega, by go_num, hQ.set _ _, (by show (xs.set k c).length = _; rw [List.length_set]; exact hL.out), HS, hB4.setCell (Nat.le_refl _) _⟩
              case measure => simp [intOf]; omega
            · have e1 : xs = R := fill_end hL.out hT.out (by omega)
              subst e1
              go_wp2
              go_ret
              exact ⟨_, _, rfl, hQ, fin3.trans (hB4.mono fin3.size)⟩
end Go.Proofs.Qxb6603712a
