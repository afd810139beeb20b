/-
  The walk of (*memo).index: where a key stands among strictly rising keys.
-/
import Derived.Test.Qxb6603712aInts
namespace Go.Proofs.Qxb6603712a
open Go.RowKit

/-- k is how many of the n rising numbers are less than t; f tells whether t is one of them. -/
def LB (n : Nat) (s : Nat → Int) (t : Int) (k : Nat) (f : Bool) : Prop := k ≤ n ∧ (∀ i, i < k → s i < t) ∧ (∀ i, k ≤ i → i < n → t ≤ s i) ∧ (f = true ↔ (k < n ∧ s k = t))
def Found (w : World) (n : Nat) (s : Nat → Int) (t : Int) (e : Ending) (w' : World) : Prop := ∃ (k : Nat) (f : Bool), e = .returned (.tuple #[.int .i64 k, .bool f]) ∧ LB n s t k f ∧ Below w.heap.size w w'
/-- The place stands between lo and hi. -/
def Span (n : Nat) (s : Nat → Int) (t : Int) (lo hi : Nat) : Prop := lo ≤ hi ∧ hi ≤ n ∧ (∀ i, i < lo → s i < t) ∧ (∀ i, hi ≤ i → i < n → t ≤ s i)
def Rising (n : Nat) (s : Nat → Int) : Prop := ∀ i j, i < j → j < n → s i < s j

theorem lb_empty (s : Nat → Int) (t : Int) : LB 0 s t 0 false := ⟨by omega, by omega, by omega, by simp⟩
theorem lb_past {n : Nat} {s : Nat → Int} {t : Int} (hs : Rising n s) (h : s (n - 1) < t) (hn : 0 < n) : LB n s t n false := by
  refine ⟨by omega, fun i hi => ?_, by omega, by simp⟩
  by_cases e : i = n - 1
  · rw [e]; exact h
  · have := hs i (n - 1) (by omega) (by omega); omega
theorem lb_at {n : Nat} {s : Nat → Int} {t : Int} {i : Nat} (hs : Rising n s) (hi : i < n) (h : s i = t) : LB n s t i true := by
  refine ⟨by omega, fun j hj => ?_, fun j hj hn => ?_, by simp [hi, h]⟩
  · have := hs j i hj hi; omega
  · by_cases e : j = i
    · rw [e]; omega
    · have := hs i j (by omega) hn; omega
theorem lb_end {n : Nat} {s : Nat → Int} {t : Int} {k : Nat} {b : Bool} (h : Span n s t k k) (hk : k < n) (hb : b = (s k == t)) : LB n s t k b :=
  ⟨by omega, h.2.2.1, h.2.2.2, by rw [hb]; simp [hk]⟩
theorem span_all {n : Nat} {s : Nat → Int} {t : Int} : Span n s t 0 n := ⟨by omega, by omega, by omega, by omega⟩
theorem span_lo {n : Nat} {s : Nat → Int} {t : Int} {lo hi m : Nat} (hs : Rising n s) (h : Span n s t lo hi) (hm' : m < hi) (hv : s m < t) : Span n s t (m + 1) hi := by
  obtain ⟨h1, h2, h3, h4⟩ := h
  refine ⟨by omega, h2, fun i hi' => ?_, h4⟩
  by_cases e : i = m
  · rw [e]; exact hv
  · have := hs i m (by omega) (by omega); omega
theorem span_hi {n : Nat} {s : Nat → Int} {t : Int} {lo hi m : Nat} (hs : Rising n s) (h : Span n s t lo hi) (hm : lo ≤ m) (hm' : m < hi) (hv : t ≤ s m) : Span n s t lo m := by
  obtain ⟨h1, h2, h3, h4⟩ := h
  refine ⟨hm, by omega, h3, fun i hi' hn => ?_⟩
  by_cases e : i = m
  · rw [e]; exact hv
  · have := hs m i (by omega) hn; omega
/-- The place is not past the last, where the last is not less than t. -/
theorem span_lt {n : Nat} {s : Nat → Int} {t : Int} {lo hi : Nat} (h : Span n s t lo hi) (hn : 0 < n) (hv : t ≤ s (n - 1)) : lo < n := by
  obtain ⟨h1, h2, h3, h4⟩ := h
  rcases (show lo < n ∨ lo = n by omega) with h | h
  · exact h
  · have := h3 (n - 1) (by omega); omega

theorem found_of {w w' : World} {n : Nat} {s : Nat → Int} {t : Int} {k : Nat} {b : Bool} (h : LB n s t k b) (hB : Below w.heap.size w w') : Found w n s t (.returned (.tuple #[.int .i64 k, .bool b])) w' := ⟨k, b, rfl, h, hB⟩

theorem span_min {n : Nat} {s : Nat → Int} {t : Int} {lo step : Nat} (hs : Rising n s) (h : Span n s t lo n) (hv : lo + step - 1 < n → t ≤ s (lo + step - 1)) : Span n s t lo (min n (lo + step)) := by
  by_cases e : lo + step < n
  · rw [Nat.min_eq_right (by omega)]
    by_cases e0 : step = 0
    · subst e0
      obtain ⟨h1, h2, h3, h4⟩ := h
      refine ⟨by omega, by omega, h3, fun i hi hn => ?_⟩
      by_cases l0 : lo = 0
      · subst l0; have := hv (by omega); by_cases ei : i = 0
        · subst ei; simpa using this
        · have := hs 0 i (by omega) hn; simp at *; omega
      · have := hv (by omega); have := hs (lo + 0 - 1) i (by omega) hn; omega
    · obtain ⟨h1, h2, h3, h4⟩ := h
      refine ⟨by omega, by omega, h3, fun i hi hn => ?_⟩
      have := hv (by omega); have := hs (lo + step - 1) i (by omega) hn; omega
  · rw [Nat.min_eq_left (by omega)]; exact h
theorem span_max {n : Nat} {s : Nat → Int} {t : Int} {hi step : Nat} (hs : Rising n s) (h : Span n s t 0 hi) (hv : step ≤ hi → s (hi - step) ≤ t) (hn : hi < n) : Span n s t (hi - step) hi := by
  obtain ⟨h1, h2, h3, h4⟩ := h
  refine ⟨by omega, h2, fun i hi' => ?_, h4⟩
  have := hv (by omega)
  have := hs i (hi - step) hi' (by omega)
  omega

set_option maxRecDepth 100000 in
set_option maxHeartbeats 1600000 in
/-- The hint is past the last record: the search by halves over all. -/
theorem index_far (g b off n cap : Nat) (last : Int) (t : Int) (s : Nat → Int) (w : World) (c0 : w.cell? ⟨g, 0, none⟩ = some (.slice (some ⟨b, off, none⟩) n cap)) (c2 : w.cell? ⟨g, 2, none⟩ = some (.int .i64 last))
    (hc : Hid (∀ i, i < n → w.cell? ⟨b, off + i, none⟩ = some (.int .i64 (s i)))) (hs : Hid (Rising n s)) (hn : n ≤ 65536) (hn0 : 0 < n) (ht : Hid (t ≤ s (n - 1))) (hlast : (n : Int) ≤ last) :
    Calls Try.prog 12 #[.pointer (some ⟨g, 0, none⟩), .int .i64 t] w fun e w' => Found w n s t e w' := by
  obtain ⟨vn, hvn⟩ : ∃ v, v = s (n - 1) := ⟨_, rfl⟩
  have cn := hc.out (n - 1) (by omega)
  rw [← hvn] at cn
  have htn : t ≤ vn := by rw [hvn]; exact ht.out
  have htn' : ¬ vn < t := by omega
  have hne : ((n : Int) == 0) = false := beq_eq_false_iff_ne.2 (by omega)
  clear hvn
  go_enter Try.func12, Try.ntmps12
  go_wp2
  go_loop [7, 8] (fun l h => ∃ lo hi : Nat, Hid (Span n s t lo hi) ∧ lo ≤ hi ∧ hi ≤ n ∧ l = .int .i64 lo ∧ h = .int .i64 hi) (fun l h => (intOf h).toNat - (intOf l).toNat)
  case atStart => exact ⟨0, n, span_all, by omega, by omega, rfl, rfl⟩
  case round =>
    obtain ⟨lo, hi, hsp, h1, h2, rfl, rfl⟩ := hrel
    by_cases hlt : lo < hi
    · obtain ⟨v, hv⟩ : ∃ v, v = s ((lo + hi) / 2) := ⟨_, rfl⟩
      have cm := hc.out ((lo + hi) / 2) (by omega)
      rw [← hv] at cm
      have HV : Hid (v = s ((lo + hi) / 2)) := hv
      clear hv
      by_cases hvt : v < t
      · go_wp2
        go_round
        case rel => exact ⟨(lo + hi) / 2 + 1, hi, span_lo hs.out hsp.out (by omega) (by rw [← HV.out]; exact hvt), by omega, h2, by go_num, rfl⟩
        case measure => simp [intOf]; omega
      · go_wp2
        go_round
        case rel => exact ⟨lo, (lo + hi) / 2, span_hi hs.out hsp.out (by omega) (by omega) (by rw [← HV.out]; omega), by omega, by omega, rfl, by go_num⟩
        case measure => simp [intOf]; omega
    · obtain rfl : lo = hi := by omega
      have hk := span_lt hsp.out hn0 ht.out
      have ck := hc.out lo hk
      have hkn : (lo : Int) < (n : Int) := by omega
      have hk0 : (0 : Int) ≤ (lo : Int) := by omega
      go_wp2
      go_quiet (fail)
      go_wp2
      go_ret2
      exact found_of (lb_end hsp.out hk rfl) (below_draws (Below.refl _ _) _)

set_option maxRecDepth 100000 in
set_option maxHeartbeats 1600000 in
/-- The hinted record is the one. -/
theorem index_hit (g b off n cap : Nat) (i : Nat) (t : Int) (s : Nat → Int) (w : World) (c0 : w.cell? ⟨g, 0, none⟩ = some (.slice (some ⟨b, off, none⟩) n cap)) (c2 : w.cell? ⟨g, 2, none⟩ = some (.int .i64 (i : Int)))
    (hc : Hid (∀ i, i < n → w.cell? ⟨b, off + i, none⟩ = some (.int .i64 (s i)))) (hs : Hid (Rising n s)) (hn : n ≤ 65536) (hn0 : 0 < n) (ht : Hid (t ≤ s (n - 1))) (hi : i < n) (hit : Hid (s i = t)) :
    Calls Try.prog 12 #[.pointer (some ⟨g, 0, none⟩), .int .i64 t] w fun e w' => Found w n s t e w' := by
  obtain ⟨vn, hvn⟩ : ∃ v, v = s (n - 1) := ⟨_, rfl⟩
  have cn := hc.out (n - 1) (by omega)
  rw [← hvn] at cn
  have htn : t ≤ vn := by rw [hvn]; exact ht.out
  have htn' : ¬ vn < t := by omega
  have hne : ((n : Int) == 0) = false := beq_eq_false_iff_ne.2 (by omega)
  clear hvn
  obtain ⟨vi, hvi⟩ : ∃ v, v = s i := ⟨_, rfl⟩
  have ci := hc.out i hi
  rw [← hvi] at ci
  have HVI : Hid (vi = s i) := hvi
  clear hvi
  have hq : (vi == t) = true := by rw [HVI.out, hit.out]; simp
  go_enter Try.func12, Try.ntmps12
  go_wp2
  go_ret2
  exact found_of (lb_at hs.out hi hit.out) (Below.refl _ _)

set_option maxRecDepth 100000 in
set_option maxHeartbeats 1600000 in
/-- The record behind the hinted one is the one. -/
theorem index_next (g b off n cap : Nat) (i : Nat) (t : Int) (s : Nat → Int) (w : World) (c0 : w.cell? ⟨g, 0, none⟩ = some (.slice (some ⟨b, off, none⟩) n cap)) (c2 : w.cell? ⟨g, 2, none⟩ = some (.int .i64 (i : Int)))
    (hc : Hid (∀ i, i < n → w.cell? ⟨b, off + i, none⟩ = some (.int .i64 (s i)))) (hs : Hid (Rising n s)) (hn : n ≤ 65536) (hn0 : 0 < n) (ht : Hid (t ≤ s (n - 1))) (hi : i < n) (hi1 : i + 1 < n) (hit : Hid (s (i + 1) = t)) :
    Calls Try.prog 12 #[.pointer (some ⟨g, 0, none⟩), .int .i64 t] w fun e w' => Found w n s t e w' := by
  obtain ⟨vn, hvn⟩ : ∃ v, v = s (n - 1) := ⟨_, rfl⟩
  have cn := hc.out (n - 1) (by omega)
  rw [← hvn] at cn
  have htn : t ≤ vn := by rw [hvn]; exact ht.out
  have htn' : ¬ vn < t := by omega
  have hne : ((n : Int) == 0) = false := beq_eq_false_iff_ne.2 (by omega)
  clear hvn
  obtain ⟨vi, hvi⟩ : ∃ v, v = s i := ⟨_, rfl⟩
  have ci := hc.out i hi
  rw [← hvi] at ci
  have HVI : Hid (vi = s i) := hvi
  clear hvi
  have hq : (vi == t) = false := by
    have := hs.out i (i + 1) (by omega) hi1
    rw [HVI.out]; exact beq_eq_false_iff_ne.2 (by rw [← hit.out]; omega)
  obtain ⟨vj, hvj⟩ : ∃ v, v = s (i + 1) := ⟨_, rfl⟩
  have cj := hc.out (i + 1) hi1
  rw [← hvj] at cj
  have hq1 : (vj == t) = true := by rw [hvj, hit.out]; simp
  clear hvj
  have hi1' : (i : Int) + 1 < (n : Int) := by omega
  go_enter Try.func12, Try.ntmps12
  go_wp2
  go_ret2
  exact found_of (k := i + 1) (lb_at hs.out hi1 hit.out) (Below.refl _ _)

end Go.Proofs.Qxb6603712a
