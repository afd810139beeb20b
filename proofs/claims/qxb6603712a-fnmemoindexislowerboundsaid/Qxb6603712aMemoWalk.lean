/-
  The walk of FnMemoIndexIsLowerBound.
-/
import Derived.Test.Qxb6603712aIndexUp
import Derived.Test.Qxb6603712aIndexDown
namespace Go.Proofs.Qxb6603712a
open Go.RowKit

set_option maxRecDepth 100000 in
/-- No record, or the key is past them all. -/
theorem index_ends (g : Nat) (a : Option Addr) (n cap : Nat) (t : Int) (s : Nat → Int) (w : World) (c0 : w.cell? ⟨g, 0, none⟩ = some (.slice a n cap)) (hr : Ints .i64 w a n s) (hs : Hid (Rising n s)) (hn : n ≤ 65536)
    (h : n = 0 ∨ 0 < n ∧ s (n - 1) < t) :
    Calls Try.prog 12 #[.pointer (some ⟨g, 0, none⟩), .int .i64 t] w fun e w' => Found w n s t e w' := by
  rcases h with rfl | ⟨hn0, h⟩
  · go_enter Try.func12, Try.ntmps12
    go_wp2
    go_ret2
    exact found_of (k := 0) (lb_empty s t) (Below.refl _ _)
  · have HL := lb_past hs.out h hn0
    rcases hr with h0 | ⟨b, off, rfl, hbl, hc⟩
    · omega
    obtain ⟨vn, hvn⟩ : ∃ v, v = s (n - 1) := ⟨_, rfl⟩
    have cn := hc (n - 1) (by omega)
    rw [← hvn] at cn h
    have hne : ((n : Int) == 0) = false := beq_eq_false_iff_ne.2 (by omega)
    clear hvn hc
    go_enter Try.func12, Try.ntmps12
    go_wp2
    go_ret2
    exact found_of HL (Below.refl _ _)

/-- (*memo).index, whatever the hint. -/
theorem index_any (g : Nat) (a : Option Addr) (n cap : Nat) (last t : Int) (s : Nat → Int) (w : World) (c0 : w.cell? ⟨g, 0, none⟩ = some (.slice a n cap)) (c2 : w.cell? ⟨g, 2, none⟩ = some (.int .i64 last))
    (hr : Ints .i64 w a n s) (hs : Hid (Rising n s)) (hn : n ≤ 65536) (h0 : 0 ≤ last) :
    Calls Try.prog 12 #[.pointer (some ⟨g, 0, none⟩), .int .i64 t] w fun e w' => Found w n s t e w' := by
  by_cases hn0 : n = 0
  · exact index_ends g a n cap t s w c0 hr hs hn (.inl hn0)
  by_cases hp : s (n - 1) < t
  · exact index_ends g a n cap t s w c0 hr hs hn (.inr ⟨by omega, hp⟩)
  have hr' := hr
  rcases hr' with h | ⟨b, off, rfl, hbl, hc⟩
  · omega
  have ht : Hid (t ≤ s (n - 1)) := by show t ≤ s (n - 1); omega
  by_cases hl : (n : Int) ≤ last
  · exact index_far g b off n cap last t s w c0 c2 hc hs hn (by omega) ht hl
  obtain ⟨i, rfl⟩ := Int.eq_ofNat_of_zero_le h0
  have hi : i < n := by omega
  by_cases e0 : s i = t
  · exact index_hit g b off n cap i t s w c0 c2 hc hs hn (by omega) ht hi e0
  by_cases e1 : i + 1 < n ∧ s (i + 1) = t
  · exact index_next g b off n cap i t s w c0 c2 hc hs hn (by omega) ht hi e1.1 e1.2
  have e1' : i + 1 < n → s (i + 1) ≠ t := fun q r => e1 ⟨q, r⟩
  by_cases e2 : s i < t
  · exact index_up g b off n cap i t s w c0 c2 hc hs hn (by omega) ht hi e0 e1' e2
  · exact index_down g b off n cap i t s w c0 c2 hc hs hn (by omega) ht hi e0 e1' (by show t < s i; omega)

theorem memoIndex_any (a : Option Addr) (n cap : Nat) (last t : Int) (s : Nat → Int) (w : World) (hr : Ints .i64 w a n s) (hs : Hid (Rising n s)) (hn : n ≤ 65536) (h0 : 0 ≤ last) :
    Calls Try.prog 7 #[.slice a n cap, .int .i64 last, .int .i64 t] w fun e w' => Found w n s t e w' := by
  go_enter Try.func7, Try.ntmps7
  go_wp2_with fail
  refine (index_any w.heap.size a n cap last t s _ (by simp [go_sem]) (by simp [go_sem]) (hr.keep ((Below.refl _ _).alloc (Nat.le_refl _) _)) hs hn h0).mono ?_
  rintro e w1 ⟨k, f, rfl, hlb, hb⟩
  go_wp2
  go_ret2
  exact found_of hlb (((Below.refl _ _).alloc (Nat.le_refl _) _).trans (hb.mono (by simp)))

theorem zzBytes5_any (a : Option Addr) (n cap : Nat) (x y : Int) (w : World) (hn : n ≤ maxLen) :
    Calls Try.prog 5 #[.slice a n cap, .int .i64 x, .int .i64 y] w fun e w' => ∃ b : Bool, e = .returned (.bool b) ∧ w' = w := by
  unfold maxLen at hn
  go_enter Try.func5, Try.ntmps5
  go_wp2
  all_goals (go_ret; exact ⟨_, rfl, rfl⟩)

theorem rising_of {n j : Nat} {s : Nat → Int} (h : ∀ i, i < j → s i < s (i + 1)) (hj : n ≤ j + 1) : Rising n s := by
  intro i k hik hk
  obtain ⟨d, rfl⟩ : ∃ d, k = i + 1 + d := ⟨k - (i + 1), by omega⟩
  clear hik
  induction d with
  | zero => exact h i (by omega)
  | succ d ih =>
    have h1 := ih (by omega)
    have h2 := h (i + 1 + d) (by omega)
    have e : i + 1 + (d + 1) = i + 1 + d + 1 := by omega
    rw [e]; omega
theorem lb_less {n k : Nat} {s : Nat → Int} {t : Int} {f : Bool} (h : LB n s t k f) {j : Nat} (hj : j < n) : s j < t ↔ j < k := by
  obtain ⟨h1, h2, h3, h4⟩ := h
  constructor
  · intro q
    rcases (show j < k ∨ k ≤ j by omega) with r | r
    · exact r
    · have := h3 j r hj; omega
  · exact h2 j
theorem lb_eq {n k : Nat} {s : Nat → Int} {t : Int} {f : Bool} (hs : Rising n s) (h : LB n s t k f) {j : Nat} (hj : j < n) : s j = t ↔ (j = k ∧ f = true) := by
  obtain ⟨h1, h2, h3, h4⟩ := h
  constructor
  · intro q
    have hjk : j = k := by
      rcases (show j < k ∨ j = k ∨ k < j by omega) with r | r | r
      · have := h2 j r; omega
      · exact r
      · have := h3 k (by omega) (by omega); have := hs k j r hj; omega
    subst hjk
    exact ⟨rfl, h4.2 ⟨hj, q⟩⟩
  · rintro ⟨rfl, q⟩
    exact (h4.1 q).2

theorem pres_step {q t : Int} {j b : Nat} {f p : Bool} (hq : q = t ↔ (j = b ∧ f = true)) (ht : ¬ q = t) (hp : p = (decide (b < j) && f)) : Hid (p = (decide (b < j + 1) && f)) := by
  show p = _
  rw [hp]
  cases f
  · simp
  · have : j ≠ b := fun e => ht (hq.2 ⟨e, rfl⟩)
    simp; omega

set_option maxRecDepth 100000 in
set_option maxHeartbeats 1600000 in
theorem memo_walk (a : Option Addr) (len cap : Nat) (last t : Int) (s : Nat → Int) (w : World) (ha : a = none → len = 0) (hr : Ints .i64 w a len s) (hm : len ≤ maxLen) :
    Calls Try.prog 3 #[.slice a len cap, .int .i64 last, .int .i64 t] w fun e w' => e = .returned (.bool true) ∧ Below w.heap.size w w' := by
  have hm' := hm
  unfold maxLen at hm'
  by_cases h0 : (65536 : Int) < len
  · go_enter Try.func3, Try.ntmps3
    go_wp2_with fail
    refine (zzBytes5_any a len cap _ _ _ hm).mono ?_
    rintro e w' ⟨b, rfl, rfl⟩
    cases b
    all_goals
      go_wp2_with fail
      go_ret
      exact ⟨rfl, Below.refl _ _⟩
  by_cases h1 : last < 0
  · go_enter Try.func3, Try.ntmps3
    go_wp2_with fail
    refine (zzBytes5_any a len cap _ _ _ hm).mono ?_
    rintro e w' ⟨b, rfl, rfl⟩
    cases b
    all_goals
      go_wp2_with fail
      go_ret
      exact ⟨rfl, Below.refl _ _⟩
  go_enter Try.func3, Try.ntmps3
  go_wp2_with fail
  refine (zzBytes5_any a len cap _ _ _ hm).mono ?_
  rintro e w' ⟨b, rfl, rfl⟩
  cases b
  · go_wp2_with fail
    go_ret
    exact ⟨rfl, Below.refl _ _⟩
  go_wp2_with fail
  go_loopw [7] (fun i wr => ∃ j : Nat, j ≤ len ∧ i = .int .i64 ((j : Int) + 1) ∧ Hid (∀ i, i < j → s i < s (i + 1)) ∧ Below w'.heap.size w' wr) (fun i _ => len + 1 - (intOf i).toNat)
  case atStart => exact ⟨0, Nat.zero_le _, rfl, fun i hi => absurd hi (by omega), Below.refl _ _⟩
  case round =>
    obtain ⟨j, hj, rfl, hA, hB⟩ := hrel
    by_cases hlt : j + 1 < len
    · rcases hr with h0 | ⟨b, off, hx, hbl, hc⟩
      · omega
      cases hx
      obtain ⟨p, hp⟩ : ∃ p, p = s j := ⟨_, rfl⟩
      obtain ⟨q, hq⟩ : ∃ q, q = s (j + 1) := ⟨_, rfl⟩
      have cp := (hB.cell (p := ⟨b, off + j, none⟩) hbl).trans (hc j (by omega))
      have cq := (hB.cell (p := ⟨b, off + (j + 1), none⟩) hbl).trans (hc (j + 1) (by omega))
      rw [← hp] at cp
      rw [← hq] at cq
      have HP : Hid (p = s j) := hp
      have HQ : Hid (q = s (j + 1)) := hq
      clear hp hq hc
      have l0 : (0 : Int) ≤ (j : Int) := by omega
      have l1 : (j : Int) < (len : Int) := by omega
      have l2 : (j : Int) + 1 < (len : Int) := by omega
      by_cases hpq : q ≤ p
      · go_wp2_with fail
        go_quiet (fail)
        go_wp2_with fail
        go_ret
        exact ⟨rfl, below_draws hB _⟩
      · go_wp2_with fail
        go_quiet (fail)
        go_wp2_with fail
        go_roundw
        case rel => exact ⟨j + 1, by omega, by go_num, (fun i hi => by rcases (show i < j ∨ i = j by omega) with r | r; · exact hA.out i r
                                                                       · subst r; rw [← HP.out, ← HQ.out]; omega), below_draws hB _⟩
        case measure => simp [intOf]; omega
    · have hs : Hid (Rising len s) := rising_of hA.out (by omega)
      have l2 : ¬ (j : Int) + 1 < (len : Int) := by omega
      clear hA
      go_wp2_with fail
      refine (copyInts_any a len cap s _ ha (hr.keep hB) (by omega)).mono ?_
      rintro e w1 ⟨a1, c1, rfl, hr1, ha1, hb1⟩
      clear ha1
      go_wp2_with fail
      refine (memoIndex_any a1 len c1 last t s _ hr1 hs (by omega) (by omega)).mono ?_
      rintro e w2 ⟨k, f, rfl, hlb, hb2⟩
      have hr2 := hr1.keep hb2
      have fin : Below w'.heap.size w' w2 := (hB.trans (hb1.mono hB.size)).trans (hb2.mono (Nat.le_trans hB.size hb1.size))
      have HL : Hid (LB len s t k f) := hlb
      have hk : k ≤ len := hlb.1
      clear hlb hb1 hb2 hr1 hB
      go_wp2_with fail
      go_loop [10, 11] (fun c i => ∃ j b : Nat, j ≤ len ∧ Hid (b = min j k) ∧ b ≤ 65536 ∧ c = .int .i64 b ∧ i = .int .i64 j) (fun _ i => len - (intOf i).toNat)
      case atStart => exact ⟨0, 0, Nat.zero_le _, (by show 0 = min 0 k; omega), by omega, rfl, rfl⟩
      case round =>
        obtain ⟨j, b, hj, hb, hb', rfl, rfl⟩ := hrel
        by_cases hlt : j < len
        · rcases hr2 with h0 | ⟨g, off, hx, hbl, hc⟩
          · omega
          cases hx
          obtain ⟨p, hp⟩ : ∃ p, p = s j := ⟨_, rfl⟩
          have cp := hc j hlt
          rw [← hp] at cp
          have HP : Hid (p < t ↔ j < k) := by rw [hp]; exact lb_less HL.out hlt
          clear hp hc
          by_cases hpt : p < t
          · go_wp2_with fail
            go_round
            case rel => exact ⟨j + 1, b + 1, by omega, (by have := HP.out.1 hpt; have := hb.out; show b + 1 = min (j + 1) k; omega), (by have := HP.out.1 hpt; have := hb.out; omega), by go_num, by go_num⟩
            case measure => simp [intOf]; omega
          · go_wp2_with fail
            go_round
            case rel => exact ⟨j + 1, b, by omega, (by have := HP.out; have := hb.out; show b = min (j + 1) k; omega), hb', rfl, by go_num⟩
            case measure => simp [intOf]; omega
        · obtain rfl : b = k := by have := hb.out; omega
          go_wp2_with fail
          go_loop [12, 13] (fun c i => ∃ (j : Nat) (p : Bool), j ≤ len ∧ Hid (p = (decide (b < j) && f)) ∧ c = .bool p ∧ i = .int .i64 j) (fun _ i => len - (intOf i).toNat)
          case atStart => exact ⟨0, false, Nat.zero_le _, (by show false = (decide (b < 0) && f); simp), rfl, rfl⟩
          case round =>
            obtain ⟨j, p, hj, hp, rfl, rfl⟩ := hrel
            by_cases hlt : j < len
            · rcases hr2 with h0 | ⟨g, off, hx, hbl, hc⟩
              · omega
              cases hx
              obtain ⟨q, hq⟩ : ∃ q, q = s j := ⟨_, rfl⟩
              have cq := hc j hlt
              rw [← hq] at cq
              have HQ : Hid (q = t ↔ (j = b ∧ f = true)) := by rw [hq]; exact lb_eq hs.out HL.out hlt
              clear hq hc
              by_cases hqt : q = t
              · have hqt' : (q == t) = true := by simp [hqt]
                have HT : Hid (q = t) := hqt
                clear hqt
                go_wp2_with fail
                go_round
                case rel => exact ⟨j + 1, true, by omega, (by obtain ⟨r1, r2⟩ := HQ.out.1 HT.out; show true = (decide (b < j + 1) && f); rw [r2, r1]; simp), rfl, by go_num⟩
                case measure => simp [intOf]; omega
              · have hqt' : (q == t) = false := by simp [hqt]
                have HT : Hid (¬ q = t) := hqt
                clear hqt
                go_wp2_with fail
                go_round
                case rel => exact ⟨j + 1, p, by omega, pres_step HQ.out HT.out hp.out, rfl, by go_num⟩
                case measure => simp [intOf]; omega
            · obtain rfl : p = f := by
                rw [hp.out]
                have h4 := HL.out.2.2.2
                cases f
                · simp
                · have := h4.1 rfl; simp; omega
              go_wp2_with fail
              go_ret
              exact ⟨rfl, fin⟩
end Go.Proofs.Qxb6603712a
