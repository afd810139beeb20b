/-
  (*memo).index where the hinted record lies before the place.
-/
import Derived.Test.Qxb6603712aIndexWalk
namespace Go.Proofs.Qxb6603712a
open Go.RowKit

set_option maxRecDepth 100000 in
set_option maxHeartbeats 1600000 in
/-- The hinted record lies before the place. -/
theorem index_up (g b off n cap : Nat) (i : Nat) (t : Int) (s : Nat → Int) (w : World) (c0 : w.cell? ⟨g, 0, none⟩ = some (.slice (some ⟨b, off, none⟩) n cap)) (c2 : w.cell? ⟨g, 2, none⟩ = some (.int .i64 (i : Int)))
    (hc : Hid (∀ i, i < n → w.cell? ⟨b, off + i, none⟩ = some (.int .i64 (s i)))) (hs : Hid (Rising n s)) (hn : n ≤ 65536) (hn0 : 0 < n) (ht : Hid (t ≤ s (n - 1))) (hi : i < n) (hit : Hid (s i ≠ t)) (hit1 : Hid (i + 1 < n → s (i + 1) ≠ t)) (hup : Hid (s i < t)) :
    Calls Try.prog 12 #[.pointer (some ⟨g, 0, none⟩), .int .i64 t] w fun e w' => Found w n s t e w' := by
  obtain ⟨vn, hvn⟩ : ∃ v, v = s (n - 1) := ⟨_, rfl⟩
  have cn := hc.out (n - 1) (by omega)
  rw [← hvn] at cn
  have htn : t ≤ vn := by rw [hvn]; exact ht.out
  have htn' : ¬ vn < t := by omega
  have hne : ((n : Int) == 0) = false := beq_eq_false_iff_ne.2 (by omega)
  clear hvn
  obtain ⟨vi, hvi⟩ : ∃ v, v = s i := ⟨_, rfl⟩
  have ci := hc.out i hi
  rw [← hvi] at ci
  have HVI : Hid (vi = s i) := hvi
  clear hvi
  have hq : (vi == t) = false := by rw [HVI.out]; exact beq_eq_false_iff_ne.2 hit.out
  by_cases hi1 : i + 1 < n
  · obtain ⟨vj, hvj⟩ : ∃ v, v = s (i + 1) := ⟨_, rfl⟩
    have cj := hc.out (i + 1) hi1
    rw [← hvj] at cj
    have hq1 : (vj == t) = false := by rw [hvj]; exact beq_eq_false_iff_ne.2 (hit1.out hi1)
    clear hvj
    have hi1' : (i : Int) + 1 < (n : Int) := by omega
    have hvt : vi < t := by rw [HVI.out]; exact hup.out
    go_enter Try.func12, Try.ntmps12
    go_wp2
    go_loop [7, 10] (fun l st => ∃ lo step : Nat, Hid (Span n s t lo n) ∧ 1 ≤ step ∧ step ≤ lo ∧ lo ≤ n ∧ l = .int .i64 lo ∧ st = .int .i64 step) (fun l _ => n - (intOf l).toNat)
    case atStart => exact ⟨i + 1, 1, span_lo hs.out span_all hi hup.out, by omega, by omega, by omega, by go_num, rfl⟩
    case round =>
      obtain ⟨lo, step, hsp, h1, h2, h3, rfl, rfl⟩ := hrel
      by_cases hin : lo + step - 1 < n
      · obtain ⟨v, hv⟩ : ∃ v, v = s (lo + step - 1) := ⟨_, rfl⟩
        have cm := hc.out (lo + step - 1) hin
        rw [← hv] at cm
        have HV : Hid (v = s (lo + step - 1)) := hv
        clear hv
        have hin' : (lo : Int) + (step : Int) - 1 < (n : Int) := by omega
        by_cases hvl : v < t
        · go_wp2
          go_round
          case rel => exact ⟨lo + step, 2 * step, (show lo + step = lo + step - 1 + 1 by omega) ▸ span_lo hs.out hsp.out hin (by rw [← HV.out]; exact hvl), by omega, by omega, by omega, by go_num, by go_num⟩
          case measure => simp [intOf]; omega
        · rcases (show (lo : Int) + (step : Int) < (n : Int) ∨ (n : Int) ≤ (lo : Int) + (step : Int) by omega) with hmn | hmn
          all_goals
            go_wp2
            go_loop [7, 8] (fun l h => ∃ lo hi : Nat, Hid (Span n s t lo hi) ∧ lo ≤ hi ∧ hi ≤ n ∧ l = .int .i64 lo ∧ h = .int .i64 hi) (fun l h => (intOf h).toNat - (intOf l).toNat)
            case atStart => exact ⟨lo, min n (lo + step), span_min hs.out hsp.out (fun _ => by rw [← HV.out]; omega), by omega, by omega, rfl, by go_num⟩
            case round =>
              obtain ⟨lo, hi, hsp, h1, h2, rfl, rfl⟩ := hrel
              by_cases hlt : lo < hi
              · obtain ⟨v, hv⟩ : ∃ v, v = s ((lo + hi) / 2) := ⟨_, rfl⟩
                have cm := hc.out ((lo + hi) / 2) (by omega)
                rw [← hv] at cm
                have HV : Hid (v = s ((lo + hi) / 2)) := hv
                clear hv
                by_cases hvt : v < t
                · go_wp2
                  go_round
                  case rel => exact ⟨(lo + hi) / 2 + 1, hi, span_lo hs.out hsp.out (by omega) (by rw [← HV.out]; exact hvt), by omega, h2, by go_num, rfl⟩
                  case measure => simp [intOf]; omega
                · go_wp2
                  go_round
                  case rel => exact ⟨lo, (lo + hi) / 2, span_hi hs.out hsp.out (by omega) (by omega) (by rw [← HV.out]; omega), by omega, by omega, rfl, by go_num⟩
                  case measure => simp [intOf]; omega
              · obtain rfl : lo = hi := by omega
                have hk := span_lt hsp.out hn0 ht.out
                have ck := hc.out lo hk
                have hkn : (lo : Int) < (n : Int) := by omega
                have hk0 : (0 : Int) ≤ (lo : Int) := by omega
                go_wp2
                go_quiet (fail)
                go_wp2
                go_ret2
                exact found_of (lb_end hsp.out hk rfl) (below_draws (Below.refl _ _) _)
      · have hin' : ¬ (lo : Int) + (step : Int) - 1 < (n : Int) := by omega
        go_wp2
        go_loop [7, 8] (fun l h => ∃ lo hi : Nat, Hid (Span n s t lo hi) ∧ lo ≤ hi ∧ hi ≤ n ∧ l = .int .i64 lo ∧ h = .int .i64 hi) (fun l h => (intOf h).toNat - (intOf l).toNat)
        case atStart => exact ⟨lo, min n (lo + step), span_min hs.out hsp.out (fun q => absurd q hin), by omega, by omega, rfl, by go_num⟩
        case round =>
          obtain ⟨lo, hi, hsp, h1, h2, rfl, rfl⟩ := hrel
          by_cases hlt : lo < hi
          · obtain ⟨v, hv⟩ : ∃ v, v = s ((lo + hi) / 2) := ⟨_, rfl⟩
            have cm := hc.out ((lo + hi) / 2) (by omega)
            rw [← hv] at cm
            have HV : Hid (v = s ((lo + hi) / 2)) := hv
            clear hv
            by_cases hvt : v < t
            · go_wp2
              go_round
              case rel => exact ⟨(lo + hi) / 2 + 1, hi, span_lo hs.out hsp.out (by omega) (by rw [← HV.out]; exact hvt), by omega, h2, by go_num, rfl⟩
              case measure => simp [intOf]; omega
            · go_wp2
              go_round
              case rel => exact ⟨lo, (lo + hi) / 2, span_hi hs.out hsp.out (by omega) (by omega) (by rw [← HV.out]; omega), by omega, by omega, rfl, by go_num⟩
              case measure => simp [intOf]; omega
          · obtain rfl : lo = hi := by omega
            have hk := span_lt hsp.out hn0 ht.out
            have ck := hc.out lo hk
            have hkn : (lo : Int) < (n : Int) := by omega
            have hk0 : (0 : Int) ≤ (lo : Int) := by omega
            go_wp2
            go_quiet (fail)
            go_wp2
            go_ret2
            exact found_of (lb_end hsp.out hk rfl) (below_draws (Below.refl _ _) _)
  · have hi1' : ¬ (i : Int) + 1 < (n : Int) := by omega
    have hvt : vi < t := by rw [HVI.out]; exact hup.out
    go_enter Try.func12, Try.ntmps12
    go_wp2
    go_loop [7, 10] (fun l st => ∃ lo step : Nat, Hid (Span n s t lo n) ∧ 1 ≤ step ∧ step ≤ lo ∧ lo ≤ n ∧ l = .int .i64 lo ∧ st = .int .i64 step) (fun l _ => n - (intOf l).toNat)
    case atStart => exact ⟨i + 1, 1, span_lo hs.out span_all hi hup.out, by omega, by omega, by omega, by go_num, rfl⟩
    case round =>
      obtain ⟨lo, step, hsp, h1, h2, h3, rfl, rfl⟩ := hrel
      by_cases hin : lo + step - 1 < n
      · obtain ⟨v, hv⟩ : ∃ v, v = s (lo + step - 1) := ⟨_, rfl⟩
        have cm := hc.out (lo + step - 1) hin
        rw [← hv] at cm
        have HV : Hid (v = s (lo + step - 1)) := hv
        clear hv
        have hin' : (lo : Int) + (step : Int) - 1 < (n : Int) := by omega
        by_cases hvl : v < t
        · go_wp2
          go_round
          case rel => exact ⟨lo + step, 2 * step, (show lo + step = lo + step - 1 + 1 by omega) ▸ span_lo hs.out hsp.out hin (by rw [← HV.out]; exact hvl), by omega, by omega, by omega, by go_num, by go_num⟩
          case measure => simp [intOf]; omega
        · rcases (show (lo : Int) + (step : Int) < (n : Int) ∨ (n : Int) ≤ (lo : Int) + (step : Int) by omega) with hmn | hmn
          all_goals
            go_wp2
            go_loop [7, 8] (fun l h => ∃ lo hi : Nat, Hid (Span n s t lo hi) ∧ lo ≤ hi ∧ hi ≤ n ∧ l = .int .i64 lo ∧ h = .int .i64 hi) (fun l h => (intOf h).toNat - (intOf l).toNat)
            case atStart => exact ⟨lo, min n (lo + step), span_min hs.out hsp.out (fun _ => by rw [← HV.out]; omega), by omega, by omega, rfl, by go_num⟩
            case round =>
              obtain ⟨lo, hi, hsp, h1, h2, rfl, rfl⟩ := hrel
              by_cases hlt : lo < hi
              · obtain ⟨v, hv⟩ : ∃ v, v = s ((lo + hi) / 2) := ⟨_, rfl⟩
                have cm := hc.out ((lo + hi) / 2) (by omega)
                rw [← hv] at cm
                have HV : Hid (v = s ((lo + hi) / 2)) := hv
                clear hv
                by_cases hvt : v < t
                · go_wp2
                  go_round
                  case rel => exact ⟨(lo + hi) / 2 + 1, hi, span_lo hs.out hsp.out (by omega) (by rw [← HV.out]; exact hvt), by omega, h2, by go_num, rfl⟩
                  case measure => simp [intOf]; omega
                · go_wp2
                  go_round
                  case rel => exact ⟨lo, (lo + hi) / 2, span_hi hs.out hsp.out (by omega) (by omega) (by rw [← HV.out]; omega), by omega, by omega, rfl, by go_num⟩
                  case measure => simp [intOf]; omega
              · obtain rfl : lo = hi := by omega
                have hk := span_lt hsp.out hn0 ht.out
                have ck := hc.out lo hk
                have hkn : (lo : Int) < (n : Int) := by omega
                have hk0 : (0 : Int) ≤ (lo : Int) := by omega
                go_wp2
                go_quiet (fail)
                go_wp2
                go_ret2
                exact found_of (lb_end hsp.out hk rfl) (below_draws (Below.refl _ _) _)
      · have hin' : ¬ (lo : Int) + (step : Int) - 1 < (n : Int) := by omega
        go_wp2
        go_loop [7, 8] (fun l h => ∃ lo hi : Nat, Hid (Span n s t lo hi) ∧ lo ≤ hi ∧ hi ≤ n ∧ l = .int .i64 lo ∧ h = .int .i64 hi) (fun l h => (intOf h).toNat - (intOf l).toNat)
        case atStart => exact ⟨lo, min n (lo + step), span_min hs.out hsp.out (fun q => absurd q hin), by omega, by omega, rfl, by go_num⟩
        case round =>
          obtain ⟨lo, hi, hsp, h1, h2, rfl, rfl⟩ := hrel
          by_cases hlt : lo < hi
          · obtain ⟨v, hv⟩ : ∃ v, v = s ((lo + hi) / 2) := ⟨_, rfl⟩
            have cm := hc.out ((lo + hi) / 2) (by omega)
            rw [← hv] at cm
            have HV : Hid (v = s ((lo + hi) / 2)) := hv
            clear hv
            by_cases hvt : v < t
            · go_wp2
              go_round
              case rel => exact ⟨(lo + hi) / 2 + 1, hi, span_lo hs.out hsp.out (by omega) (by rw [← HV.out]; exact hvt), by omega, h2, by go_num, rfl⟩
              case measure => simp [intOf]; omega
            · go_wp2
              go_round
              case rel => exact ⟨lo, (lo + hi) / 2, span_hi hs.out hsp.out (by omega) (by omega) (by rw [← HV.out]; omega), by omega, by omega, rfl, by go_num⟩
              case measure => simp [intOf]; omega
          · obtain rfl : lo = hi := by omega
            have hk := span_lt hsp.out hn0 ht.out
            have ck := hc.out lo hk
            have hkn : (lo : Int) < (n : Int) := by omega
            have hk0 : (0 : Int) ≤ (lo : Int) := by omega
            go_wp2
            go_quiet (fail)
            go_wp2
            go_ret2
            exact found_of (lb_end hsp.out hk rfl) (below_draws (Below.refl _ _) _)

end Go.Proofs.Qxb6603712a
