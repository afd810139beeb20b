/-
  The walk of FnQuorumIsLeastMajority.
-/
import Derived.Test.Qxb6603565aViews
namespace Go.Proofs.Qxb6603565a
open Go.RowKit

theorem ret_true {b : Bool} (h : b = true) : Ending.returned (.bool b) = .returned (.bool true) := by rw [h]

/-- How the bound on lengths ends: it answers something, and the world stands. -/
def Answers (w : World) (e : Ending) (w' : World) : Prop := ∃ b : Bool, e = .returned (.bool b) ∧ w' = w

set_option maxHeartbeats 800000 in
theorem zzBytes14_any (a : Option Addr) (len cap : Nat) (w : World) (hr : Readable w a len) (hm : len ≤ maxLen) :
    Calls Try.prog 14 #[.slice a len cap] w fun e w' => Answers w e w' := by
  unfold maxLen at hm
  by_cases h0 : (1048576 : Int) < len
  · go_enter Try.func14, Try.ntmps14
    go_wp2
    go_ret
    exact ⟨_, rfl, rfl⟩
  go_enter Try.func14, Try.ntmps14
  go_wp2
  go_loop [3, 4] (fun z i => ∃ (k : Nat) (y : Int), k ≤ len ∧ i = .int .i64 k ∧ z = .int .i64 y ∧ 0 ≤ y ∧ y ≤ 1048576) (fun _ i => len - (intOf i).toNat)
  case atStart => exact ⟨0, _, Nat.zero_le _, rfl, rfl, by omega, by omega⟩
  case round =>
    obtain ⟨k, y, hk, rfl, rfl, hy0, hy1⟩ := hrel
    by_cases hlt : k < len
    · rcases hr with h0 | ⟨b, off, hx, hbl, hc⟩
      · omega
      cases hx
      obtain ⟨v, hv, hvm⟩ := hc k hlt
      unfold maxLen at hvm
      go_wp2
      · go_ret
        exact ⟨_, rfl, rfl⟩
      · go_ret
        exact ⟨_, rfl, rfl⟩
      · go_round
        case rel => exact ⟨k + 1, _, by omega, by go_num, rfl, by omega, by omega⟩
        case measure => simp [intOf]; omega
    · go_wp2
      go_ret
      exact ⟨_, rfl, rfl⟩

set_option maxHeartbeats 800000 in
theorem least_walk (a : Option Addr) (len cap : Nat) (w : World) (ha : a = none → len = 0) (hr : Readable w a len) (hm : len ≤ maxLen) :
    Calls Try.prog 5 #[.slice a len cap] w fun e w' => e = .returned (.bool true) ∧ Below w.heap.size w w' := by
  have hm' := hm
  unfold maxLen at hm'
  by_cases h0 : (65536 : Int) < len
  · go_enter Try.func5, Try.ntmps5
    go_wp2_with fail
    refine (zzBytes14_any a len cap _ hr hm).mono ?_
    rintro e w' ⟨b, rfl, rfl⟩
    cases b
    all_goals
      go_wp2_with fail
      go_ret
      exact ⟨rfl, Below.refl _ _⟩
  go_enter Try.func5, Try.ntmps5
  go_wp2_with fail
  refine (zzBytes14_any a len cap _ hr hm).mono ?_
  rintro e w' ⟨b, rfl, rfl⟩
  cases b
  · go_wp2_with fail
    go_ret
    exact ⟨rfl, Below.refl _ _⟩
  go_wp2_with fail
  go_loop [3, 16] (fun z i => ∃ (k : Nat) (y : Int), k ≤ len ∧ i = .int .i64 k ∧ z = .int .i64 y ∧ 0 ≤ y ∧ y ≤ 1048576) (fun _ i => len - (intOf i).toNat)
  case atStart => exact ⟨0, _, Nat.zero_le _, rfl, rfl, by omega, by omega⟩
  case round =>
    obtain ⟨k, y, hk, rfl, rfl, hy0, hy1⟩ := hrel
    by_cases hlt : k < len
    · rcases hr with h0 | ⟨b, off, hx, hbl, hc⟩
      · omega
      cases hx
      obtain ⟨v, hv, hvm⟩ := hc k hlt
      unfold maxLen at hvm
      go_wp2_with fail
      · go_ret
        exact ⟨rfl, Below.refl _ _⟩
      · go_ret
        exact ⟨rfl, Below.refl _ _⟩
      · go_round
        case rel => exact ⟨k + 1, _, by omega, by go_num, rfl, by omega, by omega⟩
        case measure => simp [intOf]; omega
    · go_wp2_with fail
      refine (clone_any a len cap _ ha hr (by omega)).mono ?_
      rintro e w1 ⟨a1, c1, rfl, hr1, ha1, hb1⟩
      go_wp2_with fail
      refine (newView_any a1 len c1 _ hr1 (by omega)).mono ?_
      rintro e w2 ⟨g, a2, c2, rfl, hc2, hg2, hb2⟩
      go_wp2_with fail
      refine (quorum_any g a2 len c2 _ hc2 (by omega)).mono ?_
      rintro e w3 ⟨rfl, rfl⟩
      go_wp2_with fail
      go_ret
      exact ⟨ret_true (b := decide (2 * ((len : Int) / 2) ≤ (len : Int))) (decide_eq_true (by omega)), hb1.trans (hb2.mono hb1.size)⟩
end Go.Proofs.Qxb6603565a
