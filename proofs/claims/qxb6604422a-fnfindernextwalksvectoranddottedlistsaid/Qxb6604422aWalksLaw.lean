/-
  Law 1 at every argument.
-/
import Derived.Test.Qxb6604422aVecLaw
import Derived.Test.Qxb6604422aListLaw
namespace Go.Proofs.Qxb6604422a
open Go.RowKit

set_option maxRecDepth 100000 in
set_option maxHeartbeats 3200000 in
theorem walks_long (a : Option Addr) (n cap : Nat) (tl : Int) (av ta : Bool) (w : World) (hm : n ≤ maxLen) (hn : ¬ (n : Int) ≤ 65536) :
    Calls Try.prog 3 #[.slice a n cap, .int .i64 tl, .bool av, .bool ta] w fun e w' => e = .returned (.bool true) ∧ Below w.heap.size w w' := by
  have hm' := hm
  unfold maxLen at hm'
  go_enter Try.func3, Try.ntmps3
  go_wp2_with fail
  refine (zzBytes5_any _ _ _ _ _ _ _ hm).mono ?_
  rintro e w' ⟨b, rfl, rfl⟩
  cases b
  all_goals
    go_wp2_with fail
    go_ret
    exact ⟨rfl, Below.refl _ _⟩

set_option maxRecDepth 100000 in
set_option maxHeartbeats 3200000 in
theorem walks_empty (a : Option Addr) (cap : Nat) (tl : Int) (ta : Bool) (w : World) :
    Calls Try.prog 3 #[.slice a 0 cap, .int .i64 tl, .bool false, .bool ta] w fun e w' => e = .returned (.bool true) ∧ Below w.heap.size w w' := by
  go_enter Try.func3, Try.ntmps3
  go_wp2_with fail
  refine (zzBytes5_any _ _ _ _ _ _ _ (Nat.zero_le _)).mono ?_
  rintro e w' ⟨b, rfl, rfl⟩
  cases b
  all_goals
    go_wp2_with fail
    go_ret
    exact ⟨rfl, Below.refl _ _⟩

theorem walks_any (a : Option Addr) (n cap : Nat) (v : Nat → Int) (tl : Int) (av ta : Bool) (w : World) (ha : a = none → n = 0) (hr : Ints w a n v) (hm : n ≤ maxLen) :
    Calls Try.prog 3 #[.slice a n cap, .int .i64 tl, .bool av, .bool ta] w fun e w' => e = .returned (.bool true) ∧ Below w.heap.size w w' := by
  by_cases hn : (n : Int) ≤ 65536
  · cases av with
    | true => exact vec_law a n cap v tl ta w ha hr hm hn
    | false =>
      by_cases h0 : n = 0
      · subst h0
        exact walks_empty a cap tl ta w
      · cases a with
        | none => exact absurd (ha rfl) h0
        | some x => exact list_law x n cap v tl ta w hr hm hn (by omega)
  · exact walks_long a n cap tl av ta w hm hn
end Go.Proofs.Qxb6604422a
