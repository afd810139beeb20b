import Derived.Test.Qxb6603565aProg
import Derived.Test.Qxb6603565aPlain
import Derived.WalkKit
import Derived.WalkSpells
import Derived.WalkLawsBesides
namespace Go.Proofs.Qxb6603565a
open Go.RowKit

/-- What 'less' answers. -/
def lessB (ar : Int) (al : ByteArray) (br : Int) (bl : ByteArray) : Bool := if ar = br then Op.bytesLess al.toList bl.toList else decide (ar < br)

theorem less_any (ar : Int) (al : ByteArray) (br : Int) (bl : ByteArray) (w : World) :
    Calls Try.prog 26 #[.agg #[.int .u64 ar, .string al], .agg #[.int .u64 br, .string bl]] w fun e w' => e = .returned (.bool (lessB ar al br bl)) ∧ Below w.heap.size w w' := by
  unfold lessB
  by_cases h : ar = br
  · subst h
    go_enter Try.func26, Try.ntmps26
    go_wp2
    go_ret
    exact ⟨by simp, ((Below.refl _ _).alloc (Nat.le_refl _) _).alloc (by simp) _⟩
  · rw [if_neg h]
    go_enter Try.func26, Try.ntmps26
    go_wp2
    go_ret
    exact ⟨rfl, ((Below.refl _ _).alloc (Nat.le_refl _) _).alloc (by simp) _⟩

theorem ballotLess_any (ar : Int) (al : ByteArray) (br : Int) (bl : ByteArray) (w : World) :
    Calls Try.prog 9 #[.agg #[.int .u64 ar, .string al], .agg #[.int .u64 br, .string bl]] w fun e w' => e = .returned (.bool (lessB ar al br bl)) ∧ Below w.heap.size w w' := by
  go_enter Try.func9, Try.ntmps9
  go_wp2_with (go_at_call 26; refine (less_any _ _ _ _ _).mono ?_; rintro e w' ⟨rfl, hb⟩)
  go_ret
  exact ⟨rfl, (((Below.refl _ _).alloc (Nat.le_refl _) _).alloc (by simp) _).trans (hb.mono (by simp; omega))⟩

theorem newBallot_any (r : Int) (l : ByteArray) (w : World) :
    Calls Try.prog 10 #[.int .u64 r, .string l] w fun e w' => e = .returned (.agg #[.int .u64 r, .string l]) ∧ Below w.heap.size w w' := by
  go_enter Try.func10, Try.ntmps10
  go_wp2
  exact bodyPost_ret (v := .agg #[.int .u64 r, .string l]) (by simp [results, Try.results10, go_sem]) rfl ⟨rfl, ((Below.refl _ _).alloc (Nat.le_refl _) _)⟩
end Go.Proofs.Qxb6603565a
