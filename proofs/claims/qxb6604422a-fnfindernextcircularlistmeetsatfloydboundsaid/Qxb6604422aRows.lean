/-
  No cell of these rows narrows 'for every input' (looked for: loops, veiled, ifaces, maps, wideKeys, modest, calm, conditions, laid).
  DERIVED. THE GIVEN ROWS OF THIS SEAT. 2 by the template 'for every input the law returns true; each argument reads behind the call as it read before'; 0 by the template 'total and deterministic' (their statements: Qxb6604422aTotals.lean).
  GIVEN WITH THE SEED: the statements are not yours to turn. If you find one false, say at which input.
  Laid BY PROGRAM, IN A SANDBOX (cutbox-rows.mjs): the forced cells as the released guide's own fill.sh prints them over the translation 823c1abfdc053b6f… (all of the seat's roots in one cut). By AI agents, Wed Nov 11 2026. No macro, syntax, notation, axiom, sorry.
-/
import Derived.Test.Qxb6604422aChecked
import GoSem.Claim
import GoSem.ClaimJoined
import GoSem.ClaimMapViews
import Derived.JoinedTies
import Derived.KernelRfl
namespace Go.Proofs.Qxb6604422a
/- THE CELL 'sum', in the pinned program and in every row, IS THE sha256 OF THE DUMP (.gsa) THAT Qxb6604422aProg.lean LOADS. Nothing in Lean hashes anything: it is a label: what it is worth is what the hold of that sum in a sandbox is worth. -/
noncomputable def Try.pinned : Pinned := { name := "qxb6604422a", sum := "823c1abfdc053b6f35b2139b6538b9dff07c996cbc798e99da81d02f70bdd2ca", checked := Try.checked }
namespace Rows
def none {H : Type} : Left H := { results := [], args := [] }

/-- 'zzlaws_internal_scheme_b1.FnFinderNextWalksVectorAndDottedList': WHATEVER THE INPUT: true; the input reads as it did. -/
def fnFinderNextWalksVectorAndDottedListSpec : ChangeSpec := { name := "fnFinderNextWalksVectorAndDottedList", fn := fun _ => fun
  | [d1, d2, d3, d4] => { results := [.lit (.bool true)], args := [d1, d2, d3, d4] }
  | _ => none }
def fnFinderNextWalksVectorAndDottedListRow : OpenClaim := { program := "qxb6604422a", sum := "823c1abfdc053b6f35b2139b6538b9dff07c996cbc798e99da81d02f70bdd2ca", func := "example.com/config-tree-query/config-tree-query/zzlaws_internal_scheme_b1.FnFinderNextWalksVectorAndDottedList", spec := "fnFinderNextWalksVectorAndDottedList", unfollowed := true, recurses := true, apart := false }
def FnFinderNextWalksVectorAndDottedListSaid : Prop := fnFinderNextWalksVectorAndDottedListRow.holds Try.pinned (OpenSpec.ofChange fnFinderNextWalksVectorAndDottedListSpec)

/-- ITS FALSE NEIGHBOUR: 'it returns false'. Refute it at one input. -/
def fnFinderNextWalksVectorAndDottedListWrong : ChangeSpec := { name := "fnFinderNextWalksVectorAndDottedList", fn := fun _ => fun
  | [d1, d2, d3, d4] => { results := [.lit (.bool false)], args := [d1, d2, d3, d4] }
  | _ => none }
def FnFinderNextWalksVectorAndDottedListWrongFalsely : Prop := fnFinderNextWalksVectorAndDottedListRow.holds Try.pinned (OpenSpec.ofChange fnFinderNextWalksVectorAndDottedListWrong)

/-- 'zzlaws_internal_scheme_b1.FnFinderNextCircularListMeetsAtFloydBound': WHATEVER THE INPUT: true; the input reads as it did. -/
def fnFinderNextCircularListMeetsAtFloydBoundSpec : ChangeSpec := { name := "fnFinderNextCircularListMeetsAtFloydBound", fn := fun _ => fun
  | [d1, d2, d3] => { results := [.lit (.bool true)], args := [d1, d2, d3] }
  | _ => none }
def fnFinderNextCircularListMeetsAtFloydBoundRow : OpenClaim := { program := "qxb6604422a", sum := "823c1abfdc053b6f35b2139b6538b9dff07c996cbc798e99da81d02f70bdd2ca", func := "example.com/config-tree-query/config-tree-query/zzlaws_internal_scheme_b1.FnFinderNextCircularListMeetsAtFloydBound", spec := "fnFinderNextCircularListMeetsAtFloydBound", unfollowed := true, recurses := true, apart := false }
def FnFinderNextCircularListMeetsAtFloydBoundSaid : Prop := fnFinderNextCircularListMeetsAtFloydBoundRow.holds Try.pinned (OpenSpec.ofChange fnFinderNextCircularListMeetsAtFloydBoundSpec)

/-- ITS FALSE NEIGHBOUR: 'it returns false'. Refute it at one input. -/
def fnFinderNextCircularListMeetsAtFloydBoundWrong : ChangeSpec := { name := "fnFinderNextCircularListMeetsAtFloydBound", fn := fun _ => fun
  | [d1, d2, d3] => { results := [.lit (.bool false)], args := [d1, d2, d3] }
  | _ => none }
def FnFinderNextCircularListMeetsAtFloydBoundWrongFalsely : Prop := fnFinderNextCircularListMeetsAtFloydBoundRow.holds Try.pinned (OpenSpec.ofChange fnFinderNextCircularListMeetsAtFloydBoundWrong)

end Rows
end Go.Proofs.Qxb6604422a
