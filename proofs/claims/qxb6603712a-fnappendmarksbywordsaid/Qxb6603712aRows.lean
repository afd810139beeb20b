/-
  No cell of these rows narrows 'for every input' (looked for: loops, veiled, ifaces, maps, wideKeys, modest, calm, conditions, laid).
  DERIVED. THE GIVEN ROWS OF THIS SEAT. 2 by the template 'for every input the law returns true; each argument reads behind the call as it read before'; 0 by the template 'total and deterministic' (their statements: Qxb6603712aTotals.lean).
  GIVEN WITH THE SEED: the statements are not yours to turn. If you find one false, say at which input.
  Laid BY PROGRAM, IN A SANDBOX (cutbox-rows.mjs): the forced cells as the released guide's own fill.sh prints them over the translation 5fdc6b26ba007c13… (all of the seat's roots in one cut). By AI agents, Wed Nov 11 2026. No macro, syntax, notation, axiom, sorry.
-/
import Derived.Test.Qxb6603712aChecked
import GoSem.Claim
import GoSem.ClaimJoined
import GoSem.ClaimMapViews
import Derived.JoinedTies
import Derived.KernelRfl
namespace Go.Proofs.Qxb6603712a
/- THE CELL 'sum', in the pinned program and in every row, IS THE sha256 OF THE DUMP (.gsa) THAT Qxb6603712aProg.lean LOADS. Nothing in Lean hashes anything: it is a label: what it is worth is what the hold of that sum in a sandbox is worth. -/
noncomputable def Try.pinned : Pinned := { name := "qxb6603712a", sum := "5fdc6b26ba007c13b0b5c1c2e940690b9f432526d609b58f0252562ab4e47a9e", checked := Try.checked }
namespace Rows
def none {H : Type} : Left H := { results := [], args := [] }

/-- 'zzlaws_internal_sh_b1.FnMemoIndexIsLowerBound': WHATEVER THE INPUT: true; the input reads as it did. -/
def fnMemoIndexIsLowerBoundSpec : ChangeSpec := { name := "fnMemoIndexIsLowerBound", fn := fun _ => fun
  | [d1, d2, d3] => { results := [.lit (.bool true)], args := [d1, d2, d3] }
  | _ => none }
def fnMemoIndexIsLowerBoundRow : OpenClaim := { program := "qxb6603712a", sum := "5fdc6b26ba007c13b0b5c1c2e940690b9f432526d609b58f0252562ab4e47a9e", func := "example.com/fundi/fundi/zzlaws_internal_sh_b1.FnMemoIndexIsLowerBound", spec := "fnMemoIndexIsLowerBound", apart := false }
def FnMemoIndexIsLowerBoundSaid : Prop := fnMemoIndexIsLowerBoundRow.holds Try.pinned (OpenSpec.ofChange fnMemoIndexIsLowerBoundSpec)

/-- ITS FALSE NEIGHBOUR: 'it returns false'. Refute it at one input. -/
def fnMemoIndexIsLowerBoundWrong : ChangeSpec := { name := "fnMemoIndexIsLowerBound", fn := fun _ => fun
  | [d1, d2, d3] => { results := [.lit (.bool false)], args := [d1, d2, d3] }
  | _ => none }
def FnMemoIndexIsLowerBoundWrongFalsely : Prop := fnMemoIndexIsLowerBoundRow.holds Try.pinned (OpenSpec.ofChange fnMemoIndexIsLowerBoundWrong)

/-- 'zzlaws_internal_sh_b1.FnAppendMarksByWord': WHATEVER THE INPUT: true; the input reads as it did. -/
def fnAppendMarksByWordSpec : ChangeSpec := { name := "fnAppendMarksByWord", fn := fun _ => fun
  | [d1, d2, d3, d4] => { results := [.lit (.bool true)], args := [d1, d2, d3, d4] }
  | _ => none }
def fnAppendMarksByWordRow : OpenClaim := { program := "qxb6603712a", sum := "5fdc6b26ba007c13b0b5c1c2e940690b9f432526d609b58f0252562ab4e47a9e", func := "example.com/fundi/fundi/zzlaws_internal_sh_b1.FnAppendMarksByWord", spec := "fnAppendMarksByWord", apart := false }
def FnAppendMarksByWordSaid : Prop := fnAppendMarksByWordRow.holds Try.pinned (OpenSpec.ofChange fnAppendMarksByWordSpec)

/-- ITS FALSE NEIGHBOUR: 'it returns false'. Refute it at one input. -/
def fnAppendMarksByWordWrong : ChangeSpec := { name := "fnAppendMarksByWord", fn := fun _ => fun
  | [d1, d2, d3, d4] => { results := [.lit (.bool false)], args := [d1, d2, d3, d4] }
  | _ => none }
def FnAppendMarksByWordWrongFalsely : Prop := fnAppendMarksByWordRow.holds Try.pinned (OpenSpec.ofChange fnAppendMarksByWordWrong)

end Rows
end Go.Proofs.Qxb6603712a
