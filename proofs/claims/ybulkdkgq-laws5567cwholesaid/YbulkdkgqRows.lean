/-
  No cell of these rows narrows 'for every input' (looked for: loops, veiled, ifaces, maps, wideKeys, modest, calm, conditions, laid).
  DERIVED. THE GIVEN ROWS OF THIS SEAT. 1 by the template 'for every input the law returns true; each argument reads behind the call as it read before'; 0 by the template 'total and deterministic' (their statements: YbulkdkgqTotals.lean).
  GIVEN WITH THE SEED: the statements are not yours to turn. If you find one false, say at which input.
  Laid BY PROGRAM, IN A SANDBOX (cutbox-rows.mjs): the forced cells as the released guide's own fill.sh prints them over the translation 9cce5e154ee5aa21… (all of the seat's roots in one cut). By AI agents, Wed Nov 11 2026. No macro, syntax, notation, axiom, sorry.
-/
import Derived.Test.YbulkdkgqChecked
import GoSem.Claim
import GoSem.ClaimJoined
import GoSem.ClaimMapViews
import Derived.JoinedTies
import Derived.KernelRfl
namespace Go.Proofs.Ybulkdkgq
/- THE CELL 'sum', in the pinned program and in every row, IS THE sha256 OF THE DUMP (.gsa) THAT YbulkdkgqProg.lean LOADS. Nothing in Lean hashes anything: it is a label: what it is worth is what the hold of that sum in a sandbox is worth. -/
noncomputable def Yba.pinned : Pinned := { name := "ybulkdkgq", sum := "9cce5e154ee5aa212655e2309baee344cb8670bcf27f6720f92becacf341ae6a", checked := Yba.checked }
namespace Rows
def none {H : Type} : Left H := { results := [], args := [] }

/-- 'syncline.LawS5567CWhole': WHATEVER THE INPUT: true; the input reads as it did. -/
def lawS5567CWholeSpec : ChangeSpec := { name := "lawS5567CWhole", fn := fun _ => fun
  | [d1, d2] => { results := [.lit (.bool true)], args := [d1, d2] }
  | _ => none }
def lawS5567CWholeRow : OpenClaim := { program := "ybulkdkgq", sum := "9cce5e154ee5aa212655e2309baee344cb8670bcf27f6720f92becacf341ae6a", func := "example.com/syncline/syncline.LawS5567CWhole", spec := "lawS5567CWhole", apart := false }
def LawS5567CWholeSaid : Prop := lawS5567CWholeRow.holds Yba.pinned (OpenSpec.ofChange lawS5567CWholeSpec)

/-- ITS FALSE NEIGHBOUR: 'it returns false'. Refute it at one input. -/
def lawS5567CWholeWrong : ChangeSpec := { name := "lawS5567CWhole", fn := fun _ => fun
  | [d1, d2] => { results := [.lit (.bool false)], args := [d1, d2] }
  | _ => none }
def LawS5567CWholeWrongFalsely : Prop := lawS5567CWholeRow.holds Yba.pinned (OpenSpec.ofChange lawS5567CWholeWrong)

end Rows
end Go.Proofs.Ybulkdkgq
