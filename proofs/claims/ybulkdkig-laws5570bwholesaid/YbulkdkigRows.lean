/-
  No cell of these rows narrows 'for every input' (looked for: loops, veiled, ifaces, maps, wideKeys, modest, calm, conditions, laid).
  DERIVED. THE GIVEN ROWS OF THIS SEAT. 1 by the template 'for every input the law returns true; each argument reads behind the call as it read before'; 0 by the template 'total and deterministic' (their statements: YbulkdkigTotals.lean).
  GIVEN WITH THE SEED: the statements are not yours to turn. If you find one false, say at which input.
  Laid BY PROGRAM, IN A SANDBOX (cutbox-rows.mjs): the forced cells as the released guide's own fill.sh prints them over the translation a30c2fa9cb6121df… (all of the seat's roots in one cut). By AI agents, Wed Nov 11 2026. No macro, syntax, notation, axiom, sorry.
-/
import Derived.Test.YbulkdkigChecked
import GoSem.Claim
import GoSem.ClaimJoined
import GoSem.ClaimMapViews
import Derived.JoinedTies
import Derived.KernelRfl
namespace Go.Proofs.Ybulkdkig
/- THE CELL 'sum', in the pinned program and in every row, IS THE sha256 OF THE DUMP (.gsa) THAT YbulkdkigProg.lean LOADS. Nothing in Lean hashes anything: it is a label: what it is worth is what the hold of that sum in a sandbox is worth. -/
noncomputable def Yba.pinned : Pinned := { name := "ybulkdkig", sum := "a30c2fa9cb6121dfad37c3969c7364043adb3bce21b970f1c9214a48651f60ab", checked := Yba.checked }
namespace Rows
def none {H : Type} : Left H := { results := [], args := [] }

/-- 'fairgate.LawS5570BWhole': WHATEVER THE INPUT: true; the input reads as it did. -/
def lawS5570BWholeSpec : ChangeSpec := { name := "lawS5570BWhole", fn := fun _ => fun
  | [d1, d2] => { results := [.lit (.bool true)], args := [d1, d2] }
  | _ => none }
def lawS5570BWholeRow : OpenClaim := { program := "ybulkdkig", sum := "a30c2fa9cb6121dfad37c3969c7364043adb3bce21b970f1c9214a48651f60ab", func := "example.com/fairgate/fairgate.LawS5570BWhole", spec := "lawS5570BWhole", inPlace := ["sync/atomic.LoadUint32"], apart := false }
def LawS5570BWholeSaid : Prop := lawS5570BWholeRow.holds Yba.pinned (OpenSpec.ofChange lawS5570BWholeSpec)

/-- ITS FALSE NEIGHBOUR: 'it returns false'. Refute it at one input. -/
def lawS5570BWholeWrong : ChangeSpec := { name := "lawS5570BWhole", fn := fun _ => fun
  | [d1, d2] => { results := [.lit (.bool false)], args := [d1, d2] }
  | _ => none }
def LawS5570BWholeWrongFalsely : Prop := lawS5570BWholeRow.holds Yba.pinned (OpenSpec.ofChange lawS5570BWholeWrong)

end Rows
end Go.Proofs.Ybulkdkig
