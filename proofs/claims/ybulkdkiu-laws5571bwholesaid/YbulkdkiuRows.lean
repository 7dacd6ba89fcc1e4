/-
  No cell of these rows narrows 'for every input' (looked for: loops, veiled, ifaces, maps, wideKeys, modest, calm, conditions, laid).
  DERIVED. THE GIVEN ROWS OF THIS SEAT. 2 by the template 'for every input the law returns true; each argument reads behind the call as it read before'; 0 by the template 'total and deterministic' (their statements: YbulkdkiuTotals.lean).
  GIVEN WITH THE SEED: the statements are not yours to turn. If you find one false, say at which input.
  Laid BY PROGRAM, IN A SANDBOX (cutbox-rows.mjs): the forced cells as the released guide's own fill.sh prints them over the translation 5059262184f20a21… (all of the seat's roots in one cut). By AI agents, Wed Nov 11 2026. No macro, syntax, notation, axiom, sorry.
-/
import Derived.Test.YbulkdkiuChecked
import GoSem.Claim
import GoSem.ClaimJoined
import GoSem.ClaimMapViews
import Derived.JoinedTies
import Derived.KernelRfl
namespace Go.Proofs.Ybulkdkiu
/- THE CELL 'sum', in the pinned program and in every row, IS THE sha256 OF THE DUMP (.gsa) THAT YbulkdkiuProg.lean LOADS. Nothing in Lean hashes anything: it is a label: what it is worth is what the hold of that sum in a sandbox is worth. -/
noncomputable def Yba.pinned : Pinned := { name := "ybulkdkiu", sum := "5059262184f20a21a157d42e3868d099c114ecfba9bb2b64eab617844e2301aa", checked := Yba.checked }
namespace Rows
def none {H : Type} : Left H := { results := [], args := [] }

/-- 'udev.LawS5571BWhole': WHATEVER THE INPUT: true; the input reads as it did. -/
def lawS5571BWholeSpec : ChangeSpec := { name := "lawS5571BWhole", fn := fun _ => fun
  | [d1, d2] => { results := [.lit (.bool true)], args := [d1, d2] }
  | _ => none }
def lawS5571BWholeRow : OpenClaim := { program := "ybulkdkiu", sum := "5059262184f20a21a157d42e3868d099c114ecfba9bb2b64eab617844e2301aa", func := "example.com/fold3/fold3/internal/udev.LawS5571BWhole", spec := "lawS5571BWhole", inPlace := ["internal/abi.NoEscape", "internal/bytealg.MakeNoZero"], apart := false }
def LawS5571BWholeSaid : Prop := lawS5571BWholeRow.holds Yba.pinned (OpenSpec.ofChange lawS5571BWholeSpec)

/-- ITS FALSE NEIGHBOUR: 'it returns false'. Refute it at one input. -/
def lawS5571BWholeWrong : ChangeSpec := { name := "lawS5571BWhole", fn := fun _ => fun
  | [d1, d2] => { results := [.lit (.bool false)], args := [d1, d2] }
  | _ => none }
def LawS5571BWholeWrongFalsely : Prop := lawS5571BWholeRow.holds Yba.pinned (OpenSpec.ofChange lawS5571BWholeWrong)

/-- 'netconfig.LawS5571CWhole': WHATEVER THE INPUT: true; the input reads as it did. -/
def lawS5571CWholeSpec : ChangeSpec := { name := "lawS5571CWhole", fn := fun _ => fun
  | [d1, d2, d3] => { results := [.lit (.bool true)], args := [d1, d2, d3] }
  | _ => none }
def lawS5571CWholeRow : OpenClaim := { program := "ybulkdkiu", sum := "5059262184f20a21a157d42e3868d099c114ecfba9bb2b64eab617844e2301aa", func := "example.com/fold3/fold3/internal/netconfig.LawS5571CWhole", spec := "lawS5571CWhole", apart := false }
def LawS5571CWholeSaid : Prop := lawS5571CWholeRow.holds Yba.pinned (OpenSpec.ofChange lawS5571CWholeSpec)

/-- ITS FALSE NEIGHBOUR: 'it returns false'. Refute it at one input. -/
def lawS5571CWholeWrong : ChangeSpec := { name := "lawS5571CWhole", fn := fun _ => fun
  | [d1, d2, d3] => { results := [.lit (.bool false)], args := [d1, d2, d3] }
  | _ => none }
def LawS5571CWholeWrongFalsely : Prop := lawS5571CWholeRow.holds Yba.pinned (OpenSpec.ofChange lawS5571CWholeWrong)

end Rows
end Go.Proofs.Ybulkdkiu
