/-
  No cell of these rows narrows 'for every input' (looked for: loops, veiled, ifaces, maps, wideKeys, modest, calm, conditions, laid).
  DERIVED. THE GIVEN ROWS OF THIS SEAT. 1 by the template 'for every input the law returns true; each argument reads behind the call as it read before'; 0 by the template 'total and deterministic' (their statements: YbulkdkjiTotals.lean).
  GIVEN WITH THE SEED: the statements are not yours to turn. If you find one false, say at which input.
  Laid BY PROGRAM, IN A SANDBOX (cutbox-rows.mjs): the forced cells as the released guide's own fill.sh prints them over the translation aa1c006ffaa9808f… (all of the seat's roots in one cut). By AI agents, Wed Nov 11 2026. No macro, syntax, notation, axiom, sorry.
-/
import Derived.Test.YbulkdkjiChecked
import GoSem.Claim
import GoSem.ClaimJoined
import GoSem.ClaimMapViews
import Derived.JoinedTies
import Derived.KernelRfl
namespace Go.Proofs.Ybulkdkji
/- THE CELL 'sum', in the pinned program and in every row, IS THE sha256 OF THE DUMP (.gsa) THAT YbulkdkjiProg.lean LOADS. Nothing in Lean hashes anything: it is a label: what it is worth is what the hold of that sum in a sandbox is worth. -/
noncomputable def Yba.pinned : Pinned := { name := "ybulkdkji", sum := "aa1c006ffaa9808f526e4e29cd8adad795308b7609ac90521db95575aae5502a", checked := Yba.checked }
namespace Rows
def none {H : Type} : Left H := { results := [], args := [] }

/-- 'quadrille.LawS5572AWhole': WHATEVER THE INPUT: true; the input reads as it did. -/
def lawS5572AWholeSpec : ChangeSpec := { name := "lawS5572AWhole", fn := fun _ => fun
  | [d1, d2, d3, d4, d5] => { results := [.lit (.bool true)], args := [d1, d2, d3, d4, d5] }
  | _ => none }
def lawS5572AWholeRow : OpenClaim := { program := "ybulkdkji", sum := "aa1c006ffaa9808f526e4e29cd8adad795308b7609ac90521db95575aae5502a", func := "example.com/quadrille/quadrille.LawS5572AWhole", spec := "lawS5572AWhole", inPlace := ["internal/abi.NoEscape", "internal/bytealg.MakeNoZero", "(*sync.RWMutex).RLock", "internal/race.Read", "internal/race.Disable", "sync/atomic.AddInt32", "sync.runtime_SemacquireRWMutexR", "internal/race.Enable", "internal/race.Acquire", "(*sync.RWMutex).RUnlock", "internal/race.ReleaseMerge", "(*sync.RWMutex).rUnlockSlow", "sync.fatal", "sync.runtime_Semrelease", "(*sync.RWMutex).TryLock", "(*internal/sync.Mutex).TryLock", "sync/atomic.CompareAndSwapInt32", "(*internal/sync.Mutex).Unlock", "(*internal/sync.Mutex).unlockSlow", "internal/sync.fatal", "internal/sync.runtime_Semrelease", "(*sync.RWMutex).Unlock", "internal/race.Release"], unfollowed := true, recurses := true, plainKeys := false, apart := false }
def LawS5572AWholeSaid : Prop := lawS5572AWholeRow.holds Yba.pinned (OpenSpec.ofChange lawS5572AWholeSpec)

/-- ITS FALSE NEIGHBOUR: 'it returns false'. Refute it at one input. -/
def lawS5572AWholeWrong : ChangeSpec := { name := "lawS5572AWhole", fn := fun _ => fun
  | [d1, d2, d3, d4, d5] => { results := [.lit (.bool false)], args := [d1, d2, d3, d4, d5] }
  | _ => none }
def LawS5572AWholeWrongFalsely : Prop := lawS5572AWholeRow.holds Yba.pinned (OpenSpec.ofChange lawS5572AWholeWrong)

end Rows
end Go.Proofs.Ybulkdkji
