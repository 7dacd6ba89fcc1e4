/-
  Path.results, walked.
-/
import Derived.Test.YbulkdkjiResults2
namespace Go.Proofs.Ybulkdkji
open Go.RowKit Go.Maps
set_option linter.unusedVariables false
set_option linter.unusedSimpArgs false

theorem PathIs.below {w w' : World} {sv : Value} {ops : List StepM} {pp : Nat} (h : PathIs w sv ops pp) (f : Below w.heap.size w w') : PathIs w' sv ops pp := PathIs.frame (Fr.ofBelow (S := fun _ => False) f) (fun _ _ _ => id) h

/-- The world with the two boxes of start. -/
def W1 (w : World) (pp st : Nat) : World := (w.alloc (.cells #[.pointer (some ⟨pp, 0, none⟩)] 50)).alloc (.cells #[.pointer (some ⟨st, 0, none⟩)] 33)
/-- .. and with those of untilDone. -/
def W2 (X : World) (a cb : Nat) : World := (X.alloc (.cells #[.iface 59 (.pointer (some ⟨cb, 0, none⟩))] 61)).alloc (.cells #[.func (.func 47) #[] #[.pointer (some ⟨a, 0, none⟩), .pointer (some ⟨a + 1, 0, none⟩)]] 88)

theorem W1_size (w : World) (pp st : Nat) : (W1 w pp st).heap.size = w.heap.size + 2 := by simp [W1]
theorem W2_size (w : World) (a cb : Nat) : (W2 w a cb).heap.size = w.heap.size + 2 := by simp [W2]
theorem W1_p (w : World) (pp st : Nat) : (W1 w pp st).heap[w.heap.size]? = some (.cells #[.pointer (some ⟨pp, 0, none⟩)] 50 (0, 0)) := (Below.heap_alloc _ _ _ (by simp)).trans (heap_alloc_new w _)
theorem W1_s (w : World) (pp st : Nat) : (W1 w pp st).heap[w.heap.size + 1]? = some (.cells #[.pointer (some ⟨st, 0, none⟩)] 33 (0, 0)) := by
  have := heap_alloc_new (w.alloc (.cells #[.pointer (some ⟨pp, 0, none⟩)] 50)) (.cells #[.pointer (some ⟨st, 0, none⟩)] 33)
  rw [World.size_alloc] at this
  exact this
theorem W2_x (w : World) (a cb : Nat) : (W2 w a cb).heap[w.heap.size]? = some (.cells #[.iface 59 (.pointer (some ⟨cb, 0, none⟩))] 61 (0, 0)) := (Below.heap_alloc _ _ _ (by simp)).trans (heap_alloc_new w _)
theorem W2_r (w : World) (a cb : Nat) : (W2 w a cb).heap[w.heap.size + 1]? = some (.cells #[.func (.func 47) #[] #[.pointer (some ⟨a, 0, none⟩), .pointer (some ⟨a + 1, 0, none⟩)]] 88 (0, 0)) := by
  have := heap_alloc_new (w.alloc (.cells #[.iface 59 (.pointer (some ⟨cb, 0, none⟩))] 61)) (.cells #[.func (.func 47) #[] #[.pointer (some ⟨a, 0, none⟩), .pointer (some ⟨a + 1, 0, none⟩)]] 88)
  rw [World.size_alloc] at this
  exact this
theorem W1_below (w : World) (pp st : Nat) : Below w.heap.size w (W1 w pp st) := ((Below.refl _ w).alloc (Nat.le_refl _) _).alloc (by simp) _
theorem W2_below (w : World) (a cb : Nat) : Below w.heap.size w (W2 w a cb) := ((Below.refl _ w).alloc (Nat.le_refl _) _).alloc (by simp) _

/-- The steps' row, as steps leaves it. -/
def RowAt (X : World) (H : Nat) (ao : Option Addr) (rops : List StepM) : Prop := 0 < rops.length → ∃ g, ao = some ⟨g, 0, none⟩ ∧ H ≤ g ∧ ∀ i o, rops.reverse[i]? = some o → X.cell? ⟨g, i, none⟩ = some (.iface 86 (stepV o.1 o.2.2))

/-- What results leaves. -/
def ResPost (w : World) (Ro0 : Nat → Option Obj) (m cb K : Nat) (et : TypeId) (ep : Value) (rops : List StepM) (e : Ending) (w' : World) : Prop :=
  ∃ v, e = .returned v ∧ Chain (CT cb K (.iface et ep)) (fun k => k = cb) w' v (sups rops.reverse (min m K)) (costs rops.reverse (fun D => min m (min (K + 1) D))) (RunDom Ro0 rops w.heap.size) ∧ Below w.heap.size w w'

theorem orderA {w wS : World} {Ro0 : Nat → Option Obj} {pp st m cb K : Nat} {et : TypeId} {ep : Value} {sv : Value} {rops : List StepM} (R : RunAt w Ro0 pp st m cb K et ep sv rops) (belS : Below (W1 w pp st).heap.size (W1 w pp st) wS) {ao : Option Addr} {cap H : Nat} (row : RowAt wS H ao rops) :
    Calls Yba.prog 49 #[.iface 59 (.pointer (some ⟨cb, 0, none⟩)), .pointer (some ⟨st, 0, none⟩), .slice ao rops.length cap, .func (.func 59) #[] #[.pointer (some ⟨wS.heap.size + 1, 0, none⟩), .pointer (some ⟨wS.heap.size, 0, none⟩)]] (W2 wS w.heap.size cb) (ResPost w Ro0 m cb K et ep rops) := by
  have s1 := W1_size w pp st
  have s2 := belS.size
  have b0 : Below w.heap.size w wS := (W1_below w pp st).trans (belS.mono (by omega))
  have bW : Below w.heap.size w (W2 wS w.heap.size cb) := b0.trans ((W2_below wS _ cb).mono (by omega))
  have fS : Fr (fun _ => False) (W1 w pp st) wS := Fr.ofBelow belS
  have f2 : Fr (fun _ => False) wS (W2 wS w.heap.size cb) := Fr.ofBelow (W2_below wS _ cb)
  exact run_apply R bW w.heap.size (w.heap.size + 1) (wS.heap.size + 1) wS.heap.size (by omega) (by omega) (by omega) (by omega) (by omega) (by omega) (by omega) (by omega) (by omega) (by omega)
    (f2.block (fS.block (W1_p w pp st) id) id) (f2.block (fS.block (W1_s w pp st) id) id) (W2_r wS _ cb) (W2_x wS _ cb) _ _ ao cap (fun h => by
      obtain ⟨g, e, _, r⟩ := row h
      exact ⟨g, e, fun i o ho => f2.cell (r i o ho) id⟩)

theorem orderB {w wS : World} {Ro0 : Nat → Option Obj} {pp st m cb K : Nat} {et : TypeId} {ep : Value} {sv : Value} {rops : List StepM} (R : RunAt w Ro0 pp st m cb K et ep sv rops) (belS : Below (W2 (W1 w pp st) w.heap.size cb).heap.size (W2 (W1 w pp st) w.heap.size cb) wS) {ao : Option Addr} {cap H : Nat} (row : RowAt wS H ao rops) :
    Calls Yba.prog 49 #[.iface 59 (.pointer (some ⟨cb, 0, none⟩)), .pointer (some ⟨st, 0, none⟩), .slice ao rops.length cap, .func (.func 59) #[] #[.pointer (some ⟨w.heap.size + 2 + 1, 0, none⟩), .pointer (some ⟨w.heap.size + 2, 0, none⟩)]] wS (ResPost w Ro0 m cb K et ep rops) := by
  have s1 := W1_size w pp st
  have s2 := W2_size (W1 w pp st) w.heap.size cb
  have s3 := belS.size
  have b1 : Below w.heap.size w (W2 (W1 w pp st) w.heap.size cb) := (W1_below w pp st).trans ((W2_below (W1 w pp st) _ cb).mono (by omega))
  have b0 : Below w.heap.size w wS := b1.trans (belS.mono (by omega))
  have f2 : Fr (fun _ => False) (W1 w pp st) (W2 (W1 w pp st) w.heap.size cb) := Fr.ofBelow (W2_below _ _ cb)
  have fS : Fr (fun _ => False) (W2 (W1 w pp st) w.heap.size cb) wS := Fr.ofBelow belS
  have hx := W2_x (W1 w pp st) w.heap.size cb
  have hr := W2_r (W1 w pp st) w.heap.size cb
  rw [s1] at hx hr
  exact run_apply R b0 w.heap.size (w.heap.size + 1) (w.heap.size + 2 + 1) (w.heap.size + 2) (by omega) (by omega) (by omega) (by omega) (by omega) (by omega) (by omega) (by omega) (by omega) (by omega)
    (fS.block (f2.block (W1_p w pp st) id) id) (fS.block (f2.block (W1_s w pp st) id) id) (fS.block hr id) (fS.block hx id) _ _ ao cap (fun h => by
      obtain ⟨g, e, _, r⟩ := row h
      exact ⟨g, e, r⟩)

end Go.Proofs.Ybulkdkji
