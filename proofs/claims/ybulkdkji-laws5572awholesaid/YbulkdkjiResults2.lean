/-
  Path.results.
-/
import Derived.Test.YbulkdkjiResults
namespace Go.Proofs.Ybulkdkji
open Go.RowKit Go.Maps
set_option linter.unusedVariables false
set_option linter.unusedSimpArgs false

/-- What stands when a run begins. -/
structure RunAt (w : World) (Ro0 : Nat → Option Obj) (pp st m cb K : Nat) (et : TypeId) (ep : Value) (sv : Value) (rops : List StepM) : Prop where
  start : StartOk Ro0 pp st m
  ro : ∀ k o, Ro0 k = some o → w.heap[k]? = some o
  cb_ : Ro0 cb = none
  ct : CT cb K (.iface et ep) 0 w
  path : PathIs w sv rops pp
  steps : StepsIn w (fun k => k = cb) (fun k => ∃ o, Ro0 k = some o) rops.reverse
  hm : m ≤ 1099511627776
  hK : K ≤ 1099511627776
  hl : rops.length ≤ 1099511627776

/-- The blocks that the run's iterator reads. -/
def RunDom (Ro0 : Nat → Option Obj) (rops : List StepM) (H : Nat) (k : Nat) : Prop := (∃ o, Ro0 k = some o) ∨ (∃ o ∈ rops, o.2.2 = k) ∨ H ≤ k

/-- The two orders come to this: the boxes stand, the steps lie in a row: applySteps. -/
theorem run_apply {w X : World} {Ro0 : Nat → Option Obj} {pp st m cb K : Nat} {et : TypeId} {ep : Value} {sv : Value} {rops : List StepM} (R : RunAt w Ro0 pp st m cb K et ep sv rops) (bel : Below w.heap.size w X) (pb sb rb xb : Nat) (d1 : pb ≠ sb) (d2 : pb ≠ rb) (d3 : pb ≠ xb) (d4 : sb ≠ rb) (d5 : sb ≠ xb) (d6 : rb ≠ xb) (h1 : w.heap.size ≤ pb) (h2 : w.heap.size ≤ sb) (h3 : w.heap.size ≤ rb) (h4 : w.heap.size ≤ xb)
    (b1 : X.heap[pb]? = some (.cells #[.pointer (some ⟨pp, 0, none⟩)] 50 (0, 0))) (b2 : X.heap[sb]? = some (.cells #[.pointer (some ⟨st, 0, none⟩)] 33 (0, 0)))
    (b3 : X.heap[rb]? = some (.cells #[.func (.func 47) #[] #[.pointer (some ⟨pb, 0, none⟩), .pointer (some ⟨sb, 0, none⟩)]] 88 (0, 0))) (b4 : X.heap[xb]? = some (.cells #[.iface 59 (.pointer (some ⟨cb, 0, none⟩))] 61 (0, 0)))
    (c s : Value) (ao : Option Addr) (cap : Nat) (h0 : 0 < rops.length → ∃ g, ao = some ⟨g, 0, none⟩ ∧ ∀ i o, rops.reverse[i]? = some o → X.cell? ⟨g, i, none⟩ = some (.iface 86 (stepV o.1 o.2.2))) :
    Calls Yba.prog 49 #[c, s, .slice ao rops.length cap, .func (.func 59) #[] #[.pointer (some ⟨rb, 0, none⟩), .pointer (some ⟨xb, 0, none⟩)]] X fun e w' => ∃ v, e = .returned v ∧ Chain (CT cb K (.iface et ep)) (fun k => k = cb) w' v (sups rops.reverse (min m K)) (costs rops.reverse (fun D => min m (min (K + 1) D))) (RunDom Ro0 rops w.heap.size) ∧ Below w.heap.size w w' := by
  have fb : Fr (fun _ => False) w X := Fr.ofBelow bel
  have hsz := bel.size
  have lcb : cb < w.heap.size := lt_of (show w.heap[cb]? = some _ from R.ct)
  have Ch := source_chain R.start R.hm R.hK (fun k o hk => fb.block (R.ro k o hk) id) R.cb_ (et := et) (ep := ep) pb sb rb xb w.heap.size d1 d2 d3 d4 d5 d6 (fun k o hk => lt_of (R.ro k o hk)) lcb h1 h2 h3 h4 b1 b2 b3 b4
  have SI : StepsIn X (fun k => k = cb) (fun k => (∃ o, Ro0 k = some o) ∨ w.heap.size ≤ k) rops.reverse := by
    refine ⟨fun o ho => ?_, R.steps.nodup⟩
    obtain ⟨a1, a2, a3, a4⟩ := R.steps.at_ o ho
    refine ⟨fb.block a1 id, a2, ?_, a4⟩
    rintro (hd | hd)
    · exact a3 hd
    · have := lt_of a1; omega
  -- Dom must lie within X
  have hDom : ∀ k, ((∃ o, Ro0 k = some o) ∨ w.heap.size ≤ k) → True := fun _ _ => trivial
  refine (applySteps_any (Dom := fun k => (∃ o, Ro0 k = some o) ∨ w.heap.size ≤ k) Ch (fun c W W' h hk => h.of (fun k e => hk k e)) (fun k hk => by omega) c s rops.reverse SI ao rops.length cap (by simp) R.hl (by have := R.hm; omega) h0).mono ?_
  rintro e w' ⟨v, rfl, Ch2, b2'⟩
  refine ⟨v, rfl, Ch2.mono (fun k hk => ?_), bel.trans (b2'.mono hsz)⟩
  rcases hk with (hk | hk) | ⟨o, ho, e⟩ | hk
  · exact .inl hk
  · exact .inr (.inr hk)
  · exact .inr (.inl ⟨o, by have := List.mem_of_mem_take ho; simpa using this, e⟩)
  · exact .inr (.inr (by omega))

end Go.Proofs.Ybulkdkji
