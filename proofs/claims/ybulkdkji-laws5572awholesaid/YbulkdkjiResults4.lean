/-
  Path.results, walked.
-/
import Derived.Test.YbulkdkjiResults3
namespace Go.Proofs.Ybulkdkji
open Go.RowKit Go.Maps
set_option linter.unusedVariables false
set_option linter.unusedSimpArgs false

set_option maxRecDepth 100000 in
set_option maxHeartbeats 1000000 in
theorem results_any {w : World} {Ro0 : Nat → Option Obj} {pp st m cb K : Nat} {et : TypeId} {ep : Value} {sv : Value} {rops : List StepM} (R : RunAt w Ro0 pp st m cb K et ep sv rops) :
    Calls Yba.prog 27 #[.pointer (some ⟨pp, 0, none⟩), .iface 59 (.pointer (some ⟨cb, 0, none⟩)), .pointer (some ⟨st, 0, none⟩)] w fun e w' => ResPost w Ro0 m cb K et ep rops e w' := by
  have h := hmf
  have b1 := W1_below w pp st
  have b2 : Below w.heap.size w (W2 (W1 w pp st) w.heap.size cb) := b1.trans ((W2_below (W1 w pp st) _ cb).mono (by have := W1_size w pp st; omega))
  have sA := steps_any (w := (W1 w pp st).drew) (R.path.below b1.drew) R.hl
  have sB := steps_any (w := (W2 (W1 w pp st) w.heap.size cb).drew) (R.path.below b2.drew) R.hl
  have oA : ∀ (wS : World) (ao : Option Addr) (cap : Nat), Below (W1 w pp st).drew.heap.size (W1 w pp st).drew wS → RowAt wS (W1 w pp st).drew.heap.size ao rops → _ := fun wS ao cap hb hr => orderA R (cap := cap) (⟨hb.os, hb.tape, hb.output, hb.size, hb.block⟩ : Below (W1 w pp st).heap.size (W1 w pp st) wS) hr
  have oB : ∀ (wS : World) (ao : Option Addr) (cap : Nat), Below (W2 (W1 w pp st) w.heap.size cb).drew.heap.size (W2 (W1 w pp st) w.heap.size cb).drew wS → RowAt wS (W2 (W1 w pp st) w.heap.size cb).drew.heap.size ao rops → _ := fun wS ao cap hb hr => orderB R (cap := cap) (⟨hb.os, hb.tape, hb.output, hb.size, hb.block⟩ : Below (W2 (W1 w pp st) w.heap.size cb).heap.size (W2 (W1 w pp st) w.heap.size cb) wS) hr
  have qA : ∀ wS : World, Below (W1 w pp st).drew.heap.size (W1 w pp st).drew wS → wS.cell? ⟨w.heap.size, 0, none⟩ = some (.pointer (some ⟨pp, 0, none⟩)) ∧ wS.cell? ⟨w.heap.size + 1, 0, none⟩ = some (.pointer (some ⟨st, 0, none⟩)) ∧ w.heap.size + 2 ≤ wS.heap.size := fun wS hb => by
    have s1 := W1_size w pp st
    have f : Fr (fun _ => False) (W1 w pp st) wS := ⟨hb.os, hb.tape, hb.output, hb.size, fun k hk _ => hb.block k hk⟩
    exact ⟨cellsB (f.block (W1_p w pp st) id), cellsB (f.block (W1_s w pp st) id), by have := f.size; omega⟩
  have qB : ∀ wS : World, Below (W2 (W1 w pp st) w.heap.size cb).drew.heap.size (W2 (W1 w pp st) w.heap.size cb).drew wS → wS.cell? ⟨w.heap.size, 0, none⟩ = some (.pointer (some ⟨pp, 0, none⟩)) ∧ wS.cell? ⟨w.heap.size + 1, 0, none⟩ = some (.pointer (some ⟨st, 0, none⟩)) ∧ w.heap.size + 2 ≤ wS.heap.size := fun wS hb => by
    have s1 := W1_size w pp st
    have f1 : Fr (fun _ => False) (W1 w pp st) (W2 (W1 w pp st) w.heap.size cb) := Fr.ofBelow (W2_below _ _ cb)
    have f : Fr (fun _ => False) (W2 (W1 w pp st) w.heap.size cb) wS := ⟨hb.os, hb.tape, hb.output, hb.size, fun k hk _ => hb.block k hk⟩
    exact ⟨cellsB (f.block (f1.block (W1_p w pp st) id) id), cellsB (f.block (f1.block (W1_s w pp st) id) id), by have := f.size; have := f1.size; omega⟩
  clear b1 b2 R
  unfold W1 W2 at *
  go_enter Yba.func27, Yba.ntmps27
  go_wp2_with fail
  go_region_with (first
    | (go_at_call 50; refine sA.mono ?_; rintro e wS ⟨aoS, capS, rfl, belS, rowS⟩; have o9 := oA wS aoS capS belS rowS; obtain ⟨qq1, qq2, qq3⟩ := qA wS belS; have qq4 : w.heap.size < wS.heap.size := (by omega); have qq5 : w.heap.size + 1 < wS.heap.size := (by omega); clear sA sB oA oB qA qB belS rowS)
    | (go_at_call 50; refine sB.mono ?_; rintro e wS ⟨aoS, capS, rfl, belS, rowS⟩; have o9 := oB wS aoS capS belS rowS; obtain ⟨qq1, qq2, qq3⟩ := qB wS belS; have qq4 : w.heap.size < wS.heap.size := (by omega); have qq5 : w.heap.size + 1 < wS.heap.size := (by omega); clear sA sB oA oB qA qB belS rowS)
    | (go_at_call 51; refine (untilDone_any _ 59 _ rfl 47 _).mono ?_; rintro e wU ⟨rfl, hwU⟩; rw [hwU]; clear hwU)
    | (go_at_call 49; refine o9.mono ?_; rintro e w9 ⟨v, rfl, hCh, hbel⟩))
  all_goals
    go_wp2_with fail
    go_ret
    exact ⟨v, rfl, hCh, hbel⟩

end Go.Proofs.Ybulkdkji
