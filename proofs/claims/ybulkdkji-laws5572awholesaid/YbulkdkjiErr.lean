/-
  The context's Err.
-/
import Derived.Test.YbulkdkjiLimit
import Derived.Deep.QuietTactic
import Derived.BigQuiet
import Derived.Outline
import Derived.Deep.DeepMust
import Derived.RegionTactic
import Derived.BigRegion
namespace Go.Proofs.Ybulkdkji
open Go.RowKit Go.Shelf
set_option linter.unusedVariables false
set_option linter.unusedSimpArgs false

/-- The context has been asked c times. -/
def CT (cb : Nat) (K : Nat) (E : Value) (c : Nat) (w : World) : Prop := w.heap[cb]? = some (.cells #[.nilIface, .int .i64 (K : Int), .int .i64 (c : Int), E] 63 (0, 0))

theorem CT.of {cb K : Nat} {E : Value} {c : Nat} {w w' : World} (h : CT cb K E c w) (hk : ∀ k, k = cb → w'.heap[k]? = w.heap[k]?) : CT cb K E c w' := (hk cb rfl).trans h

/-- What Err answers. -/
def ans (K : Nat) (E : Value) (c : Nat) : Value := if c + 1 ≤ K then .nilIface else E

set_option maxHeartbeats 400000 in
theorem err_any {cb K c : Nat} {et : TypeId} {ep : Value} {w : World} (h : CT cb K (.iface et ep) c w) (hK : K ≤ 1099511627776) (hc : c ≤ 1099511627776) :
    Calls Yba.prog 84 #[.pointer (some ⟨cb, 0, none⟩)] w fun e w' => e = .returned (ans K (.iface et ep) c) ∧ CT cb K (.iface et ep) (c + 1) w' ∧ Fr (fun k => k = cb) w w' := by
  have c1 : w.cell? ⟨cb, 1, none⟩ = some (.int .i64 (K : Int)) := by rw [cell_of_row w cb 1 _ 63 (0, 0) h]; rfl
  have c2 : w.cell? ⟨cb, 2, none⟩ = some (.int .i64 (c : Int)) := by rw [cell_of_row w cb 2 _ 63 (0, 0) h]; rfl
  have c3 : w.cell? ⟨cb, 3, none⟩ = some (.iface et ep) := by rw [cell_of_row w cb 3 _ 63 (0, 0) h]; rfl
  have cf := frozen_of_row w cb 2 _ 63 h
  have hE : (w.setCell ⟨cb, 2, none⟩ (.int .i64 ((c : Int) + 1))).heap[cb]? = some (.cells #[.nilIface, .int .i64 (K : Int), .int .i64 ((c : Int) + 1), .iface et ep] 63 (0, 0)) := by
    have h' : w.heap[cb]? = some (.cells #[.nilIface, .int .i64 (K : Int), .int .i64 (c : Int), .iface et ep] 63 (0, 0)) := h
    simp only [World.setCell, Array.getElem?_modify, if_true, h', Option.map_some]
    simp
  have HP : Hid (∀ q, CT cb K (.iface et ep) (c + 1) ((w.setCell ⟨cb, 2, none⟩ (.int .i64 ((c : Int) + 1))).drewN q) ∧ Fr (fun k => k = cb) w ((w.setCell ⟨cb, 2, none⟩ (.int .i64 ((c : Int) + 1))).drewN q)) := fun q => ⟨hE, ((Fr.refl (fun k => k = cb) w).setCell (p := ⟨cb, 2, none⟩) (fun _ => rfl) _).drewN q⟩
  clear hE h
  by_cases hle : c + 1 ≤ K
  · have t : decide ((K : Int) < (c : Int) + 1) = false := by simp; omega
    have HA : Hid (ans K (.iface et ep) c = .nilIface) := by unfold ans; rw [if_pos hle]; trivial
    go_enter Yba.func84, Yba.ntmps84
    go_wp2_with fail
    go_quiet (fail)
    go_wp2_with fail
    go_ret
    rw [HA.out]
    exact ⟨rfl, (HP.out _).1, (HP.out _).2⟩
  · have t : decide ((K : Int) < (c : Int) + 1) = true := by simp; omega
    have HA : Hid (ans K (.iface et ep) c = .iface et ep) := by unfold ans; rw [if_neg hle]; trivial
    go_enter Yba.func84, Yba.ntmps84
    go_wp2_with fail
    go_quiet (fail)
    go_wp2_with fail
    go_ret
    rw [HA.out]
    exact ⟨rfl, (HP.out _).1, (HP.out _).2⟩
end Go.Proofs.Ybulkdkji
