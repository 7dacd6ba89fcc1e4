/-
  slices.Reverse at []step.
-/
import Derived.Test.YbulkdkjiApplyAll
namespace Go.Proofs.Ybulkdkji
open Go.RowKit Go.Maps
set_option linter.unusedVariables false
set_option linter.unusedSimpArgs false

/-- The k-th element when i exchanges have been made. -/
def revAt (X : Nat → Value) (n i k : Nat) : Value := if k < i ∨ n - 1 - i < k then X (n - 1 - k) else X k

structure RevInv (w : World) (g c : Nat) (X : Nat → Value) (n i : Nat) (wr : World) : Prop where
  fr : Fr (fun k => k = g) w wr
  row : ∃ cur, wr.heap[g]? = some (.cells cur 81 (0, 0)) ∧ cur.size = c ∧ ∀ k, k < n → cur[k]? = some (.iface 86 (revAt X n i k))

theorem RevInv.swap {w : World} {g c : Nat} {X : Nat → Value} {n i : Nat} {wr : World} (I : RevInv w g c X n i wr) (hi : i < n - 1 - i) (q : Nat) (a b : Value) (ha : a = .iface 86 (X (n - 1 - i))) (hb : b = .iface 86 (X i)) :
    RevInv w g c X n (i + 1) (((wr.setCell ⟨g, i, none⟩ a).setCell ⟨g, n - 1 - i, none⟩ b).drewN q) := by
  obtain ⟨cur, hc, hs, hv⟩ := I.row
  refine ⟨((I.fr.setCell (p := ⟨g, i, none⟩) (fun _ => rfl) _).setCell (p := ⟨g, n - 1 - i, none⟩) (fun _ => rfl) _).drewN q, (cur.setIfInBounds i a).setIfInBounds (n - 1 - i) b, ?_, by simpa using hs, fun k hk => ?_⟩
  · show ((wr.setCell ⟨g, i, none⟩ a).setCell ⟨g, n - 1 - i, none⟩ b).heap[g]? = _
    simp only [World.setCell, Array.getElem?_modify, if_true, hc, Option.map_some]
    rfl
  · have hcs : ∀ j, j < n → j < cur.size := fun j hj => (Array.getElem?_eq_some_iff.1 (hv j hj)).1
    by_cases e1 : k = n - 1 - i
    · subst e1
      rw [Array.getElem?_setIfInBounds_self_of_lt (by simp; exact hcs _ (by omega)), hb]
      unfold revAt
      rw [if_pos (by omega)]
      congr 3
      omega
    · rw [Array.getElem?_setIfInBounds_ne (fun c => e1 c.symm)]
      by_cases e2 : k = i
      · subst e2
        rw [Array.getElem?_setIfInBounds_self_of_lt (hcs _ hk), ha]
        unfold revAt
        rw [if_pos (by omega)]
      · rw [Array.getElem?_setIfInBounds_ne (fun c => e2 c.symm), hv k hk]
        unfold revAt
        by_cases h1 : k < i ∨ n - 1 - i < k
        · rw [if_pos h1, if_pos (by omega)]
        · rw [if_neg h1, if_neg (by omega)]

theorem RevInv.reads {w : World} {g c : Nat} {X : Nat → Value} {n i : Nat} {wr : World} (I : RevInv w g c X n i wr) (hi : i < n - 1 - i) :
    wr.cell? ⟨g, i, none⟩ = some (.iface 86 (X i)) ∧ wr.cell? ⟨g, n - 1 - i, none⟩ = some (.iface 86 (X (n - 1 - i))) ∧ ∀ j, wr.frozen? ⟨g, j, none⟩ = false := by
  obtain ⟨cur, hc, hs, hv⟩ := I.row
  refine ⟨?_, ?_, fun j => frozen_of_row wr g j _ 81 hc⟩
  · rw [cell_of_row wr g i _ 81 (0, 0) hc, hv i (by omega)]
    unfold revAt
    rw [if_neg (by omega)]
  · rw [cell_of_row wr g _ _ 81 (0, 0) hc, hv _ (by omega)]
    unfold revAt
    rw [if_neg (by omega)]

set_option maxHeartbeats 1000000 in
theorem reverse_any {w : World} (g n cap c : Nat) (X : Nat → Value) (hn : 1 ≤ n) (hns : n ≤ 1099511627776) (h : ∃ cur, w.heap[g]? = some (.cells cur 81 (0, 0)) ∧ cur.size = c ∧ ∀ k, k < n → cur[k]? = some (.iface 86 (X k))) :
    Calls Yba.prog 58 #[.slice (some ⟨g, 0, none⟩) n cap] w fun e w' => e = .returned (.tuple #[]) ∧ Fr (fun k => k = g) w w' ∧ ∃ cur, w'.heap[g]? = some (.cells cur 81 (0, 0)) ∧ cur.size = c ∧ ∀ k, k < n → cur[k]? = some (.iface 86 (X (n - 1 - k))) := by
  have I0 : RevInv w g c X n 0 w := by
    obtain ⟨cur, a, b, d⟩ := h
    refine ⟨Fr.refl _ _, cur, a, b, fun k hk => ?_⟩
    rw [d k hk]
    unfold revAt
    rw [if_neg (by omega)]
  clear h
  have hwr : IntKind.i64.wrap ((n : Int) - 1) = (((n - 1 : Nat)) : Int) := by rw [IntKind.wrap_i64]; omega
  go_enter Yba.func58, Yba.ntmps58
  go_wp2_with fail
  go_loopw [2, 3] (fun a b wr => ∃ i : Nat, a = .int .i64 (i : Int) ∧ b = .int .i64 ((n : Int) - 1 - (i : Int)) ∧ i + i ≤ n ∧ RevInv w g c X n i wr) (fun a _ _ => n - (intOf a).toNat)
  case atStart => exact ⟨0, rfl, by go_num, by omega, I0⟩
  case round =>
    clear I0 hwr
    obtain ⟨i, rfl, rfl, hi2, I⟩ := hrel
    by_cases hlt : i < n - 1 - i
    · obtain ⟨c0, c1, cf⟩ := I.reads hlt
      have S := fun q => I.swap hlt q _ _ rfl rfl
      obtain ⟨j, hj⟩ : ∃ j, j = n - 1 - i := ⟨_, rfl⟩
      rw [← hj] at c1 S
      have ej : (n : Int) - 1 - (i : Int) = (j : Int) := by omega
      rw [ej]
      have hij : i ≠ j := by omega
      have hij' : ¬ j = i := by omega
      have hjn : (j : Int) < (n : Int) := by omega
      have hin : (i : Int) < (n : Int) := by omega
      have hijl : (i : Int) < (j : Int) := by omega
      have HJ : Hid (j = n - 1 - i) := hj
      clear hj ej I
      go_wp2_with fail
      go_region
      have S0 := S 0
      have S1 : RevInv w g c X n (i + 1) ((wr.setCell ⟨g, i, none⟩ (.iface 86 (X j))).setCell ⟨g, j, none⟩ (.iface 86 (X i))).drew := ⟨⟨S0.fr.os, S0.fr.tape, S0.fr.output, S0.fr.size, S0.fr.old⟩, S0.row⟩
      clear S S0 c0 c1 cf
      go_wp2_with fail
      go_roundw
      case rel => exact ⟨i + 1, by go_num, by have := HJ.out; go_num, by omega, S1⟩
      case measure => simp [intOf]; omega
    · have hle : ¬ (i : Int) < (n : Int) - 1 - (i : Int) := by omega
      have HF : Hid (∀ k, k < n → revAt X n i k = X (n - 1 - k)) := fun k hk => by
        unfold revAt
        by_cases h1 : k < i ∨ n - 1 - i < k
        · rw [if_pos h1]
        · rw [if_neg h1, show n - 1 - k = k by omega]
      go_wp2_with fail
      go_end0
      obtain ⟨cur, a, b, d⟩ := I.row
      exact ⟨rfl, I.fr, cur, a, b, fun k hk => by rw [d k hk, HF.out k hk]⟩

end Go.Proofs.Ybulkdkji
