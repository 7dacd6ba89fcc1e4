/-
  applySteps.
-/
import Derived.Test.YbulkdkjiApply
namespace Go.Proofs.Ybulkdkji
open Go.RowKit Go.Maps
set_option linter.unusedVariables false
set_option linter.unusedSimpArgs false

def stepSup (skip : Bool) (n : Int) (sup : Nat) : Nat := if skip then sup - n.toNat else if n ≤ 0 then sup else min sup n.toNat
def stepCost (skip : Bool) (n : Int) (cost : Nat → Nat) : Nat → Nat := if skip then fun D => cost (D + n.toNat) else if n ≤ 0 then cost else fun D => cost (min D n.toNat)

/-- A value that is an iterator by its contract, what it reads standing in w within Dom. -/
def Chain (CT : Nat → World → Prop) (own : Nat → Prop) (w : World) (v : Value) (sup : Nat) (cost : Nat → Nat) (Dom : Nat → Prop) : Prop :=
  ∃ gf lb Ro, v = .func (.func gf) #[] lb ∧ Sq Yba.prog CT own Ro gf lb sup cost ∧ (∀ args w, (callFunc gf args).run Yba.prog w = .ok (.enter gf args) w) ∧ (∀ k o, Ro k = some o → w.heap[k]? = some o) ∧ (∀ k o, Ro k = some o → ¬ own k ∧ Dom k)

theorem Chain.below {CT : Nat → World → Prop} {own : Nat → Prop} {w w' : World} {v : Value} {sup : Nat} {cost : Nat → Nat} {Dom : Nat → Prop} (h : Chain CT own w v sup cost Dom) (f : Fr (fun _ => False) w w') : Chain CT own w' v sup cost Dom := by
  obtain ⟨gf, lb, Ro, a, b, c, d, e⟩ := h
  exact ⟨gf, lb, Ro, a, b, c, fun k o hk => f.block (d k o hk) id, e⟩
theorem Chain.mono {CT : Nat → World → Prop} {own : Nat → Prop} {w : World} {v : Value} {sup : Nat} {cost : Nat → Nat} {Dom Dom' : Nat → Prop} (h : Chain CT own w v sup cost Dom) (f : ∀ k, Dom k → Dom' k) : Chain CT own w v sup cost Dom' := by
  obtain ⟨gf, lb, Ro, a, b, c, d, e⟩ := h
  exact ⟨gf, lb, Ro, a, b, c, d, fun k o hk => ⟨(e k o hk).1, f k (e k o hk).2⟩⟩
theorem Chain.form {CT : Nat → World → Prop} {own : Nat → Prop} {w : World} {v : Value} {sup : Nat} {cost : Nat → Nat} {Dom : Nat → Prop} (h : Chain CT own w v sup cost Dom) : ∃ gf lb, v = .func (.func gf) #[] lb := by
  obtain ⟨gf, lb, Ro, a, _⟩ := h
  exact ⟨gf, lb, a⟩

theorem stepSup_le (skip : Bool) (n : Int) (sup : Nat) : stepSup skip n sup ≤ sup := by
  unfold stepSup
  split
  · omega
  · split <;> omega

/-- One step. -/
theorem Chain.step {CT : Nat → World → Prop} {own : Nat → Prop} {w : World} {gf : Nat} {lb : Array Value} {sup : Nat} {cost : Nat → Nat} {Dom : Nat → Prop} (h : Chain CT own w (.func (.func gf) #[] lb) sup cost Dom) (hCTf : ∀ c W W', CT c W → (∀ k, own k → W'.heap[k]? = W.heap[k]?) → CT c W') (hown : ∀ k, own k → k < w.heap.size)
    (skip : Bool) (n : Int) (nb : Nat) (hn : w.heap[nb]? = some (.cells #[.int .i64 n] 3 (0, 0))) (hd : ¬ Dom nb) (ho : ¬ own nb) (hsup : sup ≤ 1099511627776) (hnn : -9223372036854775808 ≤ n ∧ n ≤ 9223372036854775807) :
    Chain CT own (w.alloc (.cells #[.func (.func gf) #[] lb] 88)) (nextV skip n nb w.heap.size gf lb) (stepSup skip n sup) (stepCost skip n cost) (fun k => Dom k ∨ k = nb ∨ k = w.heap.size) := by
  have hC := h
  obtain ⟨gf', lb', Ro, a, b, c, d, e⟩ := h
  cases a
  have fr : Fr (fun _ => False) w (w.alloc (.cells #[.func (.func gf) #[] lb] 88)) := (Fr.refl _ w).alloc _
  have h1 : Ro w.heap.size = none := by
    cases hr : Ro w.heap.size with
    | none => rfl
    | some o => have := lt_of (d _ _ hr); omega
  have h2 : Ro nb = none := by
    cases hr : Ro nb with
    | none => rfl
    | some o => exact absurd (e _ _ hr).2 hd
  have hne : w.heap.size ≠ nb := by have := lt_of hn; omega
  have o1 : ¬ own w.heap.size := fun c => by have := hown _ c; omega
  have std : ∀ (g2 : Nat) (sup' : Nat) (cost' : Nat → Nat), Sq Yba.prog CT own (two Ro w.heap.size (.cells #[.func (.func gf) #[] lb] 88 (0, 0)) nb (.cells #[.int .i64 n] 3 (0, 0))) g2 #[.pointer (some ⟨w.heap.size, 0, none⟩), .pointer (some ⟨nb, 0, none⟩)] sup' cost' →
      (∀ args w, (callFunc g2 args).run Yba.prog w = .ok (.enter g2 args) w) → Chain CT own (w.alloc (.cells #[.func (.func gf) #[] lb] 88)) (.func (.func g2) #[] #[.pointer (some ⟨w.heap.size, 0, none⟩), .pointer (some ⟨nb, 0, none⟩)]) sup' cost' (fun k => Dom k ∨ k = nb ∨ k = w.heap.size) := fun g2 sup' cost' hs hc => by
    refine ⟨g2, _, _, rfl, hs, hc, fun k o hk => ?_, fun k o hk => ?_⟩
    · unfold two at hk
      split at hk
      · rename_i ek; cases hk; rw [ek]; exact heap_alloc_new w _
      · split at hk
        · rename_i ek; cases hk; rw [ek]; exact fr.block hn id
        · exact fr.block (d k o hk) id
    · unfold two at hk
      split at hk
      · rename_i ek; rw [ek]; exact ⟨o1, .inr (.inr rfl)⟩
      · split at hk
        · rename_i ek; rw [ek]; exact ⟨ho, .inr (.inl rfl)⟩
        · exact ⟨(e k o hk).1, .inl (e k o hk).2⟩
  unfold nextV stepSup stepCost
  cases skip with
  | true =>
    simp only [if_true]
    exact std 22 _ _ (skip_sq b c hCTf w.heap.size nb n hne h1 h2 o1 ho hsup hnn) (enters_of Yba.func22 (by kernel_rfl) rfl)
  | false =>
    simp only [Bool.false_eq_true, if_false]
    by_cases h0 : n ≤ 0
    · simp only [if_pos h0]
      exact (hC.below fr).mono (fun k hk => .inl hk)
    · simp only [if_neg h0]
      obtain ⟨N, hN⟩ : ∃ N : Nat, n = (N : Int) := ⟨n.toNat, by omega⟩
      subst hN
      have e1 : ((N : Int)).toNat = N := by omega
      rw [e1]
      exact std 24 _ _ (limit_sq b c hCTf w.heap.size nb N (by omega) hne h1 h2 o1 ho hsup (by omega)) (enters_of Yba.func24 (by kernel_rfl) rfl)

end Go.Proofs.Ybulkdkji
