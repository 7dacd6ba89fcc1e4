/-
  A doubly linked list of waiters in memory, by index; what pushing and removing make of it. No program is walked here.
-/
import Derived.Test.YbulkdkigMem
namespace Go.Proofs.Ybulkdkig
open Go.RowKit
set_option linter.unusedVariables false
set_option linter.unusedSimpArgs false

def before (l : List Nat) (j : Nat) : Option Nat := if j = 0 then none else l[j - 1]?

structure Dll (w : World) (Q : Nat) (l : List Nat) (n : Int) : Prop where
  nodup : l.Nodup
  notin : Q ∉ l
  q : w.heap[Q]? = some (queue (pt l[0]?) (pt l[l.length - 1]?) n)
  at_ : ∀ j b : Nat, l[j]? = some b → w.heap[b]? = some (node (pt (before l j)) (pt l[j + 1]?))

theorem inj {l : List Nat} (h : l.Nodup) {i j b : Nat} (hi : l[i]? = some b) (hj : l[j]? = some b) : i = j := by
  obtain ⟨h1, e1⟩ := List.getElem?_eq_some_iff.1 hi
  obtain ⟨h2, e2⟩ := List.getElem?_eq_some_iff.1 hj
  have hp := List.pairwise_iff_getElem.1 h
  rcases Nat.lt_trichotomy i j with hl | hl | hl
  · exact absurd (e1.trans e2.symm) (hp i j h1 h2 hl)
  · exact hl
  · exact absurd (e2.trans e1.symm) (hp j i h2 h1 hl)

theorem dll_back {w w' : World} {Q : Nat} {l : List Nat} {n n' : Int} {X : Nat} (D : Dll w Q l n) (hX : X ∉ l) (hXQ : X ≠ Q)
    (hQ' : w'.heap[Q]? = some (queue (pt (l ++ [X])[0]?) (pt (some X)) n'))
    (hX' : w'.heap[X]? = some (node (pt l[l.length - 1]?) (.pointer none)))
    (hT' : ∀ T, l[l.length - 1]? = some T → w'.heap[T]? = some (node (pt (before l (l.length - 1))) (pt (some X))))
    (hold : ∀ b, b ≠ Q → b ≠ X → l[l.length - 1]? ≠ some b → w'.heap[b]? = w.heap[b]?) : Dll w' Q (l ++ [X]) n' := by
  refine ⟨?_, ?_, ?_, ?_⟩
  · rw [List.nodup_append]
    refine ⟨D.nodup, by simp, ?_⟩
    intro a ha b hb
    simp only [List.mem_singleton] at hb
    subst hb
    intro e; subst e; exact hX ha
  · simp only [List.mem_append, List.mem_singleton, not_or]
    exact ⟨D.notin, fun e => hXQ e.symm⟩
  · rw [hQ']; simp
  · intro j b hb
    by_cases hj : j < l.length
    · rw [List.getElem?_append_left hj] at hb
      have hbl : b ∈ l := List.mem_of_getElem? hb
      have hbQ : b ≠ Q := fun e => D.notin (e ▸ hbl)
      have hbX : b ≠ X := fun e => hX (e ▸ hbl)
      have ebef : before (l ++ [X]) j = before l j := by
        unfold before
        by_cases h0 : j = 0
        · simp [h0]
        · rw [if_neg h0, if_neg h0, List.getElem?_append_left (by omega)]
      rw [ebef]
      by_cases hlast : j = l.length - 1
      · subst hlast
        rw [hT' b hb]
        have : (l ++ [X])[l.length - 1 + 1]? = some X := by
          rw [show l.length - 1 + 1 = l.length by omega]; simp
        rw [this]
      · rw [hold b hbQ hbX (fun e => hlast (inj D.nodup hb e)), D.at_ j b hb, List.getElem?_append_left (by omega)]
    · by_cases hj2 : j = l.length
      · subst hj2
        simp at hb
        subst hb
        rw [hX']
        have e1 : before (l ++ [X]) l.length = l[l.length - 1]? := by
          unfold before
          by_cases h0 : l.length = 0
          · rw [if_pos h0]
            have : l = [] := List.eq_nil_of_length_eq_zero h0
            subst this; rfl
          · rw [if_neg h0, List.getElem?_append_left (by omega)]
        have e2 : (l ++ [X])[l.length + 1]? = none := by simp
        rw [e1, e2]; rfl
      · have : (l ++ [X])[j]? = none := by simp; omega
        rw [this] at hb; cases hb

theorem dll_front {w w' : World} {Q : Nat} {l : List Nat} {n n' : Int} {X : Nat} (D : Dll w Q l n) (hX : X ∉ l) (hXQ : X ≠ Q)
    (hQ' : w'.heap[Q]? = some (queue (pt (some X)) (pt (X :: l)[(X :: l).length - 1]?) n'))
    (hX' : w'.heap[X]? = some (node (.pointer none) (pt l[0]?)))
    (hT' : ∀ T, l[0]? = some T → w'.heap[T]? = some (node (pt (some X)) (pt l[1]?)))
    (hold : ∀ b, b ≠ Q → b ≠ X → l[0]? ≠ some b → w'.heap[b]? = w.heap[b]?) : Dll w' Q (X :: l) n' := by
  refine ⟨?_, ?_, ?_, ?_⟩
  · exact List.nodup_cons.2 ⟨hX, D.nodup⟩
  · simp only [List.mem_cons, not_or]
    exact ⟨fun e => hXQ e.symm, D.notin⟩
  · rw [hQ']; simp
  · intro j b hb
    cases j with
    | zero =>
      simp at hb
      subst hb
      rw [hX']; simp [before, pt]
    | succ j =>
      simp only [List.getElem?_cons_succ] at hb
      have hbl : b ∈ l := List.mem_of_getElem? hb
      have hbQ : b ≠ Q := fun e => D.notin (e ▸ hbl)
      have hbX : b ≠ X := fun e => hX (e ▸ hbl)
      rw [List.getElem?_cons_succ]
      cases j with
      | zero => rw [hT' b hb]; simp [before]
      | succ j =>
        rw [hold b hbQ hbX (fun e => by have := inj D.nodup hb e; omega), D.at_ (j + 1) b hb]
        simp [before]

theorem dll_erase {w w' : World} {Q : Nat} {l : List Nat} {n n' : Int} {i W : Nat} (D : Dll w Q l n) (hi : l[i]? = some W)
    (hQ' : w'.heap[Q]? = some (queue (pt (l.eraseIdx i)[0]?) (pt (l.eraseIdx i)[(l.eraseIdx i).length - 1]?) n'))
    (hP' : ∀ P, before l i = some P → w'.heap[P]? = some (node (pt (before l (i - 1))) (pt l[i + 1]?)))
    (hN' : ∀ N, l[i + 1]? = some N → w'.heap[N]? = some (node (pt (before l i)) (pt l[i + 2]?)))
    (hold : ∀ b, b ≠ Q → b ≠ W → before l i ≠ some b → l[i + 1]? ≠ some b → w'.heap[b]? = w.heap[b]?) : Dll w' Q (l.eraseIdx i) n' := by
  have mem : ∀ b, b ∈ l.eraseIdx i → b ∈ l := fun b hb => List.mem_of_mem_eraseIdx hb
  refine ⟨List.Sublist.nodup (List.eraseIdx_sublist l i) D.nodup, fun h => D.notin (mem _ h), hQ', ?_⟩
  intro j b hb
  rw [List.getElem?_eraseIdx] at hb
  rw [List.getElem?_eraseIdx]
  by_cases hj : j < i
  · rw [if_pos hj] at hb
    have hbl : b ∈ l := List.mem_of_getElem? hb
    have hbQ : b ≠ Q := fun e => D.notin (e ▸ hbl)
    have hbW : b ≠ W := fun e => by have := inj D.nodup hb (e ▸ hi); omega
    have ebef : before (l.eraseIdx i) j = before l j := by
      unfold before
      by_cases h0 : j = 0
      · simp [h0]
      · rw [if_neg h0, if_neg h0, List.getElem?_eraseIdx, if_pos (by omega)]
    rw [ebef]
    by_cases hl : j + 1 = i
    · subst hl
      rw [hP' b (by simpa [before] using hb), if_neg (by omega)]
      rfl
    · rw [if_pos (by omega), hold b hbQ hbW ?_ ?_, D.at_ j b hb]
      · intro e
        unfold before at e
        rw [if_neg (by omega)] at e
        have := inj D.nodup hb e; omega
      · intro e; have := inj D.nodup hb e; omega
  · rw [if_neg hj] at hb
    have hbl : b ∈ l := List.mem_of_getElem? hb
    have hbQ : b ≠ Q := fun e => D.notin (e ▸ hbl)
    have hbW : b ≠ W := fun e => by have := inj D.nodup hb (e ▸ hi); omega
    rw [if_neg (by omega)]
    by_cases hl : j = i
    · subst hl
      rw [hN' b hb]
      have : before (l.eraseIdx j) j = before l j := by
        unfold before
        by_cases h0 : j = 0
        · simp [h0]
        · rw [if_neg h0, if_neg h0, List.getElem?_eraseIdx, if_pos (by omega)]
      rw [this]
    · have ebef : before (l.eraseIdx i) j = before l (j + 1) := by
        unfold before
        rw [if_neg (by omega), if_neg (by omega), List.getElem?_eraseIdx, if_neg (by omega)]
        congr 1; omega
      rw [ebef, hold b hbQ hbW ?_ ?_, D.at_ (j + 1) b hb]
      · intro e
        unfold before at e
        by_cases h0 : i = 0
        · rw [if_pos h0] at e; cases e
        · rw [if_neg h0] at e
          have := inj D.nodup hb e; omega
      · intro e; have := inj D.nodup hb e; omega

/-- What a call turned: the blocks of S at most. -/
structure Ch (S : Nat → Prop) (w w' : World) : Prop where
  os : w'.os = w.os
  tape : w'.tape = w.tape
  output : w'.output = w.output
  size : w'.heap.size = w.heap.size
  old : ∀ k, ¬ S k → w'.heap[k]? = w.heap[k]?

theorem Ch.below {S : Nat → Prop} {w w' : World} (h : Ch S w w') {B : Nat} (hS : ∀ k, S k → B ≤ k) : Below B w w' :=
  ⟨h.os, h.tape, h.output, by rw [h.size]; exact Nat.le_refl _, fun k hk => h.old k (fun hs => by have := hS k hs; omega)⟩

theorem Turn.ch {w w' : World} {us : List (Nat × Obj)} (h : Turn w w' us) {S : Nat → Prop} (hS : ∀ u ∈ us, S u.1) : Ch S w w' :=
  ⟨h.os, h.tape, h.output, h.size, fun k hk => h.old k (fun u hu e => hk (e ▸ hS u hu))⟩

theorem Turn.drew {w w' : World} {us : List (Nat × Obj)} (h : Turn w w' us) : Turn w w'.drew us := ⟨h.os, h.tape, h.output, h.size, h.new, h.old⟩

end Go.Proofs.Ybulkdkig
