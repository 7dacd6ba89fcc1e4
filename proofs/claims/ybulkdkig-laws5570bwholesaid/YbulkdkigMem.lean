/-
  The waiters and the queue in memory, block by block; what a call turns, told as a list of blocks. No program is walked here.
-/
import Derived.Test.YbulkdkigRows
import Derived.WalkKit
import Derived.Deep.Draws
namespace Go.Proofs.Ybulkdkig
open Go.RowKit

def pt : Option Nat → Value
  | none => .pointer none
  | some b => .pointer (some ⟨b, 0, none⟩)

def node (p n : Value) : Obj := .cells #[.chan none, .int .u64 0, .int .i64 0, .pointer none, p, n] 39 (0, 0)
def queue (h t : Value) (n : Int) : Obj := .cells #[.int .u32 0, h, t, .int .i64 n] 31 (0, 0)

def updObj (i : Nat) (v : Value) : Obj → Obj
  | .cells c e f => .cells (c.setIfInBounds i v) e f
  | o => o

theorem heap_set (w : World) (b i k : Nat) (v : Value) : (w.setCell ⟨b, i, none⟩ v).heap[k]? = if k = b then (w.heap[k]?).map (updObj i v) else w.heap[k]? := by
  simp only [World.setCell, Array.getElem?_modify]
  by_cases h : b = k
  · subst h
    simp only [if_true]
    cases w.heap[b]? with
    | none => rfl
    | some o => cases o <;> simp [updObj]
  · rw [if_neg h, if_neg (fun e => h e.symm)]

theorem upd_node4 (p n v : Value) : updObj 4 v (node p n) = node v n := rfl
theorem upd_node5 (p n v : Value) : updObj 5 v (node p n) = node p v := rfl
theorem upd_queue1 (h t v : Value) (n : Int) : updObj 1 v (queue h t n) = queue v t n := rfl
theorem upd_queue2 (h t v : Value) (n : Int) : updObj 2 v (queue h t n) = queue h v n := rfl
theorem upd_queue3 (h t : Value) (n m : Int) : updObj 3 (.int .i64 m) (queue h t n) = queue h t m := rfl

theorem node_prev {w : World} {b : Nat} {p n : Value} (h : w.heap[b]? = some (node p n)) : w.cell? ⟨b, 4, none⟩ = some p := by
  rw [cell_of_row w b 4 _ 39 (0, 0) h]; rfl
theorem node_next {w : World} {b : Nat} {p n : Value} (h : w.heap[b]? = some (node p n)) : w.cell? ⟨b, 5, none⟩ = some n := by
  rw [cell_of_row w b 5 _ 39 (0, 0) h]; rfl
theorem node_wake {w : World} {b : Nat} {p n : Value} (h : w.heap[b]? = some (node p n)) : w.cell? ⟨b, 0, none⟩ = some (.chan none) := by
  rw [cell_of_row w b 0 _ 39 (0, 0) h]; rfl
theorem node_free {w : World} {b : Nat} {p n : Value} (h : w.heap[b]? = some (node p n)) (j : Nat) : w.frozen? ⟨b, j, none⟩ = false := frozen_of_row w b j _ 39 h
theorem queue_guard {w : World} {b : Nat} {h t : Value} {n : Int} (H : w.heap[b]? = some (queue h t n)) : w.cell? ⟨b, 0, none⟩ = some (.int .u32 0) := by
  rw [cell_of_row w b 0 _ 31 (0, 0) H]; rfl
theorem queue_head {w : World} {b : Nat} {h t : Value} {n : Int} (H : w.heap[b]? = some (queue h t n)) : w.cell? ⟨b, 1, none⟩ = some h := by
  rw [cell_of_row w b 1 _ 31 (0, 0) H]; rfl
theorem queue_tail {w : World} {b : Nat} {h t : Value} {n : Int} (H : w.heap[b]? = some (queue h t n)) : w.cell? ⟨b, 2, none⟩ = some t := by
  rw [cell_of_row w b 2 _ 31 (0, 0) H]; rfl
theorem queue_n {w : World} {b : Nat} {h t : Value} {n : Int} (H : w.heap[b]? = some (queue h t n)) : w.cell? ⟨b, 3, none⟩ = some (.int .i64 n) := by
  rw [cell_of_row w b 3 _ 31 (0, 0) H]; rfl
theorem queue_free {w : World} {b : Nat} {h t : Value} {n : Int} (H : w.heap[b]? = some (queue h t n)) (j : Nat) : w.frozen? ⟨b, j, none⟩ = false := frozen_of_row w b j _ 31 H

theorem info39 : (Yba.prog.info? 39).isSome = true := by kernel_rfl

/-- w' is w but for the blocks of the list, which hold what it says. -/
structure Turn (w w' : World) (us : List (Nat × Obj)) : Prop where
  os : w'.os = w.os
  tape : w'.tape = w.tape
  output : w'.output = w.output
  size : w'.heap.size = w.heap.size
  new : ∀ u ∈ us, w'.heap[u.1]? = some u.2
  old : ∀ k, (∀ u ∈ us, k ≠ u.1) → w'.heap[k]? = w.heap[k]?

theorem os_set (w : World) (a : Addr) (v : Value) : (w.setCell a v).os = w.os := rfl
theorem tape_set (w : World) (a : Addr) (v : Value) : (w.setCell a v).tape = w.tape := rfl
theorem output_set (w : World) (a : Addr) (v : Value) : (w.setCell a v).output = w.output := rfl
theorem size_set (w : World) (a : Addr) (v : Value) : (w.setCell a v).heap.size = w.heap.size := by simp [World.setCell]

end Go.Proofs.Ybulkdkig
