/-
  pushBack, pushFront, remove: what each turns, block by block.
-/
import Derived.Test.YbulkdkigMem
import Derived.Outline
import Derived.RegionTactic
import Derived.Lib.Builder
namespace Go.Proofs.Ybulkdkig
open Go.RowKit
set_option linter.unusedVariables false
set_option linter.unusedSimpArgs false

theorem pushBack_none_turn (Q X : Nat) (h p x : Value) (n : Int) (w : World) (hQ : w.heap[Q]? = some (queue h (.pointer none) n)) (hX : w.heap[X]? = some (node p x)) (nQX : ¬ Q = X) (nXQ : ¬ X = Q) :
    Turn w (((((w.setCell ⟨X, 4, none⟩ (.pointer none)).setCell ⟨X, 5, none⟩ (.pointer none)).setCell ⟨Q, 1, none⟩ (.pointer (some ⟨X, 0, none⟩))).setCell ⟨Q, 2, none⟩ (.pointer (some ⟨X, 0, none⟩))).setCell ⟨Q, 3, none⟩ (.int .i64 (wrap64 (n + 1)))) [(X, node (.pointer none) (.pointer none)), (Q, queue (.pointer (some ⟨X, 0, none⟩)) (.pointer (some ⟨X, 0, none⟩)) (wrap64 (n + 1)))] := by
  refine ⟨by simp only [os_set], by simp only [tape_set], by simp only [output_set], by simp only [size_set], ?_, ?_⟩
  · intro u hu
    simp only [List.mem_cons, List.not_mem_nil, or_false] at hu
    rcases hu with rfl | rfl <;> simp [heap_set, upd_node4, upd_node5, upd_queue1, upd_queue2, upd_queue3, hQ, hX, nQX, nXQ]
  · intro k hk
    simp only [List.mem_cons, List.not_mem_nil, or_false, forall_eq_or_imp, forall_eq] at hk
    simp [heap_set, hk]

set_option maxHeartbeats 1000000 in
theorem pushBack_none (Q X : Nat) (h p x : Value) (n : Int) (w : World) (hQ : w.heap[Q]? = some (queue h (.pointer none) n)) (hX : w.heap[X]? = some (node p x)) (nQX : ¬ Q = X) (nXQ : ¬ X = Q) :
    Calls Yba.prog 4 #[(.pointer (some ⟨Q, 0, none⟩)), (.pointer (some ⟨X, 0, none⟩))] w fun e w' => e = .returned (.tuple #[]) ∧ w' = (((((w.setCell ⟨X, 4, none⟩ (.pointer none)).setCell ⟨X, 5, none⟩ (.pointer none)).setCell ⟨Q, 1, none⟩ (.pointer (some ⟨X, 0, none⟩))).setCell ⟨Q, 2, none⟩ (.pointer (some ⟨X, 0, none⟩))).setCell ⟨Q, 3, none⟩ (.int .i64 (wrap64 (n + 1)))) := by
  have q1 := queue_head hQ
  have q2 := queue_tail hQ
  have q3 := queue_n hQ
  have qf := queue_free hQ
  have x4 := node_prev hX
  have x5 := node_next hX
  have xf := node_free hX
  clear hQ hX
  go_enter Yba.func4, Yba.ntmps4
  go_wp2
  go_end0
  exact ⟨rfl, rfl⟩

theorem pushBack_some_turn (Q X T : Nat) (h p x pT tT : Value) (n : Int) (w : World) (hQ : w.heap[Q]? = some (queue h (.pointer (some ⟨T, 0, none⟩)) n)) (hX : w.heap[X]? = some (node p x)) (hT : w.heap[T]? = some (node pT tT)) (nQX : ¬ Q = X) (nXQ : ¬ X = Q) (nQT : ¬ Q = T) (nTQ : ¬ T = Q) (nXT : ¬ X = T) (nTX : ¬ T = X) :
    Turn w (((((w.setCell ⟨X, 4, none⟩ (.pointer (some ⟨T, 0, none⟩))).setCell ⟨X, 5, none⟩ (.pointer none)).setCell ⟨T, 5, none⟩ (.pointer (some ⟨X, 0, none⟩))).setCell ⟨Q, 2, none⟩ (.pointer (some ⟨X, 0, none⟩))).setCell ⟨Q, 3, none⟩ (.int .i64 (wrap64 (n + 1)))) [(X, node (.pointer (some ⟨T, 0, none⟩)) (.pointer none)), (T, node pT (.pointer (some ⟨X, 0, none⟩))), (Q, queue h (.pointer (some ⟨X, 0, none⟩)) (wrap64 (n + 1)))] := by
  refine ⟨by simp only [os_set], by simp only [tape_set], by simp only [output_set], by simp only [size_set], ?_, ?_⟩
  · intro u hu
    simp only [List.mem_cons, List.not_mem_nil, or_false] at hu
    rcases hu with rfl | rfl | rfl <;> simp [heap_set, upd_node4, upd_node5, upd_queue1, upd_queue2, upd_queue3, hQ, hX, hT, nQX, nXQ, nQT, nTQ, nXT, nTX]
  · intro k hk
    simp only [List.mem_cons, List.not_mem_nil, or_false, forall_eq_or_imp, forall_eq] at hk
    simp [heap_set, hk]

set_option maxHeartbeats 1000000 in
theorem pushBack_some (Q X T : Nat) (h p x pT tT : Value) (n : Int) (w : World) (hQ : w.heap[Q]? = some (queue h (.pointer (some ⟨T, 0, none⟩)) n)) (hX : w.heap[X]? = some (node p x)) (hT : w.heap[T]? = some (node pT tT)) (nQX : ¬ Q = X) (nXQ : ¬ X = Q) (nQT : ¬ Q = T) (nTQ : ¬ T = Q) (nXT : ¬ X = T) (nTX : ¬ T = X) :
    Calls Yba.prog 4 #[(.pointer (some ⟨Q, 0, none⟩)), (.pointer (some ⟨X, 0, none⟩))] w fun e w' => e = .returned (.tuple #[]) ∧ w' = (((((w.setCell ⟨X, 4, none⟩ (.pointer (some ⟨T, 0, none⟩))).setCell ⟨X, 5, none⟩ (.pointer none)).setCell ⟨T, 5, none⟩ (.pointer (some ⟨X, 0, none⟩))).setCell ⟨Q, 2, none⟩ (.pointer (some ⟨X, 0, none⟩))).setCell ⟨Q, 3, none⟩ (.int .i64 (wrap64 (n + 1)))) := by
  have q1 := queue_head hQ
  have q2 := queue_tail hQ
  have q3 := queue_n hQ
  have qf := queue_free hQ
  have x4 := node_prev hX
  have x5 := node_next hX
  have xf := node_free hX
  have t4 := node_prev hT
  have t5 := node_next hT
  have tf := node_free hT
  clear hQ hX hT
  go_enter Yba.func4, Yba.ntmps4
  go_wp2
  go_end0
  exact ⟨rfl, rfl⟩

theorem pushFront_none_turn (Q X : Nat) (t p x : Value) (n : Int) (w : World) (hQ : w.heap[Q]? = some (queue (.pointer none) t n)) (hX : w.heap[X]? = some (node p x)) (nQX : ¬ Q = X) (nXQ : ¬ X = Q) :
    Turn w (((((w.setCell ⟨X, 4, none⟩ (.pointer none)).setCell ⟨X, 5, none⟩ (.pointer none)).setCell ⟨Q, 2, none⟩ (.pointer (some ⟨X, 0, none⟩))).setCell ⟨Q, 1, none⟩ (.pointer (some ⟨X, 0, none⟩))).setCell ⟨Q, 3, none⟩ (.int .i64 (wrap64 (n + 1)))) [(X, node (.pointer none) (.pointer none)), (Q, queue (.pointer (some ⟨X, 0, none⟩)) (.pointer (some ⟨X, 0, none⟩)) (wrap64 (n + 1)))] := by
  refine ⟨by simp only [os_set], by simp only [tape_set], by simp only [output_set], by simp only [size_set], ?_, ?_⟩
  · intro u hu
    simp only [List.mem_cons, List.not_mem_nil, or_false] at hu
    rcases hu with rfl | rfl <;> simp [heap_set, upd_node4, upd_node5, upd_queue1, upd_queue2, upd_queue3, hQ, hX, nQX, nXQ]
  · intro k hk
    simp only [List.mem_cons, List.not_mem_nil, or_false, forall_eq_or_imp, forall_eq] at hk
    simp [heap_set, hk]

set_option maxHeartbeats 1000000 in
theorem pushFront_none (Q X : Nat) (t p x : Value) (n : Int) (w : World) (hQ : w.heap[Q]? = some (queue (.pointer none) t n)) (hX : w.heap[X]? = some (node p x)) (nQX : ¬ Q = X) (nXQ : ¬ X = Q) :
    Calls Yba.prog 5 #[(.pointer (some ⟨Q, 0, none⟩)), (.pointer (some ⟨X, 0, none⟩))] w fun e w' => e = .returned (.tuple #[]) ∧ w' = (((((w.setCell ⟨X, 4, none⟩ (.pointer none)).setCell ⟨X, 5, none⟩ (.pointer none)).setCell ⟨Q, 2, none⟩ (.pointer (some ⟨X, 0, none⟩))).setCell ⟨Q, 1, none⟩ (.pointer (some ⟨X, 0, none⟩))).setCell ⟨Q, 3, none⟩ (.int .i64 (wrap64 (n + 1)))) := by
  have q1 := queue_head hQ
  have q2 := queue_tail hQ
  have q3 := queue_n hQ
  have qf := queue_free hQ
  have x4 := node_prev hX
  have x5 := node_next hX
  have xf := node_free hX
  clear hQ hX
  go_enter Yba.func5, Yba.ntmps5
  go_wp2
  go_end0
  exact ⟨rfl, rfl⟩

theorem pushFront_some_turn (Q X T : Nat) (t p x pT tT : Value) (n : Int) (w : World) (hQ : w.heap[Q]? = some (queue (.pointer (some ⟨T, 0, none⟩)) t n)) (hX : w.heap[X]? = some (node p x)) (hT : w.heap[T]? = some (node pT tT)) (nQX : ¬ Q = X) (nXQ : ¬ X = Q) (nQT : ¬ Q = T) (nTQ : ¬ T = Q) (nXT : ¬ X = T) (nTX : ¬ T = X) :
    Turn w (((((w.setCell ⟨X, 4, none⟩ (.pointer none)).setCell ⟨X, 5, none⟩ (.pointer (some ⟨T, 0, none⟩))).setCell ⟨T, 4, none⟩ (.pointer (some ⟨X, 0, none⟩))).setCell ⟨Q, 1, none⟩ (.pointer (some ⟨X, 0, none⟩))).setCell ⟨Q, 3, none⟩ (.int .i64 (wrap64 (n + 1)))) [(X, node (.pointer none) (.pointer (some ⟨T, 0, none⟩))), (T, node (.pointer (some ⟨X, 0, none⟩)) tT), (Q, queue (.pointer (some ⟨X, 0, none⟩)) t (wrap64 (n + 1)))] := by
  refine ⟨by simp only [os_set], by simp only [tape_set], by simp only [output_set], by simp only [size_set], ?_, ?_⟩
  · intro u hu
    simp only [List.mem_cons, List.not_mem_nil, or_false] at hu
    rcases hu with rfl | rfl | rfl <;> simp [heap_set, upd_node4, upd_node5, upd_queue1, upd_queue2, upd_queue3, hQ, hX, hT, nQX, nXQ, nQT, nTQ, nXT, nTX]
  · intro k hk
    simp only [List.mem_cons, List.not_mem_nil, or_false, forall_eq_or_imp, forall_eq] at hk
    simp [heap_set, hk]

set_option maxHeartbeats 1000000 in
theorem pushFront_some (Q X T : Nat) (t p x pT tT : Value) (n : Int) (w : World) (hQ : w.heap[Q]? = some (queue (.pointer (some ⟨T, 0, none⟩)) t n)) (hX : w.heap[X]? = some (node p x)) (hT : w.heap[T]? = some (node pT tT)) (nQX : ¬ Q = X) (nXQ : ¬ X = Q) (nQT : ¬ Q = T) (nTQ : ¬ T = Q) (nXT : ¬ X = T) (nTX : ¬ T = X) :
    Calls Yba.prog 5 #[(.pointer (some ⟨Q, 0, none⟩)), (.pointer (some ⟨X, 0, none⟩))] w fun e w' => e = .returned (.tuple #[]) ∧ w' = (((((w.setCell ⟨X, 4, none⟩ (.pointer none)).setCell ⟨X, 5, none⟩ (.pointer (some ⟨T, 0, none⟩))).setCell ⟨T, 4, none⟩ (.pointer (some ⟨X, 0, none⟩))).setCell ⟨Q, 1, none⟩ (.pointer (some ⟨X, 0, none⟩))).setCell ⟨Q, 3, none⟩ (.int .i64 (wrap64 (n + 1)))) := by
  have q1 := queue_head hQ
  have q2 := queue_tail hQ
  have q3 := queue_n hQ
  have qf := queue_free hQ
  have x4 := node_prev hX
  have x5 := node_next hX
  have xf := node_free hX
  have t4 := node_prev hT
  have t5 := node_next hT
  have tf := node_free hT
  clear hQ hX hT
  go_enter Yba.func5, Yba.ntmps5
  go_wp2
  go_end0
  exact ⟨rfl, rfl⟩

end Go.Proofs.Ybulkdkig
