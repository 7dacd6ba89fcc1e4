/-
  pushBack, pushFront, remove: what each turns, block by block.
-/
import Derived.Test.YbulkdkigMem
import Derived.Outline
import Derived.RegionTactic
import Derived.Lib.Builder
namespace Go.Proofs.Ybulkdkig
open Go.RowKit
set_option linter.unusedVariables false
set_option linter.unusedSimpArgs false

theorem remove_nn_turn (Q W : Nat) (t : Value) (n : Int) (w : World) (hQ : w.heap[Q]? = some (queue (.pointer (some ⟨W, 0, none⟩)) t n)) (hW : w.heap[W]? = some (node (.pointer none) (.pointer none))) (nQW : ¬ Q = W) (nWQ : ¬ W = Q) :
    Turn w (((((w.setCell ⟨Q, 1, none⟩ (.pointer none)).setCell ⟨Q, 2, none⟩ (.pointer none)).setCell ⟨W, 4, none⟩ (.pointer none)).setCell ⟨W, 5, none⟩ (.pointer none)).setCell ⟨Q, 3, none⟩ (.int .i64 (wrap64 (n - 1)))) [(W, node (.pointer none) (.pointer none)), (Q, queue (.pointer none) (.pointer none) (wrap64 (n - 1)))] := by
  refine ⟨by simp only [os_set], by simp only [tape_set], by simp only [output_set], by simp only [size_set], ?_, ?_⟩
  · intro u hu
    simp only [List.mem_cons, List.not_mem_nil, or_false] at hu
    rcases hu with rfl | rfl <;> simp [heap_set, upd_node4, upd_node5, upd_queue1, upd_queue2, upd_queue3, hQ, hW, nQW, nWQ]
  · intro k hk
    simp only [List.mem_cons, List.not_mem_nil, or_false, forall_eq_or_imp, forall_eq] at hk
    simp [heap_set, hk]

set_option maxHeartbeats 1000000 in
theorem remove_nn (Q W : Nat) (t : Value) (n : Int) (w : World) (hQ : w.heap[Q]? = some (queue (.pointer (some ⟨W, 0, none⟩)) t n)) (hW : w.heap[W]? = some (node (.pointer none) (.pointer none))) (nQW : ¬ Q = W) (nWQ : ¬ W = Q) :
    Calls Yba.prog 6 #[(.pointer (some ⟨Q, 0, none⟩)), (.pointer (some ⟨W, 0, none⟩))] w fun e w' => e = .returned (.bool true) ∧ w' = (((((w.setCell ⟨Q, 1, none⟩ (.pointer none)).setCell ⟨Q, 2, none⟩ (.pointer none)).setCell ⟨W, 4, none⟩ (.pointer none)).setCell ⟨W, 5, none⟩ (.pointer none)).setCell ⟨Q, 3, none⟩ (.int .i64 (wrap64 (n - 1)))) := by
  have q1 := queue_head hQ
  have q2 := queue_tail hQ
  have q3 := queue_n hQ
  have qf := queue_free hQ
  have w4 := node_prev hW
  have w5 := node_next hW
  have wf := node_free hW
  clear hQ hW
  obtain ⟨j39, hj39⟩ := Option.isSome_iff_exists.1 info39
  have hps := fun (w : World) => Lib.run_neq_ptr_same (P := Yba.prog) w ⟨W, 0, none⟩ Yba.underlying29 hj39
  go_enter Yba.func6, Yba.ntmps6
  go_wp2
  all_goals go_ret
  all_goals exact ⟨rfl, rfl⟩

theorem remove_ns_turn (Q W N : Nat) (t pN tN : Value) (n : Int) (w : World) (hQ : w.heap[Q]? = some (queue (.pointer (some ⟨W, 0, none⟩)) t n)) (hW : w.heap[W]? = some (node (.pointer none) (.pointer (some ⟨N, 0, none⟩)))) (hN : w.heap[N]? = some (node pN tN)) (nQW : ¬ Q = W) (nWQ : ¬ W = Q) (nQN : ¬ Q = N) (nNQ : ¬ N = Q) (nWN : ¬ W = N) (nNW : ¬ N = W) :
    Turn w (((((w.setCell ⟨Q, 1, none⟩ (.pointer (some ⟨N, 0, none⟩))).setCell ⟨N, 4, none⟩ (.pointer none)).setCell ⟨W, 4, none⟩ (.pointer none)).setCell ⟨W, 5, none⟩ (.pointer none)).setCell ⟨Q, 3, none⟩ (.int .i64 (wrap64 (n - 1)))) [(W, node (.pointer none) (.pointer none)), (N, node (.pointer none) tN), (Q, queue (.pointer (some ⟨N, 0, none⟩)) t (wrap64 (n - 1)))] := by
  refine ⟨by simp only [os_set], by simp only [tape_set], by simp only [output_set], by simp only [size_set], ?_, ?_⟩
  · intro u hu
    simp only [List.mem_cons, List.not_mem_nil, or_false] at hu
    rcases hu with rfl | rfl | rfl <;> simp [heap_set, upd_node4, upd_node5, upd_queue1, upd_queue2, upd_queue3, hQ, hW, hN, nQW, nWQ, nQN, nNQ, nWN, nNW]
  · intro k hk
    simp only [List.mem_cons, List.not_mem_nil, or_false, forall_eq_or_imp, forall_eq] at hk
    simp [heap_set, hk]

set_option maxHeartbeats 1000000 in
theorem remove_ns (Q W N : Nat) (t pN tN : Value) (n : Int) (w : World) (hQ : w.heap[Q]? = some (queue (.pointer (some ⟨W, 0, none⟩)) t n)) (hW : w.heap[W]? = some (node (.pointer none) (.pointer (some ⟨N, 0, none⟩)))) (hN : w.heap[N]? = some (node pN tN)) (nQW : ¬ Q = W) (nWQ : ¬ W = Q) (nQN : ¬ Q = N) (nNQ : ¬ N = Q) (nWN : ¬ W = N) (nNW : ¬ N = W) :
    Calls Yba.prog 6 #[(.pointer (some ⟨Q, 0, none⟩)), (.pointer (some ⟨W, 0, none⟩))] w fun e w' => e = .returned (.bool true) ∧ w' = (((((w.setCell ⟨Q, 1, none⟩ (.pointer (some ⟨N, 0, none⟩))).setCell ⟨N, 4, none⟩ (.pointer none)).setCell ⟨W, 4, none⟩ (.pointer none)).setCell ⟨W, 5, none⟩ (.pointer none)).setCell ⟨Q, 3, none⟩ (.int .i64 (wrap64 (n - 1)))).drew := by
  have q1 := queue_head hQ
  have q2 := queue_tail hQ
  have q3 := queue_n hQ
  have qf := queue_free hQ
  have w4 := node_prev hW
  have w5 := node_next hW
  have wf := node_free hW
  have n4 := node_prev hN
  have n5 := node_next hN
  have nf := node_free hN
  clear hQ hW hN
  obtain ⟨j39, hj39⟩ := Option.isSome_iff_exists.1 info39
  have hps := fun (w : World) => Lib.run_neq_ptr_same (P := Yba.prog) w ⟨W, 0, none⟩ Yba.underlying29 hj39
  go_enter Yba.func6, Yba.ntmps6
  go_wp2
  go_region
  all_goals go_wp2
  all_goals go_ret
  all_goals exact ⟨rfl, rfl⟩

theorem remove_sn_turn (Q W P : Nat) (h t pP tP : Value) (n : Int) (w : World) (hQ : w.heap[Q]? = some (queue h t n)) (hW : w.heap[W]? = some (node (.pointer (some ⟨P, 0, none⟩)) (.pointer none))) (hP : w.heap[P]? = some (node pP tP)) (nQW : ¬ Q = W) (nWQ : ¬ W = Q) (nQP : ¬ Q = P) (nPQ : ¬ P = Q) (nWP : ¬ W = P) (nPW : ¬ P = W) :
    Turn w (((((w.setCell ⟨P, 5, none⟩ (.pointer none)).setCell ⟨Q, 2, none⟩ (.pointer (some ⟨P, 0, none⟩))).setCell ⟨W, 4, none⟩ (.pointer none)).setCell ⟨W, 5, none⟩ (.pointer none)).setCell ⟨Q, 3, none⟩ (.int .i64 (wrap64 (n - 1)))) [(W, node (.pointer none) (.pointer none)), (P, node pP (.pointer none)), (Q, queue h (.pointer (some ⟨P, 0, none⟩)) (wrap64 (n - 1)))] := by
  refine ⟨by simp only [os_set], by simp only [tape_set], by simp only [output_set], by simp only [size_set], ?_, ?_⟩
  · intro u hu
    simp only [List.mem_cons, List.not_mem_nil, or_false] at hu
    rcases hu with rfl | rfl | rfl <;> simp [heap_set, upd_node4, upd_node5, upd_queue1, upd_queue2, upd_queue3, hQ, hW, hP, nQW, nWQ, nQP, nPQ, nWP, nPW]
  · intro k hk
    simp only [List.mem_cons, List.not_mem_nil, or_false, forall_eq_or_imp, forall_eq] at hk
    simp [heap_set, hk]

set_option maxHeartbeats 1000000 in
theorem remove_sn (Q W P : Nat) (h t pP tP : Value) (n : Int) (w : World) (hQ : w.heap[Q]? = some (queue h t n)) (hW : w.heap[W]? = some (node (.pointer (some ⟨P, 0, none⟩)) (.pointer none))) (hP : w.heap[P]? = some (node pP tP)) (nQW : ¬ Q = W) (nWQ : ¬ W = Q) (nQP : ¬ Q = P) (nPQ : ¬ P = Q) (nWP : ¬ W = P) (nPW : ¬ P = W) :
    Calls Yba.prog 6 #[(.pointer (some ⟨Q, 0, none⟩)), (.pointer (some ⟨W, 0, none⟩))] w fun e w' => e = .returned (.bool true) ∧ w' = (((((w.setCell ⟨P, 5, none⟩ (.pointer none)).setCell ⟨Q, 2, none⟩ (.pointer (some ⟨P, 0, none⟩))).setCell ⟨W, 4, none⟩ (.pointer none)).setCell ⟨W, 5, none⟩ (.pointer none)).setCell ⟨Q, 3, none⟩ (.int .i64 (wrap64 (n - 1)))).drew := by
  have q1 := queue_head hQ
  have q2 := queue_tail hQ
  have q3 := queue_n hQ
  have qf := queue_free hQ
  have w4 := node_prev hW
  have w5 := node_next hW
  have wf := node_free hW
  have p4 := node_prev hP
  have p5 := node_next hP
  have pf := node_free hP
  clear hQ hW hP
  obtain ⟨j39, hj39⟩ := Option.isSome_iff_exists.1 info39
  have hps := fun (w : World) => Lib.run_neq_ptr_same (P := Yba.prog) w ⟨W, 0, none⟩ Yba.underlying29 hj39
  go_enter Yba.func6, Yba.ntmps6
  go_wp2
  go_region
  all_goals go_wp2
  all_goals go_ret
  all_goals exact ⟨rfl, rfl⟩

theorem remove_ss_turn (Q W P N : Nat) (h t pP tP pN tN : Value) (n : Int) (w : World) (hQ : w.heap[Q]? = some (queue h t n)) (hW : w.heap[W]? = some (node (.pointer (some ⟨P, 0, none⟩)) (.pointer (some ⟨N, 0, none⟩)))) (hP : w.heap[P]? = some (node pP tP)) (hN : w.heap[N]? = some (node pN tN)) (nQW : ¬ Q = W) (nWQ : ¬ W = Q) (nQP : ¬ Q = P) (nPQ : ¬ P = Q) (nQN : ¬ Q = N) (nNQ : ¬ N = Q) (nWP : ¬ W = P) (nPW : ¬ P = W) (nWN : ¬ W = N) (nNW : ¬ N = W) (nPN : ¬ P = N) (nNP : ¬ N = P) :
    Turn w (((((w.setCell ⟨P, 5, none⟩ (.pointer (some ⟨N, 0, none⟩))).setCell ⟨N, 4, none⟩ (.pointer (some ⟨P, 0, none⟩))).setCell ⟨W, 4, none⟩ (.pointer none)).setCell ⟨W, 5, none⟩ (.pointer none)).setCell ⟨Q, 3, none⟩ (.int .i64 (wrap64 (n - 1)))) [(W, node (.pointer none) (.pointer none)), (P, node pP (.pointer (some ⟨N, 0, none⟩))), (N, node (.pointer (some ⟨P, 0, none⟩)) tN), (Q, queue h t (wrap64 (n - 1)))] := by
  refine ⟨by simp only [os_set], by simp only [tape_set], by simp only [output_set], by simp only [size_set], ?_, ?_⟩
  · intro u hu
    simp only [List.mem_cons, List.not_mem_nil, or_false] at hu
    rcases hu with rfl | rfl | rfl | rfl <;> simp [heap_set, upd_node4, upd_node5, upd_queue1, upd_queue2, upd_queue3, hQ, hW, hP, hN, nQW, nWQ, nQP, nPQ, nQN, nNQ, nWP, nPW, nWN, nNW, nPN, nNP]
  · intro k hk
    simp only [List.mem_cons, List.not_mem_nil, or_false, forall_eq_or_imp, forall_eq] at hk
    simp [heap_set, hk]

set_option maxHeartbeats 1000000 in
theorem remove_ss (Q W P N : Nat) (h t pP tP pN tN : Value) (n : Int) (w : World) (hQ : w.heap[Q]? = some (queue h t n)) (hW : w.heap[W]? = some (node (.pointer (some ⟨P, 0, none⟩)) (.pointer (some ⟨N, 0, none⟩)))) (hP : w.heap[P]? = some (node pP tP)) (hN : w.heap[N]? = some (node pN tN)) (nQW : ¬ Q = W) (nWQ : ¬ W = Q) (nQP : ¬ Q = P) (nPQ : ¬ P = Q) (nQN : ¬ Q = N) (nNQ : ¬ N = Q) (nWP : ¬ W = P) (nPW : ¬ P = W) (nWN : ¬ W = N) (nNW : ¬ N = W) (nPN : ¬ P = N) (nNP : ¬ N = P) :
    Calls Yba.prog 6 #[(.pointer (some ⟨Q, 0, none⟩)), (.pointer (some ⟨W, 0, none⟩))] w fun e w' => e = .returned (.bool true) ∧ w' = (((((w.setCell ⟨P, 5, none⟩ (.pointer (some ⟨N, 0, none⟩))).setCell ⟨N, 4, none⟩ (.pointer (some ⟨P, 0, none⟩))).setCell ⟨W, 4, none⟩ (.pointer none)).setCell ⟨W, 5, none⟩ (.pointer none)).setCell ⟨Q, 3, none⟩ (.int .i64 (wrap64 (n - 1)))).drew.drew := by
  have q1 := queue_head hQ
  have q2 := queue_tail hQ
  have q3 := queue_n hQ
  have qf := queue_free hQ
  have w4 := node_prev hW
  have w5 := node_next hW
  have wf := node_free hW
  have p4 := node_prev hP
  have p5 := node_next hP
  have pf := node_free hP
  have n4 := node_prev hN
  have n5 := node_next hN
  have nf := node_free hN
  clear hQ hW hP hN
  obtain ⟨j39, hj39⟩ := Option.isSome_iff_exists.1 info39
  have hps := fun (w : World) => Lib.run_neq_ptr_same (P := Yba.prog) w ⟨W, 0, none⟩ Yba.underlying29 hj39
  go_enter Yba.func6, Yba.ntmps6
  go_wp2
  go_region
  all_goals go_wp2
  go_region
  all_goals go_wp2
  all_goals go_ret
  all_goals exact ⟨rfl, rfl⟩

end Go.Proofs.Ybulkdkig
