/-
  make, at the law's types.
-/
import Derived.Test.YbulkdkjiRun
import Derived.Laws.MakeOwn
namespace Go.Proofs.Ybulkdkji
open Go.RowKit Go.Maps
set_option linter.unusedVariables false
set_option linter.unusedSimpArgs false

theorem info142 : (Yba.prog.info? 142).map (fun i => (i.zero, i.size, i.bytes)) = some (some (.slice none 0 0), 1, 24) := by kernel_rfl

def zero30 : Array Value := #[.int .u8 0, .string ByteArray.empty, .int .u64 0, .string ByteArray.empty, .string ByteArray.empty]
theorem made_get {n k : Nat} (h : k < n) : (madeCells zero30 n)[k]? = some (fieldOf (0, ByteArray.empty) (k % 5)) := by
  have hs : zero30.size = 5 := rfl
  have h5 : k % 5 < 5 := Nat.mod_lt _ (by omega)
  unfold madeCells
  simp [h, hs]
  generalize k % 5 = r at h5
  match r, h5 with
  | 0, _ => rfl
  | 1, _ => rfl
  | 2, _ => rfl
  | 3, _ => rfl
  | 4, _ => rfl

theorem make_terms (T : Nat) (hT : T ≤ 255) : ∃ cur : Array Value, (∀ w, (Instr.makeSlice 24 (.int .i64 1) (.int .i64 ((T : Int) + 1))).run Yba.prog w = .ok (.slice (some ⟨w.heap.size, 0, none⟩) 1 (T + 1)) (w.alloc (.cells cur 30))) ∧
    ∀ w : World, (w.alloc (.cells cur 30)).ownsRow w.heap.size 30 5 (.slice (some ⟨w.heap.size, 0, none⟩) 1 (T + 1)) 1 (tcells (tl 0)) := by
  obtain ⟨i0, hi, hz0, hz1, hz2⟩ := info_parts info30
  refine ⟨madeCells zero30 ((T + 1) * 5), fun w => ?_, fun w => ⟨rfl, .inr ⟨w.heap.size, T + 1, _, rfl, Nat.le_refl _, heap_alloc_new w _, by omega, by unfold maxLen; omega, size_madeCells _ _, ?_⟩⟩⟩
  · have := run_make (P := Yba.prog) w 24 30 i0 _ Yba.underlying24 hi hz0 .i64 .i64 1 ((T : Int) + 1) (by omega) (by omega) (by rw [hz2]; omega) (by omega)
    rw [hz1, show ((T : Int) + 1).toNat = T + 1 by omega] at this
    exact this
  · refine List.ext_getElem? fun k => ?_
    rw [tcells_at, List.getElem?_take]
    by_cases h : k < 5
    · rw [if_pos (by omega), Array.getElem?_toList, made_get (by omega), show k / 5 = 0 by omega]
      rfl
    · rw [if_neg (by omega)]
      have : (tl 0)[k / 5]? = none := List.getElem?_eq_none (by show 1 ≤ _; omega)
      rw [this]; rfl

theorem make_nodes (T : Nat) (A : Nat → Nat) (N : Nat) (hN : N ≤ 1048576) : ∃ cur : Array Value, (∀ w, (Instr.makeSlice 24 (.int .i64 (N : Int)) (.int .i64 (N : Int))).run Yba.prog w = .ok (.slice (some ⟨w.heap.size, 0, none⟩) N N) (w.alloc (.cells cur 30))) ∧
    ∀ w : World, RowOf (w.alloc (.cells cur 30)) w.heap.size (nodesAt T A N 0) := by
  obtain ⟨i0, hi, hz0, hz1, hz2⟩ := info_parts info30
  refine ⟨madeCells zero30 (N * 5), fun w => ?_, fun w => ⟨_, heap_alloc_new w _, by rw [size_madeCells, nodesAt_len], fun k u hu => ?_⟩⟩
  · have := run_make (P := Yba.prog) w 24 30 i0 _ Yba.underlying24 hi hz0 .i64 .i64 N N (by omega) (by omega) (by rw [hz2]; omega) (by omega)
    rw [hz1, show ((N : Int)).toNat = N by omega] at this
    exact this
  · have hk := (List.getElem?_eq_some_iff.1 hu).1
    rw [tcells_len, nodesAt_len] at hk
    rw [tcells_at] at hu
    have hx : (nodesAt T A N 0)[k / 5]? = some (0, ByteArray.empty) := by
      unfold nodesAt
      have : k / 5 < N := by omega
      simp [this]
    rw [hx] at hu
    rw [made_get hk]
    exact hu

theorem make_edges (T : Nat) (hT : T ≤ 255) : ∃ cur : Array Value, ∀ w, (Instr.makeSlice 35 (.int .i64 ((T : Int) + 1)) (.int .i64 ((T : Int) + 1))).run Yba.prog w = .ok (.slice (some ⟨w.heap.size, 0, none⟩) (T + 1) (T + 1)) (w.alloc (.cells cur 142)) := by
  obtain ⟨i0, hi, hz0, hz1, hz2⟩ := info_parts info142
  refine ⟨madeCells (Value.slice none 0 0).cells ((T + 1) * i0.size), fun w => ?_⟩
  have := run_make (P := Yba.prog) w 35 142 i0 _ Yba.underlying35 hi hz0 .i64 .i64 ((T : Int) + 1) ((T : Int) + 1) (by omega) (by omega) (by rw [hz2]; omega) (by omega)
  rw [show ((T : Int) + 1).toNat = T + 1 by omega] at this
  exact this

end Go.Proofs.Ybulkdkji
