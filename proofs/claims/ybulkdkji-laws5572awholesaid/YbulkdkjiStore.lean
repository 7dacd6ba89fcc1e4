/-
  The store's block, its lock taken and given back; RUnlock as a deferred call in a fence.
-/
import Derived.Test.YbulkdkjiLocks3
import Derived.Test.YbulkdkjiResults4
namespace Go.Proofs.Ybulkdkji
open Go.RowKit Go.Shelf
attribute [local go_sem] Oper.semAt_some
set_option linter.unusedVariables false
set_option linter.unusedSimpArgs false

/-- The store's cells: x0 the writers' mutex, rc the readers' count. -/
def storeC (x0 rc : Int) (tv iv qv ov nv : Value) : Array Value := #[.int .i32 x0, .int .u32 0, .int .u32 0, .int .u32 0, .int .i32 rc, .int .i32 0, tv, iv, qv, ov, nv, .int .i64 0, .int .u64 0, .pointer none]

/-- The store's block stands. -/
def StoreAt (w : World) (st : Nat) (x0 rc : Int) (tv iv qv ov nv : Value) : Prop := w.heap[st]? = some (.cells (storeC x0 rc tv iv qv ov nv) 49 (0, 0))

theorem StoreAt.cell {w : World} {st : Nat} {x0 rc : Int} {tv iv qv ov nv : Value} (h : StoreAt w st x0 rc tv iv qv ov nv) (i : Nat) : w.cell? ⟨st, i, none⟩ = (storeC x0 rc tv iv qv ov nv)[i]? := cell_of_row w st i _ 49 (0, 0) h
theorem StoreAt.frozen {w : World} {st : Nat} {x0 rc : Int} {tv iv qv ov nv : Value} (h : StoreAt w st x0 rc tv iv qv ov nv) (i : Nat) : w.frozen? ⟨st, i, none⟩ = false := frozen_of_row w st i _ 49 h
theorem StoreAt.set4 {w : World} {st : Nat} {x0 rc rc' : Int} {tv iv qv ov nv : Value} (h : StoreAt w st x0 rc tv iv qv ov nv) : StoreAt (w.setCell ⟨st, 4, none⟩ (.int .i32 rc')) st x0 rc' tv iv qv ov nv := by
  have h' : w.heap[st]? = some (.cells (storeC x0 rc tv iv qv ov nv) 49 (0, 0)) := h
  show (w.setCell _ _).heap[st]? = _
  simp only [World.setCell, Array.getElem?_modify, if_true, h', Option.map_some]
  simp [storeC]
theorem StoreAt.set0 {w : World} {st : Nat} {x0 x0' rc : Int} {tv iv qv ov nv : Value} (h : StoreAt w st x0 rc tv iv qv ov nv) : StoreAt (w.setCell ⟨st, 0, none⟩ (.int .i32 x0')) st x0' rc tv iv qv ov nv := by
  have h' : w.heap[st]? = some (.cells (storeC x0 rc tv iv qv ov nv) 49 (0, 0)) := h
  show (w.setCell _ _).heap[st]? = _
  simp only [World.setCell, Array.getElem?_modify, if_true, h', Option.map_some]
  simp [storeC]
theorem StoreAt.frame {S : Nat → Prop} {w w' : World} {st : Nat} {x0 rc : Int} {tv iv qv ov nv : Value} (h : StoreAt w st x0 rc tv iv qv ov nv) (f : Fr S w w') (hn : ¬ S st) : StoreAt w' st x0 rc tv iv qv ov nv := f.block h hn

/-- The store's block turned and turned back. -/
theorem Fr.back {S : Nat → Prop} {w w' : World} {st : Nat} (f : Fr (fun k => S k ∨ k = st) w w') (h : w'.heap[st]? = w.heap[st]?) : Fr S w w' :=
  ⟨f.os, f.tape, f.output, f.size, fun k hk hn => by
    by_cases e : k = st
    · rw [e]; exact h
    · exact f.old k hk (fun c => c.elim hn e)⟩

/-- The whole of TryLock and of Unlock, on the store. -/
theorem store_try {w : World} {st : Nat} {tv iv qv ov nv : Value} (h : StoreAt w st 0 0 tv iv qv ov nv) :
    Calls Yba.prog 11 #[.pointer (some ⟨st, 0, none⟩)] w fun e w' => e = .returned (.bool true) ∧ StoreAt w' st 1 (-1073741824) tv iv qv ov nv ∧ Fr (fun k => k = st) w w' := by
  refine (trylock_free (x2 := .int .u32 0) (x3 := .int .u32 0) (h.cell 0) (h.frozen 0) (h.cell 2) (h.cell 3) (h.cell 4) (h.frozen 4)).mono ?_
  rintro e w' ⟨rfl, rfl⟩
  exact ⟨rfl, h.set0.set4, ((Fr.refl (fun k => k = st) w).setCell (p := ⟨st, 0, none⟩) (fun _ => rfl) _).setCell (p := ⟨st, 4, none⟩) (fun _ => rfl) _⟩
theorem store_unlock {w : World} {st : Nat} {tv iv qv ov nv : Value} (h : StoreAt w st 1 (-1073741824) tv iv qv ov nv) :
    Calls Yba.prog 12 #[.pointer (some ⟨st, 0, none⟩)] w fun e w' => e = .returned (.tuple #[]) ∧ StoreAt w' st 0 0 tv iv qv ov nv ∧ Fr (fun k => k = st) w w' := by
  refine (unlock_write (x2 := .int .u32 0) (x3 := .int .u32 0) (h.cell 0) (h.frozen 0) (h.cell 2) (h.cell 3) (h.cell 4) (h.frozen 4)).mono ?_
  rintro e w' ⟨rfl, rfl⟩
  exact ⟨rfl, h.set4.set0, ((Fr.refl (fun k => k = st) w).setCell (p := ⟨st, 4, none⟩) (fun _ => rfl) _).setCell (p := ⟨st, 0, none⟩) (fun _ => rfl) _⟩

theorem store_rlock {w : World} {st : Nat} {tv iv qv ov nv : Value} (h : StoreAt w st 0 0 tv iv qv ov nv) :
    Calls Yba.prog 25 #[.pointer (some ⟨st, 0, none⟩)] w fun e w' => e = .returned (.tuple #[]) ∧ w' = w.setCell ⟨st, 4, none⟩ (.int .i32 1) := by
  have e1 : wrap32 (0 + 1) = 1 := by kernel_rfl
  have := Go.RwLone.rlock_open Yba.rwRLib st 0 0 (.int .i32 0) (.int .u32 0) w (h.cell 0) (h.cell 3) (h.cell 4) (h.frozen 4) (by rw [e1]; decide)
  rw [e1] at this
  exact this

set_option maxRecDepth 100000 in
set_option maxHeartbeats 1600000 in
theorem store_runlock {w : World} {st : Nat} {tv iv qv ov nv : Value} (u : FrameMode) (h : StoreAt w st 0 1 tv iv qv ov nv) :
    CallsDIn Fence.wide 0 Yba.prog 26 #[.pointer (some ⟨st, 0, none⟩)] u w fun e u' w' => u' = u ∧ (e = .returned (.tuple #[]) ∧ w' = w.setCell ⟨st, 4, none⟩ (.int .i32 0)) := by
  have hd := mk_disable
  have he := mk_enable
  have ha := mk_releaseMerge
  have hrr := mk_raceRead
  have v0 := conv_addr Yba.underlying101 Yba.rwCore.room_tMutex (h.cell 0)
  have v2 := conv_addr Yba.underlying103 Yba.rwCore.room_tU32 (h.cell 2)
  refine callsDIn_of_wp Yba.func26 rfl trivial ?_
  simp only [Yba.ntmps26, List.size_toArray, List.length_cons, List.length_nil, Nat.reduceAdd, Nat.reduceSub, Array.replicate_succ, Array.replicate_zero, List.push_toArray, List.append_toArray, List.nil_append, List.cons_append]
  gi_wp2
  refine ⟨trivial, ?_⟩
  go_at_K
  gi_wp2
  refine ⟨trivial, ?_⟩
  go_at_K
  gi_wp2
  refine ⟨trivial, ?_⟩
  go_at_K
  gi_wp2
  refine ⟨trivial, rfl, ((callsIn_wide (n := 0)).2 (i32add_any (x := 1) (z := 0) (h.cell 4) (h.frozen 4) (by kernel_rfl))).mono ?_⟩
  rintro e w' ⟨rfl, rfl⟩
  gi_wp2
  refine ⟨trivial, ?_⟩
  go_at_K
  gi_wp2
  go_end0
  exact ⟨rfl, rfl⟩

end Go.Proofs.Ybulkdkji
