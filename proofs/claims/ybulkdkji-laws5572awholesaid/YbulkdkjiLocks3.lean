/-
  TryLock and Unlock of a free RWMutex at the head of a block.
-/
import Derived.Test.YbulkdkjiLocks2
import Derived.LoopN
namespace Go.Proofs.Ybulkdkji
open Go.RowKit Go.Shelf Go.Conc.Locks
set_option linter.unusedVariables false
set_option linter.unusedSimpArgs false

set_option maxRecDepth 100000 in
set_option maxHeartbeats 1600000 in
theorem trylock_free {b : Nat} {x2 x3 : Value} {w : World} (c0 : w.cell? ⟨b, 0, none⟩ = some (.int .i32 0)) (z0 : w.frozen? ⟨b, 0, none⟩ = false)
    (c2 : w.cell? ⟨b, 2, none⟩ = some x2) (c3 : w.cell? ⟨b, 3, none⟩ = some x3) (c4 : w.cell? ⟨b, 4, none⟩ = some (.int .i32 0)) (z4 : w.frozen? ⟨b, 4, none⟩ = false) :
    Calls Yba.prog 11 #[.pointer (some ⟨b, 0, none⟩)] w fun e w' => e = .returned (.bool true) ∧ w' = (w.setCell ⟨b, 0, none⟩ (.int .i32 1)).setCell ⟨b, 4, none⟩ (.int .i32 (-1073741824)) := by
  have hd := mk_disable
  have he := mk_enable
  have ha := mk_acquire
  have hrr := mk_raceRead
  have v0 := conv_addr Yba.underlying101 Yba.rwCore.room_tMutex c0
  have c4' : (w.setCell ⟨b, 0, none⟩ (.int .i32 1)).cell? ⟨b, 4, none⟩ = some (.int .i32 0) := (World.cell?_setCell_other _ ⟨b, 0, none⟩ ⟨b, 4, none⟩ _ (by simp)).trans c4
  have z4' : (w.setCell ⟨b, 0, none⟩ (.int .i32 1)).frozen? ⟨b, 4, none⟩ = false := by simp [go_sem, z4]
  have c3' : ((w.setCell ⟨b, 0, none⟩ (.int .i32 1)).setCell ⟨b, 4, none⟩ (.int .i32 (-1073741824))).cell? ⟨b, 3, none⟩ = some x3 := (World.cell?_setCell_other _ ⟨b, 4, none⟩ ⟨b, 3, none⟩ _ (by simp)).trans ((World.cell?_setCell_other _ ⟨b, 0, none⟩ ⟨b, 3, none⟩ _ (by simp)).trans c3)
  have c2' : ((w.setCell ⟨b, 0, none⟩ (.int .i32 1)).setCell ⟨b, 4, none⟩ (.int .i32 (-1073741824))).cell? ⟨b, 2, none⟩ = some x2 := (World.cell?_setCell_other _ ⟨b, 4, none⟩ ⟨b, 2, none⟩ _ (by simp)).trans ((World.cell?_setCell_other _ ⟨b, 0, none⟩ ⟨b, 2, none⟩ _ (by simp)).trans c2)
  have v3 := conv_addr Yba.underlying103 Yba.rwCore.room_tU32 c3'
  have v2 := conv_addr Yba.underlying103 Yba.rwCore.room_tU32 c2'
  go_enter Yba.func11, Yba.ntmps11
  go_wp2_with fail
  refine (try_free c0 z0).mono ?_
  rintro e w' ⟨rfl, rfl⟩
  go_wp2_with fail
  refine (cas_hit c4' z4').mono ?_
  rintro e w' ⟨rfl, rfl⟩
  go_wp2_with fail
  go_ret
  exact ⟨rfl, rfl⟩

theorem i32add_any {a : Addr} {x y z : Int} {w : World} (hc : w.cell? a = some (.int .i32 x)) (hz : w.frozen? a = false) (h : wrap32 (x + y) = z) :
    Calls Yba.prog 37 #[.pointer (some a), .int .i32 y] w fun e w' => e = .returned (.int .i32 z) ∧ w' = w.setCell a (.int .i32 z) := by
  subst h
  exact Go.RwLone.i32add_any Yba.rwCore a x y w hc hz

set_option maxRecDepth 100000 in
set_option maxHeartbeats 1600000 in
theorem unlock_write {b : Nat} {x2 x3 : Value} {w : World} (c0 : w.cell? ⟨b, 0, none⟩ = some (.int .i32 1)) (z0 : w.frozen? ⟨b, 0, none⟩ = false)
    (c2 : w.cell? ⟨b, 2, none⟩ = some x2) (c3 : w.cell? ⟨b, 3, none⟩ = some x3) (c4 : w.cell? ⟨b, 4, none⟩ = some (.int .i32 (-1073741824))) (z4 : w.frozen? ⟨b, 4, none⟩ = false) :
    Calls Yba.prog 12 #[.pointer (some ⟨b, 0, none⟩)] w fun e w' => e = .returned (.tuple #[]) ∧ w' = (w.setCell ⟨b, 4, none⟩ (.int .i32 0)).setCell ⟨b, 0, none⟩ (.int .i32 0) := by
  have hd := mk_disable
  have he := mk_enable
  have ha := mk_releaseMerge
  have hrr := mk_raceRead
  have hrl := mk_release
  have v0 := conv_addr Yba.underlying101 Yba.rwCore.room_tMutex c0
  have v3 := conv_addr Yba.underlying103 Yba.rwCore.room_tU32 c3
  have v2 := conv_addr Yba.underlying103 Yba.rwCore.room_tU32 c2
  have c0' : (w.setCell ⟨b, 4, none⟩ (.int .i32 0)).cell? ⟨b, 0, none⟩ = some (.int .i32 1) := (World.cell?_setCell_other _ ⟨b, 4, none⟩ ⟨b, 0, none⟩ _ (by simp)).trans c0
  have z0' : (w.setCell ⟨b, 4, none⟩ (.int .i32 0)).frozen? ⟨b, 0, none⟩ = false := by simp [go_sem, z0]
  go_enter Yba.func12, Yba.ntmps12
  go_wp2_with fail
  refine (i32add_any (z := 0) c4 z4 (by kernel_rfl)).mono ?_
  rintro e w' ⟨rfl, rfl⟩
  go_wp2_with fail
  refine wp_loop_rounds 1 ?_
  rw [rounds_succ]
  go_wp2_with fail
  refine (unlock_held c0' z0').mono ?_
  rintro e w' ⟨rfl, rfl⟩
  go_wp2_with fail
  go_end0
  exact ⟨rfl, rfl⟩

end Go.Proofs.Ybulkdkji
