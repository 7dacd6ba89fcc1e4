/-
  TryLock and Unlock of the store's lock, free.
-/
import Derived.Test.YbulkdkjiLocks
import Derived.Test.YbulkdkjiErr
namespace Go.Proofs.Ybulkdkji
open Go.RowKit Go.Shelf Go.Conc.Locks
open Go.MuLone (run_callFunc_enter)
set_option linter.unusedVariables false
set_option linter.unusedSimpArgs false

/-- The address of a cell, as a bare pointer: the same address. -/
theorem conv_addr {src t : TypeId} (hs : Yba.prog.underlying src = some (.pointer t)) (hsz : (Yba.prog.info? t).map (fun i => decide (i.size = 0)) = some false) {a : Addr} {v : Value} {w : World} (hc : w.cell? a = some v) : (convert src 100 (.pointer (some a))).run Yba.prog w = .ok (.pointer (some a)) w := by
  obtain ⟨e, n, hsh, hlt, hsp⟩ := World.shape?_of_cell? hc
  obtain ⟨i, hi, hz0⟩ := Option.map_eq_some_iff.1 hsz
  have hz : i.size ≠ 0 := by simpa using hz0
  have hge : ¬ (n ≤ a.off) := by omega
  simp only [convert, Sem.run_bind, run_underlying hs, run_underlying Yba.underlying100, Result.andThen_ok]
  show Sem.run Yba.prog (underlying src >>= _) w = _
  simp [Conv.seenAt, viewAt, cellsIn, sizeOf, typeInfo, run_underlying hs, run_underlying Yba.underlying100, hi, hz, hsh, hge, Result.andThen]

theorem mk_disable (w : World) : (callFunc 29 #[]).run Yba.prog w = .ok (.value (.tuple #[])) w := Go.RwLone.disable Yba.rwCore w
theorem mk_enable (w : World) : (callFunc 31 #[]).run Yba.prog w = .ok (.value (.tuple #[])) w := Go.RwLone.enable Yba.rwCore w
theorem mk_acquire (a : Addr) (w : World) : (callFunc 34 #[.pointer (some a)]).run Yba.prog w = .ok (.value (.tuple #[])) w := Go.RwLone.acquire Yba.rwCore a w
theorem mk_releaseMerge (a : Addr) (w : World) : (callFunc 36 #[.pointer (some a)]).run Yba.prog w = .ok (.value (.tuple #[])) w := Go.RwLone.releaseMerge Yba.rwCore a w
theorem mk_raceRead (a : Addr) (w : World) : (callFunc 28 #[.pointer (some a)]).run Yba.prog w = .ok (.value (.tuple #[])) w := Go.RwLone.raceRead Yba.rwCore a w
theorem mk_release (a : Addr) (w : World) : (callFunc 35 #[.pointer (some a)]).run Yba.prog w = .ok (.value (.tuple #[])) w := run_call_marked Yba.f_release (by kernel_rfl) (by kernel_rfl) (by kernel_rfl) .release (by kernel_rfl) a w


set_option maxRecDepth 100000 in
set_option maxHeartbeats 800000 in
theorem iunlock_held {a : Addr} {w : World} (hc : w.cell? a = some (.int .i32 1)) (hz : w.frozen? a = false) :
    Calls Yba.prog 54 #[.pointer (some a)] w fun e w' => e = .returned (.tuple #[]) ∧ w' = w.setCell a (.int .i32 0) := by
  have hd := mk_disable
  have he := mk_enable
  have hr := mk_releaseMerge
  have hcv := conv_addr Yba.underlying127 (by kernel_rfl) hc
  have hadd := run_call_add (P := Yba.prog) Yba.func55 (by kernel_rfl) (by kernel_rfl) (by kernel_rfl) .i32 (by kernel_rfl) (y := -1) (s := 0) hc hz (by simp [go_sem]; rfl)
  go_enter Yba.func54, Yba.ntmps54
  go_wp2_with fail
  go_end0
  exact ⟨rfl, rfl⟩

set_option maxRecDepth 100000 in
set_option maxHeartbeats 800000 in
theorem unlock_held {a : Addr} {w : World} (hc : w.cell? a = some (.int .i32 1)) (hz : w.frozen? a = false) :
    Calls Yba.prog 33 #[.pointer (some a)] w fun e w' => e = .returned (.tuple #[]) ∧ w' = w.setCell a (.int .i32 0) := by
  go_enter Yba.func33, Yba.ntmps33
  go_wp2_with fail
  refine (iunlock_held hc hz).mono ?_
  rintro e w' ⟨rfl, rfl⟩
  go_wp2_with fail
  go_end0
  exact ⟨rfl, rfl⟩

set_option maxRecDepth 100000 in
set_option maxHeartbeats 800000 in
theorem itry_free {a : Addr} {w : World} (hc : w.cell? a = some (.int .i32 0)) (hz : w.frozen? a = false) :
    Calls Yba.prog 52 #[.pointer (some a)] w fun e w' => e = .returned (.bool true) ∧ w' = w.setCell a (.int .i32 1) := by
  have hd := mk_disable
  have he := mk_enable
  have ha := mk_acquire
  have hcas := run_call_cas_hit (P := Yba.prog) Yba.f_cas32 (by kernel_rfl) (by kernel_rfl) (by kernel_rfl) .i32 (by kernel_rfl) (y := 1) hc hz
  have hc' : (w.setCell a (.int .i32 1)).cell? a = some (.int .i32 1) := by simp [go_sem, hc]
  have hcv := conv_addr Yba.underlying127 (by kernel_rfl) hc'
  go_enter Yba.func52, Yba.ntmps52
  go_wp2_with fail
  go_ret
  exact ⟨rfl, rfl⟩

set_option maxRecDepth 100000 in
set_option maxHeartbeats 800000 in
theorem try_free {a : Addr} {w : World} (hc : w.cell? a = some (.int .i32 0)) (hz : w.frozen? a = false) :
    Calls Yba.prog 30 #[.pointer (some a)] w fun e w' => e = .returned (.bool true) ∧ w' = w.setCell a (.int .i32 1) := by
  go_enter Yba.func30, Yba.ntmps30
  go_wp2_with fail
  refine (itry_free hc hz).mono ?_
  rintro e w' ⟨rfl, rfl⟩
  go_wp2_with fail
  go_ret
  exact ⟨rfl, rfl⟩

set_option maxRecDepth 100000 in
set_option maxHeartbeats 800000 in
theorem cas_hit {a : Addr} {x y : Int} {w : World} (hc : w.cell? a = some (.int .i32 x)) (hz : w.frozen? a = false) :
    Calls Yba.prog 32 #[.pointer (some a), .int .i32 x, .int .i32 y] w fun e w' => e = .returned (.bool true) ∧ w' = w.setCell a (.int .i32 y) := by
  have hcas := run_call_cas_hit (P := Yba.prog) Yba.f_cas32 (by kernel_rfl) (by kernel_rfl) (by kernel_rfl) .i32 (by kernel_rfl) (y := y) hc hz
  go_enter Yba.func32, Yba.ntmps32
  go_wp2_with fail
  go_ret
  exact ⟨rfl, rfl⟩

end Go.Proofs.Ybulkdkji
