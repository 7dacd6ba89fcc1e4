/-
  M, V, then, Skip, Limit, errors.New.
-/
import Derived.Test.YbulkdkjiPlain
import Derived.Laws.OwnMore
import Derived.Laws.Cover3
namespace Go.Proofs.Ybulkdkji
open Go.RowKit Go.Maps
set_option linter.unusedVariables false
set_option linter.unusedSimpArgs false

set_option maxHeartbeats 400000 in
theorem m_any (w : World) : Calls Yba.prog 6 #[] w fun e w' => e = .returned (.pointer (some ⟨w.heap.size, 0, none⟩)) ∧ w' = w.alloc (.cells #[.slice none 0 0, .pointer none, .nilIface] 83) := by
  have a83 := Yba.isAgg83
  have z83 := Yba.sizeOf83
  go_enter Yba.func6, Yba.ntmps6
  go_wp2_with fail
  go_ret
  exact ⟨rfl, rfl⟩

set_option maxHeartbeats 400000 in
theorem then_any {w : World} {pp : Nat} {sv a b : Value} (h : w.heap[pp]? = some (.cells #[sv, a, b] 83 (0, 0))) (ao : Option Addr) (n c : Nat) (hsv : sv = .slice ao n c) (x : Value) (xt : TypeId) (xv : Value) (hx : x = .iface xt xv) :
    Calls Yba.prog 20 #[.pointer (some ⟨pp, 0, none⟩), x] w fun e w' => e = .returned (.pointer (some ⟨w.heap.size, 0, none⟩)) ∧ w' = w.alloc (.cells #[sv, .pointer (some ⟨pp, 0, none⟩), x] 83) := by
  subst hsv
  subst hx
  have c0 : w.cell? ⟨pp, 0, none⟩ = some (.slice ao n c) := by rw [cell_of_row w pp 0 _ 83 (0, 0) h]; rfl
  have a83 := Yba.isAgg83
  have z83 := Yba.sizeOf83
  go_enter Yba.func20, Yba.ntmps20
  go_wp2_with fail
  go_ret
  exact ⟨rfl, rfl⟩

/-- The world with one step more. -/
def W3 (w : World) (sv : Value) (pp : Nat) (skip : Bool) (n : Int) : World := (w.alloc (.cells #[.int .i64 n] 3)).alloc (.cells #[sv, .pointer (some ⟨pp, 0, none⟩), .iface 86 (stepV skip w.heap.size)] 83)

set_option maxHeartbeats 400000 in
theorem skip_any {w : World} {pp : Nat} {sv a b : Value} (h : w.heap[pp]? = some (.cells #[sv, a, b] 83 (0, 0))) (ao : Option Addr) (m c : Nat) (hsv : sv = .slice ao m c) (n : Int) :
    Calls Yba.prog 7 #[.pointer (some ⟨pp, 0, none⟩), .int .i64 n] w fun e w' => e = .returned (.pointer (some ⟨w.heap.size + 1, 0, none⟩)) ∧ w' = W3 w sv pp true n := by
  have hm := hmf
  have h1 := (Fr.refl (fun _ => False) w).alloc (.cells #[.int .i64 n] 3)
  have ht := then_any (h1.block h id) ao m c hsv (.iface 86 (stepV true w.heap.size)) 86 _ rfl
  unfold stepV at ht
  simp only [if_true, Bool.false_eq_true, if_false] at ht
  rw [World.size_alloc] at ht
  go_enter Yba.func7, Yba.ntmps7
  go_wp2_with fail
  refine ht.mono ?_
  rintro e w' ⟨rfl, rfl⟩
  go_wp2_with fail
  go_ret
  exact ⟨rfl, by rw [hsv]; rfl⟩

set_option maxHeartbeats 400000 in
theorem limit_any {w : World} {pp : Nat} {sv a b : Value} (h : w.heap[pp]? = some (.cells #[sv, a, b] 83 (0, 0))) (ao : Option Addr) (m c : Nat) (hsv : sv = .slice ao m c) (n : Int) :
    Calls Yba.prog 8 #[.pointer (some ⟨pp, 0, none⟩), .int .i64 n] w fun e w' => e = .returned (.pointer (some ⟨w.heap.size + 1, 0, none⟩)) ∧ w' = W3 w sv pp false n := by
  have hm := hmf
  have h1 := (Fr.refl (fun _ => False) w).alloc (.cells #[.int .i64 n] 3)
  have ht := then_any (h1.block h id) ao m c hsv (.iface 86 (stepV false w.heap.size)) 86 _ rfl
  unfold stepV at ht
  simp only [if_true, Bool.false_eq_true, if_false] at ht
  rw [World.size_alloc] at ht
  go_enter Yba.func8, Yba.ntmps8
  go_wp2_with fail
  refine ht.mono ?_
  rintro e w' ⟨rfl, rfl⟩
  go_wp2_with fail
  go_ret
  exact ⟨rfl, by rw [hsv]; rfl⟩

set_option maxHeartbeats 400000 in
theorem new_any (w : World) (s : ByteArray) : Calls Yba.prog 9 #[.string s] w fun e w' => e = .returned (.iface 93 (.pointer (some ⟨w.heap.size, 0, none⟩))) ∧ w' = w.alloc (.cells #[.string s] 95) := by
  have a95 := Yba.isAgg95
  have z95 := Yba.sizeOf95
  go_enter Yba.func9, Yba.ntmps9
  go_wp2_with fail
  go_ret
  exact ⟨rfl, rfl⟩

theorem info30 : (Yba.prog.info? 30).map (fun i => (i.zero, i.size, i.bytes)) = some (some (.agg #[.int .u8 0, .string ByteArray.empty, .int .u64 0, .string ByteArray.empty, .string ByteArray.empty]), 5, 64) := by kernel_rfl

set_option maxRecDepth 100000 in
set_option maxHeartbeats 1000000 in
theorem clone_any {w : World} {g N cp : Nat} {ts : List (Int × ByteArray)} (hN : ts.length = N) (hNs : N ≤ 1073741824) (hc : ∀ j u, (tcells ts)[j]? = some u → w.cell? ⟨g, j, none⟩ = some u) :
    Calls Yba.prog 19 #[.slice (some ⟨g, 0, none⟩) N cp] w fun e w' => ∃ v, e = .returned v ∧ w'.ownsRow w.heap.size 30 5 v N (tcells ts) ∧ Below w.heap.size w w' := by
  obtain ⟨i0, hi, hz0, hz1, hz2⟩ := info_parts info30
  have own0 : (w.alloc (.cells #[] 30)).ownsRow w.heap.size 30 5 (.slice (some ⟨w.heap.size, 0, none⟩) 0 0) 0 [] := ⟨rfl, .inr ⟨w.heap.size, 0, #[], rfl, Nat.le_refl _, heap_alloc_new w _, Nat.le_refl _, Nat.zero_le _, rfl, rfl⟩⟩
  have f1 := (Fr.refl (fun _ => False) w).alloc (.cells #[] 30)
  have hnil : ∀ w, (binOp .eql 24 (.slice (some ⟨g, 0, none⟩) N cp) (.slice none 0 0)).run Yba.prog w = .ok (.bool false) w := fun w => by simp [binOp, run_equal_slice_nil w 24 30 _ _ _ Yba.underlying24]
  go_enter Yba.func19, Yba.ntmps19
  go_wp2_with (at_builtin; go_must (refine wpList_append_own_at _ rfl (.tmp 5) (.tmp 6) 24 rfl w.heap.size 30 i0 _ 5 64 Yba.underlying24 hi hz0 hz1 hz2 rfl (by decide) _ _ _ rfl own0 ⟨g, 0, none⟩ N cp (tcells ts) rfl (by rw [tcells_len, hN]) (fun j u hj => by rw [Addr.add_lit, Nat.zero_add]; exact f1.cell (hc j u hj) id) (tcells_one _) (by unfold maxLen; omega) (by omega) (by simp) ?_); intro v3 w3 own3 G3 _ hloc)
  go_ret
  refine ⟨v3, rfl, by simpa using own3, ?_⟩
  exact (((Below.refl _ w).alloc (Nat.le_refl _) _).grown G3 (by simp) (fun k hk => (by cases hk; exact Nat.le_refl _)))

set_option maxHeartbeats 400000 in
theorem v_any {w : World} {g N cp : Nat} {ts : List (Int × ByteArray)} (hN : ts.length = N) (hNs : N ≤ 1073741824) (hc : ∀ j u, (tcells ts)[j]? = some u → w.cell? ⟨g, j, none⟩ = some u) :
    Calls Yba.prog 5 #[.slice (some ⟨g, 0, none⟩) N cp] w fun e w' => ∃ v w1, e = .returned (.pointer (some ⟨w1.heap.size, 0, none⟩)) ∧ w' = w1.alloc (.cells #[v, .pointer none, .nilIface] 83) ∧ w1.ownsRow w.heap.size 30 5 v N (tcells ts) ∧ Below w.heap.size w w1 := by
  have a83 := Yba.isAgg83
  have z83 := Yba.sizeOf83
  go_enter Yba.func5, Yba.ntmps5
  go_wp2_with fail
  refine (clone_any hN hNs hc).mono ?_
  rintro e w1 ⟨v, rfl, own, bel⟩
  obtain ⟨ao, cap, hv⟩ := own_form own
  subst hv
  clear hc
  go_wp2_with fail
  go_ret
  exact ⟨_, w1, rfl, rfl, own, bel⟩

end Go.Proofs.Ybulkdkji
