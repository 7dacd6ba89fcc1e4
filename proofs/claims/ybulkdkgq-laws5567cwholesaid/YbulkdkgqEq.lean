/-
  zzs5567ceq at two slices that hold the same bytes: it answers true and writes nothing. appendClockRecord on a slice without spare room.
-/
import Derived.Test.YbulkdkgqLib
import Derived.Deep.QuietTactic
import Derived.BigQuiet
import Derived.Outline
import Derived.Deep.DeepMust
namespace Go.Proofs.Ybulkdkgq
open Go.RowKit

set_option maxHeartbeats 400000 in
theorem eq_zero (a0 a1 : Option Addr) (c0 c1 : Nat) (w : World) :
    Calls Yba.prog 6 #[.slice a0 0 c0, .slice a1 0 c1] w fun e w' => e = .returned (.bool true) ∧ w' = w := by
  go_enter Yba.func6, Yba.ntmps6
  go_wp2
  refine wp_loop_rounds 1 ?_
  rw [rounds_succ]
  go_wp2
  go_ret
  exact ⟨rfl, rfl⟩

set_option maxHeartbeats 400000 in
theorem eq_same (b0 o0 c0 b1 o1 c1 n : Nat) (X : Nat → Int) (w : World) (hn : n ≤ 1099511627776)
    (h0 : ∀ j, j < n → w.cell? ⟨b0, o0 + j, none⟩ = some (.int .u8 (X j))) (h1 : ∀ j, j < n → w.cell? ⟨b1, o1 + j, none⟩ = some (.int .u8 (X j))) :
    Calls Yba.prog 6 #[.slice (some ⟨b0, o0, none⟩) n c0, .slice (some ⟨b1, o1, none⟩) n c1] w fun e w' => e = .returned (.bool true) ∧ ∃ q, w' = w.drewN q := by
  go_enter Yba.func6, Yba.ntmps6
  go_wp2
  go_loopw [5] (fun i wr => ∃ k q : Nat, k ≤ n ∧ i = .int .i64 k ∧ wr = w.drewN q) (fun i _ => n - (intOf i).toNat)
  case atStart => exact ⟨0, 0, Nat.zero_le _, rfl, rfl⟩
  case round =>
    obtain ⟨k, q, hk, rfl, rfl⟩ := hrel
    by_cases hlt : k < n
    · have hlt' : (k : Int) < (n : Int) := by omega
      have g0 := h0 k hlt
      have g1 := h1 k hlt
      clear h0 h1
      go_wp2
      go_quiet (fail)
      go_wp2
      go_roundw
      case rel => exact ⟨k + 1, _, by omega, by go_num, rfl⟩
      case measure => simp [intOf]; omega
    · go_wp2
      go_ret
      exact ⟨rfl, _, rfl⟩

theorem ownsRow_lower {W : World} {base base' : Nat} {e : TypeId} {size : Nat} {v : Value} {k : Nat} {xs : List Value} (h : W.ownsRow base e size v k xs) (hb : base' ≤ base) : W.ownsRow base' e size v k xs := by
  obtain ⟨h1, h2⟩ := h
  refine ⟨h1, ?_⟩
  rcases h2 with h2 | ⟨g, cap, cur, hv, hg, r⟩
  · exact Or.inl h2
  · exact Or.inr ⟨g, cap, cur, hv, by omega, r⟩

/-- The shape of a slice that owns at least one byte, and its cells. -/
theorem own_shape {W : World} {base : Nat} {v : Value} {n : Nat} {xs : List Value} (h : W.ownsRow base 5 1 v n xs) (hn : 0 < n) :
    ∃ g cap, v = .slice (some ⟨g, 0, none⟩) n cap ∧ base ≤ g ∧ g < W.heap.size ∧ ∀ j u, xs[j]? = some u → W.cell? ⟨g, 0 + j, none⟩ = some u := by
  have hc := @World.ownsRow.cells W base 5 1 v n xs h
  have hl := h.lt
  rcases h.2 with ⟨_, h0⟩ | ⟨g, cap, cur, rfl, hg, hh, r⟩
  · omega
  · refine ⟨g, cap, rfl, hg, (hl g rfl).2, fun j u hu => ?_⟩
    have := hc rfl j u hu
    rw [Addr.add_lit] at this; exact this

theorem cell_one_new5 (w : World) (v : Value) : ∀ j u, [v][j]? = some u → (w.alloc (.cells #[v] 5)).cell? ((⟨w.heap.size, 0, none⟩ : Addr).add j) = some u := by
  intro j u hj
  match j, hj with
  | 0, hj => simp at hj; subst hj; simp [Addr.add]

set_option maxHeartbeats 400000 in
/-- appendClockRecord: the slice has no spare room ('cap = len'; nil among them): a new row holds what was there, the tag 3 and the varint; of what was there nothing has turned. -/
theorem rec_any (ao : Option Addr) (n x : Nat) (olds : List Value) (w : World) (hx : x < 18446744073709551616) (hn : n ≤ 1099511627776)
    (hnone : ao = none → n = 0) (hl : olds.length = n) (holds : ∀ b, ao = some b → ∀ j u, olds[j]? = some u → w.cell? (b.add j) = some u) :
    Calls Yba.prog 5 #[.slice ao n n, .int .u64 x] w fun e w' => ∃ v', e = .returned v' ∧ w'.ownsRow w.heap.size 5 1 v' (n + 1 + (Lib.uvarint x).length) (olds ++ [.int .u8 3] ++ Lib.byteCells (Lib.uvarint x)) ∧ Below w.heap.size w w' := by
  obtain ⟨i0, hi, hz0, hz1, hz2⟩ := info_parts info5
  have holds' : ∀ o b, ao = some b → ∀ j u, olds[j]? = some u → (w.alloc o).cell? (b.add j) = some u := fun o b hb j u hu => by
    have := holds b hb j u hu
    exact (World.grownBy_alloc w o none).cell this (by simp)
  go_enter Yba.func5, Yba.ntmps5
  go_wp2_with (at_builtin; go_must (refine wpList_append_grows _ rfl _ _ 22 rfl 5 i0 (.int .u8 0) 1 1 Yba.underlying22 hi hz0 hz1 hz2 rfl (by decide) ao n n olds rfl (fun h => ⟨hnone h, hnone h⟩) (by omega) (holds' _) ⟨w.heap.size, 0, none⟩ 1 1 [.int .u8 3] rfl rfl (cell_one_new5 w _) (by intro u hu; simp at hu; subst hu; rfl) (by omega) (by unfold maxLen; omega) (by omega) ?_); intro v1 w1 hown hgr)
  have hb1 : Below w.heap.size w w1 := ((Below.refl _ w).alloc (Nat.le_refl _) _).grown hgr (by simp) (fun k hk => by cases hk)
  have hown0 : w1.ownsRow (w.heap.size + 1) 5 1 v1 (n + 1) (olds ++ [.int .u8 3]) := by simpa using hown
  clear hown
  go_wp2_with fail
  refine (appendUvarint_any (w.heap.size + 1) (n + 1) x hx v1 _ w1 hown0 (by have := hgr.size; simpa using this) (by omega)).mono ?_
  rintro e w2 ⟨v2, rfl, hown2, hb2⟩
  go_wp2_with fail
  go_ret
  exact ⟨v2, rfl, ownsRow_lower hown2 (by omega), hb1.trans (hb2.mono (by omega))⟩

end Go.Proofs.Ybulkdkgq
