/-
  The start of a run: every node of the store, or the listed ones.
-/
import Derived.Test.YbulkdkjiDone
namespace Go.Proofs.Ybulkdkji
open Go.RowKit Go.Shelf
attribute [local go_sem] Oper.semAt_some
set_option linter.unusedVariables false
set_option linter.unusedSimpArgs false

/-- What start reads: its boxes, the path's own block and the store's. -/
structure StartRo (Ro : Nat → Option Obj) (pb sb pp st : Nat) (pc sc : Array Value) : Prop where
  p : Ro pb = some (.cells #[.pointer (some ⟨pp, 0, none⟩)] 50 (0, 0))
  s : Ro sb = some (.cells #[.pointer (some ⟨st, 0, none⟩)] 33 (0, 0))
  pp_ : Ro pp = some (.cells pc 83 (0, 0))
  st_ : Ro st = some (.cells sc 49 (0, 0))

set_option maxRecDepth 100000 in
set_option maxHeartbeats 1000000 in
/-- Every node. -/
theorem start_all {Ro : Nat → Option Obj} {pb sb pp st : Nat} {pc sc : Array Value} (R : StartRo Ro pb sb pp st pc sc) (ao : Option Addr) (cp : Nat) (hpc : pc[0]? = some (.slice ao 0 cp)) (tao : Option Addr) (T tc : Nat) (hsc : sc[6]? = some (.slice tao (T + 1) tc)) (hT : T ≤ 65536) :
    Plain Ro 47 #[.pointer (some ⟨pb, 0, none⟩), .pointer (some ⟨sb, 0, none⟩)] T := by
  intro l D C J W hD hRo hCT hown hC hJ hY hJ0
  have nC : ∀ {k o}, Ro k = some o → ¬ C k := fun h c => by have := (hC _ c).2.1; rw [h] at this; cases this
  have rd : ∀ X, Fr C W X → X.cell? ⟨pb, 0, none⟩ = some (.pointer (some ⟨pp, 0, none⟩)) ∧ X.cell? ⟨sb, 0, none⟩ = some (.pointer (some ⟨st, 0, none⟩)) ∧ X.cell? ⟨pp, 0, none⟩ = some (.slice ao 0 cp) ∧ X.cell? ⟨st, 6, none⟩ = some (.slice tao (T + 1) tc) := fun X f => by
    have b1 := f.block (hRo _ _ R.p) (nC R.p)
    have b2 := f.block (hRo _ _ R.s) (nC R.s)
    have b3 := f.block (hRo _ _ R.pp_) (nC R.pp_)
    have b4 := f.block (hRo _ _ R.st_) (nC R.st_)
    refine ⟨cellsB b1, cellsB b2, ?_, ?_⟩
    · rw [cell_of_row X pp 0 _ 83 (0, 0) b3]; exact hpc
    · rw [cell_of_row X st 6 _ 49 (0, 0) b4]; exact hsc
  obtain ⟨r1, r2, r3, r4⟩ := rd W (Fr.refl _ _)
  refine (callsIn_wide (n := 0)).1 (callsIn_of_wp Yba.func47 rfl trivial ?_ rfl)
  simp only [Yba.ntmps47, List.size_toArray, List.length_cons, List.length_nil, Nat.reduceAdd, Nat.reduceSub, Array.replicate_succ, Array.replicate_zero, List.push_toArray, List.append_toArray, List.nil_append, List.cons_append]
  gi_wp2
  gi_loopw [6] (fun v wr => ∃ t : Nat, v = .int .u32 ((t : Int) + 1) ∧ t ≤ T ∧ t < D ∧ J t wr ∧ Fr C W wr) (fun v _ => T + 1 - (intOf v).toNat)
  case atStart => exact ⟨0, rfl, Nat.zero_le _, by omega, hJ0, Fr.refl _ _⟩
  case round =>
    clear r1 r2 r3 r4
    obtain ⟨t, rfl, htT, htD, hJt, f⟩ := hrel
    obtain ⟨r1, r2, r3, r4⟩ := rd wr f
    by_cases hlt : t < T
    · have HY := hY t wr ((t : Int) + 1) hlt htD hJt f.size
      obtain ⟨fn, tmps, assign, body, hy, hR⟩ := HY
      unfold item at hy
      have hlt' : (t : Int) + 1 < (T : Int) + 1 := by omega
      gi_wp2
      refine ⟨rfl, hR.mono ?_⟩
      rintro e W' ⟨rfl, hJ', f2⟩
      have f3 : Fr C W W' := f.trans f2 (fun k _ e => e)
      clear hR hy r1 r2 r3 r4 hJt
      by_cases hd : t + 1 < D
      · have hdd : decide (t + 1 < D) = true := decide_eq_true hd
        gi_wp2
        go_roundw
        case rel => exact ⟨t + 1, by go_num, by omega, hd, hJ', f3⟩
        case measure => simp [intOf]; omega
      · have hdd : decide (t + 1 < D) = false := decide_eq_false hd
        gi_wp2
        refine bodyPost_ret (results_none rfl _ _ _) rfl ?_
        refine ⟨⟨_, rfl⟩, ?_, trivial, f3.mono (fun k _ e => .inr e)⟩
        rw [show min T D = t + 1 by omega]
        exact hJ'
    · have HE : Hid (min T D = t) := by show min T D = t; omega
      gi_wp2
      go_end0
      refine ⟨⟨_, rfl⟩, ?_, trivial, f.mono (fun k _ e => .inr e)⟩
      rw [HE.out]
      exact hJt

end Go.Proofs.Ybulkdkji
