/-
  The start of a run at the listed nodes.
-/
import Derived.Test.YbulkdkjiStart
import Derived.Stop.RegionWithIn
namespace Go.Proofs.Ybulkdkji
open Go.RowKit Go.Shelf
attribute [local go_sem] Oper.semAt_some
set_option linter.unusedVariables false
set_option linter.unusedSimpArgs false

theorem own_form {w : World} {B : Nat} {e : TypeId} {sz : Nat} {v : Value} {n : Nat} {xs : List Value} (h : w.ownsRow B e sz v n xs) : ∃ ao cap, v = .slice ao n cap := by
  rcases h.2 with ⟨rfl, rfl⟩ | ⟨g, cap, cur, rfl, _⟩
  · exact ⟨none, 0, rfl⟩
  · exact ⟨some ⟨g, 0, none⟩, cap, rfl⟩

theorem own_form_pos {w : World} {B : Nat} {e : TypeId} {sz : Nat} {v : Value} {n : Nat} {xs : List Value} (h : w.ownsRow B e sz v n xs) (hn : 0 < n) : ∃ g cap, v = .slice (some ⟨g, 0, none⟩) n cap ∧ B ≤ g ∧ g < w.heap.size := by
  have hl := h.lt
  rcases h.2 with ⟨rfl, rfl⟩ | ⟨g, cap, cur, rfl, _⟩
  · omega
  · exact ⟨g, cap, rfl, hl g rfl⟩

theorem own_at {w : World} {B : Nat} {e : TypeId} {v : Value} {n : Nat} {xs : List Value} (h : w.ownsRow B e 1 v n xs) {i : Nat} {u : Value} (hu : xs[i]? = some u) : ∃ g cap, v = .slice (some ⟨g, 0, none⟩) n cap ∧ B ≤ g ∧ g < w.heap.size ∧ w.cell? ⟨g, i, none⟩ = some u := by
  have hl := h.1
  have hi := (List.getElem?_eq_some_iff.1 hu).1
  obtain ⟨g, cap, hv, h1, h2⟩ := own_form_pos h (by omega)
  refine ⟨g, cap, hv, h1, h2, ?_⟩
  have := h.cells (g := g) (by rw [hv]; rfl) i u hu
  rwa [Addr.add_lit, Nat.zero_add] at this

def ids32 (ids : List Int) : List Value := ids.map (Value.int .u32)

/-- What lookup does. -/
def LookAt (Ro : Nat → Option Obj) (st : Nat) (sv : Value) (m : Nat) : Prop :=
  ∀ X, (∀ k o, Ro k = some o → X.heap[k]? = some o) → Calls Yba.prog 48 #[.pointer (some ⟨st, 0, none⟩), sv] X fun e X' => ∃ v ids, e = .returned v ∧ X'.ownsRow X.heap.size 32 1 v m (ids32 ids) ∧ Below X.heap.size X X'

set_option maxRecDepth 100000 in
set_option maxHeartbeats 1000000 in
/-- The listed nodes. -/
theorem start_list {Ro : Nat → Option Obj} {pb sb pp st : Nat} {pc sc : Array Value} (R : StartRo Ro pb sb pp st pc sc) (ao : Option Addr) (N cp : Nat) (hN : 0 < N) (hNs : N ≤ 1099511627776) (hpc : pc[0]? = some (.slice ao N cp)) (m : Nat) (hm : m ≤ 1099511627776) (hlk : LookAt Ro st (.slice ao N cp) m) :
    Plain Ro 47 #[.pointer (some ⟨pb, 0, none⟩), .pointer (some ⟨sb, 0, none⟩)] m := by
  intro l D C J W hD hRo hCT hown hC hJ hY hJ0
  have b1 := hRo _ _ R.p
  have b2 := hRo _ _ R.s
  have b3 := hRo _ _ R.pp_
  have r1 := cellsB b1
  have r2 := cellsB b2
  have r3 : W.cell? ⟨pp, 0, none⟩ = some (.slice ao N cp) := by rw [cell_of_row W pp 0 _ 83 (0, 0) b3]; exact hpc
  have hl := hlk W hRo
  have hlD := hlk W.drew hRo
  have t0 : decide ((0 : Int) < (N : Int)) = true := by simp; omega
  have t1 : decide (0 < N) = true := by simp; omega
  refine (callsIn_wide (n := 0)).1 (callsIn_of_wp Yba.func47 rfl trivial ?_ rfl)
  simp only [Yba.ntmps47, List.size_toArray, List.length_cons, List.length_nil, Nat.reduceAdd, Nat.reduceSub, Array.replicate_succ, Array.replicate_zero, List.push_toArray, List.append_toArray, List.nil_append, List.cons_append]
  gi_wp2_with fail
  gi_region_with (refine ⟨trivial, rfl, ((callsIn_wide (n := 0)).2 hlD).mono ?_⟩; rintro e X1 ⟨v, ids, rfl, own, bel⟩; obtain ⟨aoi, capi, hvi⟩ := own_form own; subst hvi)
  all_goals
    have fW : Fr (fun _ => False) W X1 := ⟨bel.os, bel.tape, bel.output, bel.size, fun k hk _ => bel.block k hk⟩
    have hsX : W.heap.size ≤ X1.heap.size := fW.size
    have J1 : J 0 X1 := hJ _ _ _ hJ0 (fW.mono (fun _ _ e => e.elim))
    have hil : (ids32 ids).length = m := by have := own.1; omega
    clear hl hlD r1 r2 r3 b1 b2 b3 t0 t1 hJ0 bel
    gi_wp2
    gi_loopw [20] (fun v wr => ∃ t : Nat, v = .int .i64 (t : Int) ∧ t ≤ m ∧ t < D ∧ J t wr ∧ Fr C X1 wr) (fun v _ => m - (intOf v).toNat)
    case atStart => exact ⟨0, rfl, Nat.zero_le _, by omega, J1, Fr.refl _ _⟩
    case round =>
      clear J1
      obtain ⟨t, rfl, htT, htD, hJt, f⟩ := hrel
      by_cases hlt : t < m
      · obtain ⟨x, hx⟩ : ∃ x, ids[t]? = some x := ⟨_, List.getElem?_eq_getElem (by simp [ids32] at hil; omega)⟩
        obtain ⟨g, cap, hv, hg1, hg2, cx⟩ := own_at own (show (ids32 ids)[t]? = some (.int .u32 x) by simp [ids32, hx])
        cases hv
        have cx' := f.cell cx (fun e => by have h1 := (hC _ e).1; have h2 : W.heap.size ≤ g := hg1; simp at h1; omega)
        have HY := hY t wr x hlt htD hJt (by have := f.size; omega)
        obtain ⟨fn, tmps, assign, body, hy, hR⟩ := HY
        unfold item at hy
        have hlt' : (t : Int) < (m : Int) := by omega
        clear hx cx hil
        gi_wp2
        refine ⟨rfl, hR.mono ?_⟩
        rintro e W' ⟨rfl, hJ', f2⟩
        have f3 : Fr C X1 W' := f.trans f2 (fun k _ e => e)
        clear hR hy hJt cx'
        by_cases hd : t + 1 < D
        · have hdd : decide (t + 1 < D) = true := decide_eq_true hd
          gi_wp2
          go_roundw
          case rel => exact ⟨t + 1, by go_num, by omega, hd, hJ', f3⟩
          case measure => simp [intOf]; omega
        · have hdd : decide (t + 1 < D) = false := decide_eq_false hd
          gi_wp2
          refine bodyPost_ret (results_none rfl _ _ _) rfl ?_
          refine ⟨⟨_, rfl⟩, ?_, trivial, (fW.mono (fun _ _ e => e.elim)).trans f3 (fun k _ e => .inr e)⟩
          rw [show min m D = t + 1 by omega]
          exact hJ'
      · have HE : Hid (min m D = t) := by show min m D = t; omega
        gi_wp2
        refine bodyPost_ret (results_none rfl _ _ _) rfl ?_
        refine ⟨⟨_, rfl⟩, ?_, trivial, (fW.mono (fun _ _ e => e.elim)).trans f (fun k _ e => .inr e)⟩
        rw [HE.out]
        exact hJt

end Go.Proofs.Ybulkdkji
