/-
  Count.
-/
import Derived.Test.YbulkdkjiStore
namespace Go.Proofs.Ybulkdkji
open Go.RowKit Go.Shelf
attribute [local go_sem] Oper.semAt_some
set_option linter.unusedVariables false
set_option linter.unusedSimpArgs false

theorem costs_le {B : Nat} : ∀ (ops : List StepM) (cost : Nat → Nat), (∀ D, cost D ≤ B) → ∀ D, costs ops cost D ≤ B
  | [], cost, h => h
  | o :: r, cost, h => costs_le r _ (fun D => by
      show stepCost o.1 o.2.1 cost D ≤ B
      unfold stepCost
      split
      · exact h _
      · split
        · exact h _
        · exact h _)

theorem RunAt.below {w w' : World} {Ro0 : Nat → Option Obj} {pp st m cb K : Nat} {et : TypeId} {ep : Value} {sv : Value} {rops : List StepM} (R : RunAt w Ro0 pp st m cb K et ep sv rops) (f : Fr (fun _ => False) w w') : RunAt w' Ro0 pp st m cb K et ep sv rops :=
  ⟨R.start, fun k o hk => f.block (R.ro k o hk) id, R.cb_, R.ct.of (fun k e => f.old k (by subst e; exact lt_of (show w.heap[k]? = some _ from R.ct)) id), R.path.frame f (fun _ _ _ => id), ⟨fun o ho => ⟨f.block (R.steps.at_ o ho).1 id, (R.steps.at_ o ho).2⟩, R.steps.nodup⟩, R.hm, R.hK, R.hl⟩

/-- What Count answers. -/
def countV (K : Nat) (E : Value) (sup calls : Nat) : Value := if calls + 1 ≤ K then .tuple #[.int .i64 (sup : Int), .nilIface] else .tuple #[.int .i64 0, E]

set_option maxRecDepth 100000 in
set_option maxHeartbeats 2000000 in
theorem count_any {w : World} {tv iv qv ov nv : Value} {Ro0 : Nat → Option Obj} {pp st m cb K : Nat} {et : TypeId} {ep : Value} {sv : Value} {rops : List StepM} (hS : StoreAt w st 0 0 tv iv qv ov nv) (R : RunAt (w.setCell ⟨st, 4, none⟩ (.int .i32 1)) Ro0 pp st m cb K et ep sv rops) (hsc : st ≠ cb) :
    Calls Yba.prog 10 #[.pointer (some ⟨pp, 0, none⟩), .iface 59 (.pointer (some ⟨cb, 0, none⟩)), .pointer (some ⟨st, 0, none⟩)] w fun e w' =>
      e = .returned (countV K (.iface et ep) (sups rops.reverse (min m K)) (costs rops.reverse (fun D => min m (min (K + 1) D)) (sups rops.reverse (min m K) + 1))) ∧ CT cb K (.iface et ep) (costs rops.reverse (fun D => min m (min (K + 1) D)) (sups rops.reverse (min m K) + 1) + 1) w' ∧ Fr (fun k => k = cb) w w' := by
  obtain ⟨sup, hsup⟩ : ∃ sup, sup = sups rops.reverse (min m K) := ⟨_, rfl⟩
  obtain ⟨cost, hcost⟩ : ∃ cost, cost = costs rops.reverse (fun D => min m (min (K + 1) D)) := ⟨_, rfl⟩
  rw [← hsup, ← hcost]
  have hm := R.hm
  have hK := R.hK
  have hsm : sup ≤ 1099511627776 := by have := sups_le rops.reverse (min m K); omega
  have hcm : ∀ D, cost D ≤ 1099511627776 := by rw [hcost]; exact costs_le _ _ (fun D => by omega)
  have HR : Hid (RunAt (w.setCell ⟨st, 4, none⟩ (.int .i32 1)) Ro0 pp st m cb K et ep sv rops) := R
  have lst := lt_of (show w.heap[st]? = some _ from hS)
  have hs1 : StoreAt (w.setCell ⟨st, 4, none⟩ (.int .i32 1)) st 0 1 tv iv qv ov nv := hS.set4
  have hrl := store_rlock hS
  have hme := meth_err
  have eg26 : ∀ args w, (callFunc 26 args).run Yba.prog w = .ok (.enter 26 args) w := enters_of Yba.func26 (by kernel_rfl) rfl
  clear R
  refine (callsIn_wide (n := 0)).1 (callsIn_of_wp_marks Yba.func10 rfl trivial ?_ rfl)
  simp only [Yba.ntmps10, List.size_toArray, List.length_cons, List.length_nil, Nat.reduceAdd, Nat.reduceSub, Array.replicate_succ, Array.replicate_zero, List.push_toArray, List.append_toArray, List.nil_append, List.cons_append]
  gi_wp2
  refine ⟨trivial, rfl, ((callsIn_wide (n := 0)).2 hrl).mono ?_⟩
  rintro e w1 ⟨rfl, hw1⟩
  have f1 : Fr (fun k => k = cb ∨ k = st) w w1 := by rw [hw1]; exact (Fr.refl _ w).setCell (p := ⟨st, 4, none⟩) (fun _ => .inr rfl) _
  rw [← hw1] at HR hs1
  have hS0 : Hid (StoreAt w st 0 0 tv iv qv ov nv) := hS
  clear hw1 hrl hS
  gi_wp2
  have R2 := HR.out.below (w' := w1.alloc (.cells #[.int .i64 0] 3)) ((Fr.refl _ w1).alloc _)
  have hres := results_any R2
  have hn2 : (w1.alloc (.cells #[.int .i64 0] 3)).heap[w1.heap.size]? = some (.cells #[.int .i64 0] 3 (0, 0)) := heap_alloc_new w1 _
  have f2 : Fr (fun _ => False) w1 (w1.alloc (.cells #[.int .i64 0] 3)) := (Fr.refl _ w1).alloc _
  obtain ⟨w2, hw2⟩ : ∃ w2, w2 = w1.alloc (.cells #[.int .i64 0] 3) := ⟨_, rfl⟩
  rw [← hw2] at R2 hres hn2 f2 ⊢
  refine ⟨trivial, rfl, ((callsIn_wide (n := 0)).2 hres).mono ?_⟩
  rintro e w3 ⟨v, rfl, hCh, b3⟩
  rw [← hsup, ← hcost] at hCh
  clear hsup hcost
  obtain ⟨gf, lb, Ro, rfl, hsq, eg, hRo, hDom⟩ := hCh
  have f3 : Fr (fun _ => False) w2 w3 := Fr.ofBelow b3
  have hn3 := f3.block hn2 id
  have lcb : cb < w1.heap.size := lt_of (show w1.heap[cb]? = some _ from HR.out.ct)
  have s3 := f3.size
  have ls1 := lt_of (show w1.heap[st]? = some _ from hs1)
  have hs3 := (hs1.frame f2 id).frame f3 id
  have hRon : Ro w1.heap.size = none := by
    cases h : Ro w1.heap.size with
    | none => rfl
    | some o =>
      rcases (hDom _ _ h).2 with ⟨o2, h2⟩ | ⟨o2, h2, h3⟩ | h2
      · have := lt_of (HR.out.ro _ _ h2); omega
      · have := lt_of (HR.out.steps.at_ o2 (by simpa using h2)).1; omega
      · have := lt_of hn2; omega
  have ln3 := lt_of hn3
  have ct3 : CT cb K (.iface et ep) 0 w3 := f3.block R2.ct id
  have ls3 := lt_of (show w3.heap[st]? = some _ from hs3)
  have f13 : Fr (fun k => k = cb ∨ k = st) w w3 := (f1.trans f2 (fun _ _ e => e.elim)).trans f3 (fun _ _ e => e.elim)
  have snb : w.heap.size ≤ w1.heap.size := f1.size
  clear hw2 hres b3 R2 HR f1 f2 hs1 f3 hDom hn2
  gi_wp2
  refine range_sq hsq rfl eg (sup + 1) (by omega) (fun k => k = w1.heap.size) (fun t X => X.heap[w1.heap.size]? = some (.cells #[.int .i64 (t : Int)] 3 (0, 0)))
    hRo ct3 (fun c W W' h hk => h.of (fun k e => hk k e)) (fun k e => by omega) ?C ?I ?h0 rfl
    (fun id a' X => a' = { tmps := #[.pointer (some ⟨pp, 0, none⟩), .iface 59 (.pointer (some ⟨cb, 0, none⟩)), .pointer (some ⟨st, 0, none⟩), undef, undef, undef, .int .i64 0, .nilIface, .pointer (some ⟨w1.heap.size, 0, none⟩), undef, .pointer (some ⟨st, 0, none⟩), .pointer (some ⟨st, 0, none⟩), .pointer (some ⟨st, 0, none⟩), .tuple #[], .pointer (some ⟨st, 0, none⟩), .pointer (some ⟨st, 0, none⟩), .pointer (some ⟨st, 0, none⟩), .pointer (some ⟨pp, 0, none⟩), .iface 59 (.pointer (some ⟨cb, 0, none⟩)), .pointer (some ⟨st, 0, none⟩), .func (.func gf) #[] lb, item id, undef, undef, undef, undef, undef, undef, undef, undef], defers := [] }) (fun _ _ _ _ _ _ h _ => h) ?assign ?body ?fin
  case C =>
    rintro k rfl
    exact ⟨ln3, hRon, by omega⟩
  case I =>
    rintro t A B hi fr
    exact fr.block hi (by rintro (e | e) <;> omega)
  case h0 => exact hn3
  case assign =>
    intro l t id X K hi hsz hK
    gi_wp2
    exact hK _ _ (Fr.refl _ X) (by simp)
  case body =>
    rintro l t id a' X hts htD hi hsz rfl
    have c1 := cellsB hi
    have cf := frozen_of_row X w1.heap.size 0 _ 3 hi
    have f1 : Fr (fun k => k = w1.heap.size) X (X.setCell ⟨w1.heap.size, 0, none⟩ (.int .i64 ((t : Int) + 1))) := (Fr.refl (fun k => k = w1.heap.size) X).setCell (p := ⟨w1.heap.size, 0, none⟩) (fun _ => rfl) _
    have HP : Hid ((X.setCell ⟨w1.heap.size, 0, none⟩ (.int .i64 ((t : Int) + 1))).heap[w1.heap.size]? = some (.cells #[.int .i64 (((t + 1 : Nat) : Int))] 3 (0, 0))) := by
      show _ = _
      simp only [World.setCell, Array.getElem?_modify, if_true, hi, Option.map_some]
      simp
    have HE : Hid (t + 1 < sup + 1) := by show _ < _; omega
    clear hi
    gi_wp2
    exact ⟨HE.out, HP.out, f1⟩
  case fin =>
    rintro B X hB hi hct fr hKB
    rw [if_pos (Nat.lt_succ_self _)]
    rw [show min sup (sup + 1) = sup by omega] at hi
    have hsB : B < X.heap.size := lt_of hKB
    have hsX := hs3.frame fr (by rintro (e | e) <;> omega)
    have fX : Fr (fun k => k = cb ∨ k = st) w X := f13.trans fr (fun k hk e => by rcases e with e | e; exact .inl e; omega)
    clear hs3 f13 fr hn3 ct3 hsq eg hRo hRon
    gi_wp2
    refine ⟨trivial, rfl, ((callsIn_wide (n := 0)).2 (err_any hct hK (hcm _))).mono ?_⟩
    rintro e X1 ⟨rfl, ct1, f1⟩
    have hs1 := hsX.frame f1 (fun e => hsc e)
    have fX1 : Fr (fun k => k = cb ∨ k = st) w X1 := fX.trans f1 (fun k hk e => .inl e)
    have hi1 := f1.block hi (by omega)
    have hKB1 := f1.block hKB (by omega)
    have c1 := cellsB hi1
    have sX1 := f1.size
    have hp : Fr (fun _ => False) X1 (X1.putObj B (.deferred none)) → True := fun _ => trivial
    have nB : B ≠ st := by omega
    have nC : cb ≠ B := by omega
    have hs2 : StoreAt (X1.putObj B (.deferred none)) st 0 1 tv iv qv ov nv := (World.putObj_heap_other (fun e => nB e.symm)).trans hs1
    have HL : Hid (CT cb K (.iface et ep) (cost (sup + 1) + 1) ((X1.putObj B (.deferred none)).setCell ⟨st, 4, none⟩ (.int .i32 0)) ∧ Fr (fun k => k = cb) w ((X1.putObj B (.deferred none)).setCell ⟨st, 4, none⟩ (.int .i32 0))) := by
      refine ⟨ct1.of (fun k e => ?_), ?_⟩
      · subst e
        exact (Below.heap_setCell _ _ _ k (fun e => hsc e.symm)).trans (World.putObj_heap_other nC)
      · refine Fr.back (st := st) ((fX1.putObj (fun h => by omega) _).setCell (p := ⟨st, 4, none⟩) (fun _ => .inr rfl) _) ?_
        exact (show _ = some _ from hs2.set4).trans (show w.heap[st]? = some _ from hS0.out).symm
    clear hi hct hsX fX f1 hi1 hKB ct1 fX1 hp
    by_cases hle : cost (sup + 1) + 1 ≤ K
    · have ha : ans K (.iface et ep) (cost (sup + 1)) = .nilIface := by unfold ans; rw [if_pos hle]
      have hv : countV K (.iface et ep) sup (cost (sup + 1)) = .tuple #[.int .i64 (sup : Int), .nilIface] := by unfold countV; rw [if_pos hle]
      rw [ha]
      gi_wp2
      refine ⟨by simp, .inl ⟨_, _, rfl, run_takeDeferred hKB1, ?_⟩⟩
      refine ⟨by simp, .inr ⟨fun h => (by cases h), _, _, 26, _, rfl, (by simp [invoke, go_sem, eg26]), fun _ _ => trivial, (store_runlock .returning hs2).mono ?_⟩⟩
      rintro e u' w' ⟨rfl, rfl, rfl⟩
      exact ⟨_, results_tmp2 rfl _ _ _, by rw [hv]; rfl, HL.out⟩
    · have ha : ans K (.iface et ep) (cost (sup + 1)) = .iface et ep := by unfold ans; rw [if_neg hle]
      have hv : countV K (.iface et ep) sup (cost (sup + 1)) = .tuple #[.int .i64 0, .iface et ep] := by unfold countV; rw [if_neg hle]
      rw [ha]
      gi_wp2
      refine ⟨by simp, .inl ⟨_, _, rfl, run_takeDeferred hKB1, ?_⟩⟩
      refine ⟨by simp, .inr ⟨fun h => (by cases h), _, _, 26, _, rfl, (by simp [invoke, go_sem, eg26]), fun _ _ => trivial, (store_runlock .returning hs2).mono ?_⟩⟩
      rintro e u' w' ⟨rfl, rfl, rfl⟩
      exact ⟨_, results_tmp2 rfl _ _ _, by rw [hv]; rfl, HL.out⟩

end Go.Proofs.Ybulkdkji
