/-
  Path.steps.
-/
import Derived.Test.YbulkdkjiReverse
namespace Go.Proofs.Ybulkdkji
open Go.RowKit Go.Maps
set_option linter.unusedVariables false
set_option linter.unusedSimpArgs false

set_option maxHeartbeats 400000 in
theorem reverse_zero (w : World) (ao : Option Addr) (cap : Nat) : Calls Yba.prog 58 #[.slice ao 0 cap] w fun e w' => e = .returned (.tuple #[]) ∧ w' = w := by
  go_enter Yba.func58, Yba.ntmps58
  go_wp2_with fail
  refine wp_loop_rounds 1 ?_
  rw [rounds_succ]
  go_wp2_with fail
  go_end0
  exact ⟨rfl, rfl⟩

/-- A path in memory, its last step first. -/
def PathIs (w : World) (sv : Value) : List StepM → Nat → Prop
  | [], pp => w.heap[pp]? = some (.cells #[sv, .pointer none, .nilIface] 83 (0, 0))
  | o :: r, pp => ∃ prev, w.heap[pp]? = some (.cells #[sv, .pointer (some ⟨prev, 0, none⟩), .iface 86 (stepV o.1 o.2.2)] 83 (0, 0)) ∧ PathIs w sv r prev

theorem PathIs.frame {S : Nat → Prop} {w w' : World} {sv : Value} (f : Fr S w w') (hS : ∀ k cs, w.heap[k]? = some (.cells cs 83 (0, 0)) → ¬ S k) : ∀ {ops : List StepM} {pp : Nat}, PathIs w sv ops pp → PathIs w' sv ops pp
  | [], pp, h => f.block h (hS _ _ h)
  | o :: r, pp, ⟨prev, h, hr⟩ => ⟨prev, f.block h (hS _ _ h), PathIs.frame f hS hr⟩

theorem PathIs.head {w : World} {sv : Value} : ∀ {ops : List StepM} {pp : Nat}, PathIs w sv ops pp → ∃ a b, w.heap[pp]? = some (.cells #[sv, a, b] 83 (0, 0))
  | [], pp, h => ⟨_, _, h⟩
  | o :: r, pp, ⟨prev, h, hr⟩ => ⟨_, _, h⟩

def stepsC (ops : List StepM) : List Value := ops.map fun o => .iface 86 (stepV o.1 o.2.2)
theorem stepsC_one (ops : List StepM) : ∀ u ∈ stepsC ops, u.oneCell' = true := by
  intro u hu
  simp only [stepsC, List.mem_map] at hu
  obtain ⟨b, _, rfl⟩ := hu
  rfl
theorem cell_one81 (w : World) (v : Value) : ∀ j u, [v][j]? = some u → (w.alloc (.cells #[v] 81)).cell? ((⟨w.heap.size, 0, none⟩ : Addr).add j) = some u := by
  intro j u hj
  match j, hj with
  | 0, hj => simp at hj; subst hj; simp [Addr.add]
theorem info81 : (Yba.prog.info? 81).map (fun i => (i.zero, i.size, i.bytes)) = some (some .nilIface, 1, 16) := by kernel_rfl

theorem row_ne {w : World} {B : Nat} {e : TypeId} {sz : Nat} {v : Value} {n : Nat} {xs : List Value} (h : w.ownsRow B e sz v n xs) {k : Nat} {cs : Array Value} {t : TypeId} (hk : w.heap[k]? = some (.cells cs t (0, 0))) (ht : t ≠ e) (hv : v.ownBlock = some k) : False := by
  rcases h.2 with ⟨rfl, _⟩ | ⟨g, cap, cur, rfl, _, hg, _⟩
  · simp [Value.ownBlock] at hv
  · simp [Value.ownBlock] at hv
    subst hv
    rw [hg] at hk
    simp at hk
    exact ht hk.2.symm

def stepAt (ops : List StepM) (i : Nat) : Value := match ops[i]? with | some o => stepV o.1 o.2.2 | none => undef
theorem stepAt_eq {ops : List StepM} {i : Nat} {o : StepM} (h : ops[i]? = some o) : stepAt ops i = stepV o.1 o.2.2 := by unfold stepAt; rw [h]

def lenOf : Value → Nat
  | .slice _ n _ => n
  | _ => 0

set_option maxRecDepth 100000 in
set_option maxHeartbeats 1000000 in
/-- Up to the reversing. -/
theorem steps_any {w : World} {sv : Value} {rops : List StepM} {pp : Nat} (P : PathIs w sv rops pp) (hl : rops.length ≤ 1099511627776) :
    Calls Yba.prog 50 #[.pointer (some ⟨pp, 0, none⟩)] w fun e w' => ∃ ao cap, e = .returned (.slice ao rops.length cap) ∧ Below w.heap.size w w' ∧ (0 < rops.length → ∃ g, ao = some ⟨g, 0, none⟩ ∧ w.heap.size ≤ g ∧ ∀ i o, rops.reverse[i]? = some o → w'.cell? ⟨g, i, none⟩ = some (.iface 86 (stepV o.1 o.2.2))) := by
  obtain ⟨i0, hi, hz0, hz1, hz2⟩ := info_parts info81
  go_enter Yba.func50, Yba.ntmps50
  go_wp2_with fail
  go_loopw [3, 4] (fun v q wr => ∃ (dn rest : List StepM) (qb : Nat), rops = dn ++ rest ∧ q = .pointer (some ⟨qb, 0, none⟩) ∧ PathIs wr sv rest qb ∧ wr.ownsRow w.heap.size 81 1 v dn.length (stepsC dn) ∧ Below w.heap.size w wr) (fun v _ _ => rops.length - lenOf v)
  case atStart => exact ⟨[], rops, pp, rfl, rfl, P, World.ownsRow_nil _ _ _ _, Below.refl _ _⟩
  case round =>
    obtain ⟨dn, rest, qb, hr, rfl, PR, own, bel⟩ := hrel
    obtain ⟨aov, capv, hv⟩ := own_form own
    subst hv
    have hlen : rops.length = dn.length + rest.length := by rw [hr]; simp
    cases rest with
    | nil =>
      have c1 : wr.cell? ⟨qb, 1, none⟩ = some (.pointer none) := by rw [cell_of_row wr qb 1 _ 83 (0, 0) PR]; rfl
      have hrr : rops = dn := by rw [hr]; simp
      subst hrr
      clear hr
      by_cases h0 : rops.length = 0
      · rw [h0]
        go_wp2_with fail
        refine (reverse_zero wr aov capv).mono ?_
        rintro e w' ⟨rfl, hw⟩
        rw [hw]
        go_wp2_with fail
        go_ret
        rw [h0]
        exact ⟨aov, capv, rfl, bel, fun h => by omega⟩
      · obtain ⟨g, capg, hvg, hg1, hg2⟩ := own_form_pos own (by omega)
        cases hvg
        obtain ⟨cur, hcur, hcs, hck⟩ : ∃ cur, wr.heap[g]? = some (.cells cur 81 (0, 0)) ∧ cur.size = capv ∧ ∀ k, k < rops.length → cur[k]? = some (.iface 86 (stepAt rops k)) := by
          rcases own.2 with ⟨hv, _⟩ | ⟨g', cap', cur, hv, _, hg, hnc, _, hs, ht⟩
          · cases hv
          · cases hv
            refine ⟨cur, hg, by omega, fun k hk => ?_⟩
            have h1 : (cur.toList.take (rops.length * 1))[k]? = cur.toList[k]? := List.getElem?_take_of_lt (by omega)
            rw [ht] at h1
            have h2 : (stepsC rops)[k]? = some (.iface 86 (stepV (rops[k]).1 (rops[k]).2.2)) := by simp [stepsC, hk]
            rw [h2] at h1
            rw [stepAt_eq (List.getElem?_eq_getElem hk)]
            simpa using h1.symm
        have hrv := reverse_any g rops.length capv capv (stepAt rops) (by omega) hl ⟨cur, hcur, hcs, hck⟩
        have HRV : Hid (Calls Yba.prog 58 #[.slice (some ⟨g, 0, none⟩) rops.length capv] wr fun e w' => e = .returned (.tuple #[]) ∧ Fr (fun k => k = g) wr w' ∧ ∃ cur, w'.heap[g]? = some (.cells cur 81 (0, 0)) ∧ cur.size = capv ∧ ∀ k, k < rops.length → cur[k]? = some (.iface 86 (stepAt rops (rops.length - 1 - k)))) := hrv
        clear hck hcur hrv hcs hlen
        go_wp2_with fail
        refine HRV.out.mono ?_
        rintro e w' ⟨rfl, f2, cur2, b2, hx2, d2⟩
        have HB : Hid (w'.heap[g]? = some (.cells cur2 81 (0, 0))) := b2
        have HD : Hid (∀ k, k < rops.length → cur2[k]? = some (.iface 86 (stepAt rops (rops.length - 1 - k)))) := d2
        have HG : Hid (w.heap.size ≤ g) := hg1
        clear HRV b2 d2 hx2 own hg1 hg2 PR c1 P h0
        go_wp2_with fail
        go_ret
        refine ⟨some ⟨g, 0, none⟩, capv, rfl, bel.trans (f2.below bel.size (fun k hk => by have := HG.out; omega)), fun _ => ⟨g, rfl, HG.out, fun i o ho => ?_⟩⟩
        have hil := (List.getElem?_eq_some_iff.1 ho).1
        rw [List.length_reverse] at hil
        rw [cell_of_row w' g i _ 81 (0, 0) HB.out, HD.out i hil]
        rw [List.getElem?_reverse hil] at ho
        rw [stepAt_eq ho]
    | cons o r =>
      obtain ⟨prev, hb, hrest⟩ := PR
      have c1 : wr.cell? ⟨qb, 1, none⟩ = some (.pointer (some ⟨prev, 0, none⟩)) := by rw [cell_of_row wr qb 1 _ 83 (0, 0) hb]; rfl
      have c2 : wr.cell? ⟨qb, 2, none⟩ = some (.iface 86 (stepV o.1 o.2.2)) := by rw [cell_of_row wr qb 2 _ 83 (0, 0) hb]; rfl
      have HR : Hid (rops = (dn ++ [o]) ++ r) := by show rops = _; rw [hr]; simp
      have hB := bel.size
      have hlen2 : dn.length + 1 ≤ rops.length := by rw [hlen]; simp
      clear hr hlen
      have hlb := lt_of hb
      go_wp2_with (at_builtin; go_must (refine wpList_append_own_at _ rfl (.tmp 15) (.tmp 20) 116 rfl w.heap.size 81 i0 .nilIface 1 16 Yba.underlying116 hi hz0 hz1 hz2 rfl (by decide) _ _ _ rfl (own.alloc _) ⟨wr.heap.size, 0, none⟩ 1 1 [.iface 86 (stepV o.1 o.2.2)] rfl rfl (cell_one81 wr _) (by intro u hu; simp at hu; subst hu; rfl) (by unfold maxLen; omega) (by omega) (by simp; omega) ?_); intro v3 w3 own3 G3 _ hloc; have f3 : Fr (fun k => (Value.slice aov dn.length capv).ownBlock = some k) wr w3 := (((Fr.refl _ wr).alloc _).grown G3 (fun k hk _ => hk)); have nt : ∀ k cs, wr.heap[k]? = some (.cells cs 83 (0, 0)) → ¬ (Value.slice aov dn.length capv).ownBlock = some k := (fun k cs hk e => row_ne own hk (by decide) e); have hb3 := f3.block hb (nt _ _ hb); have c13 : w3.cell? ⟨qb, 1, none⟩ = some (.pointer (some ⟨prev, 0, none⟩)) := (by rw [cell_of_row w3 qb 1 _ 83 (0, 0) hb3]; rfl))
      obtain ⟨ao3, cap3, hv3⟩ := own_form own3
      subst hv3
      go_roundw
      case rel => exact ⟨dn ++ [o], r, prev, HR.out, rfl, hrest.frame f3 nt, by rw [List.length_append]; simpa [stepsC] using own3, (bel.alloc hB _).grown G3 (by simp; omega) (fun k hk => (own.lt k hk).1)⟩
      case measure => simp [lenOf]; omega

end Go.Proofs.Ybulkdkji
