/-
  appendPlace; line.
-/
import Derived.Test.YbulkdkiuModel
import Derived.Laws.AppendOwnNone
namespace Go.Proofs.Ybulkdkiu
open Go.RowKit Go.Maps
set_option linter.unusedVariables false
set_option linter.unusedSimpArgs false

/-- A row of places that may be appended to. -/
def Pr (w : World) (B : Nat) (v : Value) (ps : List (ByteArray × Int)) : Prop := w.ownsRow B 36 2 v ps.length (pcells ps)

/-- What appendPlace leaves. -/
def ApPost (w : World) (B : Nat) (v : Value) (n : Nat) (v' : Value) (w' : World) : Prop :=
  ∃ ps', Pr w' B v' ps' ∧ ps'.length ≤ n + 1 ∧ Fr (fun k => v.ownBlock = some k) w w' ∧ LocB w v v'

theorem own_drewN {w : World} {B : Nat} {e : TypeId} {sz : Nat} {v : Value} {n : Nat} {xs : List Value} (h : w.ownsRow B e sz v n xs) (q : Nat) : (w.drewN q).ownsRow B e sz v n xs := h

theorem cell_one36 (w : World) (a : ByteArray) (x : Int) : ∀ j u, (pcells [(a, x)])[j]? = some u → (w.alloc (.cells #[.string a, .int .i64 x] 36)).cell? ((⟨w.heap.size, 0, none⟩ : Addr).add j) = some u := by
  intro j u hj
  match j, hj with
  | 0, hj => simp [pcells] at hj; subst hj; simp [Addr.add]
  | 1, hj => simp [pcells] at hj; subst hj; simp [Addr.add]

theorem cell_two36 (w : World) (a : ByteArray) (x : Int) (o : Obj) (q : Nat) : ∀ j u, (pcells [(a, x)])[j]? = some u → (((w.alloc o).drewN q).alloc (.cells #[.string a, .int .i64 x] 36)).cell? ((⟨w.heap.size + 1, 0, none⟩ : Addr).add j) = some u := by
  have e : ((w.alloc o).drewN q).heap.size = w.heap.size + 1 := World.size_alloc w o
  have := cell_one36 ((w.alloc o).drewN q) a x
  rw [e] at this
  exact this

theorem ap_new {w w3 : World} {B : Nat} {v v3 : Value} {ps : List (ByteArray × Int)} {a : ByteArray} {x : Int} {o1 o2 : Obj} {q : Nat} (own3 : w3.ownsRow B 36 2 v3 (ps.length + 1) (pcells ps ++ pcells [(a, x)])) (G3 : (((w.alloc o1).drewN q).alloc o2).grownBy w3 v.ownBlock) (hloc : v3.ownBlock = v.ownBlock ∨ v3.ownBlock = some (((w.alloc o1).drewN q).alloc o2).heap.size) :
    ApPost w B v ps.length v3 w3 := by
  refine ⟨ps ++ [(a, x)], ?_, by simp, ?_, ?_⟩
  · unfold Pr
    rw [pcells_append, List.length_append]
    exact own3
  · exact ((((Fr.refl _ w).alloc o1).drewN q).alloc o2).grown G3 (fun k hk _ => hk)
  · intro g hg
    rcases hloc with hl | hl
    · exact .inl (hl.symm.trans hg)
    · rw [hl] at hg
      cases hg
      exact .inr (by simp; omega)

set_option maxHeartbeats 800000 in
theorem appendPlace_any {w : World} {B : Nat} {v : Value} {ps : List (ByteArray × Int)} (O : Pr w B v ps) (hB : B ≤ w.heap.size) (a : ByteArray) (x : Int) (hbig : ps.length ≤ 1048576) :
    Calls Yba.prog 19 #[v, .agg #[.string a, .int .i64 x]] w fun e w' => ∃ v', e = .returned v' ∧ ApPost w B v ps.length v' w' := by
  unfold Pr at O
  obtain ⟨i0, hi, hz0, hz1, hz2⟩ := info_parts info36
  have a36 := Yba.isAgg36
  have z36 := Yba.sizeOf36
  have heq := eq36
  by_cases h0 : ps.length = 0
  · obtain ⟨ao, cap, hv⟩ := own_form O
    rw [h0] at hv
    subst hv
    have t0 : decide ((0 : Int) < ((0 : Nat) : Int)) = false := by simp
    go_enter Yba.func19, Yba.ntmps19
    go_wp2_with fail
    go_quiet (fail)
    go_wp2_with (at_builtin; go_must (refine wpList_append_own_at _ rfl (.tmp 20) (.tmp 22) 42 rfl B 36 i0 _ 2 24 Yba.underlying42 hi hz0 hz1 hz2 rfl (by decide) _ _ _ rfl ((own_drewN (O.alloc _) _).alloc _) ⟨w.heap.size + 1, 0, none⟩ 1 1 (pcells [(a, x)]) rfl rfl (cell_two36 w a x _ _) (pcells_one _) (by unfold maxLen; omega) (by omega) (by simp; omega) ?_); intro v3 w3 own3 G3 _ hloc)
    go_ret
    exact ⟨_, rfl, ap_new own3 G3 hloc⟩
  · obtain ⟨m, hm⟩ : ∃ m, ps.length = m + 1 := ⟨ps.length - 1, by omega⟩
    obtain ⟨g, cap, hv, hgB, hgl⟩ := own_form_pos O (by omega)
    subst hv
    obtain ⟨y, hy⟩ : ∃ y, ps[m]? = some y := ⟨_, List.getElem?_eq_getElem (by omega)⟩
    obtain ⟨e0, e1⟩ := pcells_get ps m y hy
    have g0 := O.cells (g := g) rfl _ _ e0
    have g1 := O.cells (g := g) rfl _ _ e1
    rw [Addr.add_lit, Nat.zero_add] at g0 g1
    obtain ⟨n, hn⟩ : ∃ n, ps.length = n := ⟨_, rfl⟩
    have HN : Hid (ps.length = n) := hn
    have hmn : m < n := by omega
    have hw : IntKind.i64.wrap ((n : Int) - 1) = (m : Int) := by rw [IntKind.wrap_i64]; omega
    have t0 : decide ((0 : Int) < (n : Int)) = true := by simp; omega
    have t1 : decide (0 < n) = true := by simp; omega
    have t2 : 0 < n := by omega
    have HO : Hid (w.ownsRow B 36 2 (.slice (some ⟨g, 0, none⟩) ps.length cap) ps.length (pcells ps)) := O
    rw [hn] at O hbig
    rw [hn]
    clear e0 e1 hy hn hm h0
    cases hb : (y.1.toList == a.toList && y.2 == x) with
    | true =>
      go_enter Yba.func19, Yba.ntmps19
      go_wp2_with fail
      go_quiet (fail)
      go_wp2_with fail
      go_ret
      refine ⟨_, rfl, ps, ?_, by have := HN.out; omega, ((Fr.refl _ w).alloc _).drewN _, LocB.refl _ _⟩
      have := own_drewN (HO.out.alloc (.cells #[.string a, .int .i64 x] 36)) nq
      rw [HN.out] at this
      unfold Pr
      rw [HN.out]
      exact this
    | false =>
      go_enter Yba.func19, Yba.ntmps19
      go_wp2_with fail
      go_quiet (fail)
      go_wp2_with (at_builtin; go_must (refine wpList_append_own_at _ rfl (.tmp 20) (.tmp 22) 42 rfl B 36 i0 _ 2 24 Yba.underlying42 hi hz0 hz1 hz2 rfl (by decide) _ _ _ rfl ((own_drewN (O.alloc _) _).alloc _) ⟨w.heap.size + 1, 0, none⟩ 1 1 (pcells [(a, x)]) rfl rfl (cell_two36 w a x _ _) (pcells_one _) (by unfold maxLen; omega) (by omega) (by simp; omega) ?_); intro v3 w3 own3 G3 _ hloc)
      go_ret
      have e := HN.out
      subst e
      exact ⟨_, rfl, ap_new own3 G3 hloc⟩

end Go.Proofs.Ybulkdkiu
