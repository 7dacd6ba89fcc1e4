/-
  From the readings of LawS5571CWhole's arguments to what its walk is told.
-/
import Derived.Test.YbulkdkiuLawC
import Derived.ProofKit
import Derived.SizedLaws
import Derived.Deep.SlicePairs
namespace Go.Proofs.Ybulkdkiu
open Go.ChangeShapes Go.WideShapes Go.ChangeAt Go.RowKit Go.Deep
set_option linter.unusedVariables false
set_option linter.unusedSimpArgs false

theorem cells36 : Yba.prog.cellsOf 36 = 2 := by kernel_rfl
theorem cells51 : Yba.prog.cellsOf 51 = 2 := by kernel_rfl
theorem cells9 : Yba.prog.cellsOf 9 = 1 := by kernel_rfl
theorem cells3 : Yba.prog.cellsOf 3 = 1 := by kernel_rfl
theorem cells42 : Yba.prog.cellsOf 42 = 1 := by kernel_rfl
theorem bytes36 : Yba.prog.bytesOf 36 = 24 := by kernel_rfl

/-- From the pairs of cells to the row of cells. -/
theorem pcells_cells {w : World} {ad : Addr} {ps : List (ByteArray × Int)} (h : ∀ (i : Nat) x, ps[i]? = some x → w.cell? (ad.add (i * 2)) = some (.string x.1) ∧ w.cell? (ad.add (i * 2 + 1)) = some (.int .i64 x.2)) :
    ∀ j v, (pcells ps)[j]? = some v → w.cell? (ad.add j) = some v := by
  intro j v hv
  have hj := (List.getElem?_eq_some_iff.1 hv).1
  rw [pcells_len] at hj
  obtain ⟨x, hx⟩ : ∃ x, ps[j / 2]? = some x := ⟨_, List.getElem?_eq_getElem (by omega)⟩
  obtain ⟨e0, e1⟩ := pcells_get ps _ x hx
  obtain ⟨c0, c1⟩ := h _ x hx
  rcases Nat.mod_two_eq_zero_or_one j with hm | hm
  · have e : j / 2 * 2 = j := by omega
    rw [e] at e0 c0
    rw [e0] at hv; cases hv; exact c0
  · have e : j / 2 * 2 + 1 = j := by omega
    rw [e] at e1 c1
    rw [e1] at hv; cases hv; exact c1

theorem open_places {H : Type} {enc : TypeId × Value → H} {W : World} {base : Nat} {spare : Nat → Bool} {held : Bool} {fuel : Nat} {v : Value} {x : DataW H × List MemPlace} (h : DataW.trod enc Yba.prog W base spare held fuel 42 [v] = some x) :
    ∃ ps, PS W v ps ∧ ps.length ≤ maxLen ∧ (ps = [] ∨ ∃ el sp, x.1 = .slice el sp ∧ el.length = ps.length) := by
  rcases open_slice_pairs Yba.underlying42 Yba.underlying36 cells36 rfl rfl cells9 cells3 h with ⟨hcs, _⟩ | ⟨a, len, cap, m, n, V0, V1, D0, D1, P0, P1, hcs, _, hl, hm, hmm, rfl, hx⟩
  · simp at hcs
    exact ⟨[], .inl ⟨hcs, rfl⟩, by simp, .inl rfl⟩
  · simp at hcs
    subst hcs
    have hlm : len ≤ m := by rw [hmm]; split <;> omega
    obtain ⟨f, hf⟩ := choose_lt (α := ByteArray × Int) (n := len) (p := fun i y => W.cell? (a.add (i * 2)) = some (.string y.1) ∧ W.cell? (a.add (i * 2 + 1)) = some (.int .i64 y.2)) (fun i hi => by
      obtain ⟨c0, c1, t0, t1⟩ := hx i (by omega)
      obtain ⟨s, e0, _⟩ := DataW.trod_string Yba.underlying9 t0
      obtain ⟨z, e1, _⟩ := DataW.trod_int Yba.underlying3 t1
      simp at e0 e1
      exact ⟨(s, z), by rw [c0, e0], by rw [c1, e1]⟩)
    refine ⟨(List.range len).map f, .inr ⟨a, len, cap, rfl, by simp, pcells_cells (fun i y hy => ?_)⟩, by simp; omega, .inr ⟨_, _, rfl, by simp⟩⟩
    have hi := (List.getElem?_eq_some_iff.1 hy).1
    simp at hi
    simp [hi] at hy
    subst hy
    exact hf i hi

end Go.Proofs.Ybulkdkiu
