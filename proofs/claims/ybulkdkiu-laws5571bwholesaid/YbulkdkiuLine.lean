/-
  line.
-/
import Derived.Test.YbulkdkiuAppend
namespace Go.Proofs.Ybulkdkiu
open Go.RowKit Go.Maps
set_option linter.unusedVariables false
set_option linter.unusedSimpArgs false

def txt (wd it : ByteArray) : ByteArray := wd ++ { data := #[32] } ++ it

/-- A fresh row of places, none of them of elder blocks. -/
structure Fresh (w : World) (H : Nat) (v : Value) (ps : List (ByteArray × Int)) : Prop where
  own : Pr w H v ps
  some_ : ∃ g c, v = .slice (some ⟨g, 0, none⟩) ps.length c

def LinePost (w : World) (wd it : ByteArray) (ps : List (ByteArray × Int)) (r : Value) (w' : World) : Prop :=
  ∃ g c, r = .agg #[.string (txt wd it), .slice (some ⟨g, 0, none⟩) ps.length c] ∧ Pr w' w.heap.size (.slice (some ⟨g, 0, none⟩) ps.length c) ps ∧ Below w.heap.size w w'

theorem linePost_mk {w w' : World} {wd it : ByteArray} {ps : List (ByteArray × Int)} (g n c : Nat) (hn : ps.length = n) (h1 : Pr w' w.heap.size (.slice (some ⟨g, 0, none⟩) n c) ps) (h2 : Below w.heap.size w w') : LinePost w wd it ps (.agg #[.string (txt wd it), .slice (some ⟨g, 0, none⟩) n c]) w' := by
  subst hn
  exact ⟨g, c, rfl, h1, h2⟩

theorem made_empty (w : World) (o : Obj) {B : Nat} (hB : B ≤ w.heap.size + 1) : (((w.alloc o).alloc (.cells #[] 36))).ownsRow B 36 2 (.slice (some ⟨w.heap.size + 1, 0, none⟩) 0 0) 0 [] := by
  refine ⟨rfl, .inr ⟨w.heap.size + 1, 0, #[], rfl, hB, ?_, Nat.le_refl _, by unfold maxLen; omega, rfl, rfl⟩⟩
  have := heap_alloc_new (w.alloc o) (.cells #[] 36)
  rw [World.size_alloc] at this
  exact this

/-- The world in which line lays its result. -/
structure LineEnd (w w3 : World) (ps : List (ByteArray × Int)) (n g3 c3 : Nat) : Prop where
  row : w3.heap[w.heap.size]? = some (.cells #[.string { data := #[] }, .slice none 0 0] 46 (0, 0))
  r : w3.ownsRow w.heap.size 36 2 (.slice (some ⟨g3, 0, none⟩) n c3) n (pcells ps)
  ne : g3 ≠ w.heap.size
  b : Below w.heap.size w w3

theorem LineEnd.c0 {w w3 : World} {ps : List (ByteArray × Int)} {n g3 c3 : Nat} (h : LineEnd w w3 ps n g3 c3) : w3.cell? ⟨w.heap.size, 0, none⟩ = some (.string { data := #[] }) := by
  rw [cell_of_row w3 w.heap.size 0 _ 46 (0, 0) h.row]; rfl
theorem LineEnd.c1 {w w3 : World} {ps : List (ByteArray × Int)} {n g3 c3 : Nat} (h : LineEnd w w3 ps n g3 c3) : w3.cell? ⟨w.heap.size, 1, none⟩ = some (.slice none 0 0) := by
  rw [cell_of_row w3 w.heap.size 1 _ 46 (0, 0) h.row]; rfl
theorem LineEnd.cf {w w3 : World} {ps : List (ByteArray × Int)} {n g3 c3 : Nat} (h : LineEnd w w3 ps n g3 c3) (j : Nat) : w3.frozen? ⟨w.heap.size, j, none⟩ = false := frozen_of_row w3 _ j _ 46 h.row
theorem LineEnd.blk {w w3 : World} {ps : List (ByteArray × Int)} {n g3 c3 : Nat} (h : LineEnd w w3 ps n g3 c3) (s : ByteArray) :
    ((w3.setCell ⟨w.heap.size, 0, none⟩ (.string s)).setCell ⟨w.heap.size, 1, none⟩ (.slice (some ⟨g3, 0, none⟩) n c3)).heap[w.heap.size]? = some (.cells #[.string s, .slice (some ⟨g3, 0, none⟩) n c3] 46 (0, 0)) := by
  rw [heap_setCell_at (heap_setCell_at h.row _)]
  simp
theorem LineEnd.own {w w3 : World} {ps : List (ByteArray × Int)} {n g3 c3 : Nat} (h : LineEnd w w3 ps n g3 c3) (hn : ps.length = n) (u v : Value) :
    Pr ((w3.setCell ⟨w.heap.size, 0, none⟩ u).setCell ⟨w.heap.size, 1, none⟩ v) w.heap.size (.slice (some ⟨g3, 0, none⟩) n c3) ps := by
  unfold Pr
  rw [hn]
  have hne : (Value.slice (some ⟨g3, 0, none⟩) n c3).ownBlock ≠ some w.heap.size := fun e => h.ne (by simpa [Value.ownBlock] using e)
  exact ownsRow_setCell_other (ownsRow_setCell_other h.r hne u) hne v
theorem LineEnd.below {w w3 : World} {ps : List (ByteArray × Int)} {n g3 c3 : Nat} (h : LineEnd w w3 ps n g3 c3) (u v : Value) :
    Below w.heap.size w ((w3.setCell ⟨w.heap.size, 0, none⟩ u).setCell ⟨w.heap.size, 1, none⟩ v) := (h.b.setCell (Nat.le_refl _) _).setCell (Nat.le_refl _) _

theorem line_end {w w3 : World} {ps : List (ByteArray × Int)} {n : Nat} {v3 : Value} (own3 : w3.ownsRow w.heap.size 36 2 v3 (0 + n) ([] ++ pcells ps)) (G3 : ((w.alloc (.cells #[.string { data := #[] }, .slice none 0 0] 46)).alloc (.cells #[] 36)).grownBy w3 (Value.slice (some ⟨w.heap.size + 1, 0, none⟩) 0 0).ownBlock)
    (hnil : v3 = .slice none 0 0 ↔ (Value.slice (some ⟨w.heap.size + 1, 0, none⟩) 0 0) = .slice none 0 0 ∧ n = 0)
    (hloc : v3.ownBlock = (Value.slice (some ⟨w.heap.size + 1, 0, none⟩) 0 0).ownBlock ∨ v3.ownBlock = some ((w.alloc (.cells #[.string { data := #[] }, .slice none 0 0] 46)).alloc (.cells #[] 36)).heap.size) :
    ∃ g3 c3, v3 = .slice (some ⟨g3, 0, none⟩) n c3 ∧ LineEnd w w3 ps n g3 c3 := by
  have own := own3
  rw [Nat.zero_add, List.nil_append] at own
  obtain ⟨g3, c3, hv⟩ : ∃ g3 c3, v3 = .slice (some ⟨g3, 0, none⟩) n c3 := by
    rcases own.2 with ⟨h, _⟩ | ⟨g, cap, cur, rfl, _⟩
    · have := (hnil.1 h).1
      cases this
    · exact ⟨g, cap, rfl⟩
  subst hv
  refine ⟨g3, c3, rfl, ?_, own, ?_, ?_⟩
  · rw [G3.block w.heap.size (by simp; omega) (by simp [Value.ownBlock])]
    exact (Below.heap_alloc _ _ _ (by simp)).trans (heap_alloc_new w _)
  · rcases hloc with h | h
    · simp [Value.ownBlock] at h; omega
    · simp [Value.ownBlock] at h; omega
  · exact (((Below.refl _ w).alloc (Nat.le_refl _) _).alloc (by simp) _).grown G3 (by simp; omega) (fun k hk => by simp [Value.ownBlock] at hk; omega)

set_option maxHeartbeats 800000 in
theorem line_any {w : World} {B : Nat} {v : Value} {ps : List (ByteArray × Int)} (O : Pr w B v ps) (wd it : ByteArray) (h1 : wd.size ≤ 65536) (h2 : it.size ≤ 65536) (hbig : ps.length ≤ 1048576) :
    Calls Yba.prog 23 #[.string wd, .string it, v] w fun e w' => ∃ r, e = .returned r ∧ LinePost w wd it ps r w' := by
  obtain ⟨i0, hi, hz0, hz1, hz2⟩ := info_parts info36
  unfold Pr at O
  rcases O.2 with ⟨rfl, h0⟩ | ⟨g, cap, cur, rfl, _, hg, _⟩
  · go_enter Yba.func23, Yba.ntmps23
    go_wp2_with fail
    refine bodyPost_ret (results_cell_row rfl _ _ w.heap.size 46 #[.string (wd ++ { data := #[32] } ++ it), .slice (some ⟨w.heap.size + 1, 0, none⟩) 0 0] (0, 0) _ rfl ((Below.heap_alloc _ _ _ (by simp)).trans (heap_alloc_new w _)) Yba.underlying46 rfl (by kernel_rfl)) rfl ?_
    refine ⟨_, rfl, linePost_mk _ _ _ h0 ?_ ?_⟩
    · have : ps = [] := List.length_eq_zero_iff.1 h0
      subst this
      exact made_empty w _ (by omega)
    · exact ((Below.refl _ w).alloc (Nat.le_refl _) _).alloc (by simp) _
  · obtain ⟨n, hn⟩ : ∃ n, ps.length = n := ⟨_, rfl⟩
    have HN : Hid (ps.length = n) := hn
    rw [hn] at O hbig
    rw [hn]
    have hgl := lt_of hg
    have hc : ∀ j u, (pcells ps)[j]? = some u → w.cell? ((⟨g, 0, none⟩ : Addr).add j) = some u := fun j u hu => O.cells (g := g) rfl j u hu
    have HL : Hid ((pcells ps).length = n * 2) := by
      have := pcells_len ps
      rw [hn] at this
      exact this
    clear hg hn
    go_enter Yba.func23, Yba.ntmps23
    go_wp2_with (at_builtin; go_must (refine wpList_append_own_at _ rfl (.tmp 11) (.tmp 12) 42 rfl w.heap.size 36 i0 _ 2 24 Yba.underlying42 hi hz0 hz1 hz2 rfl (by decide) _ _ _ rfl (made_empty w _ (by omega)) ⟨g, 0, none⟩ n cap (pcells ps) rfl HL.out (fun j u hu => ((Fr.refl (fun _ => False) w).alloc _ |>.alloc _).cell (hc j u hu) id) (pcells_one _) (by unfold maxLen; omega) (by omega) (by simp; omega) ?_); intro v3 w3 own3 G3 hnil hloc; have L := line_end own3 G3 hnil hloc; obtain ⟨g3, c3, hv3, hL⟩ := L; subst hv3; have c30 := hL.c0; have c31 := hL.c1; have cf := hL.cf; clear own3 G3 hnil hloc)
    refine bodyPost_ret (results_cell_row rfl _ _ w.heap.size 46 #[.string (wd ++ { data := #[32] } ++ it), .slice (some ⟨g3, 0, none⟩) n c3] (0, 0) _ rfl (hL.blk _) Yba.underlying46 rfl (by kernel_rfl)) rfl ?_
    exact ⟨_, rfl, linePost_mk _ _ _ HN.out (hL.own HN.out _ _) (hL.below _ _)⟩

end Go.Proofs.Ybulkdkiu
