/-
  The state of LawS5571BWhole's main loop.
-/
import Derived.Test.YbulkdkiuLines
namespace Go.Proofs.Ybulkdkiu
open Go.RowKit Go.Maps
set_option linter.unusedVariables false
set_option linter.unusedSimpArgs false

def tabS : List ByteArray := [{ data := #[97] }, { data := #[98] }, { data := #[99] }, { data := #[] }, { data := #[100, 32, 101] }]
def tabC : Array Value := #[.string { data := #[97] }, .string { data := #[98] }, .string { data := #[99] }, .string { data := #[] }, .string { data := #[100, 32, 101] }]

/-- The strings of the table. -/
theorem tab_at {w : World} {b : Nat} (h : w.heap[b]? = some (.cells tabC 23 (0, 0))) {r : Nat} (hr : r < 5) : ∃ s : ByteArray, w.cell? ⟨b, r, none⟩ = some (.string s) ∧ s.size ≤ 3 := by
  rw [cell_of_row w b r _ 23 (0, 0) h]
  match r, hr with
  | 0, _ => exact ⟨_, rfl, by decide⟩
  | 1, _ => exact ⟨_, rfl, by decide⟩
  | 2, _ => exact ⟨_, rfl, by decide⟩
  | 3, _ => exact ⟨_, rfl, by decide⟩
  | 4, _ => exact ⟨_, rfl, by decide⟩

/-- The list holds L, the model Lm. -/
structure MS (w wr : World) (n : Nat) (L Lm : List ByteArray) (foot : Nat → Prop) (v : Value) : Prop where
  H : Has wr w.heap.size (w.heap.size + 1) n L foot
  m : wr.ownsRow w.heap.size 9 1 v Lm.length (strs Lm)
  na : ∀ g, v.ownBlock = some g → ¬ foot g
  tab : wr.heap[w.heap.size]? = some (.cells tabC 23 (0, 0))
  below : Below w.heap.size w wr

theorem MS.grow {w wr W : World} {n : Nat} {L Lm : List ByteArray} {foot : Nat → Prop} {v : Value} (s : MS w wr n L Lm foot v) (hb : Below wr.heap.size wr W) : MS w W n L Lm foot v := by
  have f : Fr (fun _ => False) wr W := Fr.ofBelow hb
  exact ⟨s.H.frame f (fun _ _ => id), f.row s.m (fun _ _ => id), s.na, f.block s.tab id, s.below.trans (hb.mono s.below.size)⟩

theorem MS.wider {w wr : World} {n n' : Nat} {L Lm : List ByteArray} {foot : Nat → Prop} {v : Value} (s : MS w wr n L Lm foot v) (h : n ≤ n') : MS w wr n' L Lm foot v := ⟨s.H.wider h, s.m, s.na, s.tab, s.below⟩

/-- A method of the list. -/
theorem MS.method {w wr w2 : World} {n n' : Nat} {L Lm L' : List ByteArray} {foot : Nat → Prop} {v : Value} (s : MS w wr n L Lm foot v) (hp : PPost wr w.heap.size (w.heap.size + 1) n' L' foot w2) : ∃ foot', MS w w2 n' L' Lm foot' v := by
  obtain ⟨foot', H', f, ft⟩ := hp
  refine ⟨foot', H', f.row s.m s.na, fun g hg e => ?_, f.block s.tab (s.H.notFoot s.tab (by decide) (by decide) (by decide) (by decide)), s.below.trans (f.below s.below.size (fun k hk => (s.H.lt hk).1))⟩
  rcases ft g e with e | e
  · exact s.na g hg e
  · have := (s.m.lt g hg).2
    omega

/-- The model's add. -/
theorem MS.badd {w wr w2 : World} {n : Nat} {L Lm : List ByteArray} {foot : Nat → Prop} {v v' : Value} {y : ByteArray} (s : MS w wr n L Lm foot v) (hp : AddedPost wr w.heap.size v Lm y v' w2) : MS w w2 n L (added Lm y) foot v' := by
  obtain ⟨h1, f, loc⟩ := hp
  refine ⟨s.H.frame f (fun k hk e => s.na k e hk), h1, fun g hg e => ?_, f.block s.tab (fun e => ?_), s.below.trans (f.below s.below.size (fun k hk => (s.m.lt k hk).1))⟩
  · rcases loc g hg with c | c
    · exact s.na g c e
    · have := (s.H.lt e).2
      omega
  · obtain ⟨cur, hg⟩ := row_type s.m e
    have := s.tab
    rw [hg] at this
    simp at this

/-- The model's del. -/
theorem MS.bdel {w wr w2 : World} {n : Nat} {L Lm : List ByteArray} {foot : Nat → Prop} {v v' : Value} {y : ByteArray} (s : MS w wr n L Lm foot v) (hp : StruckPost wr Lm y v' w2) : MS w w2 n L (struck Lm y) foot v' := by
  obtain ⟨h1, hb⟩ := hp
  have s2 := s.grow hb
  have hs := s.below.size
  refine ⟨s2.H, ?_, fun g hg e => ?_, s2.tab, s2.below⟩
  · rcases h1.2 with h0 | ⟨g, cap, cur, hv, hg, r⟩
    · exact ⟨h1.1, .inl h0⟩
    · exact ⟨h1.1, .inr ⟨g, cap, cur, hv, by omega, r⟩⟩
  · have h2 := (h1.lt g hg).1
    have h3 := (s.H.lt e).2
    omega

/-- The model set to nil. -/
theorem MS.none_ {w wr : World} {n : Nat} {L Lm : List ByteArray} {foot : Nat → Prop} {v : Value} (s : MS w wr n L Lm foot v) : MS w wr n L [] foot (.slice none 0 0) :=
  ⟨s.H, World.ownsRow_nil _ _ _ _, (fun g hg => by simp [Value.ownBlock] at hg), s.tab, s.below⟩

/-- The start. -/
theorem ms_start (w : World) : ∃ foot, MS w ((w.alloc (.cells tabC 23)).alloc (.cells #[.slice none 0 0, .pointer none, .map none, .pointer none] 32)) 0 [] [] foot (.slice none 0 0) := by
  have hs : (w.alloc (.cells tabC 23)).heap.size = w.heap.size + 1 := World.size_alloc w _
  have hL : ((w.alloc (.cells tabC 23)).alloc (.cells #[.slice none 0 0, .pointer none, .map none, .pointer none] 32)).heap[w.heap.size + 1]? = some (.cells #[.slice none 0 0, .pointer none, .map none, .pointer none] 32 (0, 0)) := by
    have := heap_alloc_new (w.alloc (.cells tabC 23)) (.cells #[.slice none 0 0, .pointer none, .map none, .pointer none] 32)
    rw [hs] at this
    exact this
  refine ⟨_, ⟨.slice none 0 0, none, [], fun _ => none, 0, 0, none, fun _ => none, none, ⟨⟨⟨hL, by omega, World.ownsRow_nil _ _ _ _, ?_, fun _ => ⟨rfl, rfl, rfl, rfl, rfl⟩, ?_⟩, ?_, rfl⟩, Nat.le_refl _, Nat.le_refl _, ?_, fun _ => rfl, ?_, ?_, ?_, ?_⟩, rfl, rfl⟩, World.ownsRow_nil _ _ _ _, ?_, ?_, ?_⟩
  · intro s hs; cases hs
  · intro p hp; cases hp
  · intro s i hs; cases hs
  · intro s hs; simp [live, liveFrom] at hs
  · intro M hM; cases hM
  · intro s v hv; cases hv
  · intro s t v u g hv; cases hv
  · intro b hb; cases hb
  · intro g hg; simp [Value.ownBlock] at hg
  · exact (Below.heap_alloc _ _ _ (by rw [hs]; omega)).trans (heap_alloc_new w _)
  · exact ((Below.refl _ w).alloc (Nat.le_refl _) _).alloc (by rw [hs]; omega) _

end Go.Proofs.Ybulkdkiu
