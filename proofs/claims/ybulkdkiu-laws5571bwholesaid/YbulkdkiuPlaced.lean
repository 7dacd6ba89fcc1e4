/-
  udev.placedList in memory.
-/
import Derived.Test.YbulkdkiuLine
namespace Go.Proofs.Ybulkdkiu
open Go.RowKit Go.Maps
set_option linter.unusedVariables false
set_option linter.unusedSimpArgs false

def jp (jb : Option Nat) : Value := .pointer (jb.map fun b => ⟨b, 0, none⟩)

/-- A placedList in block Lb. -/
structure PL (w : World) (B Lb n : Nat) (vi : Value) (ix : Option (Nat × Nat)) (its : List ByteArray) (h : ByteArray → Option Nat) (dead sz : Nat) (fm : Option Nat) (F : ByteArray → Option Value) (jb : Option Nat) : Prop where
  L : LL w B Lb 32 [.map fm, jp jb] vi ix its h dead sz
  hn : its.length ≤ n
  hz : sz ≤ n
  tiny : ∀ s ∈ live its h, s.size ≤ 3
  M0 : fm = none → F = fun _ => none
  M1 : ∀ M, fm = some M → B ≤ M ∧ (∃ z, z ≤ n ∧ MapIs w M z F) ∧ ∀ p, ix = some p → M ≠ p.2
  rows : ∀ s v, F s = some v → ∃ ps, Pr w B v ps ∧ ps.length ≤ n
  apart : ∀ s t v u g, F s = some v → F t = some u → v.ownBlock = some g → u.ownBlock = some g → s = t
  J : ∀ b, jb = some b → B ≤ b ∧ (∃ js, w.heap[b]? = some (.cells #[.string js] 9 (0, 0))) ∧ vi.ownBlock ≠ some b

/-- The blocks that a placedList holds. -/
def PFoot (Lb : Nat) (vi : Value) (ix : Option (Nat × Nat)) (fm : Option Nat) (F : ByteArray → Option Value) (jb : Option Nat) (k : Nat) : Prop :=
  Foot Lb vi ix k ∨ fm = some k ∨ (∃ s v, F s = some v ∧ v.ownBlock = some k) ∨ jb = some k

theorem row_type {w : World} {B : Nat} {e : TypeId} {sz : Nat} {v : Value} {n : Nat} {xs : List Value} (h : w.ownsRow B e sz v n xs) {k : Nat} (hk : v.ownBlock = some k) : ∃ cur, w.heap[k]? = some (.cells cur e (0, 0)) := by
  rcases h.2 with ⟨rfl, _⟩ | ⟨g, cap, cur, rfl, _, hg, _⟩
  · simp [Value.ownBlock] at hk
  · simp [Value.ownBlock] at hk
    subst hk
    exact ⟨cur, hg⟩

/-- A block of another kind than the list's own is none of its feet. -/
theorem UL.notFoot {w : World} {B Lb TL : Nat} {rest : List Value} {vi : Value} {ix : Option (Nat × Nat)} {its : List ByteArray} {h : ByteArray → Option Nat} {dead sz : Nat} (U : UL w B Lb TL rest vi ix its h dead sz) {k : Nat} {cs : Array Value} {t : TypeId} (hk : w.heap[k]? = some (.cells cs t (0, 0)))
    (h1 : t ≠ TL) (h2 : t ≠ 9 ∨ vi.ownBlock ≠ some k) (h3 : t ≠ 69) : ¬ Foot Lb vi ix k := by
  rintro (e | e | ⟨p, hp, e | e⟩)
  · rw [e, U.blk] at hk; simp at hk; exact h1 hk.2.symm
  · rcases h2 with h2 | h2
    · obtain ⟨cur, hg⟩ := row_type U.own e
      rw [hg] at hk; simp at hk; exact h2 hk.2.symm
    · exact h2 e
  · obtain ⟨_, _, hX, _⟩ := U.some_ p hp
    rw [e, hX] at hk; simp at hk; exact h3 hk.2.symm
  · obtain ⟨_, _, _, hM⟩ := U.some_ p hp
    exact not_cells_map hk hM e

theorem Fr.pr {S : Nat → Prop} {w w' : World} {B : Nat} {v : Value} {ps : List (ByteArray × Int)} (h : Fr S w w') (hr : Pr w B v ps) (hn : ∀ k, v.ownBlock = some k → ¬ S k) : Pr w' B v ps := h.row hr hn

theorem PL.frame {S : Nat → Prop} {w w' : World} {B Lb n : Nat} {vi : Value} {ix : Option (Nat × Nat)} {its : List ByteArray} {h : ByteArray → Option Nat} {dead sz : Nat} {fm : Option Nat} {F : ByteArray → Option Value} {jb : Option Nat} (P : PL w B Lb n vi ix its h dead sz fm F jb)
    (g : Fr S w w') (hn : ∀ k, PFoot Lb vi ix fm F jb k → ¬ S k) : PL w' B Lb n vi ix its h dead sz fm F jb :=
  ⟨P.L.frame g (fun k hk => hn k (.inl hk)), P.hn, P.hz, P.tiny, P.M0, fun M hM => by
      obtain ⟨a, ⟨z, hz, b⟩, c⟩ := P.M1 M hM
      exact ⟨a, ⟨z, hz, b.frame g (hn M (.inr (.inl hM)))⟩, c⟩, fun s v hv => by
      obtain ⟨ps, a, b⟩ := P.rows s v hv
      exact ⟨ps, g.pr a (fun k hk => hn k (.inr (.inr (.inl ⟨s, v, hv, hk⟩)))), b⟩, P.apart, fun b hb => by
      obtain ⟨a, ⟨js, c⟩, d⟩ := P.J b hb
      exact ⟨a, ⟨js, g.block c (hn b (.inr (.inr (.inr hb))))⟩, d⟩⟩

theorem PL.wider {w : World} {B Lb n n' : Nat} {vi : Value} {ix : Option (Nat × Nat)} {its : List ByteArray} {h : ByteArray → Option Nat} {dead sz : Nat} {fm : Option Nat} {F : ByteArray → Option Value} {jb : Option Nat} (P : PL w B Lb n vi ix its h dead sz fm F jb) (hle : n ≤ n') : PL w B Lb n' vi ix its h dead sz fm F jb :=
  ⟨P.L, Nat.le_trans P.hn hle, Nat.le_trans P.hz hle, P.tiny, P.M0, fun M hM => by
      obtain ⟨a, ⟨z, hz, b⟩, c⟩ := P.M1 M hM
      exact ⟨a, ⟨z, Nat.le_trans hz hle, b⟩, c⟩, fun s v hv => by
      obtain ⟨ps, a, b⟩ := P.rows s v hv
      exact ⟨ps, a, Nat.le_trans b hle⟩, P.apart, P.J⟩

/-- Its feet stand in the heap, from B on. -/
theorem PL.lt {w : World} {B Lb n : Nat} {vi : Value} {ix : Option (Nat × Nat)} {its : List ByteArray} {h : ByteArray → Option Nat} {dead sz : Nat} {fm : Option Nat} {F : ByteArray → Option Value} {jb : Option Nat} (P : PL w B Lb n vi ix its h dead sz fm F jb) {k : Nat} (hk : PFoot Lb vi ix fm F jb k) : B ≤ k ∧ k < w.heap.size := by
  rcases hk with (rfl | hk | ⟨p, hp, hk⟩) | hk | ⟨s, v, hv, hk⟩ | hk
  · exact ⟨P.L.U.hB, lt_of P.L.U.blk⟩
  · exact P.L.U.own.lt k hk
  · obtain ⟨a, b, c, d⟩ := P.L.U.some_ p hp
    rcases hk with rfl | rfl
    · exact ⟨a, lt_of c⟩
    · exact ⟨b, d.lt⟩
  · obtain ⟨a, ⟨z, _, b⟩, _⟩ := P.M1 k hk
    exact ⟨a, b.lt⟩
  · obtain ⟨ps, a, _⟩ := P.rows s v hv
    exact a.lt k hk
  · obtain ⟨a, ⟨js, c⟩, _⟩ := P.J k hk
    exact ⟨a, lt_of c⟩

/-- A block of another kind is none of its feet. -/
theorem PL.notFoot {w : World} {B Lb n : Nat} {vi : Value} {ix : Option (Nat × Nat)} {its : List ByteArray} {h : ByteArray → Option Nat} {dead sz : Nat} {fm : Option Nat} {F : ByteArray → Option Value} {jb : Option Nat} (P : PL w B Lb n vi ix its h dead sz fm F jb) {k : Nat} {cs : Array Value} {t : TypeId} (hk : w.heap[k]? = some (.cells cs t (0, 0)))
    (h1 : t ≠ 32) (h2 : t ≠ 9) (h3 : t ≠ 69) (h4 : t ≠ 36) : ¬ PFoot Lb vi ix fm F jb k := by
  rintro (e | e | ⟨s, v, hv, e⟩ | e)
  · exact P.L.U.notFoot hk h1 (.inl h2) h3 e
  · obtain ⟨_, ⟨z, _, b⟩, _⟩ := P.M1 k e
    exact not_cells_map hk b rfl
  · obtain ⟨ps, a, _⟩ := P.rows s v hv
    obtain ⟨cur, hg⟩ := row_type a e
    rw [hg] at hk; simp at hk; exact h4 hk.2.symm
  · obtain ⟨_, ⟨js, c⟩, _⟩ := P.J k e
    rw [c] at hk; simp at hk; exact h2 hk.2.symm

/-- A list with its living L and its feet. -/
def Has (w : World) (B Lb n : Nat) (L : List ByteArray) (foot : Nat → Prop) : Prop :=
  ∃ vi ix its h dead sz fm F jb, PL w B Lb n vi ix its h dead sz fm F jb ∧ live its h = L ∧ foot = PFoot Lb vi ix fm F jb

/-- What a method leaves. -/
def PPost (w : World) (B Lb n : Nat) (L : List ByteArray) (foot : Nat → Prop) (w' : World) : Prop :=
  ∃ foot', Has w' B Lb n L foot' ∧ Fr foot w w' ∧ ∀ k, foot' k → foot k ∨ w.heap.size ≤ k

theorem Has.frame {S : Nat → Prop} {w w' : World} {B Lb n : Nat} {L : List ByteArray} {foot : Nat → Prop} (H : Has w B Lb n L foot) (g : Fr S w w') (hn : ∀ k, foot k → ¬ S k) : Has w' B Lb n L foot := by
  obtain ⟨vi, ix, its, h, dead, sz, fm, F, jb, P, hl, rfl⟩ := H
  exact ⟨vi, ix, its, h, dead, sz, fm, F, jb, P.frame g hn, hl, rfl⟩
theorem Has.wider {w : World} {B Lb n n' : Nat} {L : List ByteArray} {foot : Nat → Prop} (H : Has w B Lb n L foot) (hle : n ≤ n') : Has w B Lb n' L foot := by
  obtain ⟨vi, ix, its, h, dead, sz, fm, F, jb, P, hl, rfl⟩ := H
  exact ⟨vi, ix, its, h, dead, sz, fm, F, jb, P.wider hle, hl, rfl⟩
theorem Has.lt {w : World} {B Lb n : Nat} {L : List ByteArray} {foot : Nat → Prop} (H : Has w B Lb n L foot) {k : Nat} (hk : foot k) : B ≤ k ∧ k < w.heap.size := by
  obtain ⟨vi, ix, its, h, dead, sz, fm, F, jb, P, hl, rfl⟩ := H
  exact P.lt hk
theorem Has.notFoot {w : World} {B Lb n : Nat} {L : List ByteArray} {foot : Nat → Prop} (H : Has w B Lb n L foot) {k : Nat} {cs : Array Value} {t : TypeId} (hk : w.heap[k]? = some (.cells cs t (0, 0))) (h1 : t ≠ 32) (h2 : t ≠ 9) (h3 : t ≠ 69) (h4 : t ≠ 36) : ¬ foot k := by
  obtain ⟨vi, ix, its, h, dead, sz, fm, F, jb, P, hl, rfl⟩ := H
  exact P.notFoot hk h1 h2 h3 h4
theorem Has.len {w : World} {B Lb n : Nat} {L : List ByteArray} {foot : Nat → Prop} (H : Has w B Lb n L foot) : L.length ≤ n := by
  obtain ⟨vi, ix, its, h, dead, sz, fm, F, jb, P, rfl, rfl⟩ := H
  have h1 := P.L.cnt
  have h2 := P.hn
  omega

/-! ### the list's two own fields set -/

theorem UL.set2 {w : World} {B Lb TL : Nat} {a b : Value} {vi : Value} {ix : Option (Nat × Nat)} {its : List ByteArray} {h : ByteArray → Option Nat} {dead sz : Nat} (U : UL w B Lb TL [a, b] vi ix its h dead sz) (hTL : TL ≠ 9) (hTL2 : TL ≠ 69) (x : Value) : UL (w.setCell ⟨Lb, 2, none⟩ x) B Lb TL [x, b] vi ix its h dead sz := by
  refine ⟨?_, U.hB, ?_, U.short, U.none_, ?_⟩
  · rw [heap_setCell_at U.blk]; simp
  · refine ownsRow_setCell_other U.own (fun e => ?_) x
    obtain ⟨cur, hg⟩ := row_type U.own e
    have := U.blk; rw [hg] at this; simp at this; exact hTL this.2.symm
  · intro p hp
    obtain ⟨n1, n2, hX, hM⟩ := U.some_ p hp
    have e1 : p.1 ≠ Lb := fun e => by have := U.blk; rw [← e, hX] at this; simp at this
    have e2 : p.2 ≠ Lb := fun e => not_cells_map U.blk hM e.symm
    exact ⟨n1, n2, (Below.heap_setCell _ _ _ _ e1).trans hX, hM.block (Below.heap_setCell _ _ _ _ e2)⟩
theorem UL.set3 {w : World} {B Lb TL : Nat} {a b : Value} {vi : Value} {ix : Option (Nat × Nat)} {its : List ByteArray} {h : ByteArray → Option Nat} {dead sz : Nat} (U : UL w B Lb TL [a, b] vi ix its h dead sz) (hTL : TL ≠ 9) (hTL2 : TL ≠ 69) (x : Value) : UL (w.setCell ⟨Lb, 3, none⟩ x) B Lb TL [a, x] vi ix its h dead sz := by
  refine ⟨?_, U.hB, ?_, U.short, U.none_, ?_⟩
  · rw [heap_setCell_at U.blk]; simp
  · refine ownsRow_setCell_other U.own (fun e => ?_) x
    obtain ⟨cur, hg⟩ := row_type U.own e
    have := U.blk; rw [hg] at this; simp at this; exact hTL this.2.symm
  · intro p hp
    obtain ⟨n1, n2, hX, hM⟩ := U.some_ p hp
    have e1 : p.1 ≠ Lb := fun e => by have := U.blk; rw [← e, hX] at this; simp at this
    have e2 : p.2 ≠ Lb := fun e => not_cells_map U.blk hM e.symm
    exact ⟨n1, n2, (Below.heap_setCell _ _ _ _ e1).trans hX, hM.block (Below.heap_setCell _ _ _ _ e2)⟩

/-- What stands in the list's own block. -/
theorem PL.cells {w : World} {B Lb n : Nat} {vi : Value} {ix : Option (Nat × Nat)} {its : List ByteArray} {h : ByteArray → Option Nat} {dead sz : Nat} {fm : Option Nat} {F : ByteArray → Option Value} {jb : Option Nat} (P : PL w B Lb n vi ix its h dead sz fm F jb) :
    w.cell? ⟨Lb, 2, none⟩ = some (.map fm) ∧ w.cell? ⟨Lb, 3, none⟩ = some (jp jb) ∧ ∀ j, w.frozen? ⟨Lb, j, none⟩ = false := by
  refine ⟨?_, ?_, fun j => frozen_of_row w Lb j _ 32 P.L.U.blk⟩
  · rw [cell_of_row w Lb 2 _ 32 (0, 0) P.L.U.blk]; rfl
  · rw [cell_of_row w Lb 3 _ 32 (0, 0) P.L.U.blk]; rfl

/-- The blocks of the other parts are none of the own block. -/
theorem PL.ne {w : World} {B Lb n : Nat} {vi : Value} {ix : Option (Nat × Nat)} {its : List ByteArray} {h : ByteArray → Option Nat} {dead sz : Nat} {fm : Option Nat} {F : ByteArray → Option Value} {jb : Option Nat} (P : PL w B Lb n vi ix its h dead sz fm F jb) :
    (∀ M, fm = some M → M ≠ Lb) ∧ (∀ s v k, F s = some v → v.ownBlock = some k → k ≠ Lb) ∧ (∀ b, jb = some b → b ≠ Lb) := by
  refine ⟨fun M hM e => ?_, fun s v k hv hk e => ?_, fun b hb e => ?_⟩
  · obtain ⟨_, ⟨z, _, m⟩, _⟩ := P.M1 M hM
    exact not_cells_map P.L.U.blk m e.symm
  · obtain ⟨ps, a, _⟩ := P.rows s v hv
    obtain ⟨cur, hg⟩ := row_type a hk
    have := P.L.U.blk; rw [← e, hg] at this; simp at this
  · obtain ⟨_, ⟨js, c⟩, _⟩ := P.J b hb
    have := P.L.U.blk; rw [← e, c] at this; simp at this

/-- joined is set to nil. -/
theorem PL.unjoin {w : World} {B Lb n : Nat} {vi : Value} {ix : Option (Nat × Nat)} {its : List ByteArray} {h : ByteArray → Option Nat} {dead sz : Nat} {fm : Option Nat} {F : ByteArray → Option Value} {jb : Option Nat} (P : PL w B Lb n vi ix its h dead sz fm F jb) :
    PL (w.setCell ⟨Lb, 3, none⟩ (.pointer none)) B Lb n vi ix its h dead sz fm F none := by
  obtain ⟨n1, n2, n3⟩ := P.ne
  refine ⟨⟨P.L.U.set3 (by decide) (by decide) (.pointer none), P.L.wf, P.L.cnt⟩, P.hn, P.hz, P.tiny, P.M0, fun M hM => ?_, fun s v hv => ?_, P.apart, (fun b hb => by cases hb)⟩
  · obtain ⟨a, ⟨z, hz, b⟩, c⟩ := P.M1 M hM
    exact ⟨a, ⟨z, hz, b.block (Below.heap_setCell _ _ _ _ (n1 M hM))⟩, c⟩
  · obtain ⟨ps, a, b⟩ := P.rows s v hv
    exact ⟨ps, ownsRow_setCell_other a (fun e => n2 s v _ hv e rfl) _, b⟩

/-- The list's own half turned, the rest as it was. -/
theorem PL.relist {w w1 : World} {B Lb n n' : Nat} {vi vi' : Value} {ix : Option (Nat × Nat)} {p : Nat × Nat} {its its' : List ByteArray} {h h' : ByteArray → Option Nat} {dead dead' sz sz' : Nat} {fm : Option Nat} {F : ByteArray → Option Value} {jb : Option Nat} (P : PL w B Lb n vi ix its h dead sz fm F jb)
    (U : LL w1 B Lb 32 [.map fm, jp jb] vi' (some p) its' h' dead' sz') (g : Fr (Foot Lb vi ix) w w1) (hl : LocB w vi vi') (hp : IxLoc w ix p) (h1 : its'.length ≤ n') (h2 : sz' ≤ n') (h3 : n ≤ n') (h4 : ∀ s ∈ live its' h', s.size ≤ 3) : PL w1 B Lb n' vi' (some p) its' h' dead' sz' fm F jb := by
  refine ⟨U, h1, h2, h4, P.M0, fun M hM => ?_, fun s v hv => ?_, P.apart, fun b hb => ?_⟩
  · obtain ⟨a, ⟨z, hz, m⟩, c⟩ := P.M1 M hM
    have hnf : ¬ Foot Lb vi ix M := by
      rintro (e | e | ⟨q, hq, e | e⟩)
      · exact P.ne.1 M hM e
      · obtain ⟨cur, hg⟩ := row_type P.L.U.own e
        exact not_cells_map hg m rfl
      · obtain ⟨_, _, hX, _⟩ := P.L.U.some_ q hq
        exact not_cells_map hX m e.symm
      · exact c q hq e
    refine ⟨a, ⟨z, Nat.le_trans hz h3, m.frame g hnf⟩, fun q hq e => ?_⟩
    cases hq
    rcases hp with hp | ⟨_, hp⟩
    · exact c p hp e
    · have := m.lt; omega
  · obtain ⟨ps, a, b⟩ := P.rows s v hv
    refine ⟨ps, g.pr a (fun k hk => ?_), Nat.le_trans b h3⟩
    obtain ⟨cur, hg⟩ := row_type a hk
    exact P.L.U.notFoot hg (by decide) (.inl (by decide)) (by decide)
  · obtain ⟨a, ⟨js, c⟩, d⟩ := P.J b hb
    refine ⟨a, ⟨js, g.block c (P.L.U.notFoot c (by decide) (.inr d) (by decide))⟩, fun e => ?_⟩
    rcases hl b e with e | e
    · exact d e
    · have := lt_of c; omega

theorem foot_relist {w : World} {Lb : Nat} {vi vi' : Value} {ix : Option (Nat × Nat)} {p : Nat × Nat} {fm : Option Nat} {F : ByteArray → Option Value} {jb : Option Nat} (hl : LocB w vi vi') (hp : IxLoc w ix p) {k : Nat} (hk : PFoot Lb vi' (some p) fm F jb k) : PFoot Lb vi ix fm F jb k ∨ w.heap.size ≤ k := by
  rcases hk with (e | e | ⟨q, hq, e⟩) | e | e | e
  · exact .inl (.inl (.inl e))
  · rcases hl k e with e | e
    · exact .inl (.inl (.inr (.inl e)))
    · exact .inr e
  · cases hq
    rcases hp with hp | ⟨a, b⟩
    · exact .inl (.inl (.inr (.inr ⟨p, hp, e⟩)))
    · rcases e with rfl | rfl
      · exact .inr a
      · exact .inr b
  · exact .inl (.inr (.inl e))
  · exact .inl (.inr (.inr (.inl e)))
  · exact .inl (.inr (.inr (.inr e)))

theorem foot_unjoin {Lb : Nat} {vi : Value} {ix : Option (Nat × Nat)} {fm : Option Nat} {F : ByteArray → Option Value} {jb : Option Nat} {k : Nat} (hk : PFoot Lb vi ix fm F none k) : PFoot Lb vi ix fm F jb k := by
  rcases hk with e | e | e | e
  · exact .inl e
  · exact .inr (.inl e)
  · exact .inr (.inr (.inl e))
  · cases e

/-! ### clear -/

set_option maxHeartbeats 400000 in
theorem clear_any {w : World} {B Lb n : Nat} {L : List ByteArray} {foot : Nat → Prop} (H : Has w B Lb n L foot) : Calls Yba.prog 9 #[.pointer (some ⟨Lb, 0, none⟩)] w fun e w' => e = .returned (.tuple #[]) ∧ PPost w B Lb n [] foot w' := by
  obtain ⟨vi, ix, its, h, dead, sz, fm, F, jb, P, hl, rfl⟩ := H
  have hc := set_nil P.L.U
  have U1 := set_nil_UL P.L.U
  obtain ⟨W, hW⟩ : ∃ W, W = (w.setCell ⟨Lb, 0, none⟩ (.slice none 0 0)).setCell ⟨Lb, 1, none⟩ (.pointer none) := ⟨_, rfl⟩
  have F1 : Fr (PFoot Lb vi ix fm F jb) w W := by
    rw [hW]
    exact ((Fr.refl _ w).setCell (p := ⟨Lb, 0, none⟩) (fun _ => .inl (.inl rfl)) _).setCell (p := ⟨Lb, 1, none⟩) (fun _ => .inl (.inl rfl)) _
  rw [← hW] at hc U1
  have c2 : W.cell? ⟨Lb, 2, none⟩ = some (.map fm) := by rw [cell_of_row W Lb 2 _ 32 (0, 0) U1.U.blk]; rfl
  have c3 : W.cell? ⟨Lb, 3, none⟩ = some (jp jb) := by rw [cell_of_row W Lb 3 _ 32 (0, 0) U1.U.blk]; rfl
  have cf : ∀ j, W.frozen? ⟨Lb, j, none⟩ = false := fun j => frozen_of_row W Lb j _ 32 U1.U.blk
  clear hW
  have HP : Hid (PPost w B Lb n [] (PFoot Lb vi ix fm F jb) ((W.setCell ⟨Lb, 2, none⟩ (.map none)).setCell ⟨Lb, 3, none⟩ (.pointer none))) := by
    have U2 : UL (W.setCell ⟨Lb, 2, none⟩ (.map none)) B Lb 32 [.map none, jp jb] (.slice none 0 0) none [] (fun _ => none) 0 0 := U1.U.set2 (by decide) (by decide) _
    have U3 : UL ((W.setCell ⟨Lb, 2, none⟩ (.map none)).setCell ⟨Lb, 3, none⟩ (.pointer none)) B Lb 32 [.map none, jp none] (.slice none 0 0) none [] (fun _ => none) 0 0 := U2.set3 (by decide) (by decide) _
    refine ⟨_, ⟨_, _, _, _, _, _, _, _, _, ⟨⟨U3, U1.wf, U1.cnt⟩, Nat.zero_le _, Nat.zero_le _, ?_, fun _ => rfl, ?_, ?_, ?_, ?_⟩, rfl, rfl⟩, ?_, ?_⟩
    · intro s hs; simp [live, liveFrom] at hs
    · intro M hM; cases hM
    · intro s v hv; cases hv
    · intro s t v u g hv; cases hv
    · intro b hb; cases hb
    · exact (F1.setCell (p := ⟨Lb, 2, none⟩) (fun _ => .inl (.inl rfl)) _).setCell (p := ⟨Lb, 3, none⟩) (fun _ => .inl (.inl rfl)) _
    · rintro k ((e | e | ⟨q, hq, e⟩) | e | ⟨s, v, e, _⟩ | e)
      · exact .inl (.inl (.inl e))
      · simp [Value.ownBlock] at e
      · cases hq
      · cases e
      · cases e
      · cases e
  clear U1 P F1
  go_enter Yba.func9, Yba.ntmps9
  go_wp2_with fail
  refine hc.mono ?_
  rintro e w' ⟨rfl, hw⟩
  rw [hw]
  go_wp2_with fail
  go_end0
  exact ⟨rfl, HP.out⟩

end Go.Proofs.Ybulkdkiu
