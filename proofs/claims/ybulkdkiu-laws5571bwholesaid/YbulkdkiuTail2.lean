/-
  The worlds behind placedList.lines in LawS5571BWhole.
-/
import Derived.Test.YbulkdkiuTail
namespace Go.Proofs.Ybulkdkiu
open Go.RowKit Go.Maps
set_option linter.unusedVariables false
set_option linter.unusedSimpArgs false

/-- What the checks read, in blocks below H. -/
structure Tl (w : World) (H Lb bb z : Nat) (v7 : Value) (fm : Option Nat) (F : ByteArray → Option Value) (Pm : Places) (L : List ByteArray) : Prop where
  mod : ∀ i y, L[i]? = some y → ∃ g cap, v7 = .slice (some ⟨g, 0, none⟩) L.length cap ∧ g < H ∧ w.cell? ⟨g, i, none⟩ = some (.string y)
  fld : Lb < H ∧ w.cell? ⟨Lb, 2, none⟩ = some (.map fm)
  m0 : fm = none → F = fun _ => none
  m1 : ∀ M, fm = some M → M < H ∧ ∃ z, MapIs w M z F
  row : ∀ s, Rd w H (rowOf F s) (Pm s)
  bef : ∀ i y, L[i]? = some y → bb < H ∧ ∃ v, w.cell? ⟨bb, i, none⟩ = some v ∧ Rd w H v (Pm y)
  len : LenIs w fm z
  tiny : ∀ s ∈ L, s.size ≤ 3

theorem Tl.below {w w' : World} {H Lb bb z : Nat} {v7 : Value} {fm : Option Nat} {F : ByteArray → Option Value} {Pm : Places} {L : List ByteArray} (t : Tl w H Lb bb z v7 fm F Pm L) (hb : Below H w w') : Tl w' H Lb bb z v7 fm F Pm L := by
  refine ⟨fun i y hy => ?_, ⟨t.fld.1, (hb.cell (p := ⟨Lb, 2, none⟩) t.fld.1).trans t.fld.2⟩, t.m0, fun M hM => ?_, fun s => (t.row s).below hb, fun i y hy => ?_, t.len.kept (fun M hM => hb.block M (t.m1 M hM).1), t.tiny⟩
  · obtain ⟨g, cap, e, hg, c⟩ := t.mod i y hy
    exact ⟨g, cap, e, hg, (hb.cell (p := ⟨g, i, none⟩) hg).trans c⟩
  · obtain ⟨hM', z, m⟩ := t.m1 M hM
    exact ⟨hM', z, m.block (hb.block M hM')⟩
  · obtain ⟨h1, v, hv, r⟩ := t.bef i y hy
    exact ⟨h1, v, (hb.cell (p := ⟨bb, i, none⟩) h1).trans hv, r.below hb⟩

theorem Tl.look {w : World} {H Lb bb z : Nat} {v7 : Value} {fm : Option Nat} {F : ByteArray → Option Value} {Pm : Places} {L : List ByteArray} (t : Tl w H Lb bb z v7 fm F Pm L) {y : ByteArray} (hy : y.size ≤ 3) (q : Nat) :
    (Instr.lookup 29 (.map fm) (.string y) false).run Yba.prog (w.drewN q) = .ok (rowOf F y) (w.drewN q) := by
  have hy' : y.size ≤ maxLen := by unfold maxLen; omega
  cases fm with
  | none =>
    have := Maps.look_nil (P := Yba.prog) (w := w.drewN q) (t := 29) (e := 42) false law9 Yba.underlying29 (zero42 _) (key_of hy')
    rw [t.m0 rfl]
    exact this
  | some M =>
    obtain ⟨_, z, m⟩ := t.m1 M rfl
    exact (m.block (w' := w.drewN q) rfl).look Yba.underlying29 (zero42 _) hy'

/-- The lines as they are written over. -/
structure GW (w : World) (H : Nat) (wd : ByteArray) (Pm : Places) (L : List ByteArray) (Z : List (ByteArray × Nat × Nat)) (gv : Value) : Prop where
  fst : Z.map Prod.fst = L
  own : w.ownsRow H 46 2 gv L.length (gcells wd Pm Z)
  rows : ∀ q ∈ Z, H ≤ q.2.1 ∧ ∃ cur, w.heap[q.2.1]? = some (.cells cur 36 (0, 0)) ∧ (Pm q.1).length * 2 ≤ cur.size

theorem GW.of {w : World} {H : Nat} {wd : ByteArray} {Pm : Places} {L : List ByteArray} {gv : Value} (h : Got w H wd Pm L gv) : ∃ Z, GW w H wd Pm L Z gv ∧ ∀ q ∈ Z, Rd w w.heap.size (.slice (some ⟨q.2.1, 0, none⟩) (Pm q.1).length q.2.2) (Pm q.1) := by
  obtain ⟨Z, h1, h2, h3⟩ := h
  refine ⟨Z, ⟨h1, h2, fun q hq => ?_⟩, fun q hq => Rd.of (h3 q hq) (fun k hk => ((h3 q hq).lt k hk).2)⟩
  rcases (h3 q hq).2 with ⟨hv, _⟩ | ⟨g, cap, cur, hv, hB, hg, hn, _, hs, _⟩
  · cases hv
  · cases hv
    exact ⟨hB, cur, hg, by rw [hs]; exact Nat.mul_le_mul_right 2 hn⟩

theorem GW.below {w w' : World} {H : Nat} {wd : ByteArray} {Pm : Places} {L : List ByteArray} {Z : List (ByteArray × Nat × Nat)} {gv : Value} (g : GW w H wd Pm L Z gv) (hb : Below w.heap.size w w') : GW w' H wd Pm L Z gv := by
  have f : Fr (fun _ => False) w w' := Fr.ofBelow hb
  refine ⟨g.fst, f.row g.own (fun _ _ => id), fun q hq => ?_⟩
  obtain ⟨a, cur, hc, hs⟩ := g.rows q hq
  exact ⟨a, cur, f.block hc id, hs⟩

theorem GW.get {w : World} {H : Nat} {wd : ByteArray} {Pm : Places} {L : List ByteArray} {Z : List (ByteArray × Nat × Nat)} {gv : Value} (g : GW w H wd Pm L Z gv) {i : Nat} (hi : i < L.length) : ∃ q, Z[i]? = some q ∧ q ∈ Z ∧ L[i]? = some q.1 := by
  have hl : Z.length = L.length := by rw [← g.fst]; simp
  obtain ⟨q, hq⟩ : ∃ q, Z[i]? = some q := ⟨_, List.getElem?_eq_getElem (by omega)⟩
  exact ⟨q, hq, List.mem_of_getElem? hq, by rw [← g.fst]; simp [hq]⟩

/-- The i-th line. -/
theorem GW.at_ {w : World} {H : Nat} {wd : ByteArray} {Pm : Places} {L : List ByteArray} {Z : List (ByteArray × Nat × Nat)} {ao : Option Addr} {N cap : Nat} (g : GW w H wd Pm L Z (.slice ao N cap)) {i : Nat} {q : ByteArray × Nat × Nat} (hq : Z[i]? = some q) :
    ∃ gg, ao = some ⟨gg, 0, none⟩ ∧ w.cell? ⟨gg, i * 2, none⟩ = some (.string (wd ++ { data := #[32] } ++ q.1)) ∧ w.cell? ⟨gg, i * 2 + 1, none⟩ = some (.slice (some ⟨q.2.1, 0, none⟩) (Pm q.1).length q.2.2) := by
  have hl : Z.length = L.length := by rw [← g.fst]; simp
  have hi := (List.getElem?_eq_some_iff.1 hq).1
  obtain ⟨e0, e1⟩ := gcells_get wd Pm Z i q hq
  obtain ⟨gg, cap', hv, _, hlt⟩ := own_form_pos g.own (by omega)
  have c0 := g.own.cells (g := gg) (by rw [hv]; rfl) _ _ e0
  have c1 := g.own.cells (g := gg) (by rw [hv]; rfl) _ _ e1
  rw [Addr.add_lit, Nat.zero_add] at c0 c1
  cases hv
  exact ⟨gg, rfl, c0, c1⟩

/-- A place written over. -/
theorem GW.write {w : World} {H : Nat} {wd : ByteArray} {Pm : Places} {L : List ByteArray} {Z : List (ByteArray × Nat × Nat)} {gv : Value} (g : GW w H wd Pm L Z gv) {q : ByteArray × Nat × Nat} (hq : q ∈ Z) {j : Nat} (hj : j < (Pm q.1).length) :
    (∃ u0, w.cell? ⟨q.2.1, j * 2, none⟩ = some u0) ∧ (∃ u1, w.cell? ⟨q.2.1, j * 2 + 1, none⟩ = some u1) ∧ (∀ k, w.frozen? ⟨q.2.1, k, none⟩ = false) ∧
    ∀ u v, GW ((w.setCell ⟨q.2.1, j * 2, none⟩ u).setCell ⟨q.2.1, j * 2 + 1, none⟩ v) H wd Pm L Z gv ∧ Below H w ((w.setCell ⟨q.2.1, j * 2, none⟩ u).setCell ⟨q.2.1, j * 2 + 1, none⟩ v) := by
  obtain ⟨hH, cur, hc, hs⟩ := g.rows q hq
  have n0 : gv.ownBlock ≠ some q.2.1 := fun e => by
    obtain ⟨cur', hg'⟩ := row_type g.own e
    rw [hc] at hg'; simp at hg'
  refine ⟨⟨cur[j * 2]'(by omega), ?_⟩, ⟨cur[j * 2 + 1]'(by omega), ?_⟩, fun k => frozen_of_row w _ k _ 36 hc, fun u v => ⟨⟨g.fst, ownsRow_setCell_other (ownsRow_setCell_other g.own n0 u) n0 v, fun r hr => ?_⟩, ((Below.refl H w).setCell hH u).setCell hH v⟩⟩
  · rw [cell_of_row w _ _ _ 36 (0, 0) hc]; simp
  · rw [cell_of_row w _ _ _ 36 (0, 0) hc]; simp
  · obtain ⟨hr1, cr, hcr, hsr⟩ := g.rows r hr
    by_cases e : r.2.1 = q.2.1
    · rw [e] at hcr ⊢
      refine ⟨hH, _, heap_setCell_at (heap_setCell_at hcr u) v, ?_⟩
      simpa using hsr
    · exact ⟨hr1, cr, by rw [Below.heap_setCell _ _ _ _ e, Below.heap_setCell _ _ _ _ e]; exact hcr, hsr⟩

/-- From the worlds ahead of lines and behind it. -/
theorem tl_of {w wr wb wl : World} {n : Nat} {L : List ByteArray} {v7 : Value} {vi : Value} {ix : Option (Nat × Nat)} {its : List ByteArray} {h : ByteArray → Option Nat} {dead sz : Nat} {fm : Option Nat} {F : ByteArray → Option Value} {jb : Option Nat} {wd : ByteArray} {Pm : Places} {gv : Value} {z : Nat}
    (s : MS w wr n L L (PFoot (w.heap.size + 1) vi ix fm F jb) v7) (P : PL wr w.heap.size (w.heap.size + 1) n vi ix its h dead sz fm F jb) (b : Bef wr L Pm L.length wb) (hz : LenIs wb fm z)
    (hP : LinesPost wb w.heap.size (w.heap.size + 1) n (PFoot (w.heap.size + 1) vi ix fm F jb) fm F jb L wd Pm gv wl) :
    Tl wl wb.heap.size (w.heap.size + 1) wr.heap.size z v7 fm F Pm L ∧ Below w.heap.size w wl ∧ Got wl wb.heap.size wd Pm L gv ∧ wb.heap.size ≤ wl.heap.size ∧ (L.length = 0 → gv = .slice none 0 0) := by
  obtain ⟨vi', ix', h', sz', P', hrow, got, f, hnil, hmap⟩ := hP
  have s2 := s.grow b.below
  have hsz := b.below.size
  have hws := s.below.size
  obtain ⟨cur, hc, hs, hr⟩ := b.row
  have newOff : ∀ k, wr.heap.size ≤ k → ¬ PFoot (w.heap.size + 1) vi ix fm F jb k := fun k hk e => by have := (P.lt e).2; omega
  have hcl := f.block hc (newOff _ (Nat.le_refl _))
  have tiny : ∀ s ∈ L, s.size ≤ 3 := by
    have h1 := P'.tiny
    rw [P'.L.all] at h1
    exact h1
  refine ⟨⟨fun i y hy => ?_, ⟨?_, P'.cell2⟩, P'.M0, fun M hM => ?_, fun x => ?_, fun i y hy => ?_, hz.kept hmap, tiny⟩, s2.below.trans (f.below s2.below.size (fun k hk => (P.lt hk).1)), got, f.size, hnil⟩
  · have hm := f.row s2.m s.na
    obtain ⟨g, cap, hv, c⟩ := own_at hm (strs_get hy)
    exact ⟨g, cap, hv, (s2.m.lt g (by rw [hv]; rfl)).2, c⟩
  · have := (P.lt (.inl (.inl rfl))).2
    omega
  · obtain ⟨_, ⟨z', _, m⟩, _⟩ := P'.M1 M hM
    have := (P.lt (k := M) (.inr (.inl hM))).2
    exact ⟨by omega, z', m⟩
  · refine Rd.of (hrow x) (fun k hk => ?_)
    have := (P.lt (k := k) (.inr (.inr (.inl ⟨x, _, rowOf_block hk, hk⟩)))).2
    omega
  · have hi := (List.getElem?_eq_some_iff.1 hy).1
    obtain ⟨v, hv, hp⟩ := hr i y hi hy
    refine ⟨lt_of hc, v, ?_, Rd.of (f.pr hp (fun k hk => newOff k (hp.lt k hk).1)) (fun k hk => (hp.lt k hk).2)⟩
    rw [cell_of_row wl _ i _ 42 (0, 0) hcl]
    exact hv

end Go.Proofs.Ybulkdkiu
