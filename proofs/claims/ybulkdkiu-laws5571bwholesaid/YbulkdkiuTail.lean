/-
  What the second half of LawS5571BWhole stands on.
-/
import Derived.Test.YbulkdkiuBState
namespace Go.Proofs.Ybulkdkiu
open Go.RowKit Go.Maps
set_option linter.unusedVariables false
set_option linter.unusedSimpArgs false

/-- Places that can be read, in blocks below H. -/
def Rd (w : World) (H : Nat) (v : Value) (ps : List (ByteArray × Int)) : Prop :=
  ∃ ao cap, v = .slice ao ps.length cap ∧ ∀ j u, (pcells ps)[j]? = some u → ∃ b, ao = some ⟨b, 0, none⟩ ∧ b < H ∧ w.cell? ⟨b, j, none⟩ = some u

theorem Rd.of {w : World} {B H : Nat} {v : Value} {ps : List (ByteArray × Int)} (h : Pr w B v ps) (hH : ∀ k, v.ownBlock = some k → k < H) : Rd w H v ps := by
  obtain ⟨ao, cap, hv⟩ := own_form h
  refine ⟨ao, cap, hv, fun j u hu => ?_⟩
  have hj := (List.getElem?_eq_some_iff.1 hu).1
  rw [pcells_len] at hj
  obtain ⟨g, c, hv2, _, _⟩ := own_form_pos h (by omega)
  rw [hv] at hv2
  cases hv2
  have := h.cells (g := g) (by rw [hv]; rfl) j u hu
  rw [Addr.add_lit, Nat.zero_add] at this
  exact ⟨g, rfl, hH g (by rw [hv]; rfl), this⟩

theorem Rd.below {w w' : World} {H : Nat} {v : Value} {ps : List (ByteArray × Int)} (h : Rd w H v ps) (hb : Below H w w') : Rd w' H v ps := by
  obtain ⟨ao, cap, hv, hc⟩ := h
  refine ⟨ao, cap, hv, fun j u hu => ?_⟩
  obtain ⟨b, e, hlt, c⟩ := hc j u hu
  exact ⟨b, e, hlt, (hb.cell (p := ⟨b, j, none⟩) hlt).trans c⟩

theorem Rd.drewN {w : World} {H : Nat} {v : Value} {ps : List (ByteArray × Int)} (h : Rd w H v ps) (q : Nat) : Rd (w.drewN q) H v ps := h

theorem Rd.form {w : World} {H : Nat} {v : Value} {ps : List (ByteArray × Int)} (h : Rd w H v ps) : ∃ ao cap, v = .slice ao ps.length cap := by
  obtain ⟨ao, cap, hv, _⟩ := h
  exact ⟨ao, cap, hv⟩

theorem beq_any {w : World} {H H' : Nat} {f f' : Value} {ps : List (ByteArray × Int)} (h : Rd w H f ps) (h' : Rd w H' f' ps) (hbig : ps.length ≤ 1048576) :
    Calls Yba.prog 12 #[f, f'] w fun e w' => e = .returned (.bool true) ∧ ∃ q, w' = w.drewN q := by
  obtain ⟨ao, cap, rfl, hc⟩ := h
  obtain ⟨ao', cap', rfl, hc'⟩ := h'
  by_cases h0 : ps.length = 0
  · rw [h0]
    refine (beq_empty ao ao' cap cap' w).mono ?_
    rintro e w' ⟨rfl, rfl⟩
    exact ⟨rfl, 0, rfl⟩
  · obtain ⟨x, hx⟩ : ∃ x, (pcells ps)[0]? = some x := ⟨_, List.getElem?_eq_getElem (by rw [pcells_len]; omega)⟩
    obtain ⟨b, hb, _, _⟩ := hc 0 x hx
    obtain ⟨b', hb', _, _⟩ := hc' 0 x hx
    subst hb hb'
    refine beq_some b 0 b' 0 ps.length cap cap' ps w rfl hbig (fun j v hv => ?_) (fun j v hv => ?_)
    · obtain ⟨c, e, _, r⟩ := hc j v hv
      cases e
      rw [Nat.zero_add]; exact r
    · obtain ⟨c, e, _, r⟩ := hc' j v hv
      cases e
      rw [Nat.zero_add]; exact r

theorem beq_quiet {w : World} {H H' : Nat} {f f' : Value} {ps : List (ByteArray × Int)} {a b : Nat} (h : Rd w H f ps) (h' : Rd w H' f' ps) (hbig : ps.length ≤ 1048576) :
    Calls Yba.prog 12 #[f, f'] (w.drewN (a + b)) fun e w'' => e = .returned (.bool true) ∧ ∃ n, w'' = w.drewN (a + n) :=
  (beq_any (h.drewN (a + b)) (h'.drewN (a + b)) hbig).mono fun _ _ ⟨he, m, hm⟩ => ⟨he, b + m, by rw [hm, World.drewN_drewN, Nat.add_assoc]⟩

theorem beq_quiet0 {w : World} {H H' : Nat} {f f' : Value} {ps : List (ByteArray × Int)} {a : Nat} (h : Rd w H f ps) (h' : Rd w H' f' ps) (hbig : ps.length ≤ 1048576) :
    Calls Yba.prog 12 #[f, f'] (w.drewN a) fun e w'' => e = .returned (.bool true) ∧ ∃ n, w'' = w.drewN n :=
  (beq_any (h.drewN a) (h'.drewN a) hbig).mono fun _ _ ⟨he, m, hm⟩ => ⟨he, a + m, by rw [hm, World.drewN_drewN]⟩

/-- append(nil, places...): a copy of its own. -/
theorem run_copy_row {w : World} {B : Nat} {v0 : Value} {ps : List (ByteArray × Int)} (h : Pr w B v0 ps) (hbig : ps.length ≤ 1048576) (ty : TypeId) :
    ∃ v' w', (Builtin.append_ #[42, 42] ty #[.slice none 0 0, v0]).run Yba.prog w = .ok v' w' ∧ Pr w' w.heap.size v' ps ∧ w.grownBy w' none := by
  obtain ⟨i0, hi, hz0, hz1, hz2⟩ := info_parts info36
  have hnil : w.ownsRow w.heap.size 36 2 (.slice none 0 0) 0 [] := World.ownsRow_nil _ _ _ _
  rcases h.2 with ⟨rfl, h0⟩ | ⟨g, cap, cur, rfl, _, hg, _⟩
  · have : ps = [] := List.length_eq_zero_iff.1 h0
    subst this
    exact ⟨_, w, run_append_owned_none (P := Yba.prog) (w := w) w.heap.size 42 ty 36 i0 2 Yba.underlying42 hi _ 0 [] hnil, hnil, ⟨rfl, rfl, rfl, Nat.le_refl _, fun _ _ _ => rfl⟩⟩
  · have hc : ∀ j u, (pcells ps)[j]? = some u → w.cell? ((⟨g, 0, none⟩ : Addr).add j) = some u := fun j u hu => World.ownsRow.cells h (g := g) rfl j u hu
    obtain ⟨v', w', hr, h2, h3, _, _⟩ := run_append_own_at (P := Yba.prog) w w.heap.size 42 ty 36 i0 _ 2 24 Yba.underlying42 hi hz0 hz1 hz2 rfl (by decide) _ 0 [] hnil ⟨g, 0, none⟩ ps.length cap (pcells ps) (pcells_len ps) hc (pcells_one ps) (by unfold maxLen; omega) (by omega) (Nat.le_refl _)
    refine ⟨v', w', hr, ?_, h3⟩
    unfold Pr
    rw [Nat.zero_add, List.nil_append] at h2
    exact h2

theorem wpList_copy_row {w : World} {ops : Array Oper} {rest : List Oper} {o : Oper} {a : Act} {Q : Exit → Act → World → Prop} (hg : o.guard = none) (s x : Operand) (hop : o.op = Op.call { callee := Callee.builtin Builtin.append, args := #[s, x], argTypes := #[42, 42] })
    {B : Nat} {v0 : Value} {ps : List (ByteArray × Int)} (hs : a.eval s = .slice none 0 0) (hx : a.eval x = v0) (h : Pr w B v0 ps) (hbig : ps.length ≤ 1048576)
    (hK : ∀ v' w', Pr w' w.heap.size v' ps → w.grownBy w' none → wpList Yba.prog ops Q rest (a.put o.dst v') w') : wpList Yba.prog ops Q (o :: rest) a w := by
  refine wpList_plain hg fun K' hK' => ?_
  obtain ⟨v', w', hrun, r1, r2⟩ := run_copy_row h hbig o.type
  unfold Oper.wp
  simp [execOp, hop, resolve, invoke, builtin, hs, hx, hrun, Result.andThen]
  exact hK' _ _ (hK v' w' r1 r2)

/-- How many keys the places have. -/
def LenIs (w : World) (fm : Option Nat) (z : Nat) : Prop := (fm = none ∧ z = 0) ∨ ∃ M es clock, fm = some M ∧ w.heap[M]? = some (.map es clock) ∧ es.size = z

theorem LenIs.run {w : World} {fm : Option Nat} {z : Nat} (h : LenIs w fm z) (ty : TypeId) : (Builtin.len_ #[29] ty #[.map fm]).run Yba.prog w = .ok (.int .i64 (z : Int)) w := by
  rcases h with ⟨rfl, rfl⟩ | ⟨M, es, clock, rfl, hb, rfl⟩
  · exact Maps.len_nil (k := 9) (e := 42) Yba.underlying29 ty
  · simp [Builtin.len_, run_underlying Yba.underlying29, MapKept.run_getObj_map hb, goInt, Result.andThen]

theorem wpList_len_fm {w : World} {ops : Array Oper} {rest : List Oper} {o : Oper} {a : Act} {Q : Exit → Act → World → Prop} (hg : o.guard = none) (m : Operand) (hop : o.op = Op.call { callee := Callee.builtin Builtin.len, args := #[m], argTypes := #[29] })
    {fm : Option Nat} {z : Nat} (hm : a.eval m = .map fm) (h : LenIs w fm z) (hK : wpList Yba.prog ops Q rest (a.put o.dst (.int .i64 (z : Int))) w) : wpList Yba.prog ops Q (o :: rest) a w := by
  refine wpList_plain hg fun K' hK' => ?_
  unfold Oper.wp
  simp [execOp, hop, resolve, invoke, builtin, hm, h.run o.type, Result.andThen]
  exact hK' _ _ hK

theorem PL.lenIs {w : World} {B Lb n : Nat} {vi : Value} {ix : Option (Nat × Nat)} {its : List ByteArray} {h : ByteArray → Option Nat} {dead sz : Nat} {fm : Option Nat} {F : ByteArray → Option Value} {jb : Option Nat} (P : PL w B Lb n vi ix its h dead sz fm F jb) : ∃ z, LenIs w fm z := by
  cases fm with
  | none => exact ⟨0, .inl ⟨rfl, rfl⟩⟩
  | some M =>
    obtain ⟨_, ⟨_, _, m⟩, _⟩ := P.M1 M rfl
    obtain ⟨es, clock, hm⟩ := m.isMap
    exact ⟨es.size, .inr ⟨M, es, clock, rfl, hm, rfl⟩⟩

theorem LenIs.kept {w w' : World} {fm : Option Nat} {z : Nat} (h : LenIs w fm z) (hk : ∀ M, fm = some M → w'.heap[M]? = w.heap[M]?) : LenIs w' fm z := by
  rcases h with h | ⟨M, es, clock, e, hb, hz⟩
  · exact .inl h
  · exact .inr ⟨M, es, clock, e, (hk M e).trans hb, hz⟩

/-! ### before -/

/-- The copies made so far. -/
structure Bef (wr : World) (L : List ByteArray) (Pm : Places) (i : Nat) (wx : World) : Prop where
  below : Below wr.heap.size wr wx
  row : ∃ cur : Array Value, wx.heap[wr.heap.size]? = some (.cells cur 42 (0, 0)) ∧ cur.size = L.length ∧ ∀ (j : Nat) (y : ByteArray), j < i → L[j]? = some y → ∃ v, cur[j]? = some v ∧ Pr wx wr.heap.size v (Pm y)

theorem bef_start {wr w1 : World} {L : List ByteArray} {Pm : Places} {N : Nat} (hN : L.length = N) {xs : List Value} (own : w1.ownsRow wr.heap.size 42 1 (.slice (some ⟨wr.heap.size, 0, none⟩) N N) N xs) (g : wr.grownBy w1 none) : Bef wr L Pm 0 w1 := by
  refine ⟨(Below.refl _ wr).grown g (Nat.le_refl _) (fun k hk => by cases hk), ?_⟩
  rcases own.2 with ⟨hv, _⟩ | ⟨g', cap, cur, hv, _, hg, _, _, hs, _⟩
  · cases hv
  · cases hv
    exact ⟨cur, hg, by rw [hs]; omega, fun j y hj => by omega⟩

/-- One more copy. -/
theorem Bef.next {wr wx w2 : World} {L : List ByteArray} {Pm : Places} {i : Nat} (b : Bef wr L Pm i wx) {y : ByteArray} (hy : L[i]? = some y) {v : Value} (hp : Pr w2 wx.heap.size v (Pm y)) (hg : wx.grownBy w2 none) :
    (∃ u, w2.cell? ⟨wr.heap.size, i, none⟩ = some u) ∧ (∀ j, w2.frozen? ⟨wr.heap.size, j, none⟩ = false) ∧ Bef wr L Pm (i + 1) (w2.setCell ⟨wr.heap.size, i, none⟩ v) := by
  obtain ⟨cur, hc, hs, hr⟩ := b.row
  have f : Fr (fun _ => False) wx w2 := (Fr.refl _ wx).grown hg (fun k hk => by cases hk)
  have hc2 := f.block hc id
  have hi := (List.getElem?_eq_some_iff.1 hy).1
  have hbs := b.below.size
  have hne : ∀ {u : Value} {ps : List (ByteArray × Int)} {B : Nat}, Pr w2 B u ps → u.ownBlock ≠ some wr.heap.size := fun hu e => by
    obtain ⟨cur', hg'⟩ := row_type hu e
    rw [hc2] at hg'; simp at hg'
  refine ⟨?_, fun j => frozen_of_row w2 _ j _ 42 hc2, ?_, ⟨cur.setIfInBounds i v, heap_setCell_at hc2 v, by simpa using hs, fun j x hj hx => ?_⟩⟩
  · refine ⟨cur[i]'(by omega), ?_⟩
    rw [cell_of_row w2 _ i _ 42 (0, 0) hc2]
    simp
  · exact (b.below.trans ((Below.refl _ wx).grown hg hbs (fun k hk => by cases hk))).setCell (Nat.le_refl _) _
  · by_cases e : j = i
    · subst e
      rw [hy] at hx
      cases hx
      refine ⟨v, Array.getElem?_setIfInBounds_self_of_lt (by omega), ownsRow_setCell_other (hp.base (by omega)) (hne hp) _⟩
    · obtain ⟨u, hu, hpu⟩ := hr j x (by omega) hx
      have hpu2 := f.pr hpu (fun _ _ => id)
      refine ⟨u, ?_, ownsRow_setCell_other hpu2 (hne hpu2) _⟩
      rw [Array.getElem?_setIfInBounds_ne (fun c => e c.symm)]
      exact hu

end Go.Proofs.Ybulkdkiu
