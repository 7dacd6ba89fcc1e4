/-
  placedList.add.
-/
import Derived.Test.YbulkdkiuPlacedJoin
import Derived.Deep.RegionWith
namespace Go.Proofs.Ybulkdkiu
open Go.RowKit Go.Maps
set_option linter.unusedVariables false
set_option linter.unusedSimpArgs false

theorem addOne_ok {its : List ByteArray} {h : ByteArray → Option Nat} {dead : Nat} (hw : Wfh its h) (hc : (live its h).length + dead = its.length) (y : ByteArray) :
    Wfh (addOne (its, h) y).1 (addOne (its, h) y).2 ∧ (live (addOne (its, h) y).1 (addOne (its, h) y).2).length + dead = (addOne (its, h) y).1.length ∧ live (addOne (its, h) y).1 (addOne (its, h) y).2 = added (live its h) y := by
  have hb : hasB (live its h) y = (h y).isSome := by
    rw [Bool.eq_iff_iff, hasB_iff, mem_live hw]
  cases hh : (h y).isSome with
  | true =>
    rw [addOne_has hh]
    refine ⟨hw, hc, ?_⟩
    unfold added
    rw [hb, hh]; rfl
  | false =>
    rw [addOne_new hh]
    have hn : h y = none := by cases e : h y with
      | none => rfl
      | some i => rw [e] at hh; cases hh
    have hl := live_add (its := its) hn
    refine ⟨wfh_add hw y, ?_, ?_⟩
    · show (live (its ++ [y]) _).length + dead = (its ++ [y]).length
      rw [hl]
      simp
      omega
    · show live (its ++ [y]) _ = _
      rw [hl]
      unfold added
      rw [hb, hh]; rfl

theorem addAll_ok {dead : Nat} : ∀ (ys : List ByteArray) (its : List ByteArray) (h : ByteArray → Option Nat), Wfh its h → (live its h).length + dead = its.length →
    Wfh (ys.foldl addOne (its, h)).1 (ys.foldl addOne (its, h)).2 ∧ (live (ys.foldl addOne (its, h)).1 (ys.foldl addOne (its, h)).2).length + dead = (ys.foldl addOne (its, h)).1.length ∧ live (ys.foldl addOne (its, h)).1 (ys.foldl addOne (its, h)).2 = ys.foldl added (live its h)
  | [], its, h, hw, hc => ⟨hw, hc, rfl⟩
  | y :: ys, its, h, hw, hc => by
    obtain ⟨a, b, c⟩ := addOne_ok hw hc y
    have := addAll_ok ys _ _ a b
    rw [c] at this
    exact this

theorem added_tiny {L : List ByteArray} {y : ByteArray} (h : ∀ s ∈ L, s.size ≤ 3) (hy : y.size ≤ 3) : ∀ s ∈ added L y, s.size ≤ 3 := by
  intro s hs
  unfold added at hs
  split at hs
  · exact h s hs
  · rcases List.mem_append.1 hs with hs | hs
    · exact h s hs
    · simp at hs; subst hs; exact hy
theorem addedAll_tiny : ∀ (ys : List ByteArray) {L : List ByteArray}, (∀ s ∈ L, s.size ≤ 3) → (∀ y ∈ ys, y.size ≤ 3) → ∀ s ∈ ys.foldl added L, s.size ≤ 3
  | [], L, h, _ => h
  | y :: ys, L, h, hy => addedAll_tiny ys (added_tiny h (hy y (List.mem_cons_self ..))) (fun z hz => hy z (List.mem_cons_of_mem _ hz))

theorem zero42 (w : World) : (zeroValue 42).run Yba.prog w = .ok (.slice none 0 0) w := by kernel_rfl
theorem makeMap_hint29 (n : Int) (W : World) : (Instr.makeMap 29 (some (.int .i64 n))).run Yba.prog W = .ok (.map (some W.heap.size)) (W.alloc (.map #[] 0)) := by
  simp [Instr.makeMap, run_underlying Yba.underlying29, asInt, asIntOf, Result.andThen]

/-- The places of a key, none where the key is not held. -/
def rowOf (F : ByteArray → Option Value) (y : ByteArray) : Value := (F y).getD (.slice none 0 0)

theorem rowOf_block {F : ByteArray → Option Value} {y : ByteArray} {k : Nat} (h : (rowOf F y).ownBlock = some k) : F y = some (rowOf F y) := by
  unfold rowOf at *
  cases e : F y with
  | none => rw [e] at h; simp [Value.ownBlock] at h
  | some v => rfl

theorem PL.rowOf {w : World} {B Lb n : Nat} {vi : Value} {ix : Option (Nat × Nat)} {its : List ByteArray} {h : ByteArray → Option Nat} {dead sz : Nat} {fm : Option Nat} {F : ByteArray → Option Value} {jb : Option Nat} (P : PL w B Lb n vi ix its h dead sz fm F jb) (y : ByteArray) : ∃ ps, Pr w B (rowOf F y) ps ∧ ps.length ≤ n := by
  unfold Ybulkdkiu.rowOf
  cases e : F y with
  | none => exact ⟨[], World.ownsRow_nil _ _ _ _, Nat.zero_le _⟩
  | some v => exact P.rows y v e

/-- A place laid at a key. -/
theorem PL.place {w w2 w3 : World} {B Lb n : Nat} {vi : Value} {ix : Option (Nat × Nat)} {its : List ByteArray} {h : ByteArray → Option Nat} {dead sz M : Nat} {F : ByteArray → Option Value} {jb : Option Nat} (P : PL w B Lb n vi ix its h dead sz (some M) F jb) {y : ByteArray} {len : Nat} (hlen : len ≤ n) {v' : Value}
    (hA : ApPost w B (Ybulkdkiu.rowOf F y) len v' w2) {z : Nat} (hz : z ≤ n + 1) (hM3 : MapIs w3 M z (put F y (some v'))) (ht : w2.mapTurned w3 M) :
    PL w3 B Lb (n + 1) vi ix its h dead sz (some M) (put F y (some v')) jb ∧ Fr (PFoot Lb vi ix (some M) F jb) w w3 ∧ ∀ k, PFoot Lb vi ix (some M) (put F y (some v')) jb k → PFoot Lb vi ix (some M) F jb k ∨ w.heap.size ≤ k := by
  obtain ⟨ps', hp', hl', f2, loc⟩ := hA
  obtain ⟨hB, ⟨z0, hz0, m0⟩, hne⟩ := P.M1 M rfl
  have m2 : MapIs w2 M z0 F := m0.frame f2 (fun e => by
    obtain ⟨ps, a, _⟩ := P.rows y _ (rowOf_block e)
    obtain ⟨cur, hg⟩ := row_type a e
    exact not_cells_map hg m0 rfl)
  have f3 : Fr (fun k => k = M) w2 w3 := (Fr.refl _ w2).grown ht.grown (fun k hk _ => by cases hk; rfl)
  have f : Fr (fun k => k = M ∨ (Ybulkdkiu.rowOf F y).ownBlock = some k) w w3 := (f2.mono (fun k _ e => .inr e)).trans f3 (fun k _ e => .inl e)
  -- a block of cells of another type than 36 keeps
  have kc : ∀ {k : Nat} {cs : Array Value} {t : TypeId}, w.heap[k]? = some (.cells cs t (0, 0)) → t ≠ 36 → ¬ (k = M ∨ (Ybulkdkiu.rowOf F y).ownBlock = some k) := by
    rintro k cs t hk ht (e | e)
    · exact not_cells_map hk m0 e
    · obtain ⟨ps, a, _⟩ := P.rows y _ (rowOf_block e)
      obtain ⟨cur, hg⟩ := row_type a e
      rw [hg] at hk; simp at hk; exact ht hk.2.symm
  have nf : ∀ k, Foot Lb vi ix k → ¬ (k = M ∨ (Ybulkdkiu.rowOf F y).ownBlock = some k) := by
    rintro k (e | e | ⟨q, hq, e | e⟩)
    · rw [e]; exact kc P.L.U.blk (by decide)
    · obtain ⟨cur, hg⟩ := row_type P.L.U.own e
      exact kc hg (by decide)
    · obtain ⟨_, _, hX, _⟩ := P.L.U.some_ q hq
      rw [e]; exact kc hX (by decide)
    · obtain ⟨_, _, _, hMq⟩ := P.L.U.some_ q hq
      rintro (c | c)
      · exact hne q hq (c.symm.trans e)
      · obtain ⟨ps, a, _⟩ := P.rows y _ (rowOf_block c)
        obtain ⟨cur, hg⟩ := row_type a c
        exact not_cells_map hg hMq e
  refine ⟨⟨P.L.frame f nf, by have := P.hn; omega, by have := P.hz; omega, P.tiny, (fun e => by cases e), ?_, ?_, ?_, ?_⟩, f.mono ?_, ?_⟩
  · intro M' e
    cases e
    exact ⟨hB, ⟨z, hz, hM3⟩, hne⟩
  · intro s v hv
    unfold put at hv
    split at hv
    · cases hv
      refine ⟨ps', f3.pr hp' (fun k hk e => ?_), by omega⟩
      obtain ⟨cur, hg⟩ := row_type hp' hk
      exact not_cells_map hg m2 e
    · rename_i hs
      obtain ⟨ps, a, b⟩ := P.rows s v hv
      refine ⟨ps, f.pr a (fun k hk => ?_), by omega⟩
      rintro (e | e)
      · obtain ⟨cur, hg⟩ := row_type a hk
        exact not_cells_map hg m0 e
      · exact hs (P.apart s y v _ k hv (rowOf_block e) hk e)
  · intro s t v u g hv hu hg hg'
    unfold put at hv hu
    split at hv <;> split at hu
    · rename_i a b; exact a.trans b.symm
    · rename_i a b
      cases hv
      rcases loc g hg with e | e
      · exact a.trans (P.apart y t _ u g (rowOf_block e) hu e hg')
      · obtain ⟨ps, r, _⟩ := P.rows t u hu
        have := (r.lt g hg').2
        omega
    · rename_i a b
      cases hu
      rcases loc g hg' with e | e
      · exact (P.apart s y v _ g hv (rowOf_block e) hg e).trans b.symm
      · obtain ⟨ps, r, _⟩ := P.rows s v hv
        have := (r.lt g hg).2
        omega
    · exact P.apart s t v u g hv hu hg hg'
  · intro b hb
    obtain ⟨a, ⟨js, c⟩, d⟩ := P.J b hb
    exact ⟨a, ⟨js, f.block c (kc c (by decide))⟩, d⟩
  · rintro k _ (e | e)
    · exact .inr (.inl (by rw [e]))
    · exact .inr (.inr (.inl ⟨y, _, rowOf_block e, e⟩))
  · rintro k (e | e | ⟨s, v, hv, e⟩ | e)
    · exact .inl (.inl e)
    · exact .inl (.inr (.inl e))
    · unfold put at hv
      split at hv
      · cases hv
        rcases loc k e with c | c
        · exact .inl (.inr (.inr (.inl ⟨y, _, rowOf_block c, c⟩)))
        · exact .inr c
      · exact .inl (.inr (.inr (.inl ⟨s, v, hv, e⟩)))
    · exact .inl (.inr (.inr (.inr e)))

end Go.Proofs.Ybulkdkiu
