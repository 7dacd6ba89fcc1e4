/-
  netconfig.sourcedList: add; uniq.List.Items on a list without dead strings.
-/
import Derived.Test.YbulkdkiuPlaces
namespace Go.Proofs.Ybulkdkiu
open Go.RowKit Go.Maps
set_option linter.unusedVariables false
set_option linter.unusedSimpArgs false

set_option maxHeartbeats 400000 in
theorem items_clean {w : World} {B Lb TL : Nat} {rest : List Value} {vi : Value} {ix : Option (Nat × Nat)} {its : List ByteArray} {h : ByteArray → Option Nat} {sz : Nat} (U : UL w B Lb TL rest vi ix its h 0 sz) :
    Calls Yba.prog 17 #[.pointer (some ⟨Lb, 0, none⟩)] w fun e w' => e = .returned vi ∧ w' = w := by
  obtain ⟨c0, c1, cf⟩ := U.cells
  cases ix with
  | none =>
    have c1' : w.cell? ⟨Lb, 1, none⟩ = some (.pointer none) := c1
    clear c1 U
    go_enter Yba.func17, Yba.ntmps17
    go_wp2
    go_ret
    exact ⟨rfl, rfl⟩
  | some p =>
    obtain ⟨_, _, hX, _⟩ := U.some_ p rfl
    have c1' : w.cell? ⟨Lb, 1, none⟩ = some (.pointer (some ⟨p.1, 0, none⟩)) := c1
    have cd : w.cell? ⟨p.1, 1, none⟩ = some (.int .i64 0) := by
      rw [cell_of_row w p.1 1 _ 69 (0, 0) hX]; rfl
    clear c1 U hX
    go_enter Yba.func17, Yba.ntmps17
    go_wp2
    go_ret
    exact ⟨rfl, rfl⟩

theorem info42 : (Yba.prog.info? 42).map (fun i => (i.zero, i.size, i.bytes)) = some (some (.slice none 0 0), 1, 24) := by kernel_rfl

/-- A sourcedList in block Lb. -/
structure SL (w : World) (B Lb : Nat) (vi : Value) (ix : Option (Nat × Nat)) (vf : Value) (its : List ByteArray) (h : ByteArray → Option Nat) (sz : Nat) (fs : List Value) : Prop where
  U : UL w B Lb 53 [vf] vi ix its h 0 sz
  R : w.ownsRow B 42 1 vf fs.length fs

def SFoot (Lb : Nat) (vi : Value) (ix : Option (Nat × Nat)) (vf : Value) (k : Nat) : Prop := Foot Lb vi ix k ∨ vf.ownBlock = some k

/-- A slice's row stays where it is or goes to a new block. -/
def Loc (w : World) (v v' : Value) : Prop := v'.ownBlock = v.ownBlock ∨ ∃ g, v'.ownBlock = some g ∧ w.heap.size ≤ g

theorem row_type {w : World} {B : Nat} {e : TypeId} {sz : Nat} {v : Value} {n : Nat} {xs : List Value} (h : w.ownsRow B e sz v n xs) {k : Nat} (hk : v.ownBlock = some k) : ∃ cur, w.heap[k]? = some (.cells cur e (0, 0)) := by
  rcases h.2 with ⟨rfl, _⟩ | ⟨g, cap, cur, rfl, _, hg, _⟩
  · simp [Value.ownBlock] at hk
  · simp [Value.ownBlock] at hk
    subst hk
    exact ⟨cur, hg⟩

/-- A block of another kind than the list's own is none of its feet. -/
theorem UL.notFoot {w : World} {B Lb TL : Nat} {rest : List Value} {vi : Value} {ix : Option (Nat × Nat)} {its : List ByteArray} {h : ByteArray → Option Nat} {dead sz : Nat} (U : UL w B Lb TL rest vi ix its h dead sz) {k : Nat} {cs : Array Value} {t : TypeId} (hk : w.heap[k]? = some (.cells cs t (0, 0)))
    (h1 : t ≠ TL) (h2 : t ≠ 9 ∨ vi.ownBlock ≠ some k) (h3 : t ≠ 69) : ¬ Foot Lb vi ix k := by
  rintro (e | e | ⟨p, hp, e | e⟩)
  · rw [e, U.blk] at hk; simp at hk; exact h1 hk.2.symm
  · rcases h2 with h2 | h2
    · obtain ⟨cur, hg⟩ := row_type U.own e
      rw [hg] at hk; simp at hk; exact h2 hk.2.symm
    · exact h2 e
  · obtain ⟨_, _, hX, _⟩ := U.some_ p hp
    rw [e, hX] at hk; simp at hk; exact h3 hk.2.symm
  · obtain ⟨_, _, _, hM⟩ := U.some_ p hp
    exact not_cells_map hk hM e

theorem cell_one42 (w : World) (v : Value) : ∀ j u, [v][j]? = some u → (w.alloc (.cells #[v] 42)).cell? ((⟨w.heap.size, 0, none⟩ : Addr).add j) = some u := by
  intro j u hj
  match j, hj with
  | 0, hj => simp at hj; subst hj; simp [Addr.add]

theorem alloc_frame (S : Nat → Prop) (w : World) (o : Obj) : Fr S w (w.alloc o) := (Fr.refl S w).alloc o

/-- What the second half of add leaves. -/
theorem sadd_step {w w1 w3 : World} {B Lb : Nat} {vi : Value} {ix : Option (Nat × Nat)} {vf : Value} {its : List ByteArray} {h : ByteArray → Option Nat} {sz : Nat} {fs : List Value} (S : SL w B Lb vi ix vf its h sz fs)
    {o : Obj} {vi' : Value} {p : Nat × Nat} {its' : List ByteArray} {h' : ByteArray → Option Nat} {sz' : Nat} (U1 : UL w1 B Lb 53 [vf] vi' (some p) its' h' 0 sz') (F1 : Fr (Foot Lb vi ix) w w1) (L1 : Loc w vi vi') (hp : ix = some p ∨ (w.heap.size ≤ p.1 ∧ w.heap.size ≤ p.2))
    {fv v3 : Value} (own3 : w3.ownsRow B 42 1 v3 (fs.length + 1) (fs ++ [fv])) (G3 : (w1.alloc o).grownBy w3 vf.ownBlock) (hloc : v3.ownBlock = vf.ownBlock ∨ v3.ownBlock = some (w1.alloc o).heap.size) :
    w3.heap[Lb]? = some (.cells #[vi', .pointer (some ⟨p.1, 0, none⟩), vf] 53 (0, 0)) ∧ SL (w3.setCell ⟨Lb, 2, none⟩ v3) B Lb vi' (some p) v3 its' h' sz' (fs ++ [fv]) ∧
    Fr (SFoot Lb vi ix vf) w (w3.setCell ⟨Lb, 2, none⟩ v3) ∧ Loc w vf v3 := by
  have vff : ∀ k, vf.ownBlock = some k → ∃ cur, w.heap[k]? = some (.cells cur 42 (0, 0)) := fun k hk => row_type S.R hk
  have vf1 : ∀ k, vf.ownBlock = some k → ∃ cur, w1.heap[k]? = some (.cells cur 42 (0, 0)) := fun k hk => by
    obtain ⟨cur, hc⟩ := vff k hk
    exact ⟨cur, F1.block hc (S.U.notFoot hc (by decide) (.inl (by decide)) (by decide))⟩
  have old : ∀ j, j < w1.heap.size → some j ≠ vf.ownBlock → w3.heap[j]? = w1.heap[j]? := fun j hj hn => by
    rw [G3.block j (by simp; omega) hn]; exact Below.heap_alloc w1 o j hj
  have nf : ∀ k, Foot Lb vi' (some p) k → some k ≠ vf.ownBlock := fun k hk e => by
    obtain ⟨cur, hc⟩ := vf1 k e.symm
    exact U1.notFoot hc (by decide) (.inl (by decide)) (by decide) hk
  have hL : w3.heap[Lb]? = some (.cells #[vi', .pointer (some ⟨p.1, 0, none⟩), vf] 53 (0, 0)) := (old Lb (lt_of U1.blk) (nf Lb (.inl rfl))).trans U1.blk
  have hvL : v3.ownBlock ≠ some Lb := fun e => by
    rcases hloc with hl | hl
    · exact nf Lb (.inl rfl) (e.symm.trans hl)
    · rw [hl] at e
      have := lt_of U1.blk
      simp at e; omega
  have F3 : Fr (fun k => vf.ownBlock = some k) w1 w3 := (alloc_frame _ w1 o).grown G3 (fun k hk _ => hk)
  have hUold : ∀ k, Foot Lb vi' (some p) k → k < w1.heap.size := fun k hk => by
    rcases hk with rfl | hk | ⟨q, hq, hk⟩
    · exact lt_of U1.blk
    · exact (U1.own.lt k hk).2
    · cases hq
      obtain ⟨_, _, hX, hM⟩ := U1.some_ p rfl
      rcases hk with rfl | rfl
      · exact lt_of hX
      · exact hM.lt
  have U3 : UL w3 B Lb 53 [vf] vi' (some p) its' h' 0 sz' := U1.frame F3 (fun k hk e => nf k hk e.symm)
  obtain ⟨n1, n2, n3, n4⟩ := U3.parts (by decide) (by decide)
  refine ⟨hL, ⟨⟨?_, U3.hB, ?_, U3.short, (fun e => by cases e), ?_⟩, ?_⟩, ?_, ?_⟩
  · rw [heap_setCell_at hL]; rfl
  · exact ownsRow_setCell_other U3.own (fun e => (n4 Lb e).1 rfl) v3
  · intro q hq
    cases hq
    obtain ⟨a, b, c, d⟩ := U3.some_ p rfl
    exact ⟨a, b, (Below.heap_setCell _ _ _ _ n1.symm).trans c, d.block (Below.heap_setCell _ _ _ _ n2.symm)⟩
  · rw [List.length_append]
    exact ownsRow_setCell_other own3 hvL v3
  · refine Fr.setCell ?_ (fun _ => .inl (.inl rfl)) _
    exact (F1.mono (fun k _ hk => .inl hk)).trans F3 (fun k _ hk => .inr hk)
  · rcases hloc with hl | hl
    · exact .inl hl
    · exact .inr ⟨_, hl, by have := F1.size; simp; omega⟩

/-- What add leaves. -/
def SaddPost (w : World) (B Lb : Nat) (vi : Value) (ix : Option (Nat × Nat)) (vf : Value) (st : List ByteArray × (ByteArray → Option Nat)) (sz : Nat) (fs : List Value) (w' : World) : Prop :=
  ∃ (vi' : Value) (p : Nat × Nat) (vf' : Value) (sz' : Nat), SL w' B Lb vi' (some p) vf' st.1 st.2 sz' fs ∧ Fr (SFoot Lb vi ix vf) w w' ∧ Loc w vi vi' ∧ Loc w vf vf' ∧ (ix = some p ∨ (w.heap.size ≤ p.1 ∧ w.heap.size ≤ p.2)) ∧ sz' ≤ sz + 1

theorem saddPost_mk {w : World} {B Lb : Nat} {vi : Value} {ix : Option (Nat × Nat)} {vf : Value} {st : List ByteArray × (ByteArray → Option Nat)} {sz : Nat} {fs : List Value} {w' : World} (vi' : Value) (p : Nat × Nat) (vf' : Value) (sz' : Nat)
    (h1 : SL w' B Lb vi' (some p) vf' st.1 st.2 sz' fs) (h2 : Fr (SFoot Lb vi ix vf) w w') (h3 : Loc w vi vi') (h4 : Loc w vf vf') (h5 : ix = some p ∨ (w.heap.size ≤ p.1 ∧ w.heap.size ≤ p.2)) (h6 : sz' ≤ sz + 1) : SaddPost w B Lb vi ix vf st sz fs w' :=
  ⟨vi', p, vf', sz', h1, h2, h3, h4, h5, h6⟩

/-- The sources behind an add. -/
def srcs (h : ByteArray → Option Nat) (y : ByteArray) (fs : List Value) (f : Value) : List Value := if (h y).isSome then fs else fs ++ [f]
theorem srcs_has {h : ByteArray → Option Nat} {y : ByteArray} {fs : List Value} {f : Value} (hh : (h y).isSome = true) : srcs h y fs f = fs := by simp [srcs, hh]
theorem srcs_new {h : ByteArray → Option Nat} {y : ByteArray} {fs : List Value} {f : Value} (hh : (h y).isSome = false) : srcs h y fs f = fs ++ [f] := by simp [srcs, hh]

set_option maxHeartbeats 1000000 in
theorem sadd_any {w : World} {B Lb : Nat} {vi : Value} {ix : Option (Nat × Nat)} {vf : Value} {its : List ByteArray} {h : ByteArray → Option Nat} {sz : Nat} {fs : List Value} (S : SL w B Lb vi ix vf its h sz fs) (hBw : B ≤ w.heap.size)
    (y : ByteArray) (hy : y.size ≤ maxLen) (ao : Option Addr) (n c : Nat) (hb1 : its.length ≤ 1073741824) (hb2 : sz ≤ 1073741824) (hb3 : fs.length ≤ 1073741824) :
    Calls Yba.prog 14 #[.pointer (some ⟨Lb, 0, none⟩), .string y, .slice ao n c] w fun e w' => e = .returned (.tuple #[]) ∧ SaddPost w B Lb vi ix vf (addOne (its, h) y) sz (srcs h y fs (.slice ao n c)) w' := by
  obtain ⟨i0, hi, hz0, hz1, hz2⟩ := info_parts info42
  go_enter Yba.func14, Yba.ntmps14
  go_wp2_with fail
  have U1 : UL (w.alloc (.cells #[.string y] 9)) B Lb 53 [vf] vi ix its h 0 sz := S.U.frame (alloc_frame (fun _ => False) w _) (fun _ _ => id)
  refine (add_any U1 (by simp; omega) w.heap.size 1 [y] rfl (heap_alloc_new w _) (fun e => by have := (S.U.own.lt _ e).2; omega) (by decide) (by decide) (fun s hs => by simp at hs; subst hs; exact hy) (by omega) (by omega)).mono ?_
  rintro e w1 ⟨vi', p, sz', rfl, U2, F2, L2, hp, hsz⟩
  have F2' : Fr (Foot Lb vi ix) w w1 := (alloc_frame _ w _).trans F2 (fun k _ hk => hk)
  have L2' : Loc w vi vi' := by
    rcases L2 with h | ⟨g, h, h'⟩
    · exact .inl h
    · exact .inr ⟨g, h, by simp at h'; omega⟩
  have hp' : ix = some p ∨ (w.heap.size ≤ p.1 ∧ w.heap.size ≤ p.2) := by
    rcases hp with h | h
    · exact .inl h
    · exact .inr (by simp at h; omega)
  have U2' : UL w1 B Lb 53 [vf] vi' (some p) (addOne (its, h) y).1 (addOne (its, h) y).2 0 sz' := U2
  have e0 : List.foldl addOne (its, h) [y] = addOne (its, h) y := rfl
  rw [e0]
  clear U2 e0
  cases hh : h y with
  | some i =>
    have e1 : addOne (its, h) y = (its, h) := addOne_has (by simp [hh])
    have e2 : (((addOne (its, h) y).1.length : Int) - (its.length : Int)) = 0 := by rw [e1]; simp
    have HS : Hid (srcs h y fs (.slice ao n c) = fs) := srcs_has (by simp [hh])
    rw [e2]
    clear e1 e2 hh
    go_wp2_with fail
    go_end0
    refine ⟨rfl, saddPost_mk vi' p vf sz' ⟨U2', ?_⟩ (F2'.mono (fun k _ hk => .inl hk)) L2' (.inl rfl) hp' (by omega)⟩
    rw [HS.out]
    refine F2'.row S.R (fun k hk => ?_)
    obtain ⟨cur, hc⟩ := row_type S.R hk
    exact S.U.notFoot hc (by decide) (.inl (by decide)) (by decide)
  | none =>
    have e1 : addOne (its, h) y = (its ++ [y], fun t => if t = y then some its.length else h t) := addOne_new (by simp [hh])
    have e2 : (((addOne (its, h) y).1.length : Int) - (its.length : Int)) = 1 := by rw [e1]; simp; omega
    have HS : Hid (srcs h y fs (.slice ao n c) = fs ++ [.slice ao n c]) := srcs_new (by simp [hh])
    rw [e2]
    obtain ⟨aof, capf, hvf⟩ := own_form S.R
    subst hvf
    have c2 : w1.cell? ⟨Lb, 2, none⟩ = some (.slice aof fs.length capf) := by
      rw [cell_of_row w1 Lb 2 _ 53 (0, 0) U2'.blk]; rfl
    have R1 : w1.ownsRow B 42 1 (.slice aof fs.length capf) fs.length fs := F2'.row S.R (fun k hk => by
      obtain ⟨cur, hc⟩ := row_type S.R hk
      exact S.U.notFoot hc (by decide) (.inl (by decide)) (by decide))
    have hB1 : B ≤ w1.heap.size := Nat.le_trans hBw F2'.size
    have hLlt := lt_of U2'.blk
    clear hh e1 e2
    go_wp2_with (at_builtin; go_must (refine wpList_append_own_at _ rfl (.tmp 17) (.tmp 19) 41 rfl B 42 i0 (.slice none 0 0) 1 24 Yba.underlying41 hi hz0 hz1 hz2 rfl (by decide) _ _ _ rfl (R1.alloc _) ⟨w1.heap.size, 0, none⟩ 1 1 [.slice ao n c] rfl rfl (cell_one42 w1 _) (by intro u hu; simp at hu; subst hu; rfl) (by unfold maxLen; omega) (by omega) (by simp; omega) ?_); intro v3 w3 own3 G3 _ hloc; obtain ⟨g3, cap3, hv3, hg3, hg3s⟩ := own_form_pos own3 (by omega); have T := sadd_step S U2' F2' L2' hp' own3 G3 hloc; subst hv3; have c30 : w3.cell? ⟨Lb, 2, none⟩ = some (.slice aof fs.length capf) := (by rw [cell_of_row w3 Lb 2 _ 53 (0, 0) T.1]; rfl); have c3f := frozen_of_row w3 Lb 2 _ 53 T.1)
    go_end0
    refine ⟨rfl, saddPost_mk vi' p _ sz' ?_ T.2.2.1 L2' T.2.2.2 hp' (by omega)⟩
    rw [HS.out]
    exact T.2.1

end Go.Proofs.Ybulkdkiu
