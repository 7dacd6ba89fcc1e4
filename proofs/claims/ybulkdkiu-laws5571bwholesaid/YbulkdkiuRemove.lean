/-
  uniq.List: Remove of one string, Items, Set(nil).
-/
import Derived.Test.YbulkdkiuCompact
namespace Go.Proofs.Ybulkdkiu
open Go.RowKit Go.Maps
set_option linter.unusedVariables false
set_option linter.unusedSimpArgs false

theorem wpList_delete_is {w : World} {ops : Array Oper} {rest : List Oper} {o : Oper} {a : Act} {Q : Exit → Act → World → Prop} (hg : o.guard = none) (m x : Operand) (t e : TypeId) (hop : o.op = Op.call { callee := Callee.builtin Builtin.delete, args := #[m, x], argTypes := #[t, 9] })
    (ht : Yba.prog.underlying t = some (.map 9 e)) (M sz : Nat) (f : ByteArray → Option Value) (hm : a.eval m = .map (some M)) (hM : MapIs w M sz f) (s : ByteArray) (hx : a.eval x = .string s) (hs : s.size ≤ maxLen)
    (hK : ∀ w', MapIs w' M (if (f s).isSome then sz - 1 else sz) (put f s none) → w.mapTurned w' M → wpList Yba.prog ops Q rest (a.put o.dst (.tuple #[])) w') : wpList Yba.prog ops Q (o :: rest) a w := by
  refine wpList_plain hg fun K' hK' => ?_
  obtain ⟨w', hrun, r1, r2⟩ := hM.drop ht hs o.type
  unfold Oper.wp
  simp [execOp, hop, resolve, invoke, builtin, hm, hx, hrun, Result.andThen]
  exact hK' _ _ (hK w' r1 r2)

/-- A uniq.List, its strings and its index in step. -/
structure LL (w : World) (B Lb TL : Nat) (rest : List Value) (vi : Value) (ix : Option (Nat × Nat)) (its : List ByteArray) (h : ByteArray → Option Nat) (dead sz : Nat) : Prop where
  U : UL w B Lb TL rest vi ix its h dead sz
  wf : Wfh its h
  cnt : (live its h).length + dead = its.length

theorem LL.frame {S : Nat → Prop} {w w' : World} {B Lb TL : Nat} {rest : List Value} {vi : Value} {ix : Option (Nat × Nat)} {its : List ByteArray} {h : ByteArray → Option Nat} {dead sz : Nat} (U : LL w B Lb TL rest vi ix its h dead sz)
    (g : Fr S w w') (hn : ∀ k, Foot Lb vi ix k → ¬ S k) : LL w' B Lb TL rest vi ix its h dead sz := ⟨U.U.frame g hn, U.wf, U.cnt⟩

/-- A row stays where it is or goes to a new block. -/
def LocB (w : World) (v v' : Value) : Prop := ∀ g, v'.ownBlock = some g → v.ownBlock = some g ∨ w.heap.size ≤ g
theorem LocB.refl (w : World) (v : Value) : LocB w v v := fun g h => .inl h
theorem LocB.trans {w w1 : World} {a b c : Value} (h : LocB w a b) (h1 : LocB w1 b c) (hs : w.heap.size ≤ w1.heap.size) : LocB w a c := fun g hg => by
  rcases h1 g hg with e | e
  · exact h g e
  · exact .inr (by omega)
theorem LocB.of {w : World} {v v' : Value} (h : v'.ownBlock = v.ownBlock ∨ ∃ g, v'.ownBlock = some g ∧ w.heap.size ≤ g) : LocB w v v' := fun g hg => by
  rcases h with e | ⟨g', e, h'⟩
  · exact .inl (e.symm.trans hg)
  · rw [e] at hg; cases hg; exact .inr h'
def IxLoc (w : World) (ix : Option (Nat × Nat)) (p : Nat × Nat) : Prop := ix = some p ∨ (w.heap.size ≤ p.1 ∧ w.heap.size ≤ p.2)

/-- What a method of the list leaves: the living are L. -/
def LPost (w : World) (B Lb TL : Nat) (rest : List Value) (vi : Value) (ix : Option (Nat × Nat)) (n sz : Nat) (L : List ByteArray) (w' : World) (vi' : Value) (p : Nat × Nat) (dead' : Nat) : Prop :=
  ∃ its' h' sz', LL w' B Lb TL rest vi' (some p) its' h' dead' sz' ∧ live its' h' = L ∧ Fr (Foot Lb vi ix) w w' ∧ LocB w vi vi' ∧ IxLoc w ix p ∧ its'.length ≤ n ∧ sz' ≤ sz

/-- Items: the living, in order. -/
theorem items_any {w : World} {B Lb TL : Nat} {rest : List Value} {vi : Value} {p : Nat × Nat} {its : List ByteArray} {h : ByteArray → Option Nat} {dead sz : Nat} (U : LL w B Lb TL rest vi (some p) its h dead sz) (hTL : TL ≠ 9) (hTL2 : TL ≠ 69)
    (hbig : its.length ≤ 1073741824) (hsz : sz ≤ 1073741824) :
    Calls Yba.prog 17 #[.pointer (some ⟨Lb, 0, none⟩)] w fun e w' => ∃ vi', e = .returned vi' ∧ LPost w B Lb TL rest vi (some p) its.length sz (live its h) w' vi' p 0 := by
  obtain ⟨c0, c1, cf⟩ := U.U.cells
  obtain ⟨_, _, hX, _⟩ := U.U.some_ p rfl
  have c1' : w.cell? ⟨Lb, 1, none⟩ = some (.pointer (some ⟨p.1, 0, none⟩)) := c1
  have cd : w.cell? ⟨p.1, 1, none⟩ = some (.int .i64 (dead : Int)) := by
    rw [cell_of_row w p.1 1 _ 69 (0, 0) hX]; rfl
  have hd : dead ≤ its.length := by have := U.cnt; omega
  by_cases h0 : dead = 0
  · subst h0
    have HP : Hid (LPost w B Lb TL rest vi (some p) its.length sz (live its h) w vi p 0) := ⟨its, h, sz, U, rfl, Fr.refl _ _, LocB.refl _ _, .inl rfl, Nat.le_refl _, Nat.le_refl _⟩
    have cd' : w.cell? ⟨p.1, 1, none⟩ = some (.int .i64 0) := cd
    clear c1 cd U hX
    go_enter Yba.func17, Yba.ntmps17
    go_wp2
    go_ret
    exact ⟨vi, rfl, HP.out⟩
  · have t1 : decide ((0 : Int) < (dead : Int)) = true := by simp; omega
    have hc := compact_any U.U U.wf hTL hTL2 hd hbig hsz
    have HU : Hid (LL w B Lb TL rest vi (some p) its h dead sz) := U
    clear c1 U hX
    go_enter Yba.func17, Yba.ntmps17
    go_wp2_with fail
    refine hc.mono ?_
    rintro e w1 ⟨rfl, vk, UK, FK, LK⟩
    have ck := UK.cells.1
    have HP : Hid (LPost w B Lb TL rest vi (some p) its.length sz (live its h) w1 vk p 0) :=
      ⟨live its h, packed its h, sz, ⟨UK, packed_wfh HU.out.wf, by rw [packed_live HU.out.wf]; rfl⟩, packed_live HU.out.wf, FK, fun g hg => .inr (LK g hg), .inl rfl, by have := HU.out.cnt; omega, Nat.le_refl _⟩
    clear hc UK FK LK
    go_wp2_with fail
    go_ret
    exact ⟨vk, rfl, HP.out⟩

theorem items_none {w : World} {B Lb TL : Nat} {rest : List Value} {vi : Value} {its : List ByteArray} {h : ByteArray → Option Nat} {dead sz : Nat} (U : UL w B Lb TL rest vi none its h dead sz) :
    Calls Yba.prog 17 #[.pointer (some ⟨Lb, 0, none⟩)] w fun e w' => e = .returned (.slice none 0 0) ∧ w' = w := by
  obtain ⟨c0, c1, cf⟩ := U.cells
  obtain ⟨_, hvi, _⟩ := U.none_ rfl
  subst hvi
  have c1' : w.cell? ⟨Lb, 1, none⟩ = some (.pointer none) := c1
  clear c1 U
  go_enter Yba.func17, Yba.ntmps17
  go_wp2
  go_ret
  exact ⟨rfl, rfl⟩

set_option maxHeartbeats 400000 in
/-- Set(nil). -/
theorem set_nil {w : World} {B Lb TL : Nat} {rest : List Value} {vi : Value} {ix : Option (Nat × Nat)} {its : List ByteArray} {h : ByteArray → Option Nat} {dead sz : Nat} (U : UL w B Lb TL rest vi ix its h dead sz) :
    Calls Yba.prog 21 #[.pointer (some ⟨Lb, 0, none⟩), .slice none 0 0] w fun e w' => e = .returned (.tuple #[]) ∧ w' = (w.setCell ⟨Lb, 0, none⟩ (.slice none 0 0)).setCell ⟨Lb, 1, none⟩ (.pointer none) := by
  obtain ⟨c0, c1, cf⟩ := U.cells
  clear U
  go_enter Yba.func21, Yba.ntmps21
  go_wp2
  go_end0
  exact ⟨rfl, rfl⟩

theorem set_nil_UL {w : World} {B Lb TL : Nat} {rest : List Value} {vi : Value} {ix : Option (Nat × Nat)} {its : List ByteArray} {h : ByteArray → Option Nat} {dead sz : Nat} (U : UL w B Lb TL rest vi ix its h dead sz) :
    LL ((w.setCell ⟨Lb, 0, none⟩ (.slice none 0 0)).setCell ⟨Lb, 1, none⟩ (.pointer none)) B Lb TL rest (.slice none 0 0) none [] (fun _ => none) 0 0 := by
  refine ⟨⟨?_, U.hB, World.ownsRow_nil _ _ _ _, (fun s hs => by simp at hs), (fun _ => ⟨rfl, rfl, rfl, rfl, rfl⟩), (fun p hp => by cases hp)⟩, (fun s i hs => by cases hs), rfl⟩
  have h1 : (w.setCell ⟨Lb, 0, none⟩ (.slice none 0 0)).heap[Lb]? = some (.cells (.slice none 0 0 :: ixp ix :: rest).toArray TL (0, 0)) := by rw [heap_setCell_at U.blk, cells_set0]
  rw [heap_setCell_at h1, cells_set1]
  rfl

/-- Remove's own half: the string is struck from the index. -/
theorem rem_UL {w w2 : World} {B Lb TL : Nat} {rest : List Value} {vi : Value} {p : Nat × Nat} {its : List ByteArray} {h : ByteArray → Option Nat} {dead sz : Nat} (U : LL w B Lb TL rest vi (some p) its h dead sz) (hTL : TL ≠ 9) (hTL2 : TL ≠ 69) {y : ByteArray} {i : Nat} (hy : h y = some i) {o : Obj}
    (hM2 : MapIs w2 p.2 (sz - 1) (put (fun s => (h s).map place) y none)) (ht2 : (w.alloc o).mapTurned w2 p.2) :
    w2.heap[p.1]? = some (.cells #[.map (some p.2), .int .i64 (dead : Int)] 69 (0, 0)) ∧ w2.heap[Lb]? = some (.cells (vi :: ixp (some p) :: rest).toArray TL (0, 0)) ∧
    LL (w2.setCell ⟨p.1, 1, none⟩ (.int .i64 ((dead : Int) + 1))).drew B Lb TL rest vi (some p) its (without h y) (dead + 1) (sz - 1) ∧ Fr (Foot Lb vi (some p)) w (w2.setCell ⟨p.1, 1, none⟩ (.int .i64 ((dead : Int) + 1))).drew := by
  obtain ⟨n1, n2, n3, n4⟩ := U.U.parts hTL hTL2
  obtain ⟨hb1, hb2, hX, hM⟩ := U.U.some_ p rfl
  have f2 : Fr (fun k => k = p.2) w w2 := ((Fr.refl _ w).alloc o).grown ht2.grown (fun k hk _ => by cases hk; rfl)
  have hX2 := f2.block hX n3
  have hL2 := f2.block U.U.blk n2
  have hwo : put (fun s => (h s).map place) y none = fun s => (without h y s).map place := by
    funext t
    unfold put without
    by_cases e : t = y <;> simp [e]
  rw [hwo] at hM2
  refine ⟨hX2, hL2, ⟨⟨?_, U.U.hB, ?_, U.U.short, (fun e => by cases e), ?_⟩, wfh_without U.wf y, ?_⟩, ?_⟩
  · show (w2.setCell _ _).heap[Lb]? = _
    rw [Below.heap_setCell _ _ _ _ n1]; exact hL2
  · exact (ownsRow_setCell_other (f2.row U.U.own (fun k hk e => (n4 k hk).2.2 e)) (fun e => (n4 _ e).2.1 rfl) _).drew
  · intro q hq
    cases hq
    refine ⟨hb1, hb2, ?_, ?_⟩
    · show (w2.setCell _ _).heap[p.1]? = _
      rw [heap_setCell_at hX2]
      simp
    · exact hM2.block (Below.heap_setCell w2 ⟨p.1, 1, none⟩ _ _ n3.symm)
  · have h1 := live_without_len U.wf hy
    have h2 := U.cnt
    omega
  · exact ((f2.mono (fun k _ e => .inr (.inr ⟨p, rfl, .inr e⟩))).setCell (p := ⟨p.1, 1, none⟩) (fun _ => .inr (.inr ⟨p, rfl, .inl rfl⟩)) _).drew

end Go.Proofs.Ybulkdkiu
