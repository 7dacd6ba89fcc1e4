/-
  uniq.List in memory: its strings, its index, and what indexed, Add and Items make of them.
-/
import Derived.Test.YbulkdkiuBase
import Derived.Outline
import Derived.Deep.DeepMust
import Derived.RegionTactic
import Derived.BigRegion
namespace Go.Proofs.Ybulkdkiu
open Go.RowKit Go.Maps
set_option linter.unusedVariables false
set_option linter.unusedSimpArgs false

def strs (xs : List ByteArray) : List Value := xs.map Value.string
theorem strs_len (xs : List ByteArray) : (strs xs).length = xs.length := by simp [strs]
theorem strs_one (xs : List ByteArray) : ∀ u ∈ strs xs, u.oneCell' = true := by
  intro u hu
  simp only [strs, List.mem_map] at hu
  obtain ⟨b, _, rfl⟩ := hu
  rfl
theorem strs_append (l k : List ByteArray) : strs (l ++ k) = strs l ++ strs k := by simp [strs]
theorem strs_get {l : List ByteArray} {j : Nat} {b : ByteArray} (h : l[j]? = some b) : (strs l)[j]? = some (.string b) := by simp [strs, h]

def place (i : Nat) : Value := .agg #[.int .i64 (i : Int), .int .i64 1]

def ixp : Option (Nat × Nat) → Value
  | none => .pointer none
  | some p => .pointer (some ⟨p.1, 0, none⟩)

/-- A uniq.List in the first two cells of block Lb: 'its': its strings, the dead ones among them; 'h': where each held string stands; 'dead': how many are dead. -/
structure UL (w : World) (B Lb TL : Nat) (rest : List Value) (vi : Value) (ix : Option (Nat × Nat)) (its : List ByteArray) (h : ByteArray → Option Nat) (dead sz : Nat) : Prop where
  blk : w.heap[Lb]? = some (.cells (vi :: ixp ix :: rest).toArray TL (0, 0))
  hB : B ≤ Lb
  own : w.ownsRow B 9 1 vi its.length (strs its)
  short : ∀ s ∈ its, s.size ≤ maxLen
  none_ : ix = none → its = [] ∧ vi = .slice none 0 0 ∧ (h = fun _ => none) ∧ dead = 0 ∧ sz = 0
  some_ : ∀ p, ix = some p → B ≤ p.1 ∧ B ≤ p.2 ∧ w.heap[p.1]? = some (.cells #[.map (some p.2), .int .i64 (dead : Int)] 69 (0, 0)) ∧ MapIs w p.2 sz (fun s => (h s).map place)

/-- The blocks that a list may turn. -/
def Foot (Lb : Nat) (vi : Value) (ix : Option (Nat × Nat)) (k : Nat) : Prop := k = Lb ∨ vi.ownBlock = some k ∨ ∃ p, ix = some p ∧ (k = p.1 ∨ k = p.2)

theorem UL.cells {w : World} {B Lb TL : Nat} {rest : List Value} {vi : Value} {ix : Option (Nat × Nat)} {its : List ByteArray} {h : ByteArray → Option Nat} {dead sz : Nat} (U : UL w B Lb TL rest vi ix its h dead sz) :
    w.cell? ⟨Lb, 0, none⟩ = some vi ∧ w.cell? ⟨Lb, 1, none⟩ = some (ixp ix) ∧ ∀ j, w.frozen? ⟨Lb, j, none⟩ = false := by
  refine ⟨?_, ?_, fun j => frozen_of_row w Lb j _ TL U.blk⟩
  · rw [cell_of_row w Lb 0 _ TL (0, 0) U.blk]; rfl
  · rw [cell_of_row w Lb 1 _ TL (0, 0) U.blk]; rfl

/-- A list keeps while its own blocks keep. -/
theorem UL.frame {S : Nat → Prop} {w w' : World} {B Lb TL : Nat} {rest : List Value} {vi : Value} {ix : Option (Nat × Nat)} {its : List ByteArray} {h : ByteArray → Option Nat} {dead sz : Nat} (U : UL w B Lb TL rest vi ix its h dead sz)
    (g : Fr S w w') (hn : ∀ k, Foot Lb vi ix k → ¬ S k) : UL w' B Lb TL rest vi ix its h dead sz :=
  ⟨g.block U.blk (hn Lb (.inl rfl)), U.hB, g.row U.own (fun k hk => hn k (.inr (.inl hk))), U.short, U.none_,
    fun p hp => by
      obtain ⟨a, b, c, d⟩ := U.some_ p hp
      exact ⟨a, b, g.block c (hn p.1 (.inr (.inr ⟨p, hp, .inl rfl⟩))), d.frame g (hn p.2 (.inr (.inr ⟨p, hp, .inr rfl⟩)))⟩⟩

set_option maxHeartbeats 400000 in
theorem indexed_some {w : World} {B Lb TL : Nat} {rest : List Value} {vi : Value} {p : Nat × Nat} {its : List ByteArray} {h : ByteArray → Option Nat} {dead sz : Nat} (U : UL w B Lb TL rest vi (some p) its h dead sz) :
    Calls Yba.prog 25 #[.pointer (some ⟨Lb, 0, none⟩)] w fun e w' => e = .returned (.pointer (some ⟨p.1, 0, none⟩)) ∧ w' = w := by
  obtain ⟨c0, c1, cf⟩ := U.cells
  have c1' : w.cell? ⟨Lb, 1, none⟩ = some (.pointer (some ⟨p.1, 0, none⟩)) := c1
  clear c1 c0 U
  go_enter Yba.func25, Yba.ntmps25
  go_wp2
  go_ret
  exact ⟨rfl, rfl⟩

theorem makeMap_hint67 (n : Int) (W : World) : (Instr.makeMap 67 (some (.int .i64 n))).run Yba.prog W = .ok (.map (some W.heap.size)) (W.alloc (.map #[] 0)) := by
  simp [Instr.makeMap, run_underlying Yba.underlying67, asInt, asIntOf, Result.andThen]

set_option maxHeartbeats 400000 in
theorem indexed_none {w : World} {B Lb TL : Nat} {rest : List Value} {vi : Value} {its : List ByteArray} {h : ByteArray → Option Nat} {dead sz : Nat} (U : UL w B Lb TL rest vi none its h dead sz) :
    Calls Yba.prog 25 #[.pointer (some ⟨Lb, 0, none⟩)] w fun e w' => e = .returned (.pointer (some ⟨w.heap.size + 1, 0, none⟩)) ∧
      w' = ((w.setCell ⟨Lb, 1, none⟩ (.pointer (some ⟨w.heap.size + 1, 0, none⟩))).alloc (.map #[] 0)).alloc (.cells #[.map (some w.heap.size), .int .i64 0] 69) := by
  obtain ⟨c0, c1, cf⟩ := U.cells
  obtain ⟨_, hvi, _⟩ := U.none_ rfl
  subst hvi
  have c1' : w.cell? ⟨Lb, 1, none⟩ = some (.pointer none) := c1
  have hlt := lt_of U.blk
  clear c1 U
  have hmm := makeMap_hint67
  go_enter Yba.func25, Yba.ntmps25
  go_wp2
  refine wp_loop_rounds 1 ?_
  rw [rounds_succ]
  go_wp2
  go_ret
  exact ⟨rfl, rfl⟩

theorem cells_set0 (vi p v : Value) (rest : List Value) : (vi :: p :: rest).toArray.setIfInBounds 0 v = (v :: p :: rest).toArray := by simp
theorem cells_set1 (vi p v : Value) (rest : List Value) : (vi :: p :: rest).toArray.setIfInBounds 1 v = (vi :: v :: rest).toArray := by simp

theorem heap_setCell_at {w : World} {b i : Nat} {cs : Array Value} {t : TypeId} {fz : Nat × Nat} (h : w.heap[b]? = some (.cells cs t fz)) (v : Value) : (w.setCell ⟨b, i, none⟩ v).heap[b]? = some (.cells (cs.setIfInBounds i v) t fz) := by
  simp only [World.setCell, Array.getElem?_modify, if_true, h, Option.map_some]
  simp

theorem indexed_any {w : World} {B Lb TL : Nat} {rest : List Value} {vi : Value} {ix : Option (Nat × Nat)} {its : List ByteArray} {h : ByteArray → Option Nat} {dead sz : Nat} (U : UL w B Lb TL rest vi ix its h dead sz) (hBw : B ≤ w.heap.size) :
    Calls Yba.prog 25 #[.pointer (some ⟨Lb, 0, none⟩)] w fun e w' => ∃ p : Nat × Nat, e = .returned (.pointer (some ⟨p.1, 0, none⟩)) ∧ UL w' B Lb TL rest vi (some p) its h dead sz ∧ Fr (fun k => k = Lb) w w' ∧ (ix = some p ∨ (w.heap.size ≤ p.1 ∧ w.heap.size ≤ p.2)) := by
  cases ix with
  | some p =>
    refine (indexed_some U).mono ?_
    rintro e w' ⟨rfl, rfl⟩
    exact ⟨p, rfl, U, Fr.refl _ _, .inl rfl⟩
  | none =>
    refine (indexed_none U).mono ?_
    rintro e w' ⟨rfl, rfl⟩
    obtain ⟨rfl, rfl, rfl, rfl, rfl⟩ := U.none_ rfl
    have hlt := lt_of U.blk
    have hsz : (w.setCell ⟨Lb, 1, none⟩ (.pointer (some ⟨w.heap.size + 1, 0, none⟩))).heap.size = w.heap.size := by simp [World.setCell]
    refine ⟨(w.heap.size + 1, w.heap.size), rfl, ⟨?_, U.hB, World.ownsRow_nil _ _ _ _, U.short, (fun h => by cases h), ?_⟩, ?_, .inr ⟨by simp, by simp⟩⟩
    · rw [Below.heap_alloc _ _ _ (by simp [hsz]; omega), Below.heap_alloc _ _ _ (by omega), heap_setCell_at U.blk, cells_set1]
      rfl
    · intro p hp
      cases hp
      refine ⟨by simp; omega, by simp; omega, ?_, ?_⟩
      · have := heap_alloc_new ((w.setCell ⟨Lb, 1, none⟩ (.pointer (some ⟨w.heap.size + 1, 0, none⟩))).alloc (.map #[] 0)) (.cells #[.map (some w.heap.size), .int .i64 0] 69)
        rw [World.size_alloc, hsz] at this
        exact this
      · have := MapIs.made (w.setCell ⟨Lb, 1, none⟩ (.pointer (some ⟨w.heap.size + 1, 0, none⟩)))
        rw [hsz] at this
        exact this.block (Below.heap_alloc _ _ _ (by simp [hsz]))
    · exact (((Fr.refl (fun k => k = Lb) w).setCell (p := ⟨Lb, 1, none⟩) (fun _ => rfl) _).alloc _).alloc _

/-! ### Add -/

def addOne (st : List ByteArray × (ByteArray → Option Nat)) (s : ByteArray) : List ByteArray × (ByteArray → Option Nat) :=
  if (st.2 s).isSome then st else (st.1 ++ [s], fun t => if t = s then some st.1.length else st.2 t)

theorem addOne_has {st : List ByteArray × (ByteArray → Option Nat)} {s : ByteArray} (h : (st.2 s).isSome = true) : addOne st s = st := by simp [addOne, h]
theorem addOne_new {st : List ByteArray × (ByteArray → Option Nat)} {s : ByteArray} (h : (st.2 s).isSome = false) : addOne st s = (st.1 ++ [s], fun t => if t = s then some st.1.length else st.2 t) := by simp [addOne, h]
theorem addOne_len (st : List ByteArray × (ByteArray → Option Nat)) (s : ByteArray) : st.1.length ≤ (addOne st s).1.length ∧ (addOne st s).1.length ≤ st.1.length + 1 := by
  unfold addOne; split <;> simp
theorem addAll_len (ys : List ByteArray) : ∀ st : List ByteArray × (ByteArray → Option Nat), st.1.length ≤ (ys.foldl addOne st).1.length ∧ (ys.foldl addOne st).1.length ≤ st.1.length + ys.length := by
  induction ys with
  | nil => intro st; simp
  | cons y ys ih =>
    intro st
    have h1 := addOne_len st y
    have h2 := ih (addOne st y)
    simp only [List.foldl_cons, List.length_cons]
    omega

theorem place_put (h : ByteArray → Option Nat) (s : ByteArray) (n : Nat) : put (fun t => (h t).map place) s (some (place n)) = fun t => ((if t = s then some n else h t : Option Nat)).map place := by
  funext t
  by_cases e : t = s <;> simp [put, e]

theorem info9 : (Yba.prog.info? 9).map (fun i => (i.zero, i.size, i.bytes)) = some (some (.string ByteArray.empty), 1, 16) := by kernel_rfl
theorem zero72 (w : World) : (zeroValue 72).run Yba.prog w = .ok (.agg #[.int .i64 0, .int .i64 0]) w := by kernel_rfl

theorem cell_one9 (w : World) (s : ByteArray) : ∀ j u, (strs [s])[j]? = some u → (w.alloc (.cells #[.string s] 9)).cell? ((⟨w.heap.size, 0, none⟩ : Addr).add j) = some u := by
  intro j u hj
  match j, hj with
  | 0, hj => simp [strs] at hj; subst hj; simp [Addr.add]

end Go.Proofs.Ybulkdkiu
