/-
  Maps keyed by Term.
-/
import Derived.Test.YbulkdkjiStart2
import Derived.Maps.OwnSet
import Derived.Maps.Keyed
import Derived.DeepKeys4
import Derived.MapViews
namespace Go.Proofs.Ybulkdkji
open Go.RowKit Go.Maps
set_option linter.unusedVariables false
set_option linter.unusedSimpArgs false

/-- A term without store, language and datatype. -/
def term (k : Int) (s : ByteArray) : Value := .agg #[.int .u8 k, .string s, .int .u64 0, .string ByteArray.empty, .string ByteArray.empty]

theorem laidOut : laidOutB Yba.prog = true := by kernel_rfl
theorem row30 : (30 : TypeId) < Yba.prog.types.size := of_decide_eq_true (by kernel_rfl)
theorem wide30 : (match Yba.prog.underlying 30 with | some (.array _ _) | some (.struct _) => true | _ => false) = true := by rw [Yba.underlying30]
theorem kt30 : Yba.prog.keyTypeAt 2 30 = true := by kernel_rfl
theorem klaw30 : WideMaps.KeyLaw Yba.prog 30 := by
  have h : 2 + 1 ≤ 10000 := by omega
  refine @deep_law_laid Yba.prog laidOut 2 h 30 row30 kt30 ?_
  rw [Yba.underlying30]
theorem law30 : Keyed Yba.prog 30 := Keyed.of_law klaw30

def RV (v : Value) : Option (DataW Value × List MemPlace) := some (.held v, [])

/-- A value that can be a key. -/
def IsKey (v : Value) : Prop := ∃ l, keyOf Yba.prog 30 v = some l

/-- Block M is a map of sz entries that holds at each key what f says. -/
def MapIs (w : World) (M sz : Nat) (f : Value → Option Value) : Prop :=
  ∃ D : DataW Value, w.ownsMap Yba.prog 30 RV M sz D ∧ Maps.size D = sz ∧ ∀ v l, keyOf Yba.prog 30 v = some l → Maps.has D l = (f v).isSome ∧ ∀ z, D.atKey l z = (match f v with | some u => .held u | none => z)

theorem exact_size {w : World} {M n : Nat} {D : DataW Value} (h : w.ownsMap Yba.prog 30 RV M n D) : w.ownsMap Yba.prog 30 RV M (Maps.size D) D := by
  obtain ⟨es, clock, hb, F, _, rfl⟩ := h
  exact ⟨es, clock, hb, F, by simp [Maps.size, length_sorted], rfl⟩

theorem MapIs.made (w : World) : MapIs (w.alloc (.map #[] 0)) w.heap.size 0 (fun _ => none) :=
  ⟨.map [], World.ownsMap_made w _ _ _, rfl, fun _ _ _ => ⟨rfl, fun _ => rfl⟩⟩

theorem MapIs.block {w w' : World} {M sz : Nat} {f : Value → Option Value} (h : MapIs w M sz f) (hb : w'.heap[M]? = w.heap[M]?) : MapIs w' M sz f := by
  obtain ⟨D, ⟨es, clock, hm, F, hs, hD⟩, r⟩ := h
  exact ⟨D, ⟨es, clock, hb.trans hm, F, hs, hD⟩, r⟩
theorem MapIs.isMap {w : World} {M sz : Nat} {f : Value → Option Value} (h : MapIs w M sz f) : ∃ es clock, w.heap[M]? = some (.map es clock) := by
  obtain ⟨D, ⟨es, clock, hm, _⟩, _⟩ := h
  exact ⟨es, clock, hm⟩
theorem MapIs.lt {w : World} {M sz : Nat} {f : Value → Option Value} (h : MapIs w M sz f) : M < w.heap.size := by
  obtain ⟨es, clock, hm⟩ := h.isMap
  exact lt_of hm
theorem MapIs.frame {S : Nat → Prop} {w w' : World} {M sz : Nat} {f : Value → Option Value} (h : MapIs w M sz f) (g : Fr S w w') (hn : ¬ S M) : MapIs w' M sz f := h.block (g.old M h.lt hn)

theorem MapIs.look_ok {w : World} {M sz : Nat} {f : Value → Option Value} (h : MapIs w M sz f) {t e : TypeId} (ht : Yba.prog.underlying t = some (.map 30 e)) {z : Value} (hz : (zeroValue e).run Yba.prog w = .ok z w) {v : Value} (hv : IsKey v) :
    (Instr.lookup t (.map (some M)) v true).run Yba.prog w = .ok (.tuple #[(f v).getD z, .bool (f v).isSome]) w := by
  obtain ⟨D, ho, _, hh⟩ := h
  obtain ⟨l, hl⟩ := hv
  obtain ⟨h1, h2⟩ := hh v l hl
  obtain ⟨u, ps, hrun, hu⟩ := ho.look_ok law30 ht hz (zd := .held z) (zp := []) rfl hl
  rw [h2] at hu
  rw [hrun, h1]
  cases hf : f v with
  | none => rw [hf] at hu; simp [RV] at hu; simp [hu]
  | some x => rw [hf] at hu; simp [RV] at hu; simp [hu]

theorem MapIs.store {w : World} {M sz : Nat} {f f' : Value → Option Value} (h : MapIs w M sz f) {t e : TypeId} (ht : Yba.prog.underlying t = some (.map 30 e)) (hn : sz < maxLen) {v : Value} (hv : IsKey v) (u : Value) (hf : f' v = some u) (hf' : ∀ x, x ≠ v → f' x = f x) :
    ∃ w', (Instr.mapUpdate t (.map (some M)) v u).run Yba.prog w = .ok () w' ∧ MapIs w' M (if (f v).isSome then sz else sz + 1) f' ∧ w.mapTurned w' M := by
  obtain ⟨D, ho, hsz, hh⟩ := h
  obtain ⟨l, hl⟩ := hv
  obtain ⟨w', hrun, ho', ht'⟩ := ho.store law30 ht hn hl (d := .held u) (ps := []) rfl
  have hk : WideAt.IsKeyLit l := law30.key hl
  refine ⟨w', hrun, ⟨D.put l (.held u), ?_, ?_, fun x lx hx => ?_⟩, ht'⟩
  · have := exact_size ho'
    rw [Maps.size_put (ho.tidy law30), (hh v l hl).1, hsz] at this
    exact this
  · rw [Maps.size_put (ho.tidy law30), (hh v l hl).1, hsz]
  · by_cases e : x = v
    · subst e
      rw [hl] at hx
      cases hx
      refine ⟨?_, fun z => ?_⟩
      · rw [Maps.has_put_same ho.isMap hk, hf]; rfl
      · rw [Maps.atKey_put_same ho.isMap hk, hf]
    · have hne : lx ≠ l := fun c => e (law30.inj hx (by rw [c]; exact hl))
      refine ⟨?_, fun z => ?_⟩
      · rw [Maps.has_put_other hne, (hh x lx hx).1, hf' x e]
      · rw [Maps.atKey_put_other hne, (hh x lx hx).2, hf' x e]

theorem keyType30 : Yba.prog.keyType 30 = true := by kernel_rfl
theorem cellsOf30 : Yba.prog.cellsOf 30 = 5 := by kernel_rfl
theorem cellsOf26 : Yba.prog.cellsOf 26 = 1 := by kernel_rfl
theorem cellsOf9 : Yba.prog.cellsOf 9 = 1 := by kernel_rfl
theorem cellsOf28 : Yba.prog.cellsOf 28 = 1 := by kernel_rfl

theorem key_term {k : Int} (hk : (Lit.int .u8 k).wf = true) {s : ByteArray} (hs : s.size ≤ maxLen) : IsKey (term k s) := by
  have h30 : 30 < Yba.prog.types.size := row30
  obtain ⟨d, hd⟩ : ∃ d, Yba.prog.types.size + 1 = d + 1 + 1 := ⟨Yba.prog.types.size - 1, by omega⟩
  have he : (ByteArray.empty).size ≤ maxLen := by simp
  have hz : (Lit.int .u64 0).wf = true := by decide
  unfold IsKey keyOf term
  rw [Yba.underlying30]
  simp only [keyType30, hd]
  simp [Value.formed, Value.cells, Program.keyLits, Yba.underlying30, Yba.underlying26, Yba.underlying9, Yba.underlying28, cellsOf30, cellsOf26, cellsOf9, cellsOf28, hk, hs, he, hz]

end Go.Proofs.Ybulkdkji
