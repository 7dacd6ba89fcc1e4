/-
  What both laws of this seat stand on: frames told by a set of blocks; maps keyed by strings as functions; '==' on places; 'copy' at elements of several cells.
-/
import Derived.Test.YbulkdkiuRows
import Derived.WalkKit
import Derived.WalkSpells
import Derived.WalkSmall
import Derived.Maps.OwnSet
import Derived.Laws.StructEq
import Derived.Laws.CopyRow
import Derived.Deep.Draws
namespace Go.Proofs.Ybulkdkiu
open Go.RowKit Go.Maps
set_option linter.unusedVariables false
set_option linter.unusedSimpArgs false

/-! ### frames -/

/-- w' is w but for new blocks and for the blocks of S. -/
structure Fr (S : Nat → Prop) (w w' : World) : Prop where
  os : w'.os = w.os
  tape : w'.tape = w.tape
  output : w'.output = w.output
  size : w.heap.size ≤ w'.heap.size
  old : ∀ k, k < w.heap.size → ¬ S k → w'.heap[k]? = w.heap[k]?

theorem Fr.refl (S : Nat → Prop) (w : World) : Fr S w w := ⟨rfl, rfl, rfl, Nat.le_refl _, fun _ _ _ => rfl⟩
theorem Fr.mono {S T : Nat → Prop} {w w' : World} (h : Fr S w w') (hs : ∀ k, k < w.heap.size → S k → T k) : Fr T w w' := ⟨h.os, h.tape, h.output, h.size, fun k hk hn => h.old k hk fun hS => hn (hs k hk hS)⟩
theorem Fr.trans {S T : Nat → Prop} {a b c : World} (h : Fr S a b) (g : Fr T b c) (hs : ∀ k, k < a.heap.size → T k → S k) : Fr S a c :=
  ⟨g.os.trans h.os, g.tape.trans h.tape, g.output.trans h.output, Nat.le_trans h.size g.size, fun k hk hn => (g.old k (Nat.lt_of_lt_of_le hk h.size) fun hT => hn (hs k hk hT)).trans (h.old k hk hn)⟩
theorem Fr.alloc {S : Nat → Prop} {a w : World} (h : Fr S a w) (o : Obj) : Fr S a (w.alloc o) :=
  ⟨h.os, h.tape, h.output, by have := h.size; simp; omega, fun k hk hn => (Below.heap_alloc w o k (Nat.lt_of_lt_of_le hk h.size)).trans (h.old k hk hn)⟩
theorem Fr.drew {S : Nat → Prop} {a w : World} (h : Fr S a w) : Fr S a w.drew := ⟨h.os, h.tape, h.output, h.size, h.old⟩
theorem Fr.drewN {S : Nat → Prop} {a w : World} (h : Fr S a w) (n : Nat) : Fr S a (w.drewN n) := ⟨h.os, h.tape, h.output, h.size, h.old⟩
theorem Fr.grown {S : Nat → Prop} {a w w' : World} {row : Option Nat} (h : Fr S a w) (g : w.grownBy w' row) (hr : ∀ k, row = some k → k < a.heap.size → S k) : Fr S a w' :=
  ⟨g.os.trans h.os, g.tape.trans h.tape, g.output.trans h.output, Nat.le_trans h.size g.size, fun k hk hn => (g.block k (Nat.lt_of_lt_of_le hk h.size) (fun e => hn (hr k e.symm hk))).trans (h.old k hk hn)⟩
theorem Fr.setCell {S : Nat → Prop} {a w : World} (h : Fr S a w) {p : Addr} (hp : p.block < a.heap.size → S p.block) (v : Value) : Fr S a (w.setCell p v) :=
  ⟨h.os, h.tape, h.output, by have := h.size; simp [World.setCell]; omega, fun k hk hn => (Below.heap_setCell w p v k (fun e => hn (e ▸ hp (e ▸ hk)))).trans (h.old k hk hn)⟩
theorem Fr.below {S : Nat → Prop} {w w' : World} (h : Fr S w w') {B : Nat} (hB : B ≤ w.heap.size) (hS : ∀ k, S k → B ≤ k) : Below B w w' :=
  ⟨h.os, h.tape, h.output, h.size, fun k hk => h.old k (by omega) (fun hs => by have := hS k hs; omega)⟩
theorem Fr.ofBelow {S : Nat → Prop} {w w' : World} (h : Below w.heap.size w w') : Fr S w w' := ⟨h.os, h.tape, h.output, h.size, fun k hk _ => h.block k hk⟩
theorem Fr.cell {S : Nat → Prop} {w w' : World} (h : Fr S w w') {a : Addr} {v : Value} (hc : w.cell? a = some v) (hn : ¬ S a.block) : w'.cell? a = some v :=
  (World.cell?_of_block (h.old a.block (World.block_lt_of_cell? w a hc) hn)).trans hc
theorem Fr.block {S : Nat → Prop} {w w' : World} (h : Fr S w w') {k : Nat} {o : Obj} (hc : w.heap[k]? = some o) (hn : ¬ S k) : w'.heap[k]? = some o :=
  (h.old k (Array.getElem?_eq_some_iff.1 hc).1 hn).trans hc
theorem Fr.row {S : Nat → Prop} {w w' : World} {B : Nat} {e : TypeId} {sz : Nat} {v : Value} {n : Nat} {xs : List Value} (h : Fr S w w') (hr : w.ownsRow B e sz v n xs) (hn : ∀ k, v.ownBlock = some k → ¬ S k) : w'.ownsRow B e sz v n xs := by
  refine ⟨hr.1, ?_⟩
  rcases hr.2 with h0 | ⟨g, cap, cur, rfl, hb, hg, r⟩
  · exact .inl h0
  · exact .inr ⟨g, cap, cur, rfl, hb, h.block hg (hn g rfl), r⟩

theorem lt_of {w : World} {k : Nat} {o : Obj} (h : w.heap[k]? = some o) : k < w.heap.size := (Array.getElem?_eq_some_iff.1 h).1

/-! ### maps keyed by strings -/

def RV (v : Value) : Option (DataW Value × List MemPlace) := some (.held v, [])

def key (s : ByteArray) : Lit := .string s.data.toList

theorem key_inj {s t : ByteArray} (h : key s = key t) : s = t := by
  unfold key at h
  injection h with h
  have : s.data = t.data := Array.toList_inj.1 h
  exact ByteArray.ext this

theorem law9 : Keyed Yba.prog 9 := string_keyed Yba.underlying9
theorem key_of {s : ByteArray} (h : s.size ≤ maxLen) : keyOf Yba.prog 9 (.string s) = some (key s) := WideMaps.keyOf_string_mk Yba.underlying9 h

/-- Block M is a map of sz entries that holds at each string what f says. -/
def MapIs (w : World) (M sz : Nat) (f : ByteArray → Option Value) : Prop :=
  ∃ D : DataW Value, w.ownsMap Yba.prog 9 RV M sz D ∧ Maps.size D = sz ∧ (∀ s, Maps.has D (key s) = (f s).isSome) ∧ ∀ s z, D.atKey (key s) z = (match f s with | some v => .held v | none => z)

theorem exact_size {w : World} {M n : Nat} {D : DataW Value} (h : w.ownsMap Yba.prog 9 RV M n D) : w.ownsMap Yba.prog 9 RV M (Maps.size D) D := by
  obtain ⟨es, clock, hb, F, _, rfl⟩ := h
  exact ⟨es, clock, hb, F, by simp [Maps.size, length_sorted], rfl⟩

theorem MapIs.made (w : World) : MapIs (w.alloc (.map #[] 0)) w.heap.size 0 (fun _ => none) :=
  ⟨.map [], World.ownsMap_made w _ _ _, rfl, fun _ => rfl, fun _ _ => rfl⟩

theorem MapIs.block {w w' : World} {M sz : Nat} {f : ByteArray → Option Value} (h : MapIs w M sz f) (hb : w'.heap[M]? = w.heap[M]?) : MapIs w' M sz f := by
  obtain ⟨D, ⟨es, clock, hm, F, hs, hD⟩, r⟩ := h
  exact ⟨D, ⟨es, clock, hb.trans hm, F, hs, hD⟩, r⟩

theorem MapIs.isMap {w : World} {M sz : Nat} {f : ByteArray → Option Value} (h : MapIs w M sz f) : ∃ es clock, w.heap[M]? = some (.map es clock) := by
  obtain ⟨D, ⟨es, clock, hm, _⟩, _⟩ := h
  exact ⟨es, clock, hm⟩

theorem MapIs.lt {w : World} {M sz : Nat} {f : ByteArray → Option Value} (h : MapIs w M sz f) : M < w.heap.size := by
  obtain ⟨es, clock, hm⟩ := h.isMap
  exact lt_of hm

theorem MapIs.frame {S : Nat → Prop} {w w' : World} {M sz : Nat} {f : ByteArray → Option Value} (h : MapIs w M sz f) (g : Fr S w w') (hn : ¬ S M) : MapIs w' M sz f :=
  h.block (g.old M h.lt hn)

theorem MapIs.look_ok {w : World} {M sz : Nat} {f : ByteArray → Option Value} (h : MapIs w M sz f) {t e : TypeId} (ht : Yba.prog.underlying t = some (.map 9 e)) {z : Value} (hz : (zeroValue e).run Yba.prog w = .ok z w) {s : ByteArray} (hs : s.size ≤ maxLen) :
    (Instr.lookup t (.map (some M)) (.string s) true).run Yba.prog w = .ok (.tuple #[(f s).getD z, .bool (f s).isSome]) w := by
  obtain ⟨D, ho, _, hh, ha⟩ := h
  obtain ⟨v, ps, hrun, hv⟩ := ho.look_ok law9 ht hz (zd := .held z) (zp := []) rfl (key_of hs)
  rw [ha] at hv
  rw [hrun, hh]
  cases hf : f s with
  | none => rw [hf] at hv; simp [RV] at hv; simp [hv]
  | some u => rw [hf] at hv; simp [RV] at hv; simp [hv]

theorem MapIs.look {w : World} {M sz : Nat} {f : ByteArray → Option Value} (h : MapIs w M sz f) {t e : TypeId} (ht : Yba.prog.underlying t = some (.map 9 e)) {z : Value} (hz : (zeroValue e).run Yba.prog w = .ok z w) {s : ByteArray} (hs : s.size ≤ maxLen) :
    (Instr.lookup t (.map (some M)) (.string s) false).run Yba.prog w = .ok ((f s).getD z) w := by
  obtain ⟨D, ho, _, hh, ha⟩ := h
  obtain ⟨v, ps, hrun, hv⟩ := ho.lookup law9 ht hz (zd := .held z) (zp := []) rfl (key_of hs)
  rw [ha] at hv
  rw [hrun]
  cases hf : f s with
  | none => rw [hf] at hv; simp [RV] at hv; simp [hv]
  | some u => rw [hf] at hv; simp [RV] at hv; simp [hv]

def put (f : ByteArray → Option Value) (s : ByteArray) (v : Option Value) : ByteArray → Option Value := fun t => if t = s then v else f t

theorem MapIs.store {w : World} {M sz : Nat} {f : ByteArray → Option Value} (h : MapIs w M sz f) {t e : TypeId} (ht : Yba.prog.underlying t = some (.map 9 e)) (hn : sz < maxLen) {s : ByteArray} (hs : s.size ≤ maxLen) (v : Value) :
    ∃ w', (Instr.mapUpdate t (.map (some M)) (.string s) v).run Yba.prog w = .ok () w' ∧ MapIs w' M (if (f s).isSome then sz else sz + 1) (put f s (some v)) ∧ w.mapTurned w' M := by
  obtain ⟨D, ho, hsz, hh, ha⟩ := h
  obtain ⟨w', hrun, ho', ht'⟩ := ho.store law9 ht hn (key_of hs) (d := .held v) (ps := []) rfl
  have hk : WideAt.IsKeyLit (key s) := trivial
  refine ⟨w', hrun, ⟨D.put (key s) (.held v), ?_, ?_, ?_, ?_⟩, ht'⟩
  · have := exact_size ho'
    rw [Maps.size_put (ho.tidy law9), hh, hsz] at this
    exact this
  · rw [Maps.size_put (ho.tidy law9), hh, hsz]
  · intro u
    by_cases e : u = s
    · subst e; rw [Maps.has_put_same ho.isMap hk]; simp [put]
    · rw [Maps.has_put_other (fun c => e (key_inj c)), hh]; simp [put, e]
  · intro u z
    by_cases e : u = s
    · subst e; rw [Maps.atKey_put_same ho.isMap hk]; simp [put]
    · rw [Maps.atKey_put_other (fun c => e (key_inj c)), ha]; simp [put, e]

theorem MapIs.drop {w : World} {M sz : Nat} {f : ByteArray → Option Value} (h : MapIs w M sz f) {t e : TypeId} (ht : Yba.prog.underlying t = some (.map 9 e)) {s : ByteArray} (hs : s.size ≤ maxLen) (ty : TypeId) :
    ∃ w', (Builtin.delete_ #[t, 9] ty #[.map (some M), .string s]).run Yba.prog w = .ok (.tuple #[]) w' ∧ MapIs w' M (if (f s).isSome then sz - 1 else sz) (put f s none) ∧ w.mapTurned w' M := by
  obtain ⟨D, ho, hsz, hh, ha⟩ := h
  obtain ⟨w', hrun, ho', ht'⟩ := ho.drop law9 ht (key_of hs) ty
  have hk : WideAt.IsKeyLit (key s) := trivial
  have e1 : Maps.size (D.del (key s)) = if (f s).isSome then sz - 1 else sz := by
    have := Maps.size_del (k := key s) (ho.tidy law9)
    rw [hh, hsz] at this
    split at this <;> split <;> simp_all <;> omega
  refine ⟨w', hrun, ⟨D.del (key s), ?_, e1, ?_, ?_⟩, ht'⟩
  · have := exact_size ho'
    rw [e1] at this
    exact this
  · intro u
    by_cases e : u = s
    · subst e; rw [Maps.has_del_same]; simp [put]
    · rw [Maps.has_del_other (fun c => e (key_inj c)), hh]; simp [put, e]
  · intro u z
    by_cases e : u = s
    · subst e; rw [Maps.atKey_del_same]; simp [put]
    · rw [Maps.atKey_del_other (fun c => e (key_inj c)), ha]; simp [put, e]

/-! ### '==' on places -/

theorem eq36 (a b : ByteArray) (x y : Int) (w : World) : (Op.equalIn 10000 36 (.agg #[.string a, .int .i64 x]) (.agg #[.string b, .int .i64 y])).run Yba.prog w = .ok (a.toList == b.toList && x == y) w := by
  have u3 := Yba.underlying3
  have a3 := Yba.isAgg3
  have z3 := Yba.sizeOf3
  have u9 := Yba.underlying9
  have a9 := Yba.isAgg9
  have z9 := Yba.sizeOf9
  have hS : Yba.prog.underlying 36 = some (.struct (Yba.prog.fieldsOf 36)) := by kernel_rfl
  have hp : Yba.prog.stoodInHeld 36 = false := by kernel_rfl
  rw [show (10000 : Nat) = 9999 + 1 from rfl, run_equalIn_agg w 9999 36 _ _ hS hp]
  simp only [Program.fieldsOf, Yba.underlying36]
  go_simp
  by_cases h1 : a.toList = b.toList <;> by_cases h2 : x = y <;> simp [h1, h2]

end Go.Proofs.Ybulkdkiu
