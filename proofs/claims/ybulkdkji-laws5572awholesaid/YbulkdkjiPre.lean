/-
  The law's own values: the terms, the ids, the nodes.
-/
import Derived.Test.YbulkdkjiBuild
import Derived.Test.YbulkdkjiShelf
namespace Go.Proofs.Ybulkdkji
open Go.RowKit Go.Maps
set_option linter.unusedVariables false
set_option linter.unusedSimpArgs false

def xs (i : Nat) : ByteArray := ⟨(Lib.repeatL [120] i).toArray⟩
theorem xs_size (i : Nat) : (xs i).size = i := by
  show (Lib.repeatL [120] i).toArray.size = i
  rw [List.size_toArray, Lib.repeatL_length]; simp
theorem xs_inj {i j : Nat} (h : xs i = xs j) : i = j := by
  have := congrArg ByteArray.size h
  rwa [xs_size, xs_size] at this

theorem repeat_any (i : Nat) (hi : i ≤ 1000) (w : World) : Calls Yba.prog 4 #[.string ⟨#[120]⟩, .int .i64 (i : Int)] w fun e w' => e = .returned (.string (xs i)) ∧ Below w.heap.size w w' :=
  Yba.strings_Repeat ⟨#[120]⟩ i w (by omega) (by show 1 * i ≤ _; omega)

theorem term_inj {a b : Int} {s t : ByteArray} : term a s = term b t ↔ a = b ∧ s = t := by
  unfold term
  constructor
  · intro h; simp at h; exact h
  · rintro ⟨rfl, rfl⟩; rfl

/-- Whether a value is the j-th term, j at most k. -/
def isX (k : Nat) : Value → Option Nat
  | .agg ⟨[.int .u8 a, .string t, .int .u64 z, .string p, .string q]⟩ => if a = 1 ∧ z = 0 ∧ p.data = #[] ∧ q.data = #[] ∧ 1 ≤ t.size ∧ t.size ≤ k ∧ t.data = (xs t.size).data then some t.size else none
  | _ => none
/-- The ids behind T terms. -/
def fm (k : Nat) (v : Value) : Option Value := (isX k v).map fun j => .int .u32 (j : Int)

theorem isX_term (k : Nat) (a : Int) (t : ByteArray) : isX k (term a t) = if a = 1 ∧ 1 ≤ t.size ∧ t.size ≤ k ∧ t.data = (xs t.size).data then some t.size else none := by
  have h : isX k (term a t) = if a = 1 ∧ (0 : Int) = 0 ∧ ByteArray.empty.data = #[] ∧ ByteArray.empty.data = #[] ∧ 1 ≤ t.size ∧ t.size ≤ k ∧ t.data = (xs t.size).data then some t.size else none := rfl
  rw [h]
  have e : ByteArray.empty.data = #[] := rfl
  simp only [e, true_and]
theorem isX_some {k j : Nat} {v : Value} (h : isX k v = some j) : v = term 1 (xs j) ∧ 1 ≤ j ∧ j ≤ k := by
  unfold isX at h
  split at h
  · rename_i a t z p q
    split at h
    · rename_i hc
      obtain ⟨rfl, rfl, hp, hq, h1, h2, h3⟩ := hc
      cases h
      refine ⟨?_, h1, h2⟩
      have e1 : p = ByteArray.empty := by cases p; exact congrArg ByteArray.mk hp
      have e2 : q = ByteArray.empty := by cases q; exact congrArg ByteArray.mk hq
      have e3 : t = xs t.size := by
        have : ∀ u v : ByteArray, u.data = v.data → u = v := fun u v h => by cases u; cases v; exact congrArg ByteArray.mk h
        exact this _ _ h3
      unfold term
      rw [e1, e2, ← e3]
    · cases h
  · cases h
theorem isX_at (k : Nat) {j : Nat} (h1 : 1 ≤ j) (h2 : j ≤ k) : isX k (term 1 (xs j)) = some j := by
  rw [isX_term, xs_size, if_pos ⟨rfl, h1, h2, rfl⟩]
theorem isX_none {k : Nat} {v : Value} (h : ∀ j, 1 ≤ j → j ≤ k → v ≠ term 1 (xs j)) : isX k v = none := by
  cases hx : isX k v with
  | none => rfl
  | some j =>
    obtain ⟨a, b, c⟩ := isX_some hx
    exact absurd a (h j b c)

theorem fm_u32 (k : Nat) (v u : Value) (h : fm k v = some u) : ∃ x, u = .int .u32 x := by
  unfold fm at h
  cases hx : isX k v with
  | none => rw [hx] at h; cases h
  | some j => rw [hx] at h; cases h; exact ⟨_, rfl⟩
theorem fm_kind (k : Nat) {a : Int} {s : ByteArray} (h : a ≠ 1) : fm k (term a s) = none := by
  unfold fm; rw [isX_none (fun j _ _ e => h (term_inj.1 e).1)]; rfl
theorem fm_fresh (k : Nat) {j : Nat} (h : k < j) : fm k (term 1 (xs j)) = none := by
  unfold fm; rw [isX_none (fun i _ hi e => by have := xs_inj (term_inj.1 e).2; omega)]; rfl
theorem fm_at (k : Nat) {j : Nat} (h : 1 ≤ j) (h' : j ≤ k) : fm k (term 1 (xs j)) = some (.int .u32 (j : Int)) := by
  unfold fm; rw [isX_at k h h']; rfl
theorem fm_some (k : Nat) {j : Nat} (h : 1 ≤ j) (h' : j ≤ k) : (fm k (term 1 (xs j))).isSome = true := by rw [fm_at k h h']; rfl
theorem fm_zero : fm 0 = fun _ => none := by
  funext v; unfold fm; rw [isX_none (fun j h1 h2 => by omega)]; rfl
theorem fm_more (k : Nat) (v : Value) (h : v ≠ term 1 (xs (k + 1))) : fm (k + 1) v = fm k v := by
  unfold fm
  cases hx : isX k v with
  | some j =>
    obtain ⟨a, b, c⟩ := isX_some hx
    rw [a, isX_at (k + 1) b (by omega)]
  | none =>
    rw [isX_none (fun j h1 h2 e => ?_)]
    by_cases hj : j = k + 1
    · subst hj; exact h e
    · rw [e, isX_at k h1 (by omega)] at hx; cases hx

/-- The terms, k of them behind the first. -/
def tl : Nat → List (Int × ByteArray)
  | 0 => [(0, ByteArray.empty)]
  | k + 1 => tl k ++ [(1, xs (k + 1))]
theorem tl_len : ∀ k, (tl k).length = k + 1
  | 0 => rfl
  | k + 1 => by simp [tl, tl_len k]
theorem tl_zero : ∀ k, (tl k)[0]? = some (0, ByteArray.empty)
  | 0 => rfl
  | k + 1 => by unfold tl; rw [List.getElem?_append_left (by rw [tl_len]; omega)]; exact tl_zero k
theorem tl_get : ∀ (k : Nat) {j : Nat}, 1 ≤ j → j ≤ k → (tl k)[j]? = some (1, xs j)
  | 0, j, h, h' => by omega
  | k + 1, j, h, h' => by
    unfold tl
    by_cases e : j = k + 1
    · subst e
      rw [List.getElem?_append_right (by rw [tl_len]; omega), tl_len]
      simp
    · rw [List.getElem?_append_left (by rw [tl_len]; omega)]
      exact tl_get k h (by omega)

theorem key_x (i : Nat) (h : i ≤ 1000) : IsKey (term 1 (xs i)) := key_term (by decide) (by rw [xs_size]; unfold maxLen; omega)

def noneB : ByteArray := ⟨#[110, 111, 110, 101]⟩
/-- The node that the law makes of a byte. -/
def node (T b : Nat) : Int × ByteArray := if b % (T + 2) = 0 then (0, ByteArray.empty) else if b % (T + 2) ≤ T then (1, xs (b % (T + 2))) else (2, noneB)
def isFound (T b : Nat) : Bool := decide (b % (T + 2) ≠ 0) && decide (b % (T + 2) ≤ T)

theorem fm_node (T b : Nat) : (fm T (term (node T b).1 (node T b).2)).isSome = isFound T b := by
  unfold node isFound
  by_cases h0 : b % (T + 2) = 0
  · rw [if_pos h0]; simp [h0, fm_kind]
  · rw [if_neg h0]
    by_cases h1 : b % (T + 2) ≤ T
    · rw [if_pos h1, fm_some T (by omega) h1]; simp [h0, h1]
    · rw [if_neg h1, fm_kind T (by decide)]; simp [h1]
theorem key_node (T b : Nat) (h : T ≤ 255) : IsKey (term (node T b).1 (node T b).2) := by
  unfold node
  split
  · exact key_term (by decide) (by simp)
  · split
    · rename_i h1; exact key_x _ (by omega)
    · exact key_term (by decide) (by unfold maxLen; decide)

/-- The nodes, i of N made. -/
def nodesAt (T : Nat) (A : Nat → Nat) (N i : Nat) : List (Int × ByteArray) := (List.range N).map fun j => if j < i then node T (A j) else (0, ByteArray.empty)
def foundAt (T : Nat) (A : Nat → Nat) (i : Nat) : Nat := ((List.range i).map A).countP (isFound T)
theorem nodesAt_len (T : Nat) (A : Nat → Nat) (N i : Nat) : (nodesAt T A N i).length = N := by simp [nodesAt]
theorem foundAt_succ (T : Nat) (A : Nat → Nat) (i : Nat) : foundAt T A (i + 1) = foundAt T A i + if isFound T (A i) then 1 else 0 := by
  unfold foundAt
  rw [List.range_succ, List.map_append, List.countP_append]
  simp [List.countP_cons]
theorem foundAt_le (T : Nat) (A : Nat → Nat) (i : Nat) : foundAt T A i ≤ i := by
  have := List.countP_le_length (p := isFound T) (l := (List.range i).map A)
  simpa [foundAt] using this
theorem held_nodes (T : Nat) (A : Nat → Nat) (N : Nat) : held (fm T) (nodesAt T A N N) = foundAt T A N := by
  unfold held nodesAt foundAt
  rw [List.countP_map, List.countP_map]
  refine List.countP_congr fun j hj => ?_
  have : j < N := List.mem_range.1 hj
  simp only [Function.comp, if_pos this, fm_node]
theorem key_nodes (T : Nat) (A : Nat → Nat) (N : Nat) (h : T ≤ 255) : ∀ x ∈ nodesAt T A N N, IsKey (term x.1 x.2) := by
  intro x hx
  simp only [nodesAt, List.mem_map, List.mem_range] at hx
  obtain ⟨j, hj, rfl⟩ := hx
  rw [if_pos hj]
  exact key_node T _ h

/-- The fields of a term. -/
def fieldOf (x : Int × ByteArray) : Nat → Value
  | 0 => .int .u8 x.1
  | 1 => .string x.2
  | 2 => .int .u64 0
  | _ => .string ByteArray.empty
theorem tcells_at : ∀ (ts : List (Int × ByteArray)) (k : Nat), (tcells ts)[k]? = (ts[k / 5]?).map fun x => fieldOf x (k % 5)
  | [], k => by simp [tcells]
  | x :: r, 0 => rfl
  | x :: r, 1 => rfl
  | x :: r, 2 => rfl
  | x :: r, 3 => rfl
  | x :: r, 4 => rfl
  | x :: r, k + 5 => by
    have h1 : (k + 5) / 5 = k / 5 + 1 := by omega
    have h2 : (k + 5) % 5 = k % 5 := by omega
    rw [h1, h2]
    simp only [tcells, List.getElem?_cons_succ]
    exact tcells_at r k

/-- A row that holds the cells of the terms. -/
def RowOf (w : World) (g : Nat) (ts : List (Int × ByteArray)) : Prop := ∃ cur : Array Value, w.heap[g]? = some (.cells cur 30 (0, 0)) ∧ cur.size = ts.length * 5 ∧ ∀ (k : Nat) (u : Value), (tcells ts)[k]? = some u → cur[k]? = some u

theorem RowOf.cell {w : World} {g : Nat} {ts : List (Int × ByteArray)} (h : RowOf w g ts) : ∀ j u, (tcells ts)[j]? = some u → w.cell? ⟨g, j, none⟩ = some u := by
  obtain ⟨cur, hb, _, hc⟩ := h
  intro j u hj
  rw [cell_of_row w g j _ 30 (0, 0) hb]
  exact hc j u hj
theorem RowOf.frame {S : Nat → Prop} {w w' : World} {g : Nat} {ts : List (Int × ByteArray)} (h : RowOf w g ts) (f : Fr S w w') (hn : ¬ S g) : RowOf w' g ts := by
  obtain ⟨cur, hb, r⟩ := h
  exact ⟨cur, f.block hb hn, r⟩
theorem RowOf.lt {w : World} {g : Nat} {ts : List (Int × ByteArray)} (h : RowOf w g ts) : g < w.heap.size := by
  obtain ⟨cur, hb, _⟩ := h
  exact lt_of hb

/-- One node written. -/
theorem RowOf.node {w : World} {g T : Nat} {A : Nat → Nat} {N i : Nat} (h : RowOf w g (nodesAt T A N i)) (hi : i < N) {a : Int} {s : ByteArray} (hn : node T (A i) = (a, s)) :
    RowOf (((((w.setCell ⟨g, i * 5, none⟩ (.int .u8 a)).setCell ⟨g, i * 5 + 1, none⟩ (.string s)).setCell ⟨g, i * 5 + 2, none⟩ (.int .u64 0)).setCell ⟨g, i * 5 + 3, none⟩ (.string ByteArray.empty)).setCell ⟨g, i * 5 + 4, none⟩ (.string ByteArray.empty)) g (nodesAt T A N (i + 1)) := by
  obtain ⟨cur, hb, hs, hc⟩ := h
  rw [nodesAt_len] at hs
  refine ⟨((((cur.setIfInBounds (i * 5) (.int .u8 a)).setIfInBounds (i * 5 + 1) (.string s)).setIfInBounds (i * 5 + 2) (.int .u64 0)).setIfInBounds (i * 5 + 3) (.string ByteArray.empty)).setIfInBounds (i * 5 + 4) (.string ByteArray.empty), ?_, ?_, ?_⟩
  · simp only [World.setCell, Array.getElem?_modify, if_true, hb, Option.map_some, Option.isSome_none, Bool.false_eq_true, if_false]
  · simp [hs, nodesAt_len]
  · intro k u hu
    have hk : k < N * 5 := by
      have := (List.getElem?_eq_some_iff.1 hu).1
      rwa [tcells_len, nodesAt_len] at this
    rw [tcells_at] at hu
    by_cases e : k / 5 = i
    · have hx : (nodesAt T A N (i + 1))[k / 5]? = some (a, s) := by
        rw [e]; unfold nodesAt; simp [hi, hn]
      rw [hx] at hu
      simp at hu
      subst hu
      have hk5 : k = i * 5 ∨ k = i * 5 + 1 ∨ k = i * 5 + 2 ∨ k = i * 5 + 3 ∨ k = i * 5 + 4 := by omega
      rcases hk5 with rfl | rfl | rfl | rfl | rfl
      · have : i * 5 % 5 = 0 := by omega
        simp [Array.getElem?_setIfInBounds, this, fieldOf, hs]; omega
      · have : (i * 5 + 1) % 5 = 1 := by omega
        simp [Array.getElem?_setIfInBounds, this, fieldOf, hs]; omega
      · have : (i * 5 + 2) % 5 = 2 := by omega
        simp [Array.getElem?_setIfInBounds, this, fieldOf, hs]; omega
      · have : (i * 5 + 3) % 5 = 3 := by omega
        simp [Array.getElem?_setIfInBounds, this, fieldOf, hs]; omega
      · have : (i * 5 + 4) % 5 = 4 := by omega
        simp [Array.getElem?_setIfInBounds, this, fieldOf, hs]; omega
    · have hx : (nodesAt T A N (i + 1))[k / 5]? = (nodesAt T A N i)[k / 5]? := by
        unfold nodesAt
        have hkn : k / 5 < N := by omega
        simp [hkn]
        by_cases h1 : k / 5 < i
        · rw [if_pos h1, if_pos (by omega)]
        · rw [if_neg h1, if_neg (by omega)]
      rw [hx, ← tcells_at] at hu
      have := hc k u hu
      have n0 : ¬ i * 5 = k := by omega
      have n1 : ¬ i * 5 + 1 = k := by omega
      have n2 : ¬ i * 5 + 2 = k := by omega
      have n3 : ¬ i * 5 + 3 = k := by omega
      have n4 : ¬ i * 5 + 4 = k := by omega
      simp [Array.getElem?_setIfInBounds, n0, n1, n2, n3, n4, this]

end Go.Proofs.Ybulkdkji
