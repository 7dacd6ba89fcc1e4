/-
  The slice 'order' in memory: nil, or the head of a row of its own, cut at a capacity that need not be the row's; appending to it.
-/
import Derived.Test.YbulkdkigDll
import Derived.ArgAppend
import Derived.Laws.AppendOwnNone
import Derived.Deep.RegionLawGrows
namespace Go.Proofs.Ybulkdkig
open Go.RowKit
set_option linter.unusedVariables false
set_option linter.unusedSimpArgs false

def ptrs (l : List Nat) : List Value := l.map fun b => .pointer (some ⟨b, 0, none⟩)
theorem ptrs_len (l : List Nat) : (ptrs l).length = l.length := by simp [ptrs]
theorem ptrs_one (l : List Nat) : ∀ u ∈ ptrs l, u.oneCell' = true := by
  intro u hu
  simp only [ptrs, List.mem_map] at hu
  obtain ⟨b, _, rfl⟩ := hu
  rfl
theorem ptrs_append (l k : List Nat) : ptrs (l ++ k) = ptrs l ++ ptrs k := by simp [ptrs]
theorem ptrs_get {l : List Nat} {j b : Nat} (h : l[j]? = some b) : (ptrs l)[j]? = some (.pointer (some ⟨b, 0, none⟩)) := by simp [ptrs, h]

def Row (w : World) (B : Nat) (v : Value) (l : List Nat) : Prop :=
  (v = .slice none 0 0 ∧ l = []) ∨
  ∃ g cap cur, v = .slice (some ⟨g, 0, none⟩) l.length cap ∧ B ≤ g ∧ w.heap[g]? = some (.cells cur 29 (0, 0)) ∧ l.length ≤ cap ∧ cap ≤ cur.size ∧ cap ≤ maxLen ∧ cur.toList.take l.length = ptrs l

theorem row_nil (w : World) (B : Nat) : Row w B (.slice none 0 0) [] := .inl ⟨rfl, rfl⟩

/-- A row's cells, by index. -/
theorem row_cell {w : World} {g : Nat} {cur : Array Value} {l : List Nat} (hg : w.heap[g]? = some (.cells cur 29 (0, 0))) (ht : cur.toList.take l.length = ptrs l) :
    ∀ j u, (ptrs l)[j]? = some u → w.cell? ⟨g, j, none⟩ = some u := by
  intro j u hu
  rw [cell_of_row w g j cur 29 (0, 0) hg]
  rw [← ht, List.getElem?_take] at hu
  split at hu
  · simpa using hu
  · cases hu

theorem row_of_own {w : World} {B n : Nat} {v : Value} {l : List Nat} (h : w.ownsRow B 29 1 v n (ptrs l)) (hn : n = l.length) : Row w B v l := by
  subst hn
  rcases h.2 with ⟨rfl, h0⟩ | ⟨g, cap, cur, rfl, hb, hg, hl, hm, hs, ht⟩
  · exact .inl ⟨rfl, List.eq_nil_of_length_eq_zero h0⟩
  · exact .inr ⟨g, cap, cur, rfl, hb, hg, hl, by omega, hm, by simpa using ht⟩

theorem Row.same {w w' : World} {B : Nat} {v : Value} {l : List Nat} (h : Row w B v l) (hs : ∀ g cur, v.ownBlock = some g → w.heap[g]? = some (.cells cur 29 (0, 0)) → w'.heap[g]? = w.heap[g]?) : Row w' B v l := by
  rcases h with h | ⟨g, cap, cur, rfl, hb, hg, r⟩
  · exact .inl h
  · exact .inr ⟨g, cap, cur, rfl, hb, (hs g cur rfl hg).trans hg, r⟩

theorem Row.alloc {w : World} {B : Nat} {v : Value} {l : List Nat} (h : Row w B v l) (o : Obj) : Row (w.alloc o) B v l :=
  h.same fun g cur _ hg => Below.heap_alloc w o g (Array.getElem?_eq_some_iff.1 hg).1

theorem Row.drew {w : World} {B : Nat} {v : Value} {l : List Nat} (h : Row w B v l) : Row w.drew B v l := h
theorem Row.drewN {w : World} {B : Nat} {v : Value} {l : List Nat} (h : Row w B v l) (n : Nat) : Row (w.drewN n) B v l := h

/-- A call that turns waiters and the queue alone leaves the row. -/
theorem Row.ch {w w' : World} {B : Nat} {v : Value} {l : List Nat} {S : Nat → Prop} (h : Row w B v l) (hc : Ch S w w') (hS : ∀ k, S k → ∃ cs t, w.heap[k]? = some (.cells cs t (0, 0)) ∧ t ≠ 29) : Row w' B v l :=
  h.same fun g cur _ hg => hc.old g fun hs => by
    obtain ⟨cs, t, h1, h2⟩ := hS g hs
    rw [hg] at h1
    simp at h1
    exact h2 h1.2.symm

/-- 'order = append(order, x)'. -/
theorem wpList_append_row {P : Program} (w : World) {ops : Array Oper} {rest : List Oper} {o : Oper} {a : Act} {Q : Exit → Act → World → Prop} (hgd : o.guard = none) (s x : Operand)
    (ho : o.op = .call { callee := .builtin .append, args := #[s, x], argTypes := #[32, 32] }) (i : TypeInfo) (ht : P.underlying 32 = some (.slice 29)) (hi : P.info? 29 = some i) (hz : i.zero = some (.pointer none))
    (hsize : i.size = 1) (hby : i.bytes = 8) (B : Nat) (v : Value) (l : List Nat) (hs : a.eval s = v) (hrow : Row w B v l) (X : Nat) (ad : Addr) (c : Nat) (hx : a.eval x = .slice (some ad) 1 c)
    (hcell : ∀ j u, (ptrs [X])[j]? = some u → w.cell? (ad.add j) = some u) (hlen : l.length ≤ 1099511627776) (hB : B ≤ w.heap.size)
    (h : ∀ v' w', Row w' B v' (l ++ [X]) → w.grownBy w' v.ownBlock → wpList P ops Q rest (a.put o.dst v') w') : wpList P ops Q (o :: rest) a w := by
  have grows : ∀ ao cap, v = .slice ao l.length cap → (ao = none → l.length = 0 ∧ cap = 0) → (∀ b, ao = some b → ∀ j u, (ptrs l)[j]? = some u → w.cell? (b.add j) = some u) → cap < l.length + 1 → wpList P ops Q (o :: rest) a w := by
    intro ao cap hv hnone holds hcap
    refine wpList_append_grows w hgd s x 32 ho 29 i (.pointer none) 1 8 ht hi hz hsize hby rfl (by decide) ao l.length cap (ptrs l) (by rw [hs, hv]) hnone (by simp [ptrs_len]) holds ad 1 c (ptrs [X]) hx rfl hcell (ptrs_one _) hcap (by unfold maxLen; omega) (by omega) ?_
    intro v' w' hown hgr
    refine h v' w' ?_ ⟨hgr.os, hgr.tape, hgr.output, hgr.size, fun k hk _ => hgr.block k hk (by simp)⟩
    rw [← ptrs_append] at hown
    rcases hown.2 with ⟨_, h0⟩ | ⟨g, cp, cur, rfl, hb, hg, hl, hm, hsz, htk⟩
    · omega
    · exact .inr ⟨g, cp, cur, by simp, Nat.le_trans hB hb, hg, by simpa using hl, by omega, hm, by simpa using htk⟩
  rcases hrow with ⟨rfl, rfl⟩ | ⟨g, cap, cur, rfl, hb, hg, hl, hc, hm, htk⟩
  · exact grows none 0 rfl (fun _ => ⟨rfl, rfl⟩) (fun b hb => by cases hb) (by simp)
  · by_cases hroom : l.length + 1 ≤ cap
    · refine wpList_plain hgd fun K hK => ?_
      have hrun := run_append_room (P := P) w 32 o.type 29 i ht hi g l.length cap cur hg ad 1 c (ptrs [X]) (by rw [hsize]; rfl) hcell (ptrs_one _) hroom (by rw [hsize]; simp [ptrs]; omega)
      rw [hsize] at hrun
      unfold Oper.wp
      simp only [execOp, ho, resolve, invoke, builtin, Sem.run_bind, Sem.run_pure, Result.andThen_ok, List.map_toArray, List.map_cons, List.map_nil, hs, hx, hrun]
      refine hK _ _ (h _ _ (.inr ⟨g, cap, _, by simp, hb, setRow_heap w g cur _ 29 _ hg, by simpa using hroom, ?_, hm, ?_⟩) ⟨rfl, rfl, rfl, by simp [World.setRow], fun k _ hk => setRow_other w g k _ (fun e => hk (by simp [Value.ownBlock, e]))⟩)
      · simp [ptrs]; omega
      · have hlt : (List.take l.length cur.toList).length = l.length := by simp; omega
        rw [ptrs_append, ← htk]
        simp only [Nat.mul_one, List.length_append, List.length_singleton]
        have : (ptrs [X]).length = 1 := rfl
        rw [List.take_append_of_le_length (by simp [ptrs]; omega), List.take_of_length_le (by simp [ptrs]; omega)]
    · refine grows (some ⟨g, 0, none⟩) cap rfl (fun h => by cases h) (fun b hb j u hu => ?_) (by omega)
      cases hb
      rw [Addr.add_lit, Nat.zero_add]
      exact row_cell hg htk j u hu

/-- 'order = append([]*waiter{x}, order...)': the slice of one stands in a block of its own, at 'g1'. -/
theorem wpList_prepend_row {P : Program} (w : World) {ops : Array Oper} {rest : List Oper} {o : Oper} {a : Act} {Q : Exit → Act → World → Prop} (hgd : o.guard = none) (s x : Operand)
    (ho : o.op = .call { callee := .builtin .append, args := #[s, x], argTypes := #[32, 32] }) (i : TypeInfo) (ht : P.underlying 32 = some (.slice 29)) (hi : P.info? 29 = some i) (hz : i.zero = some (.pointer none))
    (hsize : i.size = 1) (hby : i.bytes = 8) (B : Nat) (v : Value) (l : List Nat) (hx : a.eval x = v) (hrow : Row w B v l) (X g1 : Nat) (hs : a.eval s = .slice (some ⟨g1, 0, none⟩) 1 1)
    (hg1 : w.heap[g1]? = some (.cells #[.pointer (some ⟨X, 0, none⟩)] 29 (0, 0))) (hB1 : B ≤ g1) (hlen : l.length ≤ 1099511627776) (hB : B ≤ w.heap.size)
    (h : ∀ v' w', Row w' B v' (X :: l) → w.grownBy w' (some g1) → wpList P ops Q rest (a.put o.dst v') w') : wpList P ops Q (o :: rest) a w := by
  have hown : w.ownsRow B 29 1 (.slice (some ⟨g1, 0, none⟩) 1 1) 1 (ptrs [X]) := ⟨rfl, .inr ⟨g1, 1, _, rfl, hB1, hg1, Nat.le_refl _, by unfold maxLen; omega, rfl, rfl⟩⟩
  rcases hrow with ⟨rfl, rfl⟩ | ⟨g, cap, cur, rfl, hb, hg, hl, hc, hm, htk⟩
  · refine wpList_append_own_none hgd s x 32 ho B 29 i 1 ht hi _ 1 (ptrs [X]) hs hown hx ?_
    exact h _ _ (row_of_own hown rfl) ⟨rfl, rfl, rfl, Nat.le_refl _, fun _ _ _ => rfl⟩
  · refine wpList_append_own w hgd s x 32 ho B 29 i (.pointer none) 1 8 ht hi hz hsize hby rfl (by decide) _ 1 (ptrs [X]) hs hown ⟨g, 0, none⟩ l.length cap (ptrs l) hx (by simp [ptrs_len]) (fun j u hu => ?_) (ptrs_one _) (by unfold maxLen; omega) (by omega) hB ?_
    · rw [Addr.add_lit, Nat.zero_add]
      exact row_cell hg htk j u hu
    · intro v' w' hown' hgr _
      rw [← ptrs_append] at hown'
      exact h v' w' (row_of_own hown' (by simp; omega)) hgr

/-- 'order = append(order[:i:i], order[i+1:]...)' as a step of its region. -/
theorem step_delete {P : Program} {ops : Array Oper} {o : Oper} {a : Act} {w : World} {K : Act → World → Prop} {Q : Exit → Act → World → Prop} {E : Prop}
    (hgd : o.guard = none) (s x : Operand) (ho : o.op = Op.call { callee := Callee.builtin Builtin.append, args := #[s, x], argTypes := #[32, 32] })
    (i0 : TypeInfo) (ht : P.underlying 32 = some (.slice 29)) (hi : P.info? 29 = some i0) (hz : i0.zero = some (.pointer none)) (hsize : i0.size = 1) (hby : i0.bytes = 8)
    (B g i cap : Nat) (cur : Array Value) (l : List Nat) (hb : B ≤ g) (hB : B ≤ w.heap.size) (hg : w.heap[g]? = some (.cells cur 29 (0, 0))) (hil : i < l.length) (hl : l.length ≤ cap) (hc : cap ≤ cur.size) (hm : cap ≤ maxLen)
    (htk : cur.toList.take l.length = ptrs l) (hlen : l.length ≤ 1099511627776) (ad : Addr) (m c : Nat) (hm2 : m = l.length - (i + 1)) (had : 0 < m → ad = ⟨g, i + 1, none⟩)
    (hs : a.eval s = .slice (some ⟨g, 0, none⟩) i i) (hx : a.eval x = .slice (some ad) m c)
    (h : ∀ v' w', Row w' B v' (l.eraseIdx i) → w.grownBy w' none → K (a.put o.dst v') w') :
    if Region.wanted o (yielded ops a.tmps) = true then Oper.wp P o a w K Q else E := by
  have her : l.eraseIdx i = l.take i ++ l.drop (i + 1) := List.eraseIdx_eq_take_drop_succ l i
  have htk2 : cur.toList.take i = ptrs (l.take i) := by
    have := congrArg (List.take i) htk
    rw [List.take_take, Nat.min_eq_left (by omega)] at this
    rw [this]; simp [ptrs]
  by_cases h0 : m = 0
  · have hd : l.drop (i + 1) = [] := List.drop_eq_nil_of_le (by omega)
    subst h0
    refine step_append_room hgd s x 32 ho 29 i0 1 ht hi hsize g 0 i i hs ad 0 c [] hx rfl (fun j u hu => by simp at hu) (fun u hu => by simp at hu) (by omega) (fun j hj => by simp at hj) ?_
    refine h _ _ ?_ ⟨rfl, rfl, rfl, Nat.le_refl _, fun _ _ _ => rfl⟩
    rw [her, hd, List.append_nil]
    have e : (l.take i).length = i := by simp; omega
    exact .inr ⟨g, i, cur, by rw [e]; rfl, hb, hg, by omega, by omega, by omega, by rw [e]; exact htk2⟩
  · have hdl : (l.drop (i + 1)).length = m := by simp; omega
    have hti : (l.take i).length = i := by simp; omega
    refine step_append_grows hgd s x 32 ho 29 i0 (.pointer none) 1 8 ht hi hz hsize hby rfl (by decide) (some ⟨g, 0, none⟩) i i (ptrs (l.take i)) hs (fun h => by cases h) (by rw [ptrs_len, hti, Nat.mul_one]) (fun b hb' j u hu => ?_) ad m c (ptrs (l.drop (i + 1))) hx (by rw [ptrs_len, hdl, Nat.mul_one]) (fun j u hu => ?_) (ptrs_one _) (by omega) (by unfold maxLen; omega) (by omega) ?_
    · cases hb'
      rw [Addr.add_lit, Nat.zero_add]
      exact row_cell (l := l.take i) hg (by rw [hti]; exact htk2) j u hu
    · rw [had (by omega), Addr.add_lit]
      refine row_cell hg htk (i + 1 + j) u ?_
      rw [← hu]; simp [ptrs]
    · intro v' w' hown hgr
      rw [← ptrs_append, ← her] at hown
      refine h v' w' ?_ hgr
      rcases hown.2 with ⟨_, h1⟩ | ⟨g', cp, cur', rfl, hb', hg', hl', hm', hsz', htk'⟩
      · omega
      · have e : (l.eraseIdx i).length = i + m := by rw [her]; simp; omega
        exact .inr ⟨g', cp, cur', by rw [e], Nat.le_trans hB hb', hg', by omega, by omega, hm', by rw [e]; simpa using htk'⟩

/-- A list keeps while its own blocks keep. -/
theorem Dll.same {w w' : World} {Q : Nat} {l : List Nat} {n : Int} (D : Dll w Q l n) (hs : ∀ k, k = Q ∨ k ∈ l → w'.heap[k]? = w.heap[k]?) : Dll w' Q l n :=
  ⟨D.nodup, D.notin, (hs Q (.inl rfl)).trans D.q, fun j b hb => (hs b (.inr (List.mem_of_getElem? hb))).trans (D.at_ j b hb)⟩

/-- The list's blocks are cells of another type than the row's. -/
theorem Dll.types {w : World} {Q : Nat} {l : List Nat} {n : Int} (D : Dll w Q l n) : ∀ k, k = Q ∨ k ∈ l → ∃ cs t, w.heap[k]? = some (.cells cs t (0, 0)) ∧ t ≠ 29 := by
  intro k hk
  rcases hk with rfl | hk
  · exact ⟨_, 31, D.q, by decide⟩
  · obtain ⟨j, hj⟩ := List.getElem?_of_mem hk
    exact ⟨_, 39, D.at_ j k hj, by decide⟩

theorem Dll.lt {w : World} {Q : Nat} {l : List Nat} {n : Int} (D : Dll w Q l n) : ∀ k, k = Q ∨ k ∈ l → k < w.heap.size := fun k hk => by
  obtain ⟨cs, t, h, _⟩ := D.types k hk
  exact (Array.getElem?_eq_some_iff.1 h).1

theorem Dll.alloc {w : World} {Q : Nat} {l : List Nat} {n : Int} (D : Dll w Q l n) (o : Obj) : Dll (w.alloc o) Q l n :=
  D.same fun k hk => Below.heap_alloc w o k (D.lt k hk)

theorem Dll.grown {w w' : World} {Q : Nat} {l : List Nat} {n : Int} (D : Dll w Q l n) {row : Option Nat} (hg : w.grownBy w' row) (hr : ∀ k, k = Q ∨ k ∈ l → some k ≠ row) : Dll w' Q l n :=
  D.same fun k hk => hg.block k (D.lt k hk) (hr k hk)

/-- The row's block is none of the list's. -/
theorem Row.apart {w : World} {B Q : Nat} {v : Value} {l l' : List Nat} {n : Int} (h : Row w B v l') (D : Dll w Q l n) : ∀ k, k = Q ∨ k ∈ l → some k ≠ v.ownBlock := by
  intro k hk e
  obtain ⟨cs, t, h1, h2⟩ := D.types k hk
  rcases h with ⟨rfl, _⟩ | ⟨g, cap, cur, rfl, _, hg, _⟩
  · simp [Value.ownBlock] at e
  · simp [Value.ownBlock] at e
    subst e
    rw [hg] at h1
    simp at h1
    exact h2 h1.2.symm

theorem Row.base {w : World} {B : Nat} {v : Value} {l : List Nat} (h : Row w B v l) : ∀ k, v.ownBlock = some k → B ≤ k := by
  intro k e
  rcases h with ⟨rfl, _⟩ | ⟨g, cap, cur, rfl, hb, hg, _⟩
  · simp [Value.ownBlock] at e
  · simp [Value.ownBlock] at e
    omega

/-- A new waiter. -/
theorem Dll.fresh {w : World} {Q : Nat} {l : List Nat} {n : Int} (D : Dll w Q l n) (p x : Value) :
    Dll (w.alloc (node p x)) Q l n ∧ w.heap.size ∉ l ∧ w.heap.size ≠ Q ∧ (w.alloc (node p x)).heap[w.heap.size]? = some (node p x) :=
  ⟨D.alloc _, fun h => by have := D.lt _ (.inr h); omega, fun h => by have := D.lt _ (.inl rfl); omega, heap_alloc_new w _⟩

end Go.Proofs.Ybulkdkig
