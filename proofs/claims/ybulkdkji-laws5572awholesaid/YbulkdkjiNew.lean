/-
  The store made; the path's steps made.
-/
import Derived.Test.YbulkdkjiTerms
namespace Go.Proofs.Ybulkdkji
open Go.RowKit Go.Maps
set_option linter.unusedVariables false
set_option linter.unusedSimpArgs false

theorem store_new (wr : World) (o1 o2 o3 : Obj) (tv iv ov nv : Value) (Q : Nat) (hQ : (Q = wr.heap.size ∧ o1 = .map #[] 0) ∨ (Q = wr.heap.size + 1 ∧ o2 = .map #[] 0) ∨ (Q = wr.heap.size + 1 + 1 ∧ o3 = .map #[] 0)) :
    ∃ st Q' ov' nv', Value.pointer (some ⟨wr.heap.size + 1 + 1 + 1, 0, none⟩) = .pointer (some ⟨st, 0, none⟩) ∧ StoreAt ((((wr.alloc o1).alloc o2).alloc o3).alloc (.cells (storeC 0 0 tv iv (.map (some Q)) ov nv) 49)).drew st 0 0 tv iv (.map (some Q')) ov' nv' ∧
      ((((wr.alloc o1).alloc o2).alloc o3).alloc (.cells (storeC 0 0 tv iv (.map (some Q)) ov nv) 49)).drew.heap[Q']? = some (.map #[] 0) ∧ Below wr.heap.size wr ((((wr.alloc o1).alloc o2).alloc o3).alloc (.cells (storeC 0 0 tv iv (.map (some Q)) ov nv) 49)).drew ∧ wr.heap.size ≤ st := by
  refine ⟨_, Q, ov, nv, rfl, ?_, ?_, ?_, by omega⟩
  · have := heap_alloc_new (((wr.alloc o1).alloc o2).alloc o3) (.cells (storeC 0 0 tv iv (.map (some Q)) ov nv) 49)
    rw [World.size_alloc, World.size_alloc, World.size_alloc] at this
    exact this
  · show ((((wr.alloc o1).alloc o2).alloc o3).alloc (.cells (storeC 0 0 tv iv (.map (some Q)) ov nv) 49)).heap[Q]? = _
    rcases hQ with ⟨rfl, rfl⟩ | ⟨rfl, rfl⟩ | ⟨rfl, rfl⟩
    · exact (Below.heap_alloc _ _ _ (by simp; omega)).trans ((Below.heap_alloc _ _ _ (by simp; omega)).trans ((Below.heap_alloc _ _ _ (by simp)).trans (heap_alloc_new wr _)))
    · have := heap_alloc_new (wr.alloc o1) (.map #[] 0)
      rw [World.size_alloc] at this
      exact (Below.heap_alloc _ _ _ (by simp)).trans ((Below.heap_alloc _ _ _ (by simp)).trans this)
    · have := heap_alloc_new ((wr.alloc o1).alloc o2) (.map #[] 0)
      rw [World.size_alloc, World.size_alloc] at this
      exact (Below.heap_alloc _ _ _ (by simp)).trans this
  · exact (((((Below.refl _ wr).alloc (Nat.le_refl _) _).alloc (by simp) _).alloc (by simp; omega) _).alloc (by simp; omega) _).drew

/-- The ops, k of them. -/
def opl (sk : Nat → Bool) (nn : Nat → Int) (k : Nat) : List Op2 := (List.range k).map fun j => (sk j, nn j)
theorem opl_succ (sk : Nat → Bool) (nn : Nat → Int) (k : Nat) : opl sk nn (k + 1) = opl sk nn k ++ [(sk k, nn k)] := by simp [opl, List.range_succ]
theorem opl_len (sk : Nat → Bool) (nn : Nat → Int) (k : Nat) : (opl sk nn k).length = k := by simp [opl]
theorem opl_drop (sk : Nat → Bool) (nn : Nat → Int) {L i : Nat} (h : i < L) : (opl sk nn L).drop i = (sk i, nn i) :: (opl sk nn L).drop (i + 1) := by
  rw [List.drop_eq_getElem_cons (by rw [opl_len]; exact h)]
  simp [opl]
theorem fwd_succ (sk : Nat → Bool) (nn : Nat → Int) (k s : Nat) : fwd (opl sk nn (k + 1)) s = stepSup (sk k) (nn k) (fwd (opl sk nn k) s) := by
  rw [opl_succ]; unfold fwd; rw [List.foldl_append]; rfl

/-- The path in the making. -/
structure PB (X wr : World) (sv : Value) (sk : Nat → Bool) (nn : Nat → Int) (k pp : Nat) (rops : List StepM) : Prop where
  path : PathIs wr sv rops pp
  ops : rops.reverse.map (fun o => (o.1, o.2.1)) = opl sk nn k
  blk : ∀ o ∈ rops, wr.heap[o.2.2]? = some (.cells #[.int .i64 o.2.1] 3 (0, 0)) ∧ (-9223372036854775808 ≤ o.2.1 ∧ o.2.1 ≤ 9223372036854775807)
  nodup : (rops.map (fun o => o.2.2)).Nodup
  below : Below X.heap.size X wr

theorem PB.start {X : World} {sv : Value} {pp : Nat} (h : X.heap[pp]? = some (.cells #[sv, .pointer none, .nilIface] 83 (0, 0))) (sk : Nat → Bool) (nn : Nat → Int) : PB X X sv sk nn 0 pp [] :=
  ⟨h, rfl, fun o ho => (by cases ho), List.Pairwise.nil, Below.refl _ _⟩
theorem PB.len {X wr : World} {sv : Value} {sk : Nat → Bool} {nn : Nat → Int} {k pp : Nat} {rops : List StepM} (P : PB X wr sv sk nn k pp rops) : rops.length = k := by
  have := congrArg List.length P.ops
  rw [opl_len] at this
  simpa using this
theorem PB.alloc {X wr : World} {sv : Value} {sk : Nat → Bool} {nn : Nat → Int} {k pp : Nat} {rops : List StepM} (P : PB X wr sv sk nn k pp rops) (o : Obj) : PB X (wr.alloc o) sv sk nn k pp rops := by
  have f : Fr (fun _ => False) wr (wr.alloc o) := (Fr.refl _ wr).alloc _
  exact ⟨P.path.frame f (fun _ _ _ => id), P.ops, fun q hq => ⟨f.block (P.blk q hq).1 id, (P.blk q hq).2⟩, P.nodup, P.below.alloc P.below.size _⟩

theorem PB.step {X wr : World} {sv : Value} {sk : Nat → Bool} {nn : Nat → Int} {k pp : Nat} {rops : List StepM} (P : PB X wr sv sk nn k pp rops) (hn : -9223372036854775808 ≤ nn k ∧ nn k ≤ 9223372036854775807) {skip : Bool} (hs : sk k = skip) :
    PB X (W3 wr sv pp skip (nn k)) sv sk nn (k + 1) (wr.heap.size + 1) ((skip, nn k, wr.heap.size) :: rops) := by
  subst hs
  have f : Fr (fun _ => False) wr (W3 wr sv pp (sk k) (nn k)) := ((Fr.refl _ wr).alloc _).alloc _
  have h1 : (W3 wr sv pp (sk k) (nn k)).heap[wr.heap.size]? = some (.cells #[.int .i64 (nn k)] 3 (0, 0)) := (Below.heap_alloc _ _ _ (by simp)).trans (heap_alloc_new wr _)
  have h2 : (W3 wr sv pp (sk k) (nn k)).heap[wr.heap.size + 1]? = some (.cells #[sv, .pointer (some ⟨pp, 0, none⟩), .iface 86 (stepV (sk k) wr.heap.size)] 83 (0, 0)) := by
    have := heap_alloc_new (wr.alloc (.cells #[.int .i64 (nn k)] 3)) (.cells #[sv, .pointer (some ⟨pp, 0, none⟩), .iface 86 (stepV (sk k) wr.heap.size)] 83)
    rw [World.size_alloc] at this
    exact this
  refine ⟨⟨pp, h2, P.path.frame f (fun _ _ _ => id)⟩, ?_, ?_, ?_, ?_⟩
  · rw [List.reverse_cons, List.map_append, P.ops, opl_succ]; rfl
  · intro o ho
    rcases List.mem_cons.1 ho with rfl | ho
    · exact ⟨h1, hn⟩
    · exact ⟨f.block (P.blk o ho).1 id, (P.blk o ho).2⟩
  · show ((wr.heap.size) :: rops.map (fun o => o.2.2)).Nodup
    refine List.nodup_cons.2 ⟨fun hc => ?_, P.nodup⟩
    obtain ⟨o, ho, e⟩ := List.mem_map.1 hc
    have := lt_of (P.blk o ho).1
    omega
  · exact (P.below.alloc P.below.size _).alloc (by have := P.below.size; simp; omega) _

theorem d_skip_none {S : Nat} {n : Int} {r : List Op2} (h : demI r = none) : dLaw S (demI ((true, n) :: r)) = -1 := by simp [demI, h, dLaw]
theorem d_skip_some {S v : Nat} {n : Int} {r : List Op2} (h : demI r = some v) : dLaw S (demI ((true, n) :: r)) = ((min S (v + n.toNat) : Nat) : Int) := by simp [demI, h, dLaw]
theorem d_lim_none {S : Nat} {n : Int} {r : List Op2} (h : demI r = none) (hn : 0 < n) : dLaw S (demI ((false, n) :: r)) = ((min S n.toNat : Nat) : Int) := by
  have : ¬ n ≤ 0 := by omega
  simp [demI, h, dLaw, this]
theorem d_lim_some {S v : Nat} {n : Int} {r : List Op2} (h : demI r = some v) (hn : 0 < n) : dLaw S (demI ((false, n) :: r)) = ((min S (min v n.toNat) : Nat) : Int) := by
  have : ¬ n ≤ 0 := by omega
  simp [demI, h, dLaw, this]
theorem d_lim_neg {S : Nat} {n : Int} {r : List Op2} (hn : n ≤ 0) : dLaw S (demI ((false, n) :: r)) = dLaw S (demI r) := by simp [demI, hn]

theorem fwd_le : ∀ (l : List Op2) (s : Nat), fwd l s ≤ s
  | [], s => Nat.le_refl _
  | o :: r, s => Nat.le_trans (fwd_le r _) (stepSup_le o.1 o.2 s)

end Go.Proofs.Ybulkdkji
