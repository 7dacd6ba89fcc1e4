/-
  One term more.
-/
import Derived.Test.YbulkdkjiMake
namespace Go.Proofs.Ybulkdkji
open Go.RowKit Go.Maps
set_option linter.unusedVariables false
set_option linter.unusedSimpArgs false

theorem cell_five (w : World) (x : Int × ByteArray) : ∀ j u, (tcells [x])[j]? = some u → (w.alloc (.cells #[.int .u8 x.1, .string x.2, .int .u64 0, .string ByteArray.empty, .string ByteArray.empty] 30)).cell? ((⟨w.heap.size, 0, none⟩ : Addr).add j) = some u := by
  intro j u hj
  rw [Addr.add_lit, Nat.zero_add, cell_of_row _ _ j _ 30 (0, 0) (heap_alloc_new w _)]
  match j, hj with
  | 0, hj => exact hj
  | 1, hj => exact hj
  | 2, hj => exact hj
  | 3, hj => exact hj
  | 4, hj => exact hj
  | j + 5, hj => simp [tcells] at hj

theorem own_fr {S : Nat → Prop} {w w' : World} {B : Nat} {e : TypeId} {sz : Nat} {v : Value} {n : Nat} {xs : List Value} (h : w.ownsRow B e sz v n xs) (f : Fr S w w') (hn : ∀ k, v.ownBlock = some k → ¬ S k) : w'.ownsRow B e sz v n xs := by
  refine ⟨h.1, ?_⟩
  rcases h.2 with h | ⟨g, cap, cur, hv, hb, hg, r⟩
  · exact .inl h
  · exact .inr ⟨g, cap, cur, hv, hb, f.block hg (hn g (by rw [hv]; rfl)), r⟩

/-- A term's block. -/
def B5 (x : Int × ByteArray) : Obj := .cells #[.int .u8 x.1, .string x.2, .int .u64 0, .string ByteArray.empty, .string ByteArray.empty] 30

theorem terms_step {w w1 w3 : World} {k g cp : Nat} {v3 : Value} (bel : Below w.heap.size w w1) (own1 : w1.ownsRow w.heap.size 30 5 (.slice (some ⟨g, 0, none⟩) (k + 1) cp) (k + 1) (tcells (tl k))) (hm1 : MapIs w1 (w.heap.size + 1) k (fm k)) (hk : k < 255)
    (own3 : w3.ownsRow w.heap.size 30 5 v3 (k + 1 + 1) (tcells (tl k) ++ tcells [(1, xs (k + 1))])) (G3 : ((w1.alloc (B5 (1, xs (k + 1)))).alloc (B5 (1, xs (k + 1)))).grownBy w3 (some g)) :
    (w3.cell? ⟨w1.heap.size, 0, none⟩ = some (.int .u8 1) ∧ w3.cell? ⟨w1.heap.size, 1, none⟩ = some (.string (xs (k + 1))) ∧ w3.cell? ⟨w1.heap.size, 2, none⟩ = some (.int .u64 0) ∧ w3.cell? ⟨w1.heap.size, 3, none⟩ = some (.string ByteArray.empty) ∧ w3.cell? ⟨w1.heap.size, 4, none⟩ = some (.string ByteArray.empty)) ∧
    ∃ w4, (Instr.mapUpdate 25 (.map (some (w.heap.size + 1))) (.agg #[.int .u8 1, .string (xs (k + 1)), .int .u64 0, .string ByteArray.empty, .string ByteArray.empty]) (.int .u32 ((k : Int) + 1))).run Yba.prog w3 = .ok () w4 ∧
      w4.ownsRow w.heap.size 30 5 v3 (k + 1 + 1) (tcells (tl (k + 1))) ∧ MapIs w4 (w.heap.size + 1) (k + 1) (fm (k + 1)) ∧ Below w.heap.size w w4 := by
  obtain ⟨hg1, hg2⟩ := own1.lt g rfl
  have f2 : Fr (fun _ => False) w1 ((w1.alloc (B5 (1, xs (k + 1)))).alloc (B5 (1, xs (k + 1)))) := ((Fr.refl _ w1).alloc _).alloc _
  have f3 : Fr (fun j => j = g) w1 w3 := (f2.mono (fun _ _ e => e.elim)).grown G3 (fun j e _ => by cases e; rfl)
  have hbox : w3.heap[w1.heap.size]? = some (B5 (1, xs (k + 1))) := by
    refine (G3.block _ (by simp; omega) (fun e => by have := Option.some.inj e; omega)).trans ?_
    exact (Below.heap_alloc _ _ _ (by simp)).trans (heap_alloc_new w1 _)
  have hgM : ¬ (w.heap.size + 1 = g) := fun e => by
    obtain ⟨es, cl, hmb⟩ := hm1.isMap
    rcases own1.2 with ⟨hv, _⟩ | ⟨g', cap, cur, hv, _, hg, _⟩
    · cases hv
    · cases hv; rw [e, hg] at hmb; cases hmb
  have hm3 := hm1.frame f3 hgM
  obtain ⟨w4, hrun, hm4, ht⟩ := hm3.store (f' := fm (k + 1)) Yba.underlying25 (by unfold maxLen; omega) (key_x (k + 1) (by omega)) (.int .u32 ((k + 1 : Nat) : Int)) (fm_at (k + 1) (by omega) (Nat.le_refl _)) (fun x hx => fm_more k x hx)
  have hfresh : (fm k (term 1 (xs (k + 1)))).isSome = false := by rw [fm_fresh k (by omega)]; rfl
  rw [hfresh] at hm4
  have G4 := ht.grown
  refine ⟨⟨?_, ?_, ?_, ?_, ?_⟩, w4, ?_, ?_, ?_, ?_⟩
  · rw [cell_of_row w3 _ 0 _ 30 (0, 0) hbox]; rfl
  · rw [cell_of_row w3 _ 1 _ 30 (0, 0) hbox]; rfl
  · rw [cell_of_row w3 _ 2 _ 30 (0, 0) hbox]; rfl
  · rw [cell_of_row w3 _ 3 _ 30 (0, 0) hbox]; rfl
  · rw [cell_of_row w3 _ 4 _ 30 (0, 0) hbox]; rfl
  · rw [Int.natCast_succ] at hrun; exact hrun
  · have f4 : Fr (fun j => j = w.heap.size + 1) w3 w4 := (Fr.refl _ w3).grown G4 (fun j e _ => by cases e; rfl)
    have := own_fr own3 f4 (fun j hj e => by
      subst e
      obtain ⟨es, cl, hmb⟩ := hm3.isMap
      rcases own3.2 with ⟨hv, _⟩ | ⟨g', cap, cur, hv, _, hg, _⟩
      · rw [hv] at hj; cases hj
      · rw [hv] at hj; cases hj; rw [hg] at hmb; cases hmb)
    unfold tl
    rw [tcells_append]
    exact this
  · exact hm4
  · have b2 : Below w.heap.size w ((w1.alloc (B5 (1, xs (k + 1)))).alloc (B5 (1, xs (k + 1)))) := (bel.alloc bel.size _).alloc (by have := bel.size; simp; omega) _
    exact (b2.grown G3 (by have := bel.size; simp; omega) (fun j e => by cases e; exact hg1)).grown G4 (by have := bel.size; have := G3.size; simp at this; omega) (fun j e => by cases e; omega)

end Go.Proofs.Ybulkdkji
