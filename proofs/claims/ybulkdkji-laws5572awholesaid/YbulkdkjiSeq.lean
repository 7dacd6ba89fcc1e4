/-
  Iterator values by their supply and their cost; the law of a range over such a value.
-/
import Derived.Test.YbulkdkjiRows
import Derived.RangeFuncNested
import Derived.RangeFuncBound
import Derived.RangeFuncCalls
import Derived.RangeFuncLeaves
import Derived.Shelf.Abstract
import Derived.Shelf.RegionOpen
import Derived.WalkKit
import Derived.OwnWalkIn
import Derived.TacticsInMore
import Derived.LoopNIn
import Derived.LoopIn
namespace Go.Proofs.Ybulkdkji
open Go.RowKit Go.Shelf
set_option linter.unusedVariables false
set_option linter.unusedSimpArgs false

/-- w' is w but for new blocks and for the blocks of S. -/
structure Fr (S : Nat → Prop) (w w' : World) : Prop where
  os : w'.os = w.os
  tape : w'.tape = w.tape
  output : w'.output = w.output
  size : w.heap.size ≤ w'.heap.size
  old : ∀ k, k < w.heap.size → ¬ S k → w'.heap[k]? = w.heap[k]?

theorem Fr.refl (S : Nat → Prop) (w : World) : Fr S w w := ⟨rfl, rfl, rfl, Nat.le_refl _, fun _ _ _ => rfl⟩
theorem Fr.mono {S T : Nat → Prop} {w w' : World} (h : Fr S w w') (hs : ∀ k, k < w.heap.size → S k → T k) : Fr T w w' := ⟨h.os, h.tape, h.output, h.size, fun k hk hn => h.old k hk fun hS => hn (hs k hk hS)⟩
theorem Fr.trans {S T : Nat → Prop} {a b c : World} (h : Fr S a b) (g : Fr T b c) (hs : ∀ k, k < a.heap.size → T k → S k) : Fr S a c :=
  ⟨g.os.trans h.os, g.tape.trans h.tape, g.output.trans h.output, Nat.le_trans h.size g.size, fun k hk hn => (g.old k (Nat.lt_of_lt_of_le hk h.size) fun hT => hn (hs k hk hT)).trans (h.old k hk hn)⟩
theorem Fr.alloc {S : Nat → Prop} {a w : World} (h : Fr S a w) (o : Obj) : Fr S a (w.alloc o) :=
  ⟨h.os, h.tape, h.output, by have := h.size; simp; omega, fun k hk hn => (Below.heap_alloc w o k (Nat.lt_of_lt_of_le hk h.size)).trans (h.old k hk hn)⟩
theorem Fr.drew {S : Nat → Prop} {a w : World} (h : Fr S a w) : Fr S a w.drew := ⟨h.os, h.tape, h.output, h.size, h.old⟩
theorem Fr.drewN {S : Nat → Prop} {a w : World} (h : Fr S a w) (n : Nat) : Fr S a (w.drewN n) := ⟨h.os, h.tape, h.output, h.size, h.old⟩
theorem Fr.grown {S : Nat → Prop} {a w w' : World} {row : Option Nat} (h : Fr S a w) (g : w.grownBy w' row) (hr : ∀ k, row = some k → k < a.heap.size → S k) : Fr S a w' :=
  ⟨g.os.trans h.os, g.tape.trans h.tape, g.output.trans h.output, Nat.le_trans h.size g.size, fun k hk hn => (g.block k (Nat.lt_of_lt_of_le hk h.size) (fun e => hn (hr k e.symm hk))).trans (h.old k hk hn)⟩
theorem Fr.setCell {S : Nat → Prop} {a w : World} (h : Fr S a w) {p : Addr} (hp : p.block < a.heap.size → S p.block) (v : Value) : Fr S a (w.setCell p v) :=
  ⟨h.os, h.tape, h.output, by have := h.size; simp [World.setCell]; omega, fun k hk hn => (Below.heap_setCell w p v k (fun e => hn (e ▸ hp (e ▸ hk)))).trans (h.old k hk hn)⟩
theorem Fr.putObj {S : Nat → Prop} {a w : World} (h : Fr S a w) {l : Nat} (hl : l < a.heap.size → S l) (o : Obj) : Fr S a (w.putObj l o) := h.grown (grownBy_putObj' w l o) (fun k e hk => by cases e; exact hl hk)
theorem Fr.below {S : Nat → Prop} {w w' : World} (h : Fr S w w') {B : Nat} (hB : B ≤ w.heap.size) (hS : ∀ k, S k → B ≤ k) : Below B w w' :=
  ⟨h.os, h.tape, h.output, h.size, fun k hk => h.old k (by omega) (fun hs => by have := hS k hs; omega)⟩
theorem Fr.ofBelow {S : Nat → Prop} {w w' : World} (h : Below w.heap.size w w') : Fr S w w' := ⟨h.os, h.tape, h.output, h.size, fun k hk _ => h.block k hk⟩
theorem lt_of {w : World} {k : Nat} {o : Obj} (h : w.heap[k]? = some o) : k < w.heap.size := (Array.getElem?_eq_some_iff.1 h).1
theorem Fr.block {S : Nat → Prop} {w w' : World} (h : Fr S w w') {k : Nat} {o : Obj} (hc : w.heap[k]? = some o) (hn : ¬ S k) : w'.heap[k]? = some o := (h.old k (lt_of hc) hn).trans hc
theorem Fr.cell {S : Nat → Prop} {w w' : World} (h : Fr S w w') {a : Addr} {v : Value} (hc : w.cell? a = some v) (hn : ¬ S a.block) : w'.cell? a = some v :=
  (World.cell?_of_block (h.old a.block (World.block_lt_of_cell? w a hc) hn)).trans hc

/-- What is yielded. -/
def item (id : Int) : Value := .agg #[.int .u32 id, .pointer none]

/-- A yield of loop l. -/
def Yd (P : Program) (l : Nat) (x : Value) (W : World) (R : Ending → World → Prop) : Prop := YieldAt Fence.wide 0 P l #[x] W R

/-- An iterator value: 'own': the blocks that it turns (the context's); 'Ro': the blocks that it reads; 'sup': how many items it has to give; 'cost D': how often the context was asked when a consumer that takes D items is done. -/
def Sq (P : Program) (CT : Nat → World → Prop) (own : Nat → Prop) (Ro : Nat → Option Obj) (gf : Nat) (lb : Array Value) (sup : Nat) (cost : Nat → Nat) : Prop :=
  ∀ (l D : Nat) (C : Nat → Prop) (J : Nat → World → Prop) (W : World), 1 ≤ D →
    (∀ k o, Ro k = some o → W.heap[k]? = some o) → CT 0 W → (∀ k, own k → k < W.heap.size) →
    (∀ k, C k → k < W.heap.size ∧ Ro k = none ∧ ¬ own k) →
    (∀ t W1 W2, J t W1 → Fr (fun k => own k ∨ W.heap.size ≤ k) W1 W2 → J t W2) →
    (∀ t W1 id, t < sup → t < D → J t W1 → W.heap.size ≤ W1.heap.size → Yd P l (item id) W1 fun e W' => e = .returned (.bool (decide (t + 1 < D))) ∧ J (t + 1) W' ∧ Fr C W1 W') →
    J 0 W →
    Calls P gf (#[.func (.yield l) #[] #[]] ++ lb) W fun e W' => (∃ v, e = .returned v) ∧ J (min sup D) W' ∧ CT (cost D) W' ∧ Fr (fun k => own k ∨ C k) W W'

/-- How the body of a round may be left. -/
def sqPost (C : Nat → Prop) (I : Nat → World → Prop) (D t : Nat) (W : World) : Exit → Act → World → Prop
  | .normal, _, W' => t + 1 < D ∧ I (t + 1) W' ∧ Fr C W W'
  | .ret, _, W' => ¬ t + 1 < D ∧ I (t + 1) W' ∧ Fr C W W'
  | _, _, _ => False

/-- The law of the loop, outside every round. -/
theorem range_sq {P : Program} {CT : Nat → World → Prop} {own : Nat → Prop} {Ro : Nat → Option Obj} {gf : Nat} {lb : Array Value} {sup : Nat} {cost : Nat → Nat} (hsq : Sq P CT own Ro gf lb sup cost)
    {g : Operand} {ps : Array Tmp} {assign body : Code} {Q : Exit → Act → World → Prop} {a : Act} {w : World}
    (hg : a.eval g = .func (.func gf) #[] lb) (eg : ∀ args w, (callFunc gf args).run P w = .ok (.enter gf args) w) (D : Nat) (hD : 1 ≤ D) (C : Nat → Prop) (I : Nat → World → Prop)
    (hRo : ∀ k o, Ro k = some o → w.heap[k]? = some o) (hCT : CT 0 w) (hCTf : ∀ c W W', CT c W → (∀ k, own k → W'.heap[k]? = W.heap[k]?) → CT c W') (hown : ∀ k, own k → k < w.heap.size)
    (hC : ∀ k, C k → k < w.heap.size ∧ Ro k = none ∧ ¬ own k) (hI : ∀ t W1 W2, I t W1 → Fr (fun k => own k ∨ w.heap.size ≤ k) W1 W2 → I t W2) (h0 : I 0 w) (hps : ps.size = 1)
    (Ax : Int → Act → World → Prop) (hAx : ∀ id a' W l o o', Ax id a' W → W.heap[l]? = some (.loop o) → Ax id a' (W.putObj l (.loop o')))
    (hassign : ∀ (l t : Nat) (id : Int) (W : World) (K : Act → World → Prop), I t W → w.heap.size ≤ W.heap.size → (∀ a' W', Fr (fun _ => False) W W' → Ax id a' W' → K a' W') →
      assign.wpIn (Fence.wide.inRound l) 0 P (Exit.then K (fun _ _ _ => False)) { tmps := (ps.zip #[item id]).foldl (fun t (p, v) => t.setIfInBounds p v) a.tmps, defers := [] } W)
    (hbody : ∀ (l t : Nat) (id : Int) (a' : Act) (W : World), t < sup → t < D → I t W → w.heap.size ≤ W.heap.size → Ax id a' W → body.wpIn (Fence.wide.inRound l) 0 P (sqPost C I D t W) a' W)
    (hend : ∀ (B : Nat) (W : World), w.heap.size ≤ B → I (min sup D) W → CT (cost D) W → Fr (fun k => own k ∨ C k) w W → W.heap[B]? = some (.deferred (some [])) →
      (if sup < D then Q .normal { a with defers := { target := .collected B, args := #[] } :: a.defers } W else Code.ret.wpIn Fence.wide 0 P Q { a with defers := { target := .collected B, args := #[] } :: a.defers } W)) :
    (Code.rangeFunc g ps assign body).wpIn Fence.wide 0 P Q a w := by
  refine wpIn_rangeFunc ?_
  intro fn hfn
  obtain ⟨rec, hrec⟩ : ∃ rec : LoopState → Option Code → Loop, rec = fun st pe => { state := st, pending := pe, fn, tmps := a.tmps, params := ps, assign, body, defers := w.heap.size } := ⟨_, rfl⟩
  obtain ⟨W1, hW1⟩ : ∃ W1, (w.alloc (.deferred (some []))).alloc (.loop (rec .ready none)) = W1 := ⟨_, rfl⟩
  have hs1 : W1.heap.size = w.heap.size + 2 := by rw [← hW1]; simp
  have hL1 : W1.heap[w.heap.size + 1]? = some (.loop (rec .ready none)) := by
    rw [← hW1]; have := World.alloc_heap_new (w.alloc (.deferred (some []))) (.loop (rec .ready none)); rwa [World.size_alloc] at this
  have hK1 : W1.heap[w.heap.size]? = some (.deferred (some [])) := by
    rw [← hW1]; exact (Below.heap_alloc _ _ _ (by simp)).trans (World.alloc_heap_new w _)
  have f1 : Fr (fun _ => False) w W1 := by rw [← hW1]; exact ((Fr.refl _ w).alloc _).alloc _
  refine ⟨w.heap.size + 1, [{ target := .collected w.heap.size, args := #[] }], W1, { target := .fn (.func gf) lb, args := #[.func (.yield (w.heap.size + 1)) #[] #[]] }, W1, gf,
    #[.func (.yield (w.heap.size + 1)) #[] #[]] ++ lb, W1, ?_, ?_, ?_, ?_, (fun h => by cases h), ?_⟩
  · rw [← hW1, hrec]; exact run_enterLoop_outer _ _ _ _ _
  · simp only [resolve, hg]
    simp [go_sem]
  · intro f' hf'; exact trivial
  · simp [invoke, go_sem, eg]
  · refine callsIn_wide.2 ?_
    -- the consumer, as the iterator sees it
    refine (hsq (w.heap.size + 1) D (fun k => C k ∨ k = w.heap.size + 1)
      (fun t W => I t W ∧ W.heap[w.heap.size + 1]? = some (.loop (if t < D then rec .ready none else rec .done (some .ret))) ∧ W.heap[w.heap.size]? = some (.deferred (some [])))
      W1 hD (fun k o hk => f1.block (hRo k o hk) id) (hCTf 0 w W1 hCT (fun k hk => f1.old k (hown k hk) id)) (fun k hk => by have := hown k hk; omega) ?_ ?_ ?_ ?_).mono ?_
    · rintro k (hk | rfl)
      · obtain ⟨a1, a2, a3⟩ := hC k hk
        exact ⟨by omega, a2, a3⟩
      · refine ⟨by omega, ?_, fun hk => by have := hown _ hk; omega⟩
        cases h : Ro (w.heap.size + 1) with
        | none => rfl
        | some o => have := lt_of (hRo _ _ h); omega
    · rintro t Wa Wb ⟨hi, hl, hk⟩ fr
      refine ⟨hI t Wa Wb hi (fr.mono (fun k _ e => by rcases e with e | e; exact .inl e; exact .inr (by omega))), fr.block hl ?_, fr.block hk ?_⟩
      · rintro (e | e)
        · have := hown _ e; omega
        · omega
      · rintro (e | e)
        · have := hown _ e; omega
        · omega
    · -- one round
      rintro t W id htsup htD ⟨hi, hl, hk⟩ hsz
      rw [if_pos htD] at hl
      have hlt : w.heap.size + 1 < W.heap.size := lt_of hl
      have hy := run_yield (P := P) (args := #[item id]) hl (by rw [hrec]; simp [hps])
      rw [hrec] at hy
      refine ⟨fn, _, assign, body, hy, roundIn_of_wpIn hfn (hassign _ t id W _ hi (by omega) ?_)⟩
      clear hy
      intro a' Wa fa hax
      have hla := fa.block hl (fun e => e)
      have hka := fa.block hk (fun e => e)
      have hsa : W.heap.size ≤ Wa.heap.size := fa.size
      have hia : I t Wa := hI t W Wa hi (fa.mono (fun _ _ e => e.elim))
      refine ⟨_, run_beginRound hla (by rw [hrec]), ?_⟩
      have fb : Fr (fun k => k = w.heap.size + 1) Wa (Wa.putObj (w.heap.size + 1) (.loop { rec .ready none with state := .busy })) := (Fr.refl (fun k => k = w.heap.size + 1) Wa).putObj (l := w.heap.size + 1) (fun _ => rfl) _
      have hl2 : (Wa.putObj (w.heap.size + 1) (.loop { rec .ready none with state := .busy })).heap[w.heap.size + 1]? = some (.loop { rec .ready none with state := .busy }) := World.putObj_heap_same (lt_of hla)
      have hk2 : (Wa.putObj (w.heap.size + 1) (.loop { rec .ready none with state := .busy })).heap[w.heap.size]? = some (.deferred (some [])) := (World.putObj_heap_other (by omega)).trans hka
      have hib : I t (Wa.putObj (w.heap.size + 1) (.loop { rec .ready none with state := .busy })) := hI t Wa _ hia (fb.mono (fun k _ e => .inr (by omega)))
      refine wpIn_mono (hbody _ t id a' _ htsup htD hib (by simp; omega) (hAx id a' Wa _ _ _ hax hla)) ?_
      generalize hWb : Wa.putObj (w.heap.size + 1) (.loop { rec .ready none with state := .busy }) = Wb at *
      have fab : Fr (fun k => C k ∨ k = w.heap.size + 1) W Wb := (fa.mono (fun _ _ e => e.elim)).trans fb (fun k _ e => .inr e)
      -- the round's end
      have fin : ∀ (jump : Option Code) (W3 : World), I (t + 1) W3 → Fr C Wb W3 →
          (Instr.endRound (w.heap.size + 1) jump).run P W3 = .ok (.bool jump.isNone) (W3.putObj (w.heap.size + 1) (.loop (rec (if jump.isNone then .ready else .done) jump))) ∧
          I (t + 1) (W3.putObj (w.heap.size + 1) (.loop (rec (if jump.isNone then .ready else .done) jump))) ∧
          (W3.putObj (w.heap.size + 1) (.loop (rec (if jump.isNone then .ready else .done) jump))).heap[w.heap.size + 1]? = some (.loop (rec (if jump.isNone then .ready else .done) jump)) ∧
          (W3.putObj (w.heap.size + 1) (.loop (rec (if jump.isNone then .ready else .done) jump))).heap[w.heap.size]? = some (.deferred (some [])) ∧
          Fr (fun k => C k ∨ k = w.heap.size + 1) W (W3.putObj (w.heap.size + 1) (.loop (rec (if jump.isNone then .ready else .done) jump))) := fun jump W3 hi3 f3 => by
        have hl3 := f3.block hl2 (fun e => by have := (hC _ e).1; omega)
        have hk3 := f3.block hk2 (fun e => by have := (hC _ e).1; omega)
        have hr := run_endRound (P := P) jump hl3
        rw [hrec] at hr ⊢
        refine ⟨hr, hI _ W3 _ hi3 ((Fr.refl _ W3).putObj (fun _ => .inr (by omega)) _), World.putObj_heap_same (lt_of hl3), (World.putObj_heap_other (by omega)).trans hk3, ?_⟩
        exact ((fab.trans f3 (fun k _ e => .inl e))).putObj (fun _ => .inr rfl) _
      rintro e a3 W3 hp
      cases e with
      | normal =>
        obtain ⟨ht1, hi3, f3⟩ := hp
        obtain ⟨hr, hi4, hl4, hk4, f4⟩ := fin none W3 hi3 f3
        refine ⟨_, _, hr, ?_, ⟨hi4, ?_, hk4⟩, f4⟩
        · simp [ht1]
        · rw [if_pos ht1]; exact hl4
      | ret =>
        obtain ⟨ht1, hi3, f3⟩ := hp
        obtain ⟨hr, hi4, hl4, hk4, f4⟩ := fin (some .ret) W3 hi3 f3
        refine ⟨_, _, hr, ?_, ⟨hi4, ?_, hk4⟩, f4⟩
        · simp [ht1]
        · rw [if_neg ht1]; exact hl4
      | exit id => exact hp.elim
      | goto t => exact hp.elim
      | panic ch => exact hp.elim
      | outgrown => exact hp.elim
    · exact ⟨hI 0 w W1 h0 (f1.mono (fun _ _ e => e.elim)), by rw [if_pos (by omega)]; exact hL1, hK1⟩
    · -- behind the iterator
      rintro e W2 ⟨⟨v, rfl⟩, ⟨hi, hl, hk⟩, hct, f2⟩
      have hmin : min sup D < D ↔ sup < D := by omega
      have fend : ∀ o, Fr (fun k => own k ∨ C k) w (W2.putObj (w.heap.size + 1) o) := fun o => by
        have h1 : Fr (fun k => own k ∨ C k) w W2 := by
          refine (f1.mono (fun _ _ e => e.elim)).trans f2 (fun k hk e => ?_)
          rcases e with e | e | e
          · exact .inl e
          · exact .inr e
          · omega
        exact h1.putObj (fun hk => by omega) _
      have fend2 : ∀ o, Fr (fun k => own k ∨ w.heap.size ≤ k) W2 (W2.putObj (w.heap.size + 1) o) := fun o => (Fr.refl _ W2).putObj (fun _ => .inr (by omega)) _
      have hctE : ∀ o, CT (cost D) (W2.putObj (w.heap.size + 1) o) := fun o => hCTf _ W2 _ hct (fun k hk => World.putObj_heap_other (by have := hown k hk; omega))
      by_cases hs : sup < D
      · rw [if_pos (hmin.2 hs)] at hl
        refine ⟨none, _, by have := run_endLoop (P := P) hl (by rw [hrec]; simp); rw [hrec] at this; exact this, ?_⟩
        have he := fun o => hend w.heap.size (W2.putObj (w.heap.size + 1) o) (Nat.le_refl _) (hI _ W2 _ hi (fend2 o)) (hctE o) (fend o) ((World.putObj_heap_other (by omega)).trans hk)
        simp only [if_pos hs] at he
        exact he _
      · rw [if_neg (fun c => hs (hmin.1 c))] at hl
        refine ⟨some .ret, _, by have := run_endLoop (P := P) hl (by rw [hrec]; simp); rw [hrec] at this; exact this, ?_⟩
        have he := fun o => hend w.heap.size (W2.putObj (w.heap.size + 1) o) (Nat.le_refl _) (hI _ W2 _ hi (fend2 o)) (hctE o) (fend o) ((World.putObj_heap_other (by omega)).trans hk)
        simp only [if_neg hs] at he
        exact he _

end Go.Proofs.Ybulkdkji
