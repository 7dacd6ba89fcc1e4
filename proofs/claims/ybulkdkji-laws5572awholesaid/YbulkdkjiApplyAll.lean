/-
  applySteps, walked.
-/
import Derived.Test.YbulkdkjiSteps
namespace Go.Proofs.Ybulkdkji
open Go.RowKit Go.Maps
set_option linter.unusedVariables false
set_option linter.unusedSimpArgs false

/-- A step in memory: is it a Skip; its number; the block that holds the number. -/
abbrev StepM := Bool × Int × Nat
def sups (ops : List StepM) (sup : Nat) : Nat := ops.foldl (fun s o => stepSup o.1 o.2.1 s) sup
def costs (ops : List StepM) (cost : Nat → Nat) : Nat → Nat := ops.foldl (fun c o => stepCost o.1 o.2.1 c) cost

theorem sups_le : ∀ (ops : List StepM) (sup : Nat), sups ops sup ≤ sup
  | [], sup => Nat.le_refl _
  | o :: r, sup => Nat.le_trans (sups_le r _) (stepSup_le o.1 o.2.1 sup)
theorem sups_succ {ops : List StepM} {i : Nat} {o : StepM} (h : ops[i]? = some o) (sup : Nat) : sups (ops.take (i + 1)) sup = stepSup o.1 o.2.1 (sups (ops.take i) sup) := by
  obtain ⟨hi, he⟩ := List.getElem?_eq_some_iff.1 h
  unfold sups
  rw [List.take_succ_eq_append_getElem hi, List.foldl_append, he]; rfl
theorem costs_succ {ops : List StepM} {i : Nat} {o : StepM} (h : ops[i]? = some o) (cost : Nat → Nat) : costs (ops.take (i + 1)) cost = stepCost o.1 o.2.1 (costs (ops.take i) cost) := by
  obtain ⟨hi, he⟩ := List.getElem?_eq_some_iff.1 h
  unfold costs
  rw [List.take_succ_eq_append_getElem hi, List.foldl_append, he]; rfl

/-- The steps stand in w, each in a block of its own. -/
structure StepsIn (w : World) (own : Nat → Prop) (Dom : Nat → Prop) (ops : List StepM) : Prop where
  at_ : ∀ o ∈ ops, w.heap[o.2.2]? = some (.cells #[.int .i64 o.2.1] 3 (0, 0)) ∧ ¬ own o.2.2 ∧ ¬ Dom o.2.2 ∧ (-9223372036854775808 ≤ o.2.1 ∧ o.2.1 ≤ 9223372036854775807)
  nodup : (ops.map (fun o => o.2.2)).Nodup

def DomAt (Dom : Nat → Prop) (ops : List StepM) (H i : Nat) (k : Nat) : Prop := Dom k ∨ (∃ o ∈ ops.take i, o.2.2 = k) ∨ H ≤ k

theorem nodup_at {ops : List StepM} (h : (ops.map (fun o => o.2.2)).Nodup) {i : Nat} {o : StepM} (ho : ops[i]? = some o) : ¬ ∃ q ∈ ops.take i, q.2.2 = o.2.2 := by
  rintro ⟨q, hq, e⟩
  obtain ⟨hi, he⟩ := List.getElem?_eq_some_iff.1 ho
  obtain ⟨j, hj⟩ := List.getElem?_of_mem hq
  have hjl := (List.getElem?_eq_some_iff.1 hj).1
  simp at hjl
  have hj2 : ops[j]? = some q := by rw [List.getElem?_take_of_lt (by omega)] at hj; exact hj
  have e1 : (ops.map (fun o => o.2.2))[j]? = some q.2.2 := by simp [hj2]
  have e2 : (ops.map (fun o => o.2.2))[i]? = some o.2.2 := by simp [ho]
  rw [e] at e1
  obtain ⟨a1, b1⟩ := List.getElem?_eq_some_iff.1 e1
  obtain ⟨a2, b2⟩ := List.getElem?_eq_some_iff.1 e2
  exact (List.pairwise_iff_getElem.1 h j i a1 a2 (by omega)) (b1.trans b2.symm)

/-- The name of the first method of an interface. -/
def headName : Option TypeDesc → String
  | some (.interface ms) => (ms.toList.map Prod.fst).headD ""
  | _ => ""

theorem meth_apply (skip : Bool) (nb : Nat) (w : World) : (method 301 86 (stepV skip nb) (headName (Yba.prog.underlying 81))).run Yba.prog w = .ok (86, stepV skip nb) w := by
  cases skip <;> kernel_rfl

set_option maxRecDepth 100000 in
set_option maxHeartbeats 1000000 in
theorem applySteps_any {CT : Nat → World → Prop} {own : Nat → Prop} {w : World} {gf : Nat} {lb : Array Value} {sup : Nat} {cost : Nat → Nat} {Dom : Nat → Prop} (h : Chain CT own w (.func (.func gf) #[] lb) sup cost Dom) (hCTf : ∀ c W W', CT c W → (∀ k, own k → W'.heap[k]? = W.heap[k]?) → CT c W') (hown : ∀ k, own k → k < w.heap.size)
    (c s : Value) (ops : List StepM) (S : StepsIn w own Dom ops) (ao : Option Addr) (n cap : Nat) (hn : ops.length = n) (hns : n ≤ 1099511627776) (hsup : sup ≤ 1099511627776)
    (h0 : 0 < n → ∃ g, ao = some ⟨g, 0, none⟩ ∧ ∀ i o, ops[i]? = some o → w.cell? ⟨g, i, none⟩ = some (.iface 86 (stepV o.1 o.2.2))) :
    Calls Yba.prog 49 #[c, s, .slice ao n cap, .func (.func gf) #[] lb] w fun e w' => ∃ v, e = .returned v ∧ Chain CT own w' v (sups ops sup) (costs ops cost) (DomAt Dom ops w.heap.size n) ∧ Below w.heap.size w w' := by
  have C0 : Chain CT own w (.func (.func gf) #[] lb) (sups (ops.take 0) sup) (costs (ops.take 0) cost) (DomAt Dom ops w.heap.size 0) := h.mono (fun k hk => .inl hk)
  have hm := meth_apply
  simp only [headName, Yba.underlying81, List.map_cons, List.headD_cons] at hm
  clear h
  go_enter Yba.func49, Yba.ntmps49
  go_wp2_with fail
  go_loopw [3, 13] (fun v j wr => ∃ i : Nat, i ≤ n ∧ j = .int .i64 i ∧ Chain CT own wr v (sups (ops.take i) sup) (costs (ops.take i) cost) (DomAt Dom ops w.heap.size i) ∧ Below w.heap.size w wr) (fun _ j _ => n - (intOf j).toNat)
  case atStart => exact ⟨0, Nat.zero_le _, rfl, C0, Below.refl _ _⟩
  case round =>
    clear C0
    obtain ⟨i, hi, rfl, Ch, bel⟩ := hrel
    obtain ⟨gf', lb', hv⟩ := Ch.form
    subst hv
    by_cases hlt : i < n
    · obtain ⟨o, ho⟩ : ∃ o, ops[i]? = some o := ⟨_, List.getElem?_eq_getElem (by omega)⟩
      obtain ⟨g, hao, hc⟩ := h0 (by omega)
      subst hao
      have fb : Fr (fun _ => False) w wr := Fr.ofBelow bel
      have co := fb.cell (hc i o ho) id
      obtain ⟨s1, s2, s3, s4⟩ := S.at_ o (List.mem_of_getElem? ho)
      have s1' := fb.block s1 id
      have hap := apply_any o.1 c s gf' lb' o.2.2 o.2.1 (cellsB s1') (lt_of s1')
      have hlt' : (i : Int) < (n : Int) := by omega
      have hws := bel.size
      have Ch2 := Ch.step hCTf (fun k hk => by have := hown k hk; omega) o.1 o.2.1 o.2.2 s1' (fun hd => by
        rcases hd with hd | hd | hd
        · exact s3 hd
        · exact nodup_at S.nodup ho hd
        · have := lt_of s1; omega) s2 (by have := sups_le (ops.take i) sup; omega) s4
      rw [← sups_succ ho, ← costs_succ ho] at Ch2
      have Ch3 : Chain CT own (wr.alloc (.cells #[.func (.func gf') #[] lb'] 88)) (nextV o.1 o.2.1 o.2.2 wr.heap.size gf' lb') (sups (ops.take (i + 1)) sup) (costs (ops.take (i + 1)) cost) (DomAt Dom ops w.heap.size (i + 1)) := Ch2.mono (fun k hk => by
        rcases hk with (hk | ⟨q, hq, e⟩ | hk) | hk | hk
        · exact .inl hk
        · exact .inr (.inl ⟨q, List.mem_of_mem_take (i := i) (by rw [List.take_take]; simpa using hq), e⟩)
        · exact .inr (.inr hk)
        · refine .inr (.inl ⟨o, ?_, hk.symm⟩)
          exact List.mem_of_getElem? (i := i) (by rw [List.getElem?_take_of_lt (by omega)]; exact ho)
        · exact .inr (.inr (by omega)))
      have bel3 := bel.alloc hws (.cells #[.func (.func gf') #[] lb'] 88)
      clear Ch Ch2 hc S
      generalize nextV o.1 o.2.1 o.2.2 wr.heap.size gf' lb' = r at *
      go_wp2_with fail
      refine hap.mono ?_
      rintro e w' ⟨rfl, hw⟩
      rw [hw]
      clear hap
      go_wp2_with fail
      go_roundw
      case rel => exact ⟨i + 1, by omega, by go_num, Ch3, bel3⟩
      case measure => simp [intOf]; omega
    · obtain rfl : i = n := by omega
      go_wp2_with fail
      go_ret
      rw [List.take_of_length_le (by omega)] at Ch
      exact ⟨_, rfl, Ch, bel⟩

end Go.Proofs.Ybulkdkji
