/-
  Limit's iterator.
-/
import Derived.Test.YbulkdkjiSkip
namespace Go.Proofs.Ybulkdkji
open Go.RowKit Go.Shelf
attribute [local go_sem] Oper.semAt_some
set_option linter.unusedVariables false
set_option linter.unusedSimpArgs false

set_option maxRecDepth 100000 in
set_option maxHeartbeats 1000000 in
theorem limit_sq {CT : Nat → World → Prop} {own : Nat → Prop} {Ro : Nat → Option Obj} {gf : Nat} {lb : Array Value} {sup : Nat} {cost : Nat → Nat} (hsq : Sq Yba.prog CT own Ro gf lb sup cost) (eg : ∀ args w, (callFunc gf args).run Yba.prog w = .ok (.enter gf args) w)
    (hCTf : ∀ c W W', CT c W → (∀ k, own k → W'.heap[k]? = W.heap[k]?) → CT c W') (rb nb : Nat) (N : Nat) (hN0 : 1 ≤ N) (hne : rb ≠ nb) (h1 : Ro rb = none) (h2 : Ro nb = none) (o1 : ¬ own rb) (o2 : ¬ own nb) (hsup : sup ≤ 1099511627776) (hn : N ≤ 9223372036854775807) :
    Sq Yba.prog CT own (two Ro rb (.cells #[.func (.func gf) #[] lb] 88 (0, 0)) nb (.cells #[.int .i64 (N : Int)] 3 (0, 0))) 24 #[.pointer (some ⟨rb, 0, none⟩), .pointer (some ⟨nb, 0, none⟩)] (min sup N) (fun D => cost (min D N)) := by
  intro l D C J W hD hRo hCT hown hC hJ hY hJ0
  have hrb : W.heap[rb]? = some (.cells #[.func (.func gf) #[] lb] 88 (0, 0)) := hRo rb _ (by simp [two])
  have hnb : W.heap[nb]? = some (.cells #[.int .i64 (N : Int)] 3 (0, 0)) := hRo nb _ (by simp [two, Ne.symm hne])
  have crb := cellsB hrb
  have cnb := cellsB hnb
  have lrb := lt_of hrb
  have lnb := lt_of hnb
  refine (callsIn_wide (n := 0)).1 (callsIn_of_wp_marks Yba.func24 rfl trivial ?_ rfl)
  simp only [Yba.ntmps24, List.size_toArray, List.length_cons, List.length_nil, Nat.reduceAdd, Nat.reduceSub, Array.replicate_succ, Array.replicate_zero, List.push_toArray, List.append_toArray, List.nil_append, List.cons_append]
  gi_wp2
  have hw0s : ((W.alloc (.cells #[.func (.yield l) #[] #[]] 89)).alloc (.cells #[.int .i64 0] 3)).heap.size = W.heap.size + 2 := by simp
  obtain ⟨W0, hW0⟩ : ∃ W0, W0 = (W.alloc (.cells #[.func (.yield l) #[] #[]] 89)).alloc (.cells #[.int .i64 0] 3) := ⟨_, rfl⟩
  rw [← hW0] at hw0s ⊢
  have f0 : Fr (fun _ => False) W W0 := by rw [hW0]; exact ((Fr.refl _ W).alloc _).alloc _
  have hyb : W0.heap[W.heap.size]? = some (.cells #[.func (.yield l) #[] #[]] 89 (0, 0)) := by
    rw [hW0]; exact (Below.heap_alloc _ _ _ (by simp)).trans (heap_alloc_new W _)
  have hsb : W0.heap[W.heap.size + 1]? = some (.cells #[.int .i64 0] 3 (0, 0)) := by
    rw [hW0]; have := heap_alloc_new (W.alloc (.cells #[.func (.yield l) #[] #[]] 89)) (.cells #[.int .i64 0] 3); rw [World.size_alloc] at this; exact this
  clear hW0
  refine range_sq hsq rfl eg (min D N) (by omega) (fun k => C k ∨ k = W.heap.size + 1)
    (fun t X => J t X ∧ X.heap[W.heap.size + 1]? = some (.cells #[.int .i64 (t : Int)] 3 (0, 0)) ∧ X.heap[W.heap.size]? = some (.cells #[.func (.yield l) #[] #[]] 89 (0, 0)) ∧ X.heap[nb]? = some (.cells #[.int .i64 (N : Int)] 3 (0, 0)))
    (fun k o hk => f0.block (hRo k o (two_old h1 h2 hk)) (fun e => e)) (hCTf 0 W W0 hCT (fun k hk => f0.old k (hown k hk) (fun e => e))) hCTf (fun k hk => by have := hown k hk; omega) ?C ?I ?h0 rfl
    (fun id a' X => ∃ b, X.heap[b]? = some (.cells #[.int .u32 id, .pointer none] 92 (0, 0)) ∧ W.heap.size + 2 ≤ b ∧ a' = { tmps := #[.func (.yield l) #[] #[], .pointer (some ⟨rb, 0, none⟩), .pointer (some ⟨nb, 0, none⟩), .pointer (some ⟨W.heap.size, 0, none⟩), .pointer (some ⟨W.heap.size + 1, 0, none⟩), .pointer (some ⟨b, 0, none⟩), .func (.func gf) #[] lb, item id, undef, undef, undef, undef, undef, undef, undef, undef, undef, undef, undef], defers := [] })
    ?Ax ?assign ?body ?fin
  case C =>
    rintro k (hk | rfl)
    · obtain ⟨a1, a2, a3⟩ := hC k hk
      exact ⟨by omega, (two_none a2).2.2, a3⟩
    · refine ⟨by omega, ?_, fun hk => by have := hown _ hk; omega⟩
      cases h : Ro (W.heap.size + 1) with
      | none => rfl
      | some o => have := lt_of (hRo _ _ (two_old h1 h2 h)); omega
  case I =>
    rintro t A B ⟨i1, i2, i3, i4⟩ fr
    refine ⟨hJ _ A B i1 (fr.mono (fun k _ e => by rcases e with e | e; exact .inl e; exact .inr (by omega))), fr.block i2 ?_, fr.block i3 ?_, fr.block i4 ?_⟩
    · rintro (e | e)
      · have := hown _ e; omega
      · omega
    · rintro (e | e)
      · have := hown _ e; omega
      · omega
    · rintro (e | e)
      · exact o2 e
      · omega
  case h0 =>
    exact ⟨hJ _ W W0 (by simpa using hJ0) (f0.mono (fun _ _ e => e.elim)), hsb, hyb, f0.block hnb (fun e => e)⟩
  case Ax =>
    rintro id a' X l' o o' ⟨b, hb, hbl, rfl⟩ hl'
    exact ⟨b, (World.putObj_heap_other (fun e => by rw [e, hl'] at hb; cases hb)).trans hb, hbl, rfl⟩
  case assign =>
    intro l' t id X K hi hsz hK
    have a92 := Yba.isAgg92
    have z92 := Yba.sizeOf92
    unfold item at *
    gi_wp2
    exact hK _ _ ((Fr.refl _ X).alloc _) ⟨X.heap.size, heap_alloc_new X _, by omega, rfl⟩
  case body =>
    rintro l' t id a' X hts htD ⟨i1, i2, i3, i4⟩ hsz ⟨b, hb, hbl, rfl⟩
    have c1 := cellsB i2
    have c2 := cellsB i3
    have c3 := cellsB i4
    have cb0 : X.cell? ⟨b, 0, none⟩ = some (.int .u32 id) := by rw [cell_of_row X b 0 _ 92 (0, 0) hb]; rfl
    have cb1 : X.cell? ⟨b, 1, none⟩ = some (.pointer none) := by rw [cell_of_row X b 1 _ 92 (0, 0) hb]; rfl
    have cf := frozen_of_row X (W.heap.size + 1) 0 _ 3 i2
    have a92 := Yba.isAgg92
    have z92 := Yba.sizeOf92
    have f1 : Fr (fun k => k = W.heap.size + 1) X (X.setCell ⟨W.heap.size + 1, 0, none⟩ (.int .i64 ((t : Int) + 1))) := (Fr.refl (fun k => k = W.heap.size + 1) X).setCell (p := ⟨W.heap.size + 1, 0, none⟩) (fun _ => rfl) _
    have s1 : (X.setCell ⟨W.heap.size + 1, 0, none⟩ (.int .i64 ((t : Int) + 1))).heap[W.heap.size + 1]? = some (.cells #[.int .i64 ((t : Int) + 1)] 3 (0, 0)) := by
      simp only [World.setCell, Array.getElem?_modify, if_true, i2, Option.map_some]
      simp
    have s2 := f1.block i3 (by omega)
    have s3 := f1.block i4 (by omega)
    have j1 : J t (X.setCell ⟨W.heap.size + 1, 0, none⟩ (.int .i64 ((t : Int) + 1))) := hJ _ _ _ i1 (f1.mono (fun k _ e => .inr (by omega)))
    have szz : W.heap.size ≤ (X.setCell ⟨W.heap.size + 1, 0, none⟩ (.int .i64 ((t : Int) + 1))).heap.size := by simp [World.setCell]; omega
    have HY := hY t _ id (by omega) (by omega) j1 szz
    obtain ⟨fn, tmps, assign, body, hy, hR⟩ := HY
    have HE : Hid (t + 1 < min D N ↔ (t + 1 < D ∧ t + 1 ≠ N)) := ⟨fun h => by omega, fun h => by omega⟩
    unfold item at hy
    gi_wp2
    refine ⟨rfl, RoundIn.mono (F := Fence.wide.inRound l') hR ?_⟩
    rintro e W' ⟨rfl, hJ', f2⟩
    have f3 : Fr (fun k => C k ∨ k = W.heap.size + 1) X W' := (f1.mono (fun k _ e => .inr e)).trans f2 (fun k _ e => .inl e)
    have q1 := f2.block s1 (fun e => by have := (hC _ e).1; omega)
    have q2 := f2.block s2 (fun e => by have := (hC _ e).1; omega)
    have q3 := f2.block s3 (fun e => (two_none (hC _ e).2.1).2.1 rfl)
    have cq1 := cellsB q1
    have cq3 := cellsB q3
    have HP : Hid (J (t + 1) W' ∧ W'.heap[W.heap.size + 1]? = some (.cells #[.int .i64 (((t + 1 : Nat) : Int))] 3 (0, 0)) ∧ W'.heap[W.heap.size]? = some (.cells #[.func (.yield l) #[] #[]] 89 (0, 0)) ∧ W'.heap[nb]? = some (.cells #[.int .i64 (N : Int)] 3 (0, 0))) := ⟨hJ', q1, q2, q3⟩
    clear s1 s2 s3 q1 q2 q3 hJ' hR hy j1 c1 c2 c3 cb0 cb1 cf
    by_cases hd : t + 1 < D
    · have hdd : decide (t + 1 < D) = true := decide_eq_true hd
      by_cases he : t + 1 = N
      · have hee : (((t : Int) + 1) == (N : Int)) = true := by rw [beq_iff_eq]; omega
        have HEE : Hid (¬ t + 1 < min D N) := fun c => (HE.out.1 c).2 he
        clear he
        gi_wp2
        exact ⟨HEE.out, HP.out, f3⟩
      · have hee : (((t : Int) + 1) == (N : Int)) = false := by rw [beq_eq_false_iff_ne]; omega
        gi_wp2
        exact ⟨HE.out.2 ⟨hd, he⟩, HP.out, f3⟩
    · have hdd : decide (t + 1 < D) = false := decide_eq_false hd
      gi_wp2
      exact ⟨fun c => hd (HE.out.1 c).1, HP.out, f3⟩
  case fin =>
    rintro B X hB ⟨i1, i2, i3, i4⟩ hct fr hK
    have hmin : min sup (min D N) = min (min sup N) D := by omega
    have hsB : B < X.heap.size := lt_of hK
    have hfin : J (min (min sup N) D) (X.putObj B (.deferred none)) ∧ CT (cost (min D N)) (X.putObj B (.deferred none)) ∧ Fr (fun k => own k ∨ C k) W (X.putObj B (.deferred none)) := by
      refine ⟨?_, hCTf _ X _ hct (fun k hk => World.putObj_heap_other (by have := hown k hk; omega)), ?_⟩
      · rw [← hmin]
        exact hJ _ X _ i1 ((Fr.refl _ X).putObj (fun _ => .inr (by omega)) _)
      · refine Fr.putObj ?_ (fun h => by omega) _
        refine (f0.mono (fun _ _ e => e.elim)).trans fr (fun k hk e => ?_)
        rcases e with e | e | e
        · exact .inl e
        · exact .inr e
        · omega
    by_cases hs : sup < min D N
    · rw [if_pos hs]
      gi_wp2
      refine ⟨by simp, .inl ⟨_, _, rfl, run_takeDeferred hK, ?_⟩⟩
      exact ⟨_, results_none rfl _ _ _, ⟨_, rfl⟩, hfin.1, hfin.2.1, hfin.2.2⟩
    · rw [if_neg hs]
      gi_wp2
      refine ⟨by simp, .inl ⟨_, _, rfl, run_takeDeferred hK, ?_⟩⟩
      exact ⟨_, results_none rfl _ _ _, ⟨_, rfl⟩, hfin.1, hfin.2.1, hfin.2.2⟩

end Go.Proofs.Ybulkdkji
