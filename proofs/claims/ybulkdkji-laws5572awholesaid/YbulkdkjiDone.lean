/-
  untilDone's iterator: the source of a run.
-/
import Derived.Test.YbulkdkjiErr
namespace Go.Proofs.Ybulkdkji
open Go.RowKit Go.Shelf
attribute [local go_sem] Oper.semAt_some
set_option linter.unusedVariables false
set_option linter.unusedSimpArgs false

theorem meth_err (a : Addr) (w : World) : (method 301 59 (.pointer (some a)) "Err").run Yba.prog w = .ok (84, .pointer (some a)) w := by kernel_rfl
theorem enter84 (args : Array Value) (w : World) : (callFunc 84 args).run Yba.prog w = .ok (.enter 84 args) w := enters_of Yba.func84 (by kernel_rfl) rfl args w

/-- An iterator that asks no context. -/
abbrev Plain (Ro : Nat → Option Obj) (gf : Nat) (lb : Array Value) (m : Nat) : Prop := Sq Yba.prog (fun _ _ => True) (fun _ => False) Ro gf lb m (fun _ => 0)

set_option maxRecDepth 100000 in
set_option maxHeartbeats 1000000 in
theorem done_sq {Ro : Nat → Option Obj} {gf : Nat} {lb : Array Value} {m : Nat} (hsq : Plain Ro gf lb m) (eg : ∀ args w, (callFunc gf args).run Yba.prog w = .ok (.enter gf args) w)
    (rb xb cb K : Nat) (et : TypeId) (ep : Value) (hne : rb ≠ xb) (h1 : Ro rb = none) (h2 : Ro xb = none) (h3 : Ro cb = none) (o1 : cb ≠ rb) (o2 : cb ≠ xb) (hsup : m ≤ 1099511627776) (hK : K ≤ 1099511627776) :
    Sq Yba.prog (CT cb K (.iface et ep)) (fun k => k = cb) (two Ro rb (.cells #[.func (.func gf) #[] lb] 88 (0, 0)) xb (.cells #[.iface 59 (.pointer (some ⟨cb, 0, none⟩))] 61 (0, 0))) 59 #[.pointer (some ⟨rb, 0, none⟩), .pointer (some ⟨xb, 0, none⟩)] (min m K) (fun D => min m (min (K + 1) D)) := by
  intro l D C J W hD hRo hCT hown hC hJ hY hJ0
  have hrb : W.heap[rb]? = some (.cells #[.func (.func gf) #[] lb] 88 (0, 0)) := hRo rb _ (by simp [two])
  have hxb : W.heap[xb]? = some (.cells #[.iface 59 (.pointer (some ⟨cb, 0, none⟩))] 61 (0, 0)) := hRo xb _ (by simp [two, Ne.symm hne])
  have crb := cellsB hrb
  have lrb := lt_of hrb
  have lxb := lt_of hxb
  have lcb := lt_of (show W.heap[cb]? = some _ from hCT)
  refine (callsIn_wide (n := 0)).1 (callsIn_of_wp_marks Yba.func59 rfl trivial ?_ rfl)
  simp only [Yba.ntmps59, List.size_toArray, List.length_cons, List.length_nil, Nat.reduceAdd, Nat.reduceSub, Array.replicate_succ, Array.replicate_zero, List.push_toArray, List.append_toArray, List.nil_append, List.cons_append]
  have HCT : Hid (CT cb K (.iface et ep) 0 W) := hCT
  clear hCT
  gi_wp2
  have hw0s : (W.alloc (.cells #[.func (.yield l) #[] #[]] 89)).heap.size = W.heap.size + 1 := by simp
  obtain ⟨W0, hW0⟩ : ∃ W0, W0 = W.alloc (.cells #[.func (.yield l) #[] #[]] 89) := ⟨_, rfl⟩
  rw [← hW0] at hw0s ⊢
  have f0 : Fr (fun _ => False) W W0 := by rw [hW0]; exact (Fr.refl _ W).alloc _
  have hyb : W0.heap[W.heap.size]? = some (.cells #[.func (.yield l) #[] #[]] 89 (0, 0)) := by
    rw [hW0]; exact heap_alloc_new W _
  clear hW0
  refine range_sq hsq rfl eg (min (K + 1) D) (by omega) (fun k => C k ∨ k = cb)
    (fun t X => J (min t K) X ∧ CT cb K (.iface et ep) t X ∧ X.heap[W.heap.size]? = some (.cells #[.func (.yield l) #[] #[]] 89 (0, 0)) ∧ X.heap[xb]? = some (.cells #[.iface 59 (.pointer (some ⟨cb, 0, none⟩))] 61 (0, 0)))
    (fun k o hk => f0.block (hRo k o (two_old h1 h2 hk)) (fun e => e)) trivial (fun _ _ _ _ _ => trivial) (fun k hk => hk.elim) ?C ?I ?h0 rfl
    (fun id a' X => ∃ b, X.heap[b]? = some (.cells #[.int .u32 id, .pointer none] 92 (0, 0)) ∧ W.heap.size + 1 ≤ b ∧ a' = { tmps := #[.func (.yield l) #[] #[], .pointer (some ⟨rb, 0, none⟩), .pointer (some ⟨xb, 0, none⟩), .pointer (some ⟨W.heap.size, 0, none⟩), .pointer (some ⟨b, 0, none⟩), .func (.func gf) #[] lb, item id, undef, undef, undef, undef, undef, undef, undef, undef, undef], defers := [] })
    ?Ax ?assign ?body ?fin
  case C =>
    rintro k (hk | rfl)
    · obtain ⟨a1, a2, a3⟩ := hC k hk
      exact ⟨by omega, (two_none a2).2.2, id⟩
    · exact ⟨by omega, h3, id⟩
  case I =>
    rintro t A B ⟨i1, i2, i3, i4⟩ fr
    refine ⟨hJ _ A B i1 (fr.mono (fun k _ e => by rcases e with e | e; exact e.elim; exact .inr (by omega))), fr.block i2 ?_, fr.block i3 ?_, fr.block i4 ?_⟩
    · rintro (e | e)
      · exact e
      · omega
    · rintro (e | e)
      · exact e
      · omega
    · rintro (e | e)
      · exact e
      · omega
  case h0 =>
    exact ⟨hJ _ W W0 (by simpa using hJ0) (f0.mono (fun _ _ e => e.elim)), HCT.out.of (fun k e => f0.old k (by omega) id), hyb, f0.block hxb (fun e => e)⟩
  case Ax =>
    rintro id a' X l' o o' ⟨b, hb, hbl, rfl⟩ hl'
    exact ⟨b, (World.putObj_heap_other (fun e => by rw [e, hl'] at hb; cases hb)).trans hb, hbl, rfl⟩
  case assign =>
    intro l' t id X K hi hsz hK
    have a92 := Yba.isAgg92
    have z92 := Yba.sizeOf92
    unfold item at *
    gi_wp2
    exact hK _ _ ((Fr.refl _ X).alloc _) ⟨X.heap.size, heap_alloc_new X _, by omega, rfl⟩
  case body =>
    rintro l' t id a' X hts htD ⟨i1, i2, i3, i4⟩ hsz ⟨b, hb, hbl, rfl⟩
    have c2 := cellsB i3
    have c3 := cellsB i4
    have cb0 : X.cell? ⟨b, 0, none⟩ = some (.int .u32 id) := by rw [cell_of_row X b 0 _ 92 (0, 0) hb]; rfl
    have cb1 : X.cell? ⟨b, 1, none⟩ = some (.pointer none) := by rw [cell_of_row X b 1 _ 92 (0, 0) hb]; rfl
    have a92 := Yba.isAgg92
    have z92 := Yba.sizeOf92
    have hm := meth_err
    gi_wp2
    refine ⟨trivial, rfl, (CallsIn.inRound l' ((callsIn_wide (n := 0)).2 (err_any i2 hK (by omega)))).mono ?_⟩
    rintro e X1 ⟨rfl, ct1, f1⟩
    have q2 := f1.block i3 (by omega)
    have q3 := f1.block i4 (fun e => o2 e.symm)
    have cq2 := cellsB q2
    have cq0 : X1.cell? ⟨b, 0, none⟩ = some (.int .u32 id) := f1.cell cb0 (by simp; omega)
    have cq1 : X1.cell? ⟨b, 1, none⟩ = some (.pointer none) := f1.cell cb1 (by simp; omega)
    have hsz1 : W.heap.size ≤ X1.heap.size := by have := f1.size; omega
    have j1 : J (min t K) X1 := hJ _ _ _ i1 (f1.mono (fun k _ e => .inl e))
    clear c2 c3 cb0 cb1 hm i1 i2 i3 i4
    by_cases hle : t + 1 ≤ K
    · have ha : ans K (.iface et ep) t = .nilIface := by unfold ans; rw [if_pos hle]
      rw [ha]
      have em : min t K = t := by omega
      rw [em] at j1
      have HY := hY t _ id (by omega) (by omega) j1 hsz1
      obtain ⟨fn, tmps, assign, body, hy, hR⟩ := HY
      have HE : Hid ((t + 1 < min (K + 1) D ↔ t + 1 < D) ∧ min (t + 1) K = t + 1) := ⟨⟨fun h => by omega, fun h => by omega⟩, by omega⟩
      unfold item at hy
      clear em ha
      gi_wp2
      refine ⟨rfl, RoundIn.mono (F := Fence.wide.inRound l') hR ?_⟩
      rintro e W' ⟨rfl, hJ', f2⟩
      have f3 : Fr (fun k => C k ∨ k = cb) X W' := (f1.mono (fun k _ e => .inr e)).trans f2 (fun k _ e => .inl e)
      have r1 : CT cb K (.iface et ep) (t + 1) W' := f2.block ct1 (fun e => (hC _ e).2.2 rfl)
      have r2 := f2.block q2 (fun e => by have := (hC _ e).1; omega)
      have r3 := f2.block q3 (fun e => (two_none (hC _ e).2.1).2.1 rfl)
      have HP : Hid (J (min (t + 1) K) W' ∧ CT cb K (.iface et ep) (t + 1) W' ∧ W'.heap[W.heap.size]? = some (.cells #[.func (.yield l) #[] #[]] 89 (0, 0)) ∧ W'.heap[xb]? = some (.cells #[.iface 59 (.pointer (some ⟨cb, 0, none⟩))] 61 (0, 0))) := ⟨by rw [HE.out.2]; exact hJ', r1, r2, r3⟩
      clear q2 q3 r1 r2 r3 hJ' hR hy j1 cq0 cq1 cq2 ct1
      by_cases hd : t + 1 < D
      · have hdd : decide (t + 1 < D) = true := decide_eq_true hd
        gi_wp2
        exact ⟨HE.out.1.2 hd, HP.out, f3⟩
      · have hdd : decide (t + 1 < D) = false := decide_eq_false hd
        gi_wp2
        exact ⟨fun c => hd (HE.out.1.1 c), HP.out, f3⟩
    · have ha : ans K (.iface et ep) t = .iface et ep := by unfold ans; rw [if_neg hle]
      rw [ha]
      have HP : Hid (¬ t + 1 < min (K + 1) D ∧ J (min (t + 1) K) X1) := ⟨by omega, by rw [show min (t + 1) K = min t K by omega]; exact j1⟩
      clear ha j1
      gi_wp2
      refine ⟨fun _ h => (by cases h), ?_⟩
      gi_wp2
      exact ⟨HP.out.1, ⟨HP.out.2, ct1, q2, q3⟩, f1.mono (fun k _ e => .inr e)⟩
  case fin =>
    rintro B X hB ⟨i1, i2, i3, i4⟩ _ fr hK
    have hmin : min (min m (min (K + 1) D)) K = min (min m K) D := by omega
    have hsB : B < X.heap.size := lt_of hK
    have hfin : J (min (min m K) D) (X.putObj B (.deferred none)) ∧ CT cb K (.iface et ep) (min m (min (K + 1) D)) (X.putObj B (.deferred none)) ∧ Fr (fun k => k = cb ∨ C k) W (X.putObj B (.deferred none)) := by
      refine ⟨?_, i2.of (fun k hk => World.putObj_heap_other (by omega)), ?_⟩
      · rw [← hmin]
        exact hJ _ X _ i1 ((Fr.refl _ X).putObj (fun _ => .inr (by omega)) _)
      · refine Fr.putObj ?_ (fun h => by omega) _
        refine (f0.mono (fun _ _ e => e.elim)).trans fr (fun k hk e => ?_)
        rcases e with e | e | e
        · exact e.elim
        · exact .inr e
        · exact .inl e
    by_cases hs : m < min (K + 1) D
    · rw [if_pos hs]
      gi_wp2
      refine ⟨by simp, .inl ⟨_, _, rfl, run_takeDeferred hK, ?_⟩⟩
      exact ⟨_, results_none rfl _ _ _, ⟨_, rfl⟩, hfin.1, hfin.2.1, hfin.2.2⟩
    · rw [if_neg hs]
      gi_wp2
      refine ⟨by simp, .inl ⟨_, _, rfl, run_takeDeferred hK, ?_⟩⟩
      exact ⟨_, results_none rfl _ _ _, ⟨_, rfl⟩, hfin.1, hfin.2.1, hfin.2.2⟩

end Go.Proofs.Ybulkdkji
