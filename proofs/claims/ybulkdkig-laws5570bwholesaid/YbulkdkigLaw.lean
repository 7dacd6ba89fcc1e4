/-
  The walk of LawS5570BWhole: the script's loop, the last push, the checks.
-/
import Derived.Test.YbulkdkigOps
import Derived.Test.YbulkdkigRow
import Derived.Deep.LoopGhost
import Derived.Deep.DeepMust
import Derived.Deep.QuietTactic
import Derived.BigQuiet
import Derived.WalkSmall
namespace Go.Proofs.Ybulkdkig
open Go.RowKit
set_option linter.unusedVariables false
set_option linter.unusedSimpArgs false

theorem info29 : (Yba.prog.info? 29).map (fun i => (i.zero, i.size, i.bytes)) = some (some (.pointer none), 1, 8) := by kernel_rfl

theorem later {w w' : World} {a : Addr} {v : Value} (hb : Below w.heap.size w w') (h : w.cell? a = some v) : w'.cell? a = some v :=
  (hb.cell (World.block_lt_of_cell? w a h)).trans h

theorem push_types {w : World} {Q X : Nat} {l : List Nat} {n : Int} {p x : Value} (D : Dll w Q l n) (hX : w.heap[X]? = some (node p x)) :
    ∀ k, (k = Q ∨ k = X ∨ k ∈ l) → ∃ cs t, w.heap[k]? = some (.cells cs t (0, 0)) ∧ t ≠ 29 := by
  intro k hk
  rcases hk with h | rfl | h
  · exact D.types k (.inl h)
  · exact ⟨_, 39, hX, by decide⟩
  · exact D.types k (.inr h)

/-- What a push leaves: the list, the row, the old world. -/
theorem after_push {w0 w w1 : World} {l : List Nat} {n : Int} {v : Value} (D : Dll w w0.heap.size l n) (R : Row w w0.heap.size v l) (hb : Below w0.heap.size w0 w) (hge : ∀ b ∈ l, w0.heap.size ≤ b) (p x : Value)
    (C : Ch (fun k => k = w0.heap.size ∨ k = w.heap.size ∨ k ∈ l) (w.alloc (node p x)) w1) :
    Row w1 w0.heap.size v l ∧ Below w0.heap.size w0 w1 := by
  obtain ⟨D1, f1, f2, f3⟩ := D.fresh p x
  refine ⟨(R.alloc _).ch C (push_types D1 f3), (hb.alloc hb.size _).trans (C.below ?_)⟩
  intro k hk
  rcases hk with h | h | h
  · omega
  · have := hb.size; omega
  · exact hge k h

/-- What an append to the row leaves. -/
theorem after_append {w0 w1 w3 : World} {l l' : List Nat} {n : Int} {v : Value} {o : Obj} (D : Dll w1 w0.heap.size l n) (R : Row w1 w0.heap.size v l') (hb : Below w0.heap.size w0 w1) (G : (w1.alloc o).grownBy w3 v.ownBlock) :
    Dll w3 w0.heap.size l n ∧ Below w0.heap.size w0 w3 :=
  ⟨(D.alloc o).grown G ((R.alloc o).apart (D.alloc o)), (hb.alloc hb.size o).grown G (by have := hb.size; simp; omega) R.base⟩

/-- What a prepend leaves: the new row began in a block of its own. -/
theorem after_prepend {w0 w1 w3 : World} {l : List Nat} {n : Int} {o : Obj} (D : Dll w1 w0.heap.size l n) (hb : Below w0.heap.size w0 w1) (G : (w1.alloc o).grownBy w3 (some w1.heap.size)) :
    Dll w3 w0.heap.size l n ∧ Below w0.heap.size w0 w3 :=
  ⟨(D.alloc o).grown G (fun k hk e => by have := D.lt k hk; simp at e; omega), (hb.alloc hb.size o).grown G (by have := hb.size; simp; omega) (fun k hk => by have := hb.size; simp at hk; omega)⟩

theorem cell_one (w : World) (X : Nat) : ∀ j u, (ptrs [X])[j]? = some u → (w.alloc (.cells #[.pointer (some ⟨X, 0, none⟩)] 29)).cell? ((⟨w.heap.size, 0, none⟩ : Addr).add j) = some u := by
  intro j u hj
  match j, hj with
  | 0, hj => simp [ptrs] at hj; subst hj; simp [Addr.add]

set_option maxHeartbeats 400000 in
theorem load_any (Q : Nat) (w : World) (h : w.cell? ⟨Q, 0, none⟩ = some (.int .u32 0)) :
    Calls Yba.prog 7 #[.pointer (some ⟨Q, 0, none⟩)] w fun e w' => e = .returned (.bool false) ∧ w' = w := by
  have hl := run_call_load (P := Yba.prog) Yba.func8 (by kernel_rfl) (by kernel_rfl) (by kernel_rfl) .u32 (by kernel_rfl) h
  go_enter Yba.func7, Yba.ntmps7
  go_wp2
  go_ret
  exact ⟨rfl, rfl⟩

theorem Row.cons {w : World} {B X : Nat} {v : Value} {l : List Nat} (h : Row w B v (X :: l)) : ∃ g cap cur, v = .slice (some ⟨g, 0, none⟩) (l.length + 1) cap ∧ w.heap[g]? = some (.cells cur 29 (0, 0)) ∧ l.length + 1 ≤ cap ∧ cap ≤ 9223372036854775807 ∧ cur.toList.take (X :: l).length = ptrs (X :: l) := by
  rcases h with ⟨_, h0⟩ | ⟨g, cap, cur, hv, _, hg, hl, _, hm, ht⟩
  · cases h0
  · exact ⟨g, cap, cur, hv, hg, hl, hm, ht⟩

/-- What stands in memory when the script is done. -/
structure Done (w3 : World) (Q J g : Nat) (l : List Nat) (n : Int) (cur : Array Value) : Prop where
  D : Dll w3 Q l n
  J : w3.heap[J]? = some (node (.pointer none) (.pointer none))
  g : w3.heap[g]? = some (.cells cur 29 (0, 0))
  tk : cur.toList.take l.length = ptrs l

theorem Done.order {w3 : World} {Q J g : Nat} {l : List Nat} {n : Int} {cur : Array Value} (h : Done w3 Q J g l n cur) {j b : Nat} (hj : l[j]? = some b) : w3.cell? ⟨g, j, none⟩ = some (.pointer (some ⟨b, 0, none⟩)) :=
  row_cell h.g h.tk j _ (ptrs_get hj)

set_option maxRecDepth 100000 in
set_option maxHeartbeats 2000000 in
theorem law_main (a0 : Option Addr) (len cap : Nat) (n0 : Int) (zs : List Int) (w : World) (hlen : len ≤ 4096)
    (hn0 : -9223372036854775808 ≤ n0 ∧ n0 ≤ 9223372036854775807)
    (ha : 0 < len → ∃ ad, a0 = some ad ∧ ∀ k, k < len → w.cell? (ad.add k) = some (.int .u8 (zs.getD k 0))) (hz : ∀ k, k < len → 0 ≤ zs.getD k 0 ∧ zs.getD k 0 ≤ 255) :
    Calls Yba.prog 3 #[.slice a0 len cap, .int .i64 n0] w fun e w' => e = .returned (.bool true) ∧ Below w.heap.size w w' := by
  obtain ⟨i0, hi, hz0, hz1, hz2⟩ := info_parts info29
  go_enter Yba.func3, Yba.ntmps3
  go_wp2_with fail
  go_loopw [6, 7, 26] (fun v want i wr => ∃ (k : Nat) (l : List Nat) (N : Int), k ≤ len ∧ i = .int .i64 k ∧ want = .int .i64 N ∧ l.length ≤ k ∧ Dll wr w.heap.size l N ∧ Row wr w.heap.size v l ∧ Below w.heap.size w wr ∧ ∀ b ∈ l, w.heap.size ≤ b)
    (fun _ _ i _ => len - (intOf i).toNat)
  case atStart =>
    refine ⟨0, [], n0, Nat.zero_le _, rfl, rfl, Nat.le_refl _, ?_, row_nil _ _, (Below.refl _ _).alloc (Nat.le_refl _) _, by simp⟩
    refine ⟨List.nodup_nil, by simp, heap_alloc_new w _, fun j b hb => by simp at hb⟩
  case round =>
    obtain ⟨k, l, N, hk, rfl, rfl, hlk, D, R, hb, hge⟩ := hrel
    by_cases hlt : k < len
    · obtain ⟨ad, hae, hc⟩ := ha (by omega)
      subst hae
      have hcz : wr.cell? (ad.add k) = some (.int .u8 (zs.getD k 0)) := later hb (hc k hlt)
      obtain ⟨z0, z1⟩ := hz k hlt
      generalize zs.getD k 0 = z at *
      clear hc hz ha
      have hlt' : (k : Int) < (len : Int) := by omega
      by_cases h30 : z % 3 = 0
      · have t0 : (z % 3 == 0) = true := by rw [beq_iff_eq]; exact h30
        clear h30
        go_wp2_with fail
        obtain ⟨D1, f1, f2, f3⟩ := D.fresh (.pointer none) (.pointer none)
        refine (pushBack_any D1 f1 f2 f3).mono ?_
        rintro e w1 ⟨rfl, D2, C2⟩
        obtain ⟨R2, hb2⟩ := after_push D R hb hge _ _ C2
        have hge2 : ∀ b ∈ l ++ [wr.heap.size], w.heap.size ≤ b := by
          intro b h
          simp only [List.mem_append, List.mem_singleton] at h
          rcases h with h | h
          · exact hge b h
          · have := hb.size; omega
        clear C2 D1 f1 f2 f3 D R hb hge
        go_wp2_with (at_builtin; go_must (refine wpList_append_row _ rfl (.tmp 65) (.tmp 67) rfl i0 Yba.underlying32 hi hz0 hz1 hz2 w.heap.size _ l rfl (R2.alloc _) wr.heap.size ⟨w1.heap.size, 0, none⟩ 1 rfl (cell_one w1 _) (by omega) (by have := hb2.size; simp; omega) ?_); intro v3 w3 R3 G3)
        obtain ⟨D3, hb3⟩ := after_append D2 R2 hb2 G3
        clear G3 R2 D2 hb2
        go_roundw
        case rel => exact ⟨k + 1, _, _, by omega, by go_num, rfl, by simp; omega, D3, R3, hb3, hge2⟩
        case measure => simp [intOf]; omega
      · have t0 : (z % 3 == 0) = false := by rw [beq_eq_false_iff_ne]; exact h30
        by_cases h31 : z % 3 = 1
        · have t1 : (z % 3 == 1) = true := by rw [beq_iff_eq]; exact h31
          clear h30 h31
          go_wp2_with fail
          obtain ⟨D1, f1, f2, f3⟩ := D.fresh (.pointer none) (.pointer none)
          refine (pushFront_any D1 f1 f2 f3).mono ?_
          rintro e w1 ⟨rfl, D2, C2⟩
          obtain ⟨R2, hb2⟩ := after_push D R hb hge _ _ C2
          have hge2 : ∀ b ∈ wr.heap.size :: l, w.heap.size ≤ b := by
            intro b h
            simp only [List.mem_cons] at h
            rcases h with h | h
            · have := hb.size; omega
            · exact hge b h
          clear C2 D1 f1 f2 f3 D R hb hge
          go_wp2_with (at_builtin; go_must (refine wpList_prepend_row _ rfl (.tmp 79) (.tmp 80) rfl i0 Yba.underlying32 hi hz0 hz1 hz2 w.heap.size _ l rfl (R2.alloc _) wr.heap.size w1.heap.size rfl (heap_alloc_new w1 _) hb2.size (by omega) (by have := hb2.size; simp; omega) ?_); intro v3 w3 R3 G3)
          obtain ⟨D3, hb3⟩ := after_prepend D2 hb2 G3
          clear G3 R2 D2 hb2
          go_roundw
          case rel => exact ⟨k + 1, _, _, by omega, by go_num, rfl, by simp; omega, D3, R3, hb3, hge2⟩
          case measure => simp [intOf]; omega
        · have t1 : (z % 3 == 1) = false := by rw [beq_eq_false_iff_ne]; exact h31
          clear h30 h31
          rcases R with ⟨hv, hl0⟩ | ⟨g, cp, cur, hv, hbg, hg, hlc, hcc, hcm, htk⟩
          · subst hl0
            subst hv
            go_wp2_with fail
            go_roundw
            case rel => exact ⟨k + 1, [], N, by omega, by go_num, rfl, by simp, D, row_nil _ _, hb, hge⟩
            case measure => simp [intOf]; omega
          · subst hv
            by_cases hl0 : l.length = 0
            · have hl00 : ¬ 0 < l.length := by omega
              have e0 : l = [] := List.eq_nil_of_length_eq_zero hl0
              subst e0
              have R : Row wr w.heap.size (.slice (some ⟨g, 0, none⟩) 0 cp) [] := .inr ⟨g, cp, cur, rfl, hbg, hg, hlc, hcc, hcm, htk⟩
              go_wp2_with fail
              go_roundw
              case rel => exact ⟨k + 1, [], N, by omega, by go_num, rfl, by simp, D, R, hb, hge⟩
              case measure => simp [intOf]; omega
            · unfold maxLen at hcm
              obtain ⟨i, hidx, hil⟩ : ∃ i : Nat, z / 3 % (l.length : Int) = (i : Int) ∧ i < l.length := by
                have h1 : 0 ≤ z / 3 % (l.length : Int) := Int.emod_nonneg _ (by omega)
                have h2 : z / 3 % (l.length : Int) < (l.length : Int) := Int.emod_lt_of_pos _ (by omega)
                exact ⟨(z / 3 % (l.length : Int)).toNat, by omega, by omega⟩
              obtain ⟨W, hW⟩ : ∃ W, l[i]? = some W := ⟨l[i], List.getElem?_eq_getElem hil⟩
              have hcW : wr.cell? ⟨g, i, none⟩ = some (.pointer (some ⟨W, 0, none⟩)) := row_cell hg htk i _ (ptrs_get hW)
              have HW : Hid (l[i]? = some W) := hW
              have HG : Hid (wr.heap[g]? = some (.cells cur 29 (0, 0))) := hg
              have HT : Hid (cur.toList.take l.length = ptrs l) := htk
              clear hW hg htk
              go_wp2_with fail
              refine (remove_any D HW.out).mono ?_
              rintro e w1 ⟨rfl, D2, C2⟩
              have hgap : ¬ (g = w.heap.size ∨ g ∈ l) := fun hk => by
                obtain ⟨cs, t, h1, h2⟩ := D.types g hk
                rw [HG.out] at h1
                simp at h1
                exact h2 h1.2.symm
              have HG1 : Hid (w1.heap[g]? = some (.cells cur 29 (0, 0))) := (C2.old g hgap).trans HG.out
              have hb2 : Below w.heap.size w w1 := hb.trans (C2.below (fun k hk => hk.elim (fun h => by omega) (fun h => hge k h)))
              have hge2 : ∀ b ∈ l.eraseIdx i, w.heap.size ≤ b := fun b h => hge b (List.mem_of_mem_eraseIdx h)
              have hlen2 : Hid ((l.eraseIdx i).length ≤ k + 1) := by
                show _ ≤ _
                rw [List.length_eraseIdx]; split <;> omega
              obtain ⟨A, hA, hnews⟩ : ∃ A : Addr, (if cp = i + 1 then some (⟨g, 0, none⟩ : Addr) else some ⟨g, i + 1, none⟩) = some A ∧ Hid (0 < l.length - (i + 1) → A = ⟨g, i + 1, none⟩) := by
                by_cases h : cp = i + 1
                · exact ⟨⟨g, 0, none⟩, by simp [h], fun h' => by omega⟩
                · exact ⟨⟨g, i + 1, none⟩, by simp [h], fun _ => rfl⟩
              have hic : i ≤ cp := by omega
              have hwr : IntKind.i64.wrap ((i : Int) + 1) = (i : Int) + 1 := by rw [IntKind.wrap_i64]; omega
              have hp0 : (0 : Int) ≤ (i : Int) + 1 := by omega
              have hp1 : (i : Int) + 1 ≤ (l.length : Int) := by omega
              have hp2 : ((i : Int) + 1).toNat = i + 1 := by omega
              have hB1 : w.heap.size ≤ w1.heap.size := hb2.size
              clear C2 D hcW HG hb hge hgap
              go_wp2_with fail
              go_region_law (refine step_delete rfl (.tmp 50) (.tmp 54) rfl i0 Yba.underlying32 hi hz0 hz1 hz2 w.heap.size g i cp cur l hbg hB1 HG1.out hil hlc hcc (by unfold maxLen; omega) HT.out (by omega) A (l.length - (i + 1)) (cp - (i + 1)) rfl hnews.out (by simp [Act.eval, Act.put]) (by simp [Act.eval, Act.put]) ?_; intro v3 w3 R3 G3)
              have D3 : Dll w3 w.heap.size (l.eraseIdx i) (wrap64 (N - 1)) := Dll.grown (w := w1.drew) ⟨D2.nodup, D2.notin, D2.q, D2.at_⟩ G3 (by simp)
              have hb3 : Below w.heap.size w w3 := hb2.drew.grown G3 hB1 (fun k hk => by cases hk)
              clear G3 D2 hb2 HG1 HT hnews
              go_wp2_with fail
              go_roundw
              case rel => exact ⟨k + 1, _, _, by omega, by go_num, rfl, hlen2.out, D3, R3, hb3, hge2⟩
              case measure => simp [intOf]; omega
    · clear ha hz
      go_wp2_with fail
      obtain ⟨D1, f1, f2, f3⟩ := (D.alloc (node (.pointer none) (.pointer none))).fresh (.pointer (some ⟨wr.heap.size, 0, none⟩)) (.pointer (some ⟨wr.heap.size, 0, none⟩))
      have hJ : (((wr.alloc (node (.pointer none) (.pointer none))).alloc (node (.pointer (some ⟨wr.heap.size, 0, none⟩)) (.pointer (some ⟨wr.heap.size, 0, none⟩))))).heap[wr.heap.size]? = some (node (.pointer none) (.pointer none)) := by
        rw [Below.heap_alloc _ _ _ (by simp)]; exact heap_alloc_new wr _
      simp only [World.size_alloc] at f1 f2 f3
      refine (pushFront_any D1 f1 f2 f3).mono ?_
      rintro e w1 ⟨rfl, D2, C2⟩
      obtain ⟨R2, hb2⟩ := after_push (D.alloc (node (.pointer none) (.pointer none))) (R.alloc _) (hb.alloc hb.size _) hge _ _ (by simpa only [World.size_alloc] using C2)
      have hJ2 : w1.heap[wr.heap.size]? = some (node (.pointer none) (.pointer none)) := (C2.old _ (by
        rintro (h | h | h)
        · exact absurd h (by have := D.lt _ (.inl rfl); omega)
        · omega
        · have := D.lt _ (.inr h); omega)).trans hJ
      have hw1 : wr.heap.size < w1.heap.size := (Array.getElem?_eq_some_iff.1 hJ2).1
      clear C2 D1 f1 f2 f3 D R hb hge hJ
      go_wp2_with (at_builtin; go_must (refine wpList_prepend_row _ rfl (.tmp 95) (.tmp 96) rfl i0 Yba.underlying32 hi hz0 hz1 hz2 w.heap.size _ l rfl (R2.alloc _) (wr.heap.size + 1) w1.heap.size rfl (heap_alloc_new w1 _) hb2.size (by omega) (by have := hb2.size; simp; omega) ?_); intro v3 w3 R3 G3; obtain ⟨D3, hb3⟩ := after_prepend D2 hb2 G3; have hJ3 : w3.heap[wr.heap.size]? = some (node (.pointer none) (.pointer none)) := (G3.block _ (by simp; omega) (by simp; omega)).trans ((Below.heap_alloc _ _ _ hw1).trans hJ2); obtain ⟨g, cp, cur, hv, hg, hlc, hcm, htk⟩ := R3.cons; have F : Done w3 w.heap.size wr.heap.size g ((wr.heap.size + 1) :: l) (wrap64 (N + 1)) cur := ⟨D3, hJ3, hg, htk⟩; subst hv; clear D3 hJ3 hg htk R3 G3 D2 hb2 R2 hJ2 hw1)
      obtain ⟨T, hT⟩ : ∃ T, ((wr.heap.size + 1) :: l)[l.length]? = some T := ⟨_, List.getElem?_eq_getElem (by simp)⟩
      have q0 := queue_guard F.D.q
      have q1 : w3.cell? ⟨w.heap.size, 1, none⟩ = some (.pointer (some ⟨wr.heap.size + 1, 0, none⟩)) := queue_head F.D.q
      have q2 : w3.cell? ⟨w.heap.size, 2, none⟩ = some (.pointer (some ⟨T, 0, none⟩)) := by
        have := queue_tail F.D.q
        rw [List.length_cons, Nat.add_sub_cancel, hT] at this
        exact this
      have q3 := queue_n F.D.q
      have o0 : w3.cell? ⟨g, 0, none⟩ = some (.pointer (some ⟨wr.heap.size + 1, 0, none⟩)) := F.order (j := 0) rfl
      have oT : w3.cell? ⟨g, l.length, none⟩ = some (.pointer (some ⟨T, 0, none⟩)) := F.order hT
      obtain ⟨j39, hj39⟩ := Option.isSome_iff_exists.1 info39
      have hps := fun (a : Addr) (w : World) => Lib.run_neq_ptr_same (P := Yba.prog) w a Yba.underlying29 hj39
      clear hT
      have hl40 : l.length ≤ 4096 := by omega
      have b1 : (0 : Int) < (l.length : Int) + 1 := by omega
      have b2 : (l.length : Int) + 1 - 1 = (l.length : Int) := by omega
      go_quiet (fail)
      go_wp2_with fail
      refine (load_any w.heap.size (w3.drewN nq) q0).mono ?_
      rintro e w' ⟨rfl, hw'⟩
      rw [hw']
      clear hw' q0 q2 q3 oT
      go_wp2_with fail
      go_loopw [15, 16] (fun v i wy => ∃ (k q : Nat), k ≤ l.length + 1 ∧ i = .int .i64 k ∧ v = pt (((wr.heap.size + 1) :: l)[k]?) ∧ wy = w3.drewN q) (fun _ i _ => l.length + 1 - (intOf i).toNat)
      case atStart => exact ⟨0, nq, by omega, rfl, rfl, rfl⟩
      case round =>
        clear q1 o0
        obtain ⟨k, q, hk, rfl, hv, rfl⟩ := hrel
        by_cases hlt : k < l.length + 1
        · obtain ⟨b, hbk⟩ : ∃ b, ((wr.heap.size + 1) :: l)[k]? = some b := ⟨_, List.getElem?_eq_getElem (by simpa using hlt)⟩
          rw [hbk] at hv
          have hv2 : u15 = .pointer (some ⟨b, 0, none⟩) := hv
          clear hv
          subst hv2
          have hn := F.D.at_ k b hbk
          have ob : w3.cell? ⟨g, k, none⟩ = some (.pointer (some ⟨b, 0, none⟩)) := F.order hbk
          have n4 := node_prev hn
          have n5 := node_next hn
          clear hn hbk
          have hlt' : (k : Int) < (l.length : Int) + 1 := by omega
          rcases Nat.eq_zero_or_pos k with h0 | h0
          · subst h0
            have n4' : w3.cell? ⟨b, 4, none⟩ = some (.pointer none) := n4
            clear n4
            by_cases hlast : 0 = l.length
            · have hn5 : w3.cell? ⟨b, 5, none⟩ = some (.pointer none) := by
                rw [n5, List.getElem?_eq_none (by rw [List.length_cons]; omega)]; rfl
              have t1 : ((0 : Int) == (l.length : Int)) = true := by rw [beq_iff_eq]; omega
              have HLAST : Hid (0 = l.length) := hlast
              clear n5 hlast
              go_wp2
              go_roundw
              case rel => exact ⟨0 + 1, _, by have := HLAST.out; omega, by go_num, by rw [List.getElem?_eq_none (by have := HLAST.out; rw [List.length_cons]; omega)]; rfl, rfl⟩
              case measure => simp [intOf] <;> omega
            · obtain ⟨nj, hnj⟩ : ∃ nj, ((wr.heap.size + 1) :: l)[0 + 1]? = some nj := ⟨_, List.getElem?_eq_getElem (by simp; omega)⟩
              have hn5 : w3.cell? ⟨b, 5, none⟩ = some (.pointer (some ⟨nj, 0, none⟩)) := by
                rw [n5, hnj]; rfl
              have onj : w3.cell? ⟨g, 0 + 1, none⟩ = some (.pointer (some ⟨nj, 0, none⟩)) := F.order hnj
              have t1 : ((0 : Int) == (l.length : Int)) = false := by rw [beq_eq_false_iff_ne]; omega
              have HN : Hid (((wr.heap.size + 1) :: l)[0 + 1]? = some nj) := hnj
              clear n5 hnj
              go_wp2
              go_quiet (fail)
              go_wp2
              go_roundw
              case rel => exact ⟨0 + 1, _, by omega, by go_num, by rw [HN.out]; rfl, rfl⟩
              case measure => simp [intOf] <;> omega
          · obtain ⟨j, rfl⟩ : ∃ j, k = j + 1 := ⟨k - 1, by omega⟩
            obtain ⟨pj, hpj⟩ : ∃ pj, ((wr.heap.size + 1) :: l)[j]? = some pj := ⟨_, List.getElem?_eq_getElem (by simp; omega)⟩
            have n4' : w3.cell? ⟨b, 4, none⟩ = some (.pointer (some ⟨pj, 0, none⟩)) := by
              rw [n4]
              simp only [before, Nat.add_one_ne_zero, if_false, Nat.add_sub_cancel, hpj]
              rfl
            have opj : w3.cell? ⟨g, j, none⟩ = some (.pointer (some ⟨pj, 0, none⟩)) := F.order hpj
            have t0 : ((j : Int) + 1 == 0) = false := by rw [beq_eq_false_iff_ne]; omega
            have c1 : (j : Int) + 1 - 1 = (j : Int) := by omega
            have c2 : (j : Int) < (l.length : Int) + 1 := by omega
            clear n4 hpj
            by_cases hlast : j + 1 = l.length
            · have hn5 : w3.cell? ⟨b, 5, none⟩ = some (.pointer none) := by
                rw [n5, List.getElem?_eq_none (by rw [List.length_cons]; omega)]; rfl
              have t1 : ((j : Int) + 1 == (l.length : Int)) = true := by rw [beq_iff_eq]; omega
              have HLAST : Hid ((j + 1) = l.length) := hlast
              clear n5 hlast
              go_wp2
              go_quiet (fail)
              go_wp2
              go_roundw
              case rel => exact ⟨(j + 1) + 1, _, by have := HLAST.out; omega, by go_num, by rw [List.getElem?_eq_none (by have := HLAST.out; rw [List.length_cons]; omega)]; rfl, rfl⟩
              case measure => simp [intOf] <;> omega
            · obtain ⟨nj, hnj⟩ : ∃ nj, ((wr.heap.size + 1) :: l)[j + 1 + 1]? = some nj := ⟨_, List.getElem?_eq_getElem (by simp; omega)⟩
              have hn5 : w3.cell? ⟨b, 5, none⟩ = some (.pointer (some ⟨nj, 0, none⟩)) := by
                rw [n5, hnj]; rfl
              have onj : w3.cell? ⟨g, j + 1 + 1, none⟩ = some (.pointer (some ⟨nj, 0, none⟩)) := F.order hnj
              have t1 : ((j : Int) + 1 == (l.length : Int)) = false := by rw [beq_eq_false_iff_ne]; omega
              have HN : Hid (((wr.heap.size + 1) :: l)[j + 1 + 1]? = some nj) := hnj
              clear n5 hnj
              go_wp2
              go_quiet (fail)
              go_wp2
              go_quiet (fail)
              go_wp2
              go_roundw
              case rel => exact ⟨(j + 1) + 1, _, by omega, by go_num, by rw [HN.out]; rfl, rfl⟩
              case measure => simp [intOf] <;> omega
        · rw [List.getElem?_eq_none (by rw [List.length_cons]; omega)] at hv
          have hv2 : u15 = .pointer none := hv
          clear hv
          subst hv2
          have jp := node_prev F.J
          have jn := node_next F.J
          have hwk := node_wake (F.D.at_ 0 (wr.heap.size + 1) rfl)
          have hch : ∀ w : World, (binOp .eql 33 (.chan none) (.chan none)).run Yba.prog w = .ok (.bool true) w := fun _ => by kernel_rfl
          go_wp2
          go_ret
          exact ⟨rfl, below_drewN hb3 q⟩

set_option maxRecDepth 100000 in
set_option maxHeartbeats 400000 in
theorem law_long (a0 : Option Addr) (len cap : Nat) (n0 : Int) (w : World) (h : 4096 < len) (hm : len ≤ 9223372036854775807) :
    Calls Yba.prog 3 #[.slice a0 len cap, .int .i64 n0] w fun e w' => e = .returned (.bool true) ∧ Below w.heap.size w w' := by
  go_enter Yba.func3, Yba.ntmps3
  go_wp2
  go_ret
  exact ⟨rfl, Below.refl _ _⟩

end Go.Proofs.Ybulkdkig
