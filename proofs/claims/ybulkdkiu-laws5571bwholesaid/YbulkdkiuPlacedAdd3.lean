/-
  placedList.add, walked.
-/
import Derived.Test.YbulkdkiuPlacedAdd2
import Derived.Laws.Cover3
import Derived.Deep.Cut
namespace Go.Proofs.Ybulkdkiu
open Go.RowKit Go.Maps
set_option linter.unusedVariables false
set_option linter.unusedSimpArgs false

/-- Ahead of the branches: the list has taken the items. -/
structure Took (w : World) (B Lb n : Nat) (foot : Nat → Prop) (ab gi : Nat) (a : ByteArray) (x : Int) (ys : List ByteArray) (L : List ByteArray) (vi : Value) (ix : Option (Nat × Nat)) (its : List ByteArray) (h : ByteArray → Option Nat) (dead sz : Nat) (fm : Option Nat) (F : ByteArray → Option Value) (jb : Option Nat) (w1 : World) : Prop where
  P : PL w1 B Lb n vi ix its h dead sz fm F jb
  hL : live its h = L
  fr : Fr foot w w1
  ft : ∀ j, PFoot Lb vi ix fm F jb j → foot j ∨ w.heap.size ≤ j
  at_ : w1.heap[ab]? = some (.cells #[.string a, .int .i64 x] 36 (0, 0))
  nab : ¬ PFoot Lb vi ix fm F jb ab
  arg : w1.heap[gi]? = some (.cells (strs ys).toArray 9 (0, 0))
  ngi : ¬ PFoot Lb vi ix fm F jb gi
  own : foot Lb

theorem Took.unjoin {w : World} {B Lb n : Nat} {foot : Nat → Prop} {ab gi : Nat} {a : ByteArray} {x : Int} {ys L : List ByteArray} {vi : Value} {ix : Option (Nat × Nat)} {its : List ByteArray} {h : ByteArray → Option Nat} {dead sz : Nat} {fm : Option Nat} {F : ByteArray → Option Value} {jb : Option Nat} {w1 : World}
    (T : Took w B Lb n foot ab gi a x ys L vi ix its h dead sz fm F jb w1) : Took w B Lb n foot ab gi a x ys L vi ix its h dead sz fm F none (w1.setCell ⟨Lb, 3, none⟩ (.pointer none)) := by
  have hab : ab ≠ Lb := fun e => T.nab (.inl (.inl e))
  have hgi : gi ≠ Lb := fun e => T.ngi (.inl (.inl e))
  exact ⟨T.P.unjoin, T.hL, T.fr.setCell (p := ⟨Lb, 3, none⟩) (fun _ => T.own) _, fun j hj => T.ft j (foot_unjoin hj), (Below.heap_setCell _ _ _ _ hab).trans T.at_, fun e => T.nab (foot_unjoin e), (Below.heap_setCell _ _ _ _ hgi).trans T.arg, fun e => T.ngi (foot_unjoin e), T.own⟩

theorem AddSt.post {w : World} {B Lb n : Nat} {foot : Nat → Prop} {ab gi : Nat} {a : ByteArray} {x : Int} {ys L : List ByteArray} {vi : Value} {ix : Option (Nat × Nat)} {its : List ByteArray} {h : ByteArray → Option Nat} {dead sz M : Nat} {jb : Option Nat} {wr : World} {F : ByteArray → Option Value}
    (S : AddSt w B Lb n foot ab gi a x ys vi ix its h dead sz M jb wr F) (hL : live its h = L) : PPost w B Lb n L foot wr :=
  ⟨_, ⟨_, _, _, _, _, _, _, _, _, S.P, hL, rfl⟩, S.fr, S.ft⟩

/-- What the walk reads of the state. -/
theorem AddSt.reads {w : World} {B Lb n : Nat} {foot : Nat → Prop} {ab gi : Nat} {a : ByteArray} {x : Int} {ys : List ByteArray} {vi : Value} {ix : Option (Nat × Nat)} {its : List ByteArray} {h : ByteArray → Option Nat} {dead sz M : Nat} {jb : Option Nat} {wr : World} {F : ByteArray → Option Value}
    (S : AddSt w B Lb n foot ab gi a x ys vi ix its h dead sz M jb wr F) {k : Nat} {y : ByteArray} (hk : ys[k]? = some y) (hy : y.size ≤ maxLen) :
    wr.cell? ⟨gi, k, none⟩ = some (.string y) ∧ wr.cell? ⟨Lb, 2, none⟩ = some (.map (some M)) ∧ wr.cell? ⟨ab, 0, none⟩ = some (.string a) ∧ wr.cell? ⟨ab, 1, none⟩ = some (.int .i64 x) ∧ (Instr.lookup 29 (.map (some M)) (.string y) false).run Yba.prog wr.drew = .ok (rowOf F y) wr.drew := by
  refine ⟨?_, S.P.cell2, ?_, ?_, ?_⟩
  · rw [cell_of_row wr gi k _ 9 (0, 0) S.arg]
    simpa using strs_get hk
  · rw [cell_of_row wr ab 0 _ 36 (0, 0) S.at_]; rfl
  · rw [cell_of_row wr ab 1 _ 36 (0, 0) S.at_]; rfl
  · obtain ⟨_, ⟨z0, _, m0⟩, _⟩ := S.P.M1 M rfl
    exact (m0.block (w' := wr.drew) rfl).look Yba.underlying29 (zero42 wr.drew) hy

set_option maxRecDepth 100000 in
set_option maxHeartbeats 4000000 in
theorem padd_any {w : World} {B Lb n : Nat} {L : List ByteArray} {foot : Nat → Prop} (H : Has w B Lb n L foot) (a : ByteArray) (x : Int) (gi m : Nat) (ys : List ByteArray) (hm : ys.length = m) (harg : w.heap[gi]? = some (.cells (strs ys).toArray 9 (0, 0))) (hgi : ¬ foot gi)
    (htiny : ∀ s ∈ ys, s.size ≤ 3) (hbig : n ≤ 524288) (hm2 : m ≤ 1024) :
    Calls Yba.prog 5 #[.pointer (some ⟨Lb, 0, none⟩), .agg #[.string a, .int .i64 x], .slice (some ⟨gi, 0, none⟩) m m] w fun e w' => e = .returned (.tuple #[]) ∧ PPost w B Lb (n + m + m) (ys.foldl added L) foot w' := by
  obtain ⟨vi, ix, its, h, dead, sz, fm, F, jb, P, hl, hft⟩ := H
  have hgi' : ¬ PFoot Lb vi ix fm F jb gi := hft ▸ hgi
  have hBw : B ≤ w.heap.size := by have := P.lt (.inl (.inl rfl)); omega
  have P0 : PL (w.alloc (.cells #[.string a, .int .i64 x] 36)) B Lb n vi ix its h dead sz fm F jb := P.frame ((Fr.refl (fun _ => False) w).alloc _) (fun _ _ => id)
  have hgl := lt_of harg
  have harg0 : (w.alloc (.cells #[.string a, .int .i64 x] 36)).heap[gi]? = some (.cells (strs ys).toArray 9 (0, 0)) := (Below.heap_alloc _ _ _ hgl).trans harg
  have hadd := add_any P0.L.U (by simp; omega) gi m ys hm harg0 (fun e => hgi' (.inl (.inr (.inl e)))) (by decide) (by decide) (fun s hs => by have := htiny s hs; unfold maxLen; omega) (by have := P.hn; omega) (by have := P.hz; omega)
  obtain ⟨ok1, ok2, ok3⟩ := addAll_ok ys its h P.L.wf P.L.cnt
  have hlen := addAll_len ys (its, h)
  rw [hl] at ok3
  have tiny' : ∀ s ∈ ys.foldl added L, s.size ≤ 3 := addedAll_tiny ys (hl ▸ P.tiny) htiny
  go_enter Yba.func5, Yba.ntmps5
  go_wp2_with fail
  refine hadd.mono ?_
  rintro e w1 ⟨vi', p, sz', rfl, U1, F1, loc1, ip1, hsz1⟩
  have ip1' : IxLoc (w.alloc (.cells #[.string a, .int .i64 x] 36)) ix p := ip1
  have loc1' : LocB (w.alloc (.cells #[.string a, .int .i64 x] 36)) vi vi' := LocB.of loc1
  obtain ⟨its', hits⟩ : ∃ its', its' = (ys.foldl addOne (its, h)).1 := ⟨_, rfl⟩
  obtain ⟨h', hh'⟩ : ∃ h', h' = (ys.foldl addOne (its, h)).2 := ⟨_, rfl⟩
  rw [← hits, ← hh'] at U1 ok2 ok3 ok1
  rw [← hits] at hlen
  rw [← hits]
  have hlen1 : its.length ≤ its'.length := hlen.1
  have hlen2 : its'.length ≤ its.length + ys.length := hlen.2
  have P1 : PL w1 B Lb (n + m) vi' (some p) its' h' dead sz' fm F jb := P0.relist ⟨U1, ok1, ok2⟩ F1 loc1' ip1' (by have := P.hn; omega) (by have := P.hz; omega) (by omega) (by rw [ok3]; exact tiny')
  have ft1 : ∀ j, PFoot Lb vi' (some p) fm F jb j → PFoot Lb vi ix fm F jb j ∨ w.heap.size + 1 ≤ j := fun j hj => by
    rcases foot_relist (jb := jb) loc1' ip1' hj with e | e
    · exact .inl e
    · exact .inr (by simpa using e)
  have T : Took w B Lb (n + m) foot w.heap.size gi a x ys (ys.foldl added L) vi' (some p) its' h' dead sz' fm F jb w1 := by
    subst hft
    refine ⟨P1, ok3, ((Fr.refl _ w).alloc _).trans (F1.mono (fun k _ e => .inl e)) (fun k _ e => e), fun j hj => ?_, F1.block (heap_alloc_new w _) ?_, fun e => ?_, F1.block harg0 (fun e => hgi (.inl e)), fun e => ?_, .inl (.inl rfl)⟩
    · rcases ft1 j hj with e | e
      · exact .inl e
      · exact .inr (by omega)
    · intro e
      have := P.lt (.inl e)
      omega
    · rcases ft1 _ e with e | e
      · have := P.lt e; omega
      · omega
    · rcases ft1 _ e with e | e
      · exact hgi e
      · omega
  obtain ⟨c, hc⟩ : ∃ c : Nat, (its'.length : Int) - (its.length : Int) = (c : Int) := ⟨its'.length - its.length, by omega⟩
  rw [hc]
  have hcm : c ≤ 1024 := by omega
  clear hadd ok1 ok2 ok3 hlen tiny' U1 F1 loc1 ip1 ip1' loc1' hits hh' P1 ft1 hc P0 harg0 P hgi hgi' hl hft hlen1 hlen2
  have heqm : ∀ (m : Option Nat) (w : World), (binOp .eql 29 (.map m) (.map none)).run Yba.prog w = .ok (.bool m.isNone) w := fun m w => run_eql_map_nil w 29 9 42 m Yba.underlying29
  have hmm := makeMap_hint29
  go_upto_if 13 with fail
  go_cut [] from 8 (fun wx => ∃ jb', Took w B Lb (n + m) foot w.heap.size gi a x ys (ys.foldl added L) vi' (some p) its' h' dead sz' fm F jb' wx)
  case first =>
    have c3 := T.P.cell3
    have cf := T.P.cells.2.2
    rcases Nat.eq_zero_or_pos c with h0 | h0
    · subst h0
      go_wp2_with fail
      go_meet
      case rel => exact ⟨_, T⟩
    · have t0 : decide ((0 : Int) < (c : Int)) = true := by simp; omega
      have t1 : decide (0 < c) = true := by simp; omega
      have T2 := T.unjoin
      clear T
      go_wp2_with fail
      go_meet
      case rel => exact ⟨_, T2⟩
  case rest =>
    clear T
    obtain ⟨jb', T⟩ := hcut
    have c2 := T.P.cell2
    go_upto_if 21 with fail
    go_cut [] from 8 (fun wx => ∃ M F', AddSt w B Lb (n + m) foot w.heap.size gi a x ys vi' (some p) its' h' dead sz' M jb' wx F')
    case first =>
      have cf := T.P.cells.2.2
      have hLlt := (T.P.lt (.inl (.inl rfl))).2
      have S0 := addSt_start T.P T.fr T.ft T.at_ T.nab T.arg T.ngi T.own
      clear T
      cases fm with
      | none =>
        have S1 := S0.2 rfl
        clear S0
        go_wp2_with fail
        go_meet
        case rel => exact ⟨_, _, S1⟩
      | some M =>
        have S1 := S0.1 M rfl
        clear S0
        go_wp2_with fail
        go_meet
        case rel => exact ⟨_, _, S1⟩
    case rest =>
      have hL := T.hL
      clear T c2
      obtain ⟨M, F0, S0⟩ := hcut
      go_wp2_with fail
      go_loopw [30] (fun j wr => ∃ (k : Nat) (F : ByteArray → Option Value), k ≤ m ∧ j = .int .i64 k ∧ AddSt w B Lb (n + m + k) foot w.heap.size gi a x ys vi' (some p) its' h' dead sz' M jb' wr F) (fun j _ => m - (intOf j).toNat)
      case atStart => exact ⟨0, F0, Nat.zero_le _, rfl, S0⟩
      case round =>
        clear S0 hmm heqm
        obtain ⟨k, F', hk, rfl, S⟩ := hrel
        by_cases hlt : k < m
        · obtain ⟨y, hy⟩ : ∃ y, ys[k]? = some y := ⟨_, List.getElem?_eq_getElem (by omega)⟩
          have hys : y.size ≤ maxLen := by have := htiny y (List.mem_of_getElem? hy); unfold maxLen; omega
          obtain ⟨r1, r2, r3, r4, r5⟩ := S.reads hy hys
          obtain ⟨ps, hps, hpl⟩ := S.P.rowOf y
          have hap := appendPlace_any (w := wr.drew) (B := B) (v := rowOf F' y) (ps := ps) hps (by have := S.fr.size; show B ≤ wr.heap.size; omega) a x (by omega)
          have stp := fun v' w2 (hA : ApPost wr.drew B (rowOf F' y) ps.length v' w2) => S.step (by omega) hys hpl hA
          have hlt' : (k : Int) < (m : Int) := by omega
          generalize rowOf F' y = v0 at *
          clear hy S hps
          go_wp2_with fail
          go_region_with (go_at_call 19; refine hap.mono ?_; rintro e w2 ⟨v', rfl, hA⟩; obtain ⟨w3, hst, S3, q1, q2, q3⟩ := stp v' w2 hA)
          all_goals
            clear hap stp hst q1 q2 q3 hA r1 r2 r3 r4 r5
            go_wp2_with fail
            go_roundw
            case rel => exact ⟨k + 1, _, by omega, by go_num, S3⟩
            case measure => simp [intOf]; omega
        · obtain rfl : k = m := by omega
          go_wp2_with fail
          go_end0
          exact ⟨rfl, S.post hL⟩

end Go.Proofs.Ybulkdkiu
