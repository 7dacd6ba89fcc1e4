/-
  placedList.remove, placedList.join.
-/
import Derived.Test.YbulkdkiuPlaced
import Derived.Test.YbulkdkiuShelf
namespace Go.Proofs.Ybulkdkiu
open Go.RowKit Go.Maps
set_option linter.unusedVariables false
set_option linter.unusedSimpArgs false

theorem wpList_delete_nil {w : World} {ops : Array Oper} {rest : List Oper} {o : Oper} {a : Act} {Q : Exit → Act → World → Prop} (hg : o.guard = none) (m x : Operand) (t e : TypeId) (hop : o.op = Op.call { callee := Callee.builtin Builtin.delete, args := #[m, x], argTypes := #[t, 9] })
    (ht : Yba.prog.underlying t = some (.map 9 e)) (hm : a.eval m = .map none) (s : ByteArray) (hx : a.eval x = .string s) (hs : s.size ≤ maxLen)
    (hK : wpList Yba.prog ops Q rest (a.put o.dst (.tuple #[])) w) : wpList Yba.prog ops Q (o :: rest) a w := by
  refine wpList_plain hg fun K' hK' => ?_
  have hrun : (Builtin.delete_ #[t, 9] o.type #[.map none, .string s]).run Yba.prog w = .ok (.tuple #[]) w := Maps.drop_nil law9 ht (key_of hs) o.type
  unfold Oper.wp
  simp [execOp, hop, resolve, invoke, builtin, hm, hx, hrun, Result.andThen]
  exact hK' _ _ hK

/-- A key struck from the places. -/
theorem PL.strike {w w2 : World} {B Lb n : Nat} {vi : Value} {ix : Option (Nat × Nat)} {its : List ByteArray} {h : ByteArray → Option Nat} {dead sz : Nat} {M : Nat} {F : ByteArray → Option Value} {jb : Option Nat} (P : PL w B Lb n vi ix its h dead sz (some M) F jb) {y : ByteArray} {z : Nat} (hz : z ≤ n)
    (hM : MapIs w2 M z (put F y none)) (ht : w.mapTurned w2 M) : PL w2 B Lb n vi ix its h dead sz (some M) (put F y none) jb ∧ Fr (fun k => k = M) w w2 ∧ ∀ k, PFoot Lb vi ix (some M) (put F y none) jb k → PFoot Lb vi ix (some M) F jb k := by
  have f : Fr (fun k => k = M) w w2 := (Fr.refl _ w).grown ht.grown (fun k hk _ => by cases hk; rfl)
  obtain ⟨hB, ⟨z0, _, m0⟩, hne⟩ := P.M1 M rfl
  have nf : ∀ k, Foot Lb vi ix k → ¬ k = M := by
    rintro k (e | e | ⟨q, hq, e | e⟩) c
    · exact P.ne.1 M rfl (c.symm.trans e)
    · obtain ⟨cur, hg⟩ := row_type P.L.U.own e
      exact not_cells_map hg m0 c
    · obtain ⟨_, _, hX, _⟩ := P.L.U.some_ q hq
      exact not_cells_map hX m0 (e.symm.trans c)
    · exact hne q hq (c.symm.trans e)
  have sub : ∀ s v, put F y none s = some v → F s = some v := fun s v hv => by
    unfold put at hv
    split at hv
    · cases hv
    · exact hv
  refine ⟨⟨P.L.frame f nf, P.hn, P.hz, P.tiny, (fun e => by cases e), ?_, ?_, ?_, ?_⟩, f, ?_⟩
  · intro M' e
    cases e
    exact ⟨hB, ⟨z, hz, hM⟩, hne⟩
  · intro s v hv
    obtain ⟨ps, a, b⟩ := P.rows s v (sub s v hv)
    refine ⟨ps, f.pr a (fun k hk e => ?_), b⟩
    obtain ⟨cur, hg⟩ := row_type a hk
    exact not_cells_map hg m0 e
  · intro s t v u g hv hu
    exact P.apart s t v u g (sub s v hv) (sub t u hu)
  · intro b hb
    obtain ⟨a, ⟨js, c⟩, d⟩ := P.J b hb
    exact ⟨a, ⟨js, f.block c (not_cells_map c m0)⟩, d⟩
  · rintro k (e | e | ⟨s, v, hv, e⟩ | e)
    · exact .inl e
    · exact .inr (.inl e)
    · exact .inr (.inr (.inl ⟨s, v, sub s v hv, e⟩))
    · exact .inr (.inr (.inr e))

theorem struck_tiny {L : List ByteArray} {y : ByteArray} (h : ∀ s ∈ L, s.size ≤ 3) : ∀ s ∈ struck L y, s.size ≤ 3 := fun s hs => h s ((List.mem_filter.1 hs).1)

theorem PL.cell2 {w : World} {B Lb n : Nat} {vi : Value} {ix : Option (Nat × Nat)} {its : List ByteArray} {h : ByteArray → Option Nat} {dead sz : Nat} {fm : Option Nat} {F : ByteArray → Option Value} {jb : Option Nat} (P : PL w B Lb n vi ix its h dead sz fm F jb) : w.cell? ⟨Lb, 2, none⟩ = some (.map fm) := P.cells.1
theorem PL.cell3 {w : World} {B Lb n : Nat} {vi : Value} {ix : Option (Nat × Nat)} {its : List ByteArray} {h : ByteArray → Option Nat} {dead sz : Nat} {fm : Option Nat} {F : ByteArray → Option Value} {jb : Option Nat} (P : PL w B Lb n vi ix its h dead sz fm F jb) : w.cell? ⟨Lb, 3, none⟩ = some (jp jb) := P.cells.2.1

set_option maxHeartbeats 800000 in
theorem premove_any {w : World} {B Lb n : Nat} {L : List ByteArray} {foot : Nat → Prop} (H : Has w B Lb n L foot) (y : ByteArray) (hy : y.size ≤ maxLen) (hbig : n ≤ 1048576) :
    Calls Yba.prog 7 #[.pointer (some ⟨Lb, 0, none⟩), .string y] w fun e w' => e = .returned (.tuple #[]) ∧ PPost w B Lb n (struck L y) foot w' := by
  obtain ⟨vi, ix, its, h, dead, sz, fm, F, jb, P, hl, rfl⟩ := H
  have hBw : B ≤ w.heap.size := by have := P.lt (.inl (.inl rfl)); omega
  have P0 : PL (w.alloc (.cells #[.string y] 9)) B Lb n vi ix its h dead sz fm F jb := P.frame ((Fr.refl (fun _ => False) w).alloc _) (fun _ _ => id)
  have hrm := remove_any P0.L (by decide) (by decide) (by simp; omega) w.heap.size y (heap_alloc_new w _) (fun e => by have := (P.L.U.own.lt _ e).2; omega) hy (by have := P.hn; omega) (by have := P.hz; omega)
  rw [hl] at hrm
  have ht := struck_tiny (y := y) (hl ▸ P.tiny)
  go_enter Yba.func7, Yba.ntmps7
  go_wp2_with fail
  refine hrm.mono ?_
  rintro e w1 ⟨rfl, vi', p, dead', its', h', sz', L1, hL1, F1, loc1, ip1, hn1, hz1⟩
  have P1 : PL w1 B Lb n vi' (some p) its' h' dead' sz' fm F jb := P0.relist L1 F1 loc1 ip1 (by have := P.hn; omega) (by have := P.hz; omega) (Nat.le_refl _) (by rw [hL1]; exact ht)
  have hft : ∀ k, PFoot Lb vi' (some p) fm F jb k → PFoot Lb vi ix fm F jb k ∨ w.heap.size ≤ k := fun k hk => by
    rcases foot_relist (jb := jb) loc1 ip1 hk with e | e
    · exact .inl e
    · exact .inr (by simp at e; omega)
  have F1' : Fr (PFoot Lb vi ix fm F jb) w w1 := ((Fr.refl _ w).alloc _).trans (F1.mono (fun k _ e => .inl e)) (fun k _ e => e)
  have c2 := P1.cell2
  clear hrm P0 P F1 loc1 ip1 L1
  cases fm with
  | none =>
    have P2 := P1.unjoin
    have HP : Hid (PPost w B Lb n (struck L y) (PFoot Lb vi ix none F jb) (w1.setCell ⟨Lb, 3, none⟩ (.pointer none))) := by
      refine ⟨_, ⟨_, _, _, _, _, _, _, _, _, P2, hL1, rfl⟩, F1'.setCell (p := ⟨Lb, 3, none⟩) (fun _ => .inl (.inl rfl)) _, fun k hk => hft k (foot_unjoin hk)⟩
    have c3 := P1.cell3
    have cf := P1.cells.2.2
    clear P1 P2 F1' hft
    go_wp2_with (at_delete; go_must (refine wpList_delete_nil rfl (.tmp 13) (.tmp 14) 29 42 rfl Yba.underlying29 rfl y rfl hy ?_))
    go_end0
    exact ⟨rfl, HP.out⟩
  | some M =>
    obtain ⟨hB, ⟨z0, hz0, m0⟩, hne⟩ := P1.M1 M rfl
    go_wp2_with (at_delete; go_must (refine wpList_delete_is rfl (.tmp 13) (.tmp 14) 29 42 rfl Yba.underlying29 M z0 F rfl m0 y rfl hy ?_); intro w2 hM2 ht2; have S := P1.strike (y := y) (z := if (F y).isSome then z0 - 1 else z0) (by split <;> omega) hM2 ht2; have c3 := S.1.cell3; have cf := S.1.cells.2.2; clear hM2 ht2 m0)
    go_end0
    obtain ⟨P2, F2, ft2⟩ := S
    refine ⟨rfl, _, ⟨_, _, _, _, _, _, _, _, _, P2.unjoin, hL1, rfl⟩, ?_, fun k hk => hft k (ft2 k (foot_unjoin hk))⟩
    refine Fr.setCell ?_ (fun _ => .inl (.inl rfl)) _
    exact F1'.trans F2 (fun k _ e => by rw [e]; exact .inr (.inl rfl))

end Go.Proofs.Ybulkdkiu
