/-
  uniq.List.Remove of one string.
-/
import Derived.Test.YbulkdkiuRemove
namespace Go.Proofs.Ybulkdkiu
open Go.RowKit Go.Maps
set_option linter.unusedVariables false
set_option linter.unusedSimpArgs false

/-- All but y. -/
def struck (L : List ByteArray) (y : ByteArray) : List ByteArray := L.filter (fun t => decide (t ≠ y))
theorem live_struck (its : List ByteArray) (h : ByteArray → Option Nat) (s : ByteArray) : live its (without h s) = struck (live its h) s := live_without its h s

theorem LPost.after {w w1 w2 : World} {B Lb TL : Nat} {rest : List Value} {vi : Value} {ix : Option (Nat × Nat)} {n sz : Nat} {L : List ByteArray} {p : Nat × Nat} (F : Fr (Foot Lb vi ix) w w1) (hp : IxLoc w ix p) (hc : ∀ k, k < w.heap.size → Foot Lb vi (some p) k → Foot Lb vi ix k) {its : List ByteArray} {h : ByteArray → Option Nat} {dead sz1 : Nat} (U1 : LL w1 B Lb TL rest vi (some p) its h dead sz1) (hL : live its h = L) (hn : its.length ≤ n) (hz : sz1 ≤ sz) : LPost w B Lb TL rest vi ix n sz L w1 vi p dead :=
  ⟨its, h, sz1, U1, hL, F, LocB.refl _ _, hp, hn, hz⟩

theorem foot_new {w : World} {Lb : Nat} {vi : Value} {ix : Option (Nat × Nat)} {p : Nat × Nat} (hp : IxLoc w ix p) : ∀ k, k < w.heap.size → Foot Lb vi (some p) k → Foot Lb vi ix k := by
  rintro k hk (h | h | ⟨q, hq, h⟩)
  · exact .inl h
  · exact .inr (.inl h)
  · cases hq
    rcases hp with e | ⟨a, b⟩
    · exact .inr (.inr ⟨p, e, h⟩)
    · rcases h with h | h <;> omega

/-- What Remove leaves. -/
def RemPost (w : World) (B Lb TL : Nat) (rest : List Value) (vi : Value) (ix : Option (Nat × Nat)) (n sz : Nat) (L : List ByteArray) (w' : World) : Prop := ∃ vi' p dead', LPost w B Lb TL rest vi ix n sz L w' vi' p dead'

/-- Remove's second half: compact where the dead are many. -/
theorem rem_comp {w w1 w2 : World} {B Lb TL : Nat} {rest : List Value} {vi : Value} {ix : Option (Nat × Nat)} {p : Nat × Nat} {its : List ByteArray} {h : ByteArray → Option Nat} {dead n sz sz1 : Nat} (F : Fr (Foot Lb vi ix) w w1) (hp : IxLoc w ix p) (U1 : LL w1 B Lb TL rest vi (some p) its h dead sz1) (hn : its.length ≤ n) (hz : sz1 ≤ sz)
    (hc : CompPost w1 B Lb TL rest vi p its h sz1 w2) : RemPost w B Lb TL rest vi ix n sz (live its h) w2 := by
  obtain ⟨vk, UK, FK, LK⟩ := hc
  refine ⟨vk, p, 0, live its h, packed its h, sz1, ⟨UK, packed_wfh U1.wf, by rw [packed_live U1.wf]; rfl⟩, packed_live U1.wf, ?_, ?_, hp, by have := U1.cnt; omega, hz⟩
  · exact F.trans FK (foot_new hp)
  · intro g hg
    have := LK g hg
    have := F.size
    exact .inr (by omega)

set_option maxRecDepth 100000 in
set_option maxHeartbeats 2000000 in
theorem remove_any {w : World} {B Lb TL : Nat} {rest : List Value} {vi : Value} {ix : Option (Nat × Nat)} {its : List ByteArray} {h : ByteArray → Option Nat} {dead sz : Nat} (U : LL w B Lb TL rest vi ix its h dead sz) (hTL : TL ≠ 9) (hTL2 : TL ≠ 69) (hBw : B ≤ w.heap.size)
    (gi : Nat) (y : ByteArray) (harg : w.heap[gi]? = some (.cells #[.string y] 9 (0, 0))) (hgi : vi.ownBlock ≠ some gi) (hy : y.size ≤ maxLen) (hbig : its.length ≤ 1073741824) (hsz : sz ≤ 1073741824) :
    Calls Yba.prog 20 #[.pointer (some ⟨Lb, 0, none⟩), .slice (some ⟨gi, 0, none⟩) 1 1] w fun e w' => e = .returned (.tuple #[]) ∧ RemPost w B Lb TL rest vi ix its.length sz (struck (live its h) y) w' := by
  have hd := U.cnt
  have hd' : dead ≤ its.length := by omega
  clear hd
  have HW : Hid (Wfh its h ∧ (live its h).length + dead = its.length) := ⟨U.wf, U.cnt⟩
  go_enter Yba.func20, Yba.ntmps20
  go_wp2_with fail
  refine (indexed_any U.U hBw).mono ?_
  rintro e w1 ⟨p, rfl, U1, F1, hp⟩
  have hgL : gi ≠ Lb := fun e => by
    subst e
    rw [U.U.blk] at harg
    simp at harg
  have harg1 : w1.heap[gi]? = some (.cells #[.string y] 9 (0, 0)) := F1.block harg hgL
  have F1' : Fr (Foot Lb vi ix) w w1 := F1.mono (fun k _ e => .inl e)
  have L1 : LL w1 B Lb TL rest vi (some p) its h dead sz := ⟨U1, HW.out.1, HW.out.2⟩
  have hB1 : B ≤ w1.heap.size := Nat.le_trans hBw F1.size
  have cy : w1.cell? ⟨gi, 0, none⟩ = some (.string y) := by
    rw [cell_of_row w1 gi 0 _ 9 (0, 0) harg1]; rfl
  obtain ⟨hpB1, hpB2, hX, hM⟩ := L1.U.some_ p rfl
  have cX : w1.cell? ⟨p.1, 0, none⟩ = some (.map (some p.2)) := by
    rw [cell_of_row w1 p.1 0 _ 69 (0, 0) hX]; rfl
  have cX1 : w1.cell? ⟨p.1, 1, none⟩ = some (.int .i64 (dead : Int)) := by
    rw [cell_of_row w1 p.1 1 _ 69 (0, 0) hX]; rfl
  obtain ⟨cL0, cL1, cLf⟩ := L1.U.cells
  clear cL1 cLf
  obtain ⟨ao, cap, hvi⟩ := own_form L1.U.own
  subst hvi
  have hlook := hM.look_ok Yba.underlying67 (zero72 w1) hy
  have hXlt := lt_of hX
  have hMlt := hM.lt
  have hLlt := lt_of L1.U.blk
  have hwr : IntKind.i64.wrap (2 * (dead : Int)) = 2 * (dead : Int) := by rw [IntKind.wrap_i64]; omega
  clear U U1 F1 harg harg1 hgi
  cases hh : h y with
  | none =>
    rw [hh] at hlook
    have hlook2 : Sem.run Yba.prog (Instr.lookup 67 (.map (some p.2)) (.string y) true) w1 = .ok (.tuple #[.agg #[.int .i64 0, .int .i64 0], .bool false]) w1 := hlook
    have HWO : Hid (without h y = h) := without_none hh
    clear hlook hh
    have L2 : LL (w1.alloc (.cells #[.int .i64 0, .int .i64 0] 72)) B Lb TL rest (.slice ao its.length cap) (some p) its h dead sz := L1.frame ((Fr.refl (fun _ => False) w1).alloc _) (fun _ _ => id)
    have F2 := F1'.alloc (.cells #[.int .i64 0, .int .i64 0] 72)
    have L3 := L2
    have F3 := F2
    clear L2 F2
    go_wp2_with fail
    refine wp_loop_rounds 2 ?_
    rw [rounds_succ]
    go_wp2_with fail
    rw [rounds_succ]
    go_wp2_with fail
    go_quiet (fail)
    by_cases hc : (its.length : Int) < 2 * (dead : Int)
    · have t : decide ((its.length : Int) < 2 * (dead : Int)) = true := decide_eq_true hc
      go_wp2_with fail
      have L4 := L3.frame ((Fr.refl (fun _ => False) _).drewN nq) (fun _ _ => id)
      refine (compact_any L4.U L4.wf hTL hTL2 hd' hbig hsz).mono ?_
      rintro e w5 ⟨rfl, hP⟩
      have HP : Hid (RemPost w B Lb TL rest (.slice ao its.length cap) ix its.length sz (live its h) w5) := rem_comp (F3.drewN nq) hp L4 (Nat.le_refl _) (Nat.le_refl _) hP
      clear hP L4 L3 F3
      go_wp2_with fail
      go_end0
      rw [← live_struck, HWO.out]
      exact ⟨rfl, HP.out⟩
    · have t : decide ((its.length : Int) < 2 * (dead : Int)) = false := decide_eq_false hc
      go_wp2_with fail
      go_end0
      rw [← live_struck, HWO.out]
      have L4 := L3.frame ((Fr.refl (fun _ => False) _).drewN nq) (fun _ _ => id)
      exact ⟨rfl, _, _, _, _, _, _, L4, rfl, F3.drewN nq, LocB.refl _ _, hp, Nat.le_refl _, Nat.le_refl _⟩
  | some i =>
    rw [hh] at hlook
    have hlook2 : Sem.run Yba.prog (Instr.lookup 67 (.map (some p.2)) (.string y) true) w1 = .ok (.tuple #[.agg #[.int .i64 (i : Int), .int .i64 1], .bool true]) w1 := hlook
    have HH : Hid (h y = some i) := hh
    have hM1 : MapIs (w1.alloc (.cells #[.int .i64 (i : Int), .int .i64 1] 72)) p.2 sz (fun s => (h s).map place) := hM.block (Below.heap_alloc w1 _ _ hMlt)
    have hwr1 : IntKind.i64.wrap ((dead : Int) + 1) = (dead : Int) + 1 := by rw [IntKind.wrap_i64]; omega
    have hwr2 : IntKind.i64.wrap (2 * ((dead : Int) + 1)) = 2 * ((dead : Int) + 1) := by rw [IntKind.wrap_i64]; omega
    clear hlook hh
    go_wp2_with fail
    refine wp_loop_rounds 2 ?_
    rw [rounds_succ]
    go_wp2_with (at_delete; refine wpList_delete_is rfl (.tmp 30) (.tmp 31) 67 72 rfl Yba.underlying67 p.2 sz _ rfl hM1 y rfl hy ?_; intro w2 hM2 ht2; have HM2 : Hid (MapIs w2 p.2 (sz - 1) (put (fun s => (h s).map place) y none)) := (by have e := HH.out; simp only [e] at hM2; exact hM2); have S := rem_UL L1 hTL hTL2 HH.out HM2.out ht2; have cN : w2.cell? ⟨w1.heap.size, 1, none⟩ = some (.int .i64 1) := ht2.grown.cell (by simp) (by simp; omega); have cW1 : w2.cell? ⟨p.1, 1, none⟩ = some (.int .i64 (dead : Int)) := (by rw [cell_of_row w2 p.1 1 _ 69 (0, 0) S.1]; rfl); have cWf := frozen_of_row w2 p.1 1 _ 69 S.1; clear hM2 ht2 hM1 hlook2)
    go_region
    all_goals
      go_wp2_with fail
      rw [rounds_succ]
      go_wp2_with fail
      obtain ⟨S1, S2, L5, F5⟩ := S
      have cN0 : (w2.setCell ⟨p.1, 1, none⟩ (.int .i64 ((dead : Int) + 1))).cell? ⟨Lb, 0, none⟩ = some (.slice ao its.length cap) := L5.U.cells.1
      have cN1 : (w2.setCell ⟨p.1, 1, none⟩ (.int .i64 ((dead : Int) + 1))).cell? ⟨p.1, 1, none⟩ = some (.int .i64 ((dead : Int) + 1)) := by
        obtain ⟨_, _, hX5, _⟩ := L5.U.some_ p rfl
        exact (cell_of_row _ p.1 1 _ 69 (0, 0) hX5).trans (by simp)
      have F6 := F1'.trans F5 (foot_new hp)
      clear cW1 cWf cN S1 S2 F5 cX cX1 cL0 cy
      generalize hW : w2.setCell ⟨p.1, 1, none⟩ (.int .i64 ((dead : Int) + 1)) = W at *
      clear hW
      go_quiet (fail)
      by_cases hc : (its.length : Int) < 2 * ((dead : Int) + 1)
      · have t : decide ((its.length : Int) < 2 * ((dead : Int) + 1)) = true := decide_eq_true hc
        go_wp2_with fail
        have L4 : LL (W.drewN (1 + nq)) B Lb TL rest (.slice ao its.length cap) (some p) its (without h y) (dead + 1) (sz - 1) := L5.frame (S := fun _ => False) ⟨rfl, rfl, rfl, Nat.le_refl _, fun _ _ _ => rfl⟩ (fun _ _ => id)
        have F7 : Fr (Foot Lb (.slice ao its.length cap) ix) w (W.drewN (1 + nq)) := ⟨F6.os, F6.tape, F6.output, F6.size, F6.old⟩
        refine (compact_any L4.U L4.wf hTL hTL2 (by have := L4.cnt; omega) hbig (by omega)).mono ?_
        rintro e w5 ⟨rfl, hP⟩
        have HP : Hid (RemPost w B Lb TL rest (.slice ao its.length cap) ix its.length sz (live its (without h y)) w5) := rem_comp F7 hp L4 (Nat.le_refl _) (Nat.sub_le _ _) hP
        clear hP L4 L5 F6
        go_wp2_with fail
        go_end0
        rw [← live_struck]
        exact ⟨rfl, HP.out⟩
      · have t : decide ((its.length : Int) < 2 * ((dead : Int) + 1)) = false := decide_eq_false hc
        go_wp2_with fail
        go_end0
        rw [← live_struck]
        have L4 : LL (W.drewN (1 + nq)) B Lb TL rest (.slice ao its.length cap) (some p) its (without h y) (dead + 1) (sz - 1) := L5.frame (S := fun _ => False) ⟨rfl, rfl, rfl, Nat.le_refl _, fun _ _ _ => rfl⟩ (fun _ _ => id)
        have F7 : Fr (Foot Lb (.slice ao its.length cap) ix) w (W.drewN (1 + nq)) := ⟨F6.os, F6.tape, F6.output, F6.size, F6.old⟩
        exact ⟨rfl, _, _, _, _, _, _, L4, rfl, F7, LocB.refl _ _, hp, Nat.le_refl _, Nat.sub_le _ _⟩
end Go.Proofs.Ybulkdkiu
