/-
  uniq.List.compact.
-/
import Derived.Test.YbulkdkiuPlaces
import Derived.Test.YbulkdkiuLive
import Derived.Deep.RegionLaw
import Derived.Deep.OwnRows
namespace Go.Proofs.Ybulkdkiu
open Go.RowKit Go.Maps
set_option linter.unusedVariables false
set_option linter.unusedSimpArgs false

theorem own_at {w : World} {B : Nat} {e : TypeId} {v : Value} {n : Nat} {xs : List Value} (h : w.ownsRow B e 1 v n xs) {i : Nat} {u : Value} (hu : xs[i]? = some u) : ∃ g cap, v = .slice (some ⟨g, 0, none⟩) n cap ∧ w.cell? ⟨g, i, none⟩ = some u := by
  have hl := h.1
  have hi := (List.getElem?_eq_some_iff.1 hu).1
  obtain ⟨g, cap, hv, _, _⟩ := own_form_pos h (by omega)
  refine ⟨g, cap, hv, ?_⟩
  have := h.cells (g := g) (by rw [hv]; rfl) i u hu
  rwa [Addr.add_lit, Nat.zero_add] at this

theorem put_midway_live {its : List ByteArray} {h : ByteArray → Option Nat} {i : Nat} {x : ByteArray} (hx : its[i]? = some x) (hw : Wfh its h) (hh : h x = some i) :
    put (fun t => (midway its h i t).map place) x (some (place (live (its.take i) h).length)) = fun t => (midway its h (i + 1) t).map place := by
  rw [place_put, midway_succ_live hx hw hh]

/-- What the loop of compact keeps: the kept strings, the index midway. -/
structure CompInv (w : World) (B Lb TL : Nat) (rest : List Value) (vi : Value) (p : Nat × Nat) (its : List ByteArray) (h : ByteArray → Option Nat) (dead sz : Nat) (i : Nat) (wr : World) (vk : Value) : Prop where
  blk : wr.heap[Lb]? = some (.cells (vi :: ixp (some p) :: rest).toArray TL (0, 0))
  own : wr.ownsRow B 9 1 vi its.length (strs its)
  X : wr.heap[p.1]? = some (.cells #[.map (some p.2), .int .i64 (dead : Int)] 69 (0, 0))
  M : MapIs wr p.2 sz (fun s => (midway its h i s).map place)
  kept : wr.ownsRow w.heap.size 9 1 vk (live (its.take i) h).length (strs (live (its.take i) h))
  F : Fr (fun k => k = p.2) w wr

theorem comp_start {w wr : World} {B Lb TL : Nat} {rest : List Value} {vi : Value} {p : Nat × Nat} {its : List ByteArray} {h : ByteArray → Option Nat} {dead sz : Nat} (U : UL w B Lb TL rest vi (some p) its h dead sz) {vk : Value}
    (hk : wr.ownsRow w.heap.size 9 1 vk 0 []) (G : w.grownBy wr none) : CompInv w B Lb TL rest vi p its h dead sz 0 wr vk := by
  have F : Fr (fun _ => False) w wr := (Fr.refl _ w).grown G (fun k hk => by cases hk)
  obtain ⟨_, _, hX, hM⟩ := U.some_ p rfl
  refine ⟨F.block U.blk id, F.row U.own (fun _ _ => id), F.block hX id, ?_, ?_, F.mono (fun _ _ h => h.elim)⟩
  · rw [midway_zero]; exact hM.frame F id
  · simpa [live, liveFrom, strs] using hk

/-- A string that is dead is passed over. -/
theorem comp_dead {w wr : World} {B Lb TL : Nat} {rest : List Value} {vi : Value} {p : Nat × Nat} {its : List ByteArray} {h : ByteArray → Option Nat} {dead sz i : Nat} {vk : Value} (hw : Wfh its h) (I : CompInv w B Lb TL rest vi p its h dead sz i wr vk) {x : ByteArray} (hx : its[i]? = some x) (hd : h x ≠ some i) (o : Obj) :
    CompInv w B Lb TL rest vi p its h dead sz (i + 1) (wr.alloc o) vk := by
  have g : Fr (fun _ => False) wr (wr.alloc o) := (Fr.refl _ wr).alloc o
  refine ⟨g.block I.blk id, g.row I.own (fun _ _ => id), g.block I.X id, ?_, ?_, I.F.alloc o⟩
  · rw [midway_succ_dead hx hw hd]; exact I.M.frame g id
  · rw [live_take_succ hx, if_neg hd]; exact g.row I.kept (fun _ _ => id)

/-- A string that is alive is kept. -/
theorem comp_live {w wr w2 w3 : World} {B Lb TL : Nat} {rest : List Value} {vi : Value} {p : Nat × Nat} {its : List ByteArray} {h : ByteArray → Option Nat} {dead sz i : Nat} {vk v3 : Value} (hw : Wfh its h) (hlt : ∀ k, Foot Lb vi (some p) k → k < w.heap.size) (hne : Lb ≠ p.2 ∧ p.1 ≠ p.2 ∧ vi.ownBlock ≠ some p.2)
    (I : CompInv w B Lb TL rest vi p its h dead sz i wr vk) {x : ByteArray} (hx : its[i]? = some x) (hh : h x = some i) {o1 o2 : Obj}
    (hM2 : MapIs w2 p.2 sz (put (fun s => (midway its h i s).map place) x (some (place (live (its.take i) h).length)))) (ht2 : (wr.alloc o1).mapTurned w2 p.2)
    (own3 : w3.ownsRow w.heap.size 9 1 v3 ((live (its.take i) h).length + 1) (strs (live (its.take i) h) ++ strs [x])) (G3 : (w2.alloc o2).grownBy w3 vk.ownBlock) :
    CompInv w B Lb TL rest vi p its h dead sz (i + 1) w3 v3 := by
  have f2 : Fr (fun k => k = p.2) wr w2 := ((Fr.refl _ wr).alloc o1).grown ht2.grown (fun k hk _ => by cases hk; rfl)
  have f3 : Fr (fun k => vk.ownBlock = some k) w2 w3 := ((Fr.refl _ w2).alloc o2).grown G3 (fun k hk _ => hk)
  have nk : ∀ k, k < w.heap.size → ¬ vk.ownBlock = some k := fun k hk e => by have := (I.kept.lt k e).1; omega
  have hL := hlt Lb (.inl rfl)
  have h1 := hlt p.1 (.inr (.inr ⟨p, rfl, .inl rfl⟩))
  have h2 := hlt p.2 (.inr (.inr ⟨p, rfl, .inr rfl⟩))
  have hs := I.F.size
  refine ⟨f3.block (f2.block I.blk hne.1) (nk _ hL), f3.row (f2.row I.own (fun k hk e => hne.2.2 (by rw [← e]; exact hk))) (fun k hk => nk k (hlt k (.inr (.inl hk)))), f3.block (f2.block I.X hne.2.1) (nk _ h1), ?_, ?_, ?_⟩
  · rw [← put_midway_live hx hw hh]
    exact hM2.frame f3 (nk _ h2)
  · rw [live_take_succ hx, if_pos hh, strs_append, List.length_append]
    exact own3
  · exact (I.F.trans f2 (fun k _ hk => hk)).trans f3 (fun k hk e => absurd e (nk k hk))

/-- The list behind compact. -/
theorem comp_end {w wr : World} {B Lb TL : Nat} {rest : List Value} {vi : Value} {p : Nat × Nat} {its : List ByteArray} {h : ByteArray → Option Nat} {dead sz : Nat} {vk : Value} (hw : Wfh its h) (U : UL w B Lb TL rest vi (some p) its h dead sz) (hTL : TL ≠ 9) (hTL2 : TL ≠ 69)
    (I : CompInv w B Lb TL rest vi p its h dead sz its.length wr vk) : UL ((wr.setCell ⟨Lb, 0, none⟩ vk).setCell ⟨p.1, 1, none⟩ (.int .i64 0)) B Lb TL rest vk (some p) (live its h) (packed its h) 0 sz ∧ Fr (Foot Lb vi (some p)) w ((wr.setCell ⟨Lb, 0, none⟩ vk).setCell ⟨p.1, 1, none⟩ (.int .i64 0)) := by
  obtain ⟨n1, n2, n3, n4⟩ := U.parts hTL hTL2
  obtain ⟨hb1, hb2, hX, hM⟩ := U.some_ p rfl
  have hK := I.kept
  rw [List.take_length] at hK
  have hM2 := I.M
  rw [midway_end hw] at hM2
  have hLlt := lt_of U.blk
  have hXlt := lt_of hX
  have nkL : vk.ownBlock ≠ some Lb := fun e => by have := (I.kept.lt _ e).1; omega
  have nkX : vk.ownBlock ≠ some p.1 := fun e => by have := (I.kept.lt _ e).1; omega
  have hBw : B ≤ w.heap.size := Nat.le_of_lt (Nat.lt_of_le_of_lt U.hB hLlt)
  have hL0 : (wr.setCell ⟨Lb, 0, none⟩ vk).heap[Lb]? = some (.cells (vk :: ixp (some p) :: rest).toArray TL (0, 0)) := by rw [heap_setCell_at I.blk, cells_set0]
  have hX0 : (wr.setCell ⟨Lb, 0, none⟩ vk).heap[p.1]? = some (.cells #[.map (some p.2), .int .i64 (dead : Int)] 69 (0, 0)) := by rw [Below.heap_setCell _ _ _ _ n1.symm]; exact I.X
  refine ⟨⟨?_, U.hB, ?_, ?_, (fun e => by cases e), ?_⟩, ?_⟩
  · rw [Below.heap_setCell _ _ _ _ n1]; exact hL0
  · refine ownsRow_setCell_other (ownsRow_setCell_other ?_ nkL vk) nkX _
    rcases hK.2 with h0 | ⟨g, cap, cur, hv, hg, r⟩
    · exact ⟨hK.1, .inl h0⟩
    · exact ⟨hK.1, .inr ⟨g, cap, cur, hv, by omega, r⟩⟩
  · intro s hs
    obtain ⟨i, hi, _⟩ := live_mem hs
    exact U.short s (List.mem_of_getElem? hi)
  · intro q hq
    cases hq
    refine ⟨hb1, hb2, ?_, ?_⟩
    · rw [heap_setCell_at hX0]; rfl
    · exact (hM2.block (Below.heap_setCell _ _ _ _ n2.symm)).block (Below.heap_setCell _ _ _ _ n3.symm)
  · exact ((I.F.mono (fun k _ e => .inr (.inr ⟨p, rfl, .inr e⟩))).setCell (p := ⟨Lb, 0, none⟩) (fun _ => .inl rfl) _).setCell (p := ⟨p.1, 1, none⟩) (fun _ => .inr (.inr ⟨p, rfl, .inl rfl⟩)) _

/-- What compact leaves. -/
def CompPost (w : World) (B Lb TL : Nat) (rest : List Value) (vi : Value) (p : Nat × Nat) (its : List ByteArray) (h : ByteArray → Option Nat) (sz : Nat) (w' : World) : Prop :=
  ∃ vk, UL w' B Lb TL rest vk (some p) (live its h) (packed its h) 0 sz ∧ Fr (Foot Lb vi (some p)) w w' ∧ ∀ g, vk.ownBlock = some g → w.heap.size ≤ g

set_option maxRecDepth 100000 in
set_option maxHeartbeats 2000000 in
theorem compact_any {w : World} {B Lb TL : Nat} {rest : List Value} {vi : Value} {p : Nat × Nat} {its : List ByteArray} {h : ByteArray → Option Nat} {dead sz : Nat} (U : UL w B Lb TL rest vi (some p) its h dead sz) (hw : Wfh its h) (hTL : TL ≠ 9) (hTL2 : TL ≠ 69)
    (hd : dead ≤ its.length) (hbig : its.length ≤ 1073741824) (hsz : sz ≤ 1073741824) :
    Calls Yba.prog 24 #[.pointer (some ⟨Lb, 0, none⟩)] w fun e w' => e = .returned (.tuple #[]) ∧ CompPost w B Lb TL rest vi p its h sz w' := by
  obtain ⟨i9, hi9, hz90, hz91, hz92⟩ := info_parts info9
  obtain ⟨c0, c1, cf⟩ := U.cells
  have c1' : w.cell? ⟨Lb, 1, none⟩ = some (.pointer (some ⟨p.1, 0, none⟩)) := c1
  obtain ⟨hb1, hb2, hX, hM⟩ := U.some_ p rfl
  have cX1 : w.cell? ⟨p.1, 1, none⟩ = some (.int .i64 (dead : Int)) := by rw [cell_of_row w p.1 1 _ 69 (0, 0) hX]; rfl
  obtain ⟨ao, cap, hvi⟩ := own_form U.own
  subst hvi
  obtain ⟨n, hn⟩ : ∃ n : Nat, (its.length : Int) - (dead : Int) = (n : Int) := ⟨its.length - dead, by omega⟩
  have hnb : n ≤ 1073741824 := by omega
  have hwr : IntKind.i64.wrap ((its.length : Int) - (dead : Int)) = (n : Int) := by rw [IntKind.wrap_i64]; omega
  obtain ⟨w1, hmk, hk1, hg1⟩ := run_make_own (P := Yba.prog) w.drew w.heap.size 25 9 i9 (.string ByteArray.empty) 1 Yba.underlying25 hi9 hz90 hz91 .i64 .i64 n (by rw [hz92]; omega) (by unfold maxLen; omega) (Nat.le_refl _)
  have hg1' : w.grownBy w1 none := ⟨hg1.os, hg1.tape, hg1.output, hg1.size, hg1.block⟩
  have I0 := comp_start U hk1 hg1'
  have parts := U.parts hTL hTL2
  have hfl : ∀ k, Foot Lb (.slice ao its.length cap) (some p) k → k < w.heap.size := fun k hk => by
    rcases hk with rfl | hk | ⟨q, hq, hk⟩
    · exact lt_of U.blk
    · exact (U.own.lt k hk).2
    · cases hq
      rcases hk with rfl | rfl
      · exact lt_of hX
      · exact hM.lt
  have hmk2 : Sem.run Yba.prog (Instr.makeSlice 25 (.int .i64 0) (.int .i64 (n : Int))) w.drew = .ok (.slice (some ⟨w.heap.size, 0, none⟩) 0 n) w1 := hmk
  clear hmk hk1 hg1 c1
  have HU : Hid (UL w B Lb TL rest (.slice ao its.length cap) (some p) its h dead sz) := U
  have hc1L : w1.cell? ⟨Lb, 0, none⟩ = some (.slice ao its.length cap) := by rw [cell_of_row w1 Lb 0 _ TL (0, 0) I0.blk]; rfl
  clear U hX hM
  go_enter Yba.func24, Yba.ntmps24
  go_wp2_with fail
  go_region
  clear hmk2 hg1'
  go_wp2_with fail
  go_loopw [3, 28] (fun vk j wr => ∃ i : Nat, i ≤ its.length ∧ j = .int .i64 i ∧ CompInv w B Lb TL rest (.slice ao its.length cap) p its h dead sz i wr vk) (fun _ j _ => its.length - (intOf j).toNat)
  case atStart => exact ⟨0, Nat.zero_le _, rfl, I0⟩
  case round =>
    clear I0 hc1L
    obtain ⟨i, hi, rfl, I⟩ := hrel
    obtain ⟨aok, capk, hvk⟩ := own_form I.kept
    subst hvk
    by_cases hlt : i < its.length
    · obtain ⟨x, hx⟩ : ∃ x, its[i]? = some x := ⟨_, List.getElem?_eq_getElem hlt⟩
      obtain ⟨g, cap', hv, cx⟩ := own_at I.own (strs_get hx)
      cases hv
      have hxs : x.size ≤ maxLen := HU.out.short x (List.mem_of_getElem? hx)
      have cX : wr.cell? ⟨p.1, 0, none⟩ = some (.map (some p.2)) := by rw [cell_of_row wr p.1 0 _ 69 (0, 0) I.X]; rfl
      have hlook := I.M.look_ok Yba.underlying67 (zero72 wr) hxs
      have hmid := midway_at hx hw (i := i)
      have hXlt := lt_of I.X
      have hlt' : (i : Int) < (its.length : Int) := by omega
      have HX : Hid (its[i]? = some x) := hx
      clear hx c0 c1' cX1 cf
      cases hm : midway its h i x with
      | none =>
        rw [hm] at hlook hmid
        have hlook2 : Sem.run Yba.prog (Instr.lookup 67 (.map (some p.2)) (.string x) true) wr = .ok (.tuple #[.agg #[.int .i64 0, .int .i64 0], .bool false]) wr := hlook
        have HD : Hid (h x ≠ some i) := fun c => by have := hmid.2 c; cases this
        clear hlook hmid hm
        go_wp2_with fail
        go_roundw
        case rel => exact ⟨i + 1, by omega, by go_num, comp_dead hw I HX.out HD.out _⟩
        case measure => simp [intOf]; omega
      | some q =>
        rw [hm] at hlook hmid
        have hlook2 : Sem.run Yba.prog (Instr.lookup 67 (.map (some p.2)) (.string x) true) wr = .ok (.tuple #[.agg #[.int .i64 (q : Int), .int .i64 1], .bool true]) wr := hlook
        clear hlook
        by_cases hq : q = i
        · subst hq
          have HH : Hid (h x = some q) := hmid.1 rfl
          have hM1 : MapIs (wr.alloc (.cells #[.int .i64 (q : Int), .int .i64 1] 72)) p.2 sz (fun s => (midway its h q s).map place) := I.M.block (Below.heap_alloc wr _ _ I.M.lt)
          obtain ⟨w2, hst, hM2, ht2⟩ := hM1.store Yba.underlying67 (by unfold maxLen; omega) hxs (place (live (its.take q) h).length)
          have hst2 : Sem.run Yba.prog (Instr.mapUpdate 67 (.map (some p.2)) (.string x) (.agg #[.int .i64 ((live (its.take q) h).length : Int), .int .i64 1])) (wr.alloc (.cells #[.int .i64 (q : Int), .int .i64 1] 72)) = .ok () w2 := hst
          have HM2 : Hid (MapIs w2 p.2 sz (put (fun s => (midway its h q s).map place) x (some (place (live (its.take q) h).length)))) := by
            rw [hm] at hM2; exact hM2
          have HT2 : Hid ((wr.alloc (.cells #[.int .i64 (q : Int), .int .i64 1] 72)).mapTurned w2 p.2) := ht2
          have G2 := ht2.grown
          have kept2 : w2.ownsRow w.heap.size 9 1 (.slice aok (live (its.take q) h).length capk) (live (its.take q) h).length (strs (live (its.take q) h)) := (I.kept.alloc _).kept G2 (by
            cases hv : (Value.slice aok (live (its.take q) h).length capk).ownBlock with
            | none => exact .inl rfl
            | some g' => exact .inr (by have h1 := (I.kept.lt g' hv).1; have h2 := hfl p.2 (.inr (.inr ⟨p, rfl, .inr rfl⟩)); simp; omega))
          have hB2 : w.heap.size ≤ w2.heap.size := by have h1 := G2.size; have h2 := I.F.size; simp at h1; omega
          have hll : (live (its.take q) h).length ≤ its.length := by have := live_take_le its h q; omega
          clear hM2 ht2 hst hM1 hmid hm G2
          go_wp2_with (at_builtin; go_must (refine wpList_append_own_at _ rfl (.tmp 62) (.tmp 64) 25 rfl w.heap.size 9 i9 (.string ByteArray.empty) 1 16 Yba.underlying25 hi9 hz90 hz91 hz92 rfl (by decide) _ _ _ rfl (kept2.alloc _) ⟨w2.heap.size, 0, none⟩ 1 1 (strs [x]) rfl rfl (cell_one9 w2 x) (strs_one _) (by unfold maxLen; omega) (by omega) (by simp; omega) ?_); intro v3 w3 own3 G3 _ hloc; have C3 := comp_live hw hfl ⟨parts.2.1, parts.2.2.1, fun e => (parts.2.2.2 _ e).2.2 rfl⟩ I HX.out HH.out HM2.out HT2.out own3 G3)
          go_roundw
          case rel => exact ⟨q + 1, by omega, by go_num, C3⟩
          case measure => simp [intOf]; omega
        · have HD : Hid (h x ≠ some i) := fun c => hq (by have := hmid.2 c; cases this; rfl)
          have t1 : ((q : Int) == (i : Int)) = false := by rw [beq_eq_false_iff_ne]; omega
          have t2 : ((q : Int) != -1) = true := by rw [bne_iff_ne]; omega
          clear hmid hm
          go_wp2_with fail
          go_roundw
          case rel => exact ⟨i + 1, by omega, by go_num, comp_dead hw I HX.out HD.out _⟩
          case measure => simp [intOf]; omega
    · have hie : i = its.length := by omega
      subst hie
      have cX1' : wr.cell? ⟨p.1, 1, none⟩ = some (.int .i64 (dead : Int)) := by rw [cell_of_row wr p.1 1 _ 69 (0, 0) I.X]; rfl
      have cXf := frozen_of_row wr p.1 1 _ 69 I.X
      have cL' : wr.cell? ⟨Lb, 0, none⟩ = some (.slice ao its.length cap) := by rw [cell_of_row wr Lb 0 _ TL (0, 0) I.blk]; rfl
      have cLf' := frozen_of_row wr Lb 0 _ TL I.blk
      have E := comp_end hw HU.out hTL hTL2 I
      have hK := I.kept
      rw [List.take_length] at E hK
      have hne := parts.1
      have hne' : ¬ p.1 = Lb := fun e => hne e.symm
      clear c0 c1' cX1 cf
      go_wp2_with fail
      go_end0
      exact ⟨rfl, _, E.1, E.2, fun g hg => (hK.lt g hg).1⟩

end Go.Proofs.Ybulkdkiu
