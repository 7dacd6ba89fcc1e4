/-
  uniq.List.Add.
-/
import Derived.Test.YbulkdkiuUniq
namespace Go.Proofs.Ybulkdkiu
open Go.RowKit Go.Maps
set_option linter.unusedVariables false
set_option linter.unusedSimpArgs false

theorem own_form {w : World} {B : Nat} {e : TypeId} {sz : Nat} {v : Value} {n : Nat} {xs : List Value} (h : w.ownsRow B e sz v n xs) : ∃ ao cap, v = .slice ao n cap := by
  rcases h.2 with ⟨rfl, rfl⟩ | ⟨g, cap, cur, rfl, _⟩
  · exact ⟨none, 0, rfl⟩
  · exact ⟨some ⟨g, 0, none⟩, cap, rfl⟩

theorem own_form_pos {w : World} {B : Nat} {e : TypeId} {sz : Nat} {v : Value} {n : Nat} {xs : List Value} (h : w.ownsRow B e sz v n xs) (hn : 0 < n) : ∃ g cap, v = .slice (some ⟨g, 0, none⟩) n cap ∧ B ≤ g ∧ g < w.heap.size := by
  have hl := h.lt
  rcases h.2 with ⟨rfl, rfl⟩ | ⟨g, cap, cur, rfl, _⟩
  · omega
  · exact ⟨g, cap, rfl, hl g rfl⟩

/-- What the loop of Add keeps. -/
structure AddInv (w : World) (B Lb TL : Nat) (rest : List Value) (vi : Value) (ix : Option (Nat × Nat)) (p : Nat × Nat) (its : List ByteArray) (h : ByteArray → Option Nat) (dead sz : Nat) (gi : Nat) (ys : List ByteArray)
    (k : Nat) (wr : World) (vi' : Value) (its' : List ByteArray) (h' : ByteArray → Option Nat) (sz' : Nat) : Prop where
  st : (its', h') = (ys.take k).foldl addOne (its, h)
  U : UL wr B Lb TL rest vi' (some p) its' h' dead sz'
  F : Fr (Foot Lb vi ix) w wr
  v : vi'.ownBlock = vi.ownBlock ∨ ∃ g, vi'.ownBlock = some g ∧ w.heap.size ≤ g
  arg : wr.heap[gi]? = some (.cells (strs ys).toArray 9 (0, 0))
  z : sz' ≤ sz + k
  apart : vi'.ownBlock ≠ some gi

/-- The list's blocks are told apart by what they hold. -/
theorem UL.parts {w : World} {B Lb TL : Nat} {rest : List Value} {vi : Value} {p : Nat × Nat} {its : List ByteArray} {h : ByteArray → Option Nat} {dead sz : Nat} (U : UL w B Lb TL rest vi (some p) its h dead sz) (hTL : TL ≠ 9) (hTL2 : TL ≠ 69) :
    Lb ≠ p.1 ∧ Lb ≠ p.2 ∧ p.1 ≠ p.2 ∧ (∀ g, vi.ownBlock = some g → g ≠ Lb ∧ g ≠ p.1 ∧ g ≠ p.2) := by
  obtain ⟨_, _, hX, hM⟩ := U.some_ p rfl
  obtain ⟨es, clock, hm⟩ := hM.isMap
  refine ⟨fun e => ?_, fun e => ?_, fun e => ?_, fun g hg => ?_⟩
  · have := U.blk; rw [e, hX] at this; simp at this; exact hTL2 this.2.symm
  · have := U.blk; rw [e, hm] at this; simp at this
  · rw [e, hm] at hX; simp at hX
  · rcases U.own.2 with ⟨rfl, _⟩ | ⟨g', cap, cur, rfl, _, hg', _⟩
    · simp [Value.ownBlock] at hg
    · simp [Value.ownBlock] at hg
      subst hg
      refine ⟨fun e => ?_, fun e => ?_, fun e => ?_⟩
      · have := U.blk; rw [← e, hg'] at this; simp at this; exact hTL this.2.symm
      · rw [← e, hg'] at hX; simp at hX
      · rw [← e, hg'] at hm; simp at hm

theorem not_cells_map {w : World} {k M sz : Nat} {f : ByteArray → Option Value} {cs : Array Value} {t : TypeId} {fz : Nat × Nat} (h : w.heap[k]? = some (.cells cs t fz)) (hM : MapIs w M sz f) : k ≠ M := by
  intro e
  obtain ⟨es, clock, hm⟩ := hM.isMap
  rw [e, hm] at h
  simp at h

theorem add_step {w : World} {B Lb TL : Nat} {rest : List Value} {vi : Value} {ix : Option (Nat × Nat)} {p : Nat × Nat} {its : List ByteArray} {h : ByteArray → Option Nat} {dead sz gi k : Nat} {ys : List ByteArray} {wr : World} {vi' : Value} {its' : List ByteArray} {h' : ByteArray → Option Nat} {sz' : Nat}
    (hTL : TL ≠ 9) (hTL2 : TL ≠ 69) (hgis : gi < w.heap.size) (I : AddInv w B Lb TL rest vi ix p its h dead sz gi ys k wr vi' its' h' sz') (hp : ix = some p ∨ (w.heap.size ≤ p.1 ∧ w.heap.size ≤ p.2)) {y : ByteArray}
    (hy : (ys.take (k + 1)).foldl addOne (its, h) = addOne (its', h') y) (hys : y.size ≤ maxLen) (hh : h' y = none) {o1 o2 : Obj} {w2 w3 : World} {v3 : Value}
    (hM2 : MapIs w2 p.2 (sz' + 1) (put (fun s => (h' s).map place) y (some (place its'.length)))) (ht2 : (wr.alloc o1).drew.mapTurned w2 p.2)
    (own3 : w3.ownsRow B 9 1 v3 (its'.length + 1) (strs its' ++ strs [y])) (G3 : (w2.alloc o2).grownBy w3 vi'.ownBlock) (hloc : v3.ownBlock = vi'.ownBlock ∨ v3.ownBlock = some (w2.alloc o2).heap.size) :
    w3.heap[Lb]? = some (.cells (vi' :: ixp (some p) :: rest).toArray TL (0, 0)) ∧
    AddInv w B Lb TL rest vi ix p its h dead sz gi ys (k + 1) (w3.setCell ⟨Lb, 0, none⟩ v3) v3 (its' ++ [y]) (fun t => if t = y then some its'.length else h' t) (sz' + 1) := by
  obtain ⟨n1, n2, n3, n4⟩ := I.U.parts hTL hTL2
  obtain ⟨hb1, hb2, hX, hM⟩ := I.U.some_ p rfl
  have G2 : (wr.alloc o1).drew.grownBy w2 (some p.2) := ht2.grown
  have hs2 : wr.heap.size + 1 ≤ w2.heap.size := by have := G2.size; simpa using this
  -- a block of wr, none of the two that turn
  have old2 : ∀ j, j < wr.heap.size → j ≠ p.2 → w2.heap[j]? = wr.heap[j]? := fun j hj hn => by
    rw [G2.block j (by simp; omega) (by simpa using hn)]
    exact Below.heap_alloc wr o1 j hj
  have old3 : ∀ j, j < w2.heap.size → some j ≠ vi'.ownBlock → w3.heap[j]? = w2.heap[j]? := fun j hj hn => by
    rw [G3.block j (by simp; omega) hn]
    exact Below.heap_alloc w2 o2 j hj
  have hLlt := lt_of I.U.blk
  have hLo : some Lb ≠ vi'.ownBlock := fun e => (n4 Lb e.symm).1 rfl
  have hL3 : w3.heap[Lb]? = some (.cells (vi' :: ixp (some p) :: rest).toArray TL (0, 0)) := by
    rw [old3 Lb (by omega) hLo, old2 Lb hLlt n2]; exact I.U.blk
  have hX3 : w3.heap[p.1]? = some (.cells #[.map (some p.2), .int .i64 (dead : Int)] 69 (0, 0)) := by
    rw [old3 p.1 (by have := lt_of hX; omega) (fun e => (n4 p.1 e.symm).2.1 rfl), old2 p.1 (lt_of hX) n3]; exact hX
  have hM3 : MapIs w3 p.2 (sz' + 1) (put (fun s => (h' s).map place) y (some (place its'.length))) := hM2.block (old3 p.2 hM2.lt (fun e => (n4 p.2 e.symm).2.2 rfl))
  have hg2 : gi ≠ p.2 := not_cells_map I.arg hM
  have hgL : gi ≠ Lb := fun e => by
    have := I.arg; rw [e, I.U.blk] at this; simp at this; exact hTL this.2
  have hg3 : w3.heap[gi]? = some (.cells (strs ys).toArray 9 (0, 0)) := by
    rw [old3 gi (by have := lt_of I.arg; omega) (fun e => I.apart e.symm), old2 gi (lt_of I.arg) hg2]; exact I.arg
  have hvL : v3.ownBlock ≠ some Lb := fun e => by
    rcases hloc with hl | hl
    · exact hLo (e.symm.trans hl)
    · rw [hl] at e; simp at e; omega
  refine ⟨hL3, ⟨?_, ?_, ?_, ?_, ?_, by have := I.z; omega, ?_⟩⟩
  · rw [hy, addOne_new (by simp [hh])]
  · refine ⟨?_, I.U.hB, ?_, ?_, (fun e => by cases e), ?_⟩
    · rw [heap_setCell_at hL3, cells_set0]
    · rw [strs_append, List.length_append]
      exact ownsRow_setCell_other own3 hvL v3
    · intro s hs
      simp only [List.mem_append, List.mem_singleton] at hs
      rcases hs with hs | rfl
      · exact I.U.short s hs
      · exact hys
    · intro q hq
      cases hq
      refine ⟨hb1, hb2, ?_, ?_⟩
      · rw [Below.heap_setCell _ _ _ _ n1.symm]; exact hX3
      · rw [← place_put]
        exact hM3.block (Below.heap_setCell _ _ _ _ n2.symm)
  · refine Fr.setCell ?_ (fun _ => .inl rfl) _
    have f1 : Fr (Foot Lb vi ix) w (wr.alloc o1).drew := (I.F.alloc o1).drew
    have f2 : Fr (Foot Lb vi ix) w w2 := f1.grown G2 (fun j hj hjs => by
      cases hj
      rcases hp with hp | hp
      · exact .inr (.inr ⟨p, hp, .inr rfl⟩)
      · omega)
    exact (f2.alloc o2).grown G3 (fun j hj hjs => by
      rcases I.v with hv | ⟨g, hv, hg⟩
      · exact .inr (.inl (hv.symm.trans hj))
      · rw [hv] at hj; cases hj; omega)
  · rcases hloc with hl | hl
    · rcases I.v with hv | ⟨g, hv, hg⟩
      · exact .inl (hl.trans hv)
      · exact .inr ⟨g, hl.trans hv, hg⟩
    · refine .inr ⟨_, hl, ?_⟩
      have := I.F.size; simp; omega
  · rw [Below.heap_setCell _ _ _ _ hgL]; exact hg3
  · rcases hloc with hl | hl
    · rw [hl]; exact I.apart
    · rw [hl]
      have := I.F.size
      simp; omega

set_option maxHeartbeats 2000000 in
theorem add_any {w : World} {B Lb TL : Nat} {rest : List Value} {vi : Value} {ix : Option (Nat × Nat)} {its : List ByteArray} {h : ByteArray → Option Nat} {dead sz : Nat} (U : UL w B Lb TL rest vi ix its h dead sz)
    (hBw : B ≤ w.heap.size) (gi m : Nat) (ys : List ByteArray) (hm : ys.length = m) (harg : w.heap[gi]? = some (.cells (strs ys).toArray 9 (0, 0))) (hgi : vi.ownBlock ≠ some gi) (hTL : TL ≠ 9) (hTL2 : TL ≠ 69)
    (hshort : ∀ s ∈ ys, s.size ≤ maxLen) (hbig : its.length + m ≤ 1099511627776) (hbig2 : sz + m ≤ 1099511627776) :
    Calls Yba.prog 18 #[.pointer (some ⟨Lb, 0, none⟩), .slice (some ⟨gi, 0, none⟩) m m] w fun e w' => ∃ (vi' : Value) (p : Nat × Nat) (sz' : Nat),
      e = .returned (.int .i64 (((ys.foldl addOne (its, h)).1.length : Int) - its.length)) ∧ UL w' B Lb TL rest vi' (some p) (ys.foldl addOne (its, h)).1 (ys.foldl addOne (its, h)).2 dead sz' ∧
      Fr (Foot Lb vi ix) w w' ∧ (vi'.ownBlock = vi.ownBlock ∨ ∃ g, vi'.ownBlock = some g ∧ w.heap.size ≤ g) ∧ (ix = some p ∨ (w.heap.size ≤ p.1 ∧ w.heap.size ≤ p.2)) ∧ sz' ≤ sz + m := by
  obtain ⟨i0, hi, hz0, hz1, hz2⟩ := info_parts info9
  go_enter Yba.func18, Yba.ntmps18
  go_wp2_with fail
  refine (indexed_any U hBw).mono ?_
  rintro e w1 ⟨p, rfl, U1, F1, hp⟩
  have hgL : gi ≠ Lb := fun e => by
    subst e
    rw [U.blk] at harg
    simp at harg
    exact hTL harg.2
  have harg1 : w1.heap[gi]? = some (.cells (strs ys).toArray 9 (0, 0)) := F1.block harg hgL
  have I0 : AddInv w B Lb TL rest vi ix p its h dead sz gi ys 0 w1 vi its h sz := ⟨rfl, U1, F1.mono (fun k _ e => .inl e), .inl rfl, harg1, Nat.le_refl _, hgi⟩
  have hgis : gi < w.heap.size := lt_of harg
  clear U U1 F1 harg1 harg
  go_wp2_with fail
  go_loopw [6, 15] (fun a j wr => ∃ (k : Nat) (vi' : Value) (its' : List ByteArray) (h' : ByteArray → Option Nat) (sz' : Nat), k ≤ m ∧ j = .int .i64 k ∧ a = .int .i64 ((its'.length : Int) - its.length) ∧ AddInv w B Lb TL rest vi ix p its h dead sz gi ys k wr vi' its' h' sz') (fun _ j _ => m - (intOf j).toNat)
  case atStart => exact ⟨0, vi, its, h, sz, Nat.zero_le _, rfl, by simp, I0⟩
  case round =>
    clear I0
    obtain ⟨k, vi', its', h', sz', hk, rfl, rfl, I⟩ := hrel
    have hlen := addAll_len (ys.take k) (its, h)
    rw [← I.st] at hlen
    have hlen1 : its.length ≤ its'.length := hlen.1
    have hlen2 : its'.length ≤ its.length + k := by
      have := hlen.2
      simp only [List.length_take] at this
      omega
    clear hlen
    by_cases hlt : k < m
    · obtain ⟨y, hy⟩ : ∃ y, ys[k]? = some y := ⟨_, List.getElem?_eq_getElem (by omega)⟩
      have hys : y.size ≤ maxLen := hshort y (List.mem_of_getElem? hy)
      have cy : wr.cell? ⟨gi, k, none⟩ = some (.string y) := by
        rw [cell_of_row wr gi k _ 9 (0, 0) I.arg]
        simpa using strs_get hy
      have hnext : (ys.take (k + 1)).foldl addOne (its, h) = addOne (its', h') y := by
        rw [List.take_succ_eq_append_getElem (by omega), List.foldl_append, ← I.st]
        obtain ⟨h1, h2⟩ := List.getElem?_eq_some_iff.1 hy
        simp [h2]
      have HN : Hid ((ys.take (k + 1)).foldl addOne (its, h) = addOne (its', h') y) := hnext
      clear hnext hy
      obtain ⟨ao, cap, hvi⟩ := own_form I.U.own
      subst hvi
      obtain ⟨hpB1, hpB2, hX, hM⟩ := I.U.some_ p rfl
      have cX : wr.cell? ⟨p.1, 0, none⟩ = some (.map (some p.2)) := by
        rw [cell_of_row wr p.1 0 _ 69 (0, 0) hX]; rfl
      obtain ⟨cL0, cL1, cLf⟩ := I.U.cells
      clear cL1
      have hlook := hM.look_ok Yba.underlying67 (zero72 wr) hys
      cases hh : h' y with
      | some i =>
        rw [hh] at hlook
        have hlook2 : Sem.run Yba.prog (Instr.lookup 67 (.map (some p.2)) (.string y) true) wr = .ok (.tuple #[.agg #[.int .i64 (i : Int), .int .i64 1], .bool true]) wr := hlook
        clear hlook
        have HA : Hid (addOne (its', h') y = (its', h')) := addOne_has (by simp [hh])
        go_wp2_with fail
        go_roundw
        case rel => 
          refine ⟨k + 1, .slice ao its'.length cap, its', h', sz', by omega, by go_num, rfl, ?_⟩
          exact ⟨(HN.out.trans HA.out).symm, I.U.frame (Fr.alloc (Fr.refl (fun _ => False) wr) _) (fun _ _ => id), I.F.alloc _, I.v, (Below.heap_alloc _ _ _ (lt_of I.arg)).trans I.arg, by have := I.z; omega, I.apart⟩
        case measure => simp [intOf]; omega
      | none =>
        rw [hh] at hlook
        have hlook2 : Sem.run Yba.prog (Instr.lookup 67 (.map (some p.2)) (.string y) true) wr = .ok (.tuple #[.agg #[.int .i64 0, .int .i64 0], .bool false]) wr := hlook
        clear hlook
        have hXlt := lt_of hX
        have hLlt := lt_of I.U.blk
        have hMlt := hM.lt
        have hM1 : MapIs ((wr.alloc (.cells #[.int .i64 0, .int .i64 0] 72)).drew) p.2 sz' (fun s => (h' s).map place) := hM.block (Below.heap_alloc wr _ _ hMlt)
        obtain ⟨w2, hst, hM2, ht2⟩ := hM1.store Yba.underlying67 (by have := I.z; unfold maxLen; omega) hys (place its'.length)
        have hst2 : Sem.run Yba.prog (Instr.mapUpdate 67 (.map (some p.2)) (.string y) (.agg #[.int .i64 (its'.length : Int), .int .i64 1])) ((wr.alloc (.cells #[.int .i64 0, .int .i64 0] 72)).drew) = .ok () w2 := hst
        clear hst hM1
        go_wp2_with fail
        go_region
        obtain ⟨n1, n2, n3, n4⟩ := I.U.parts hTL hTL2
        have G2 := ht2.grown
        have hL2 : w2.heap[Lb]? = some (.cells (.slice ao its'.length cap :: ixp (some p) :: rest).toArray TL (0, 0)) := by
          rw [G2.block Lb (by simp; omega) (by simpa using n2)]
          exact (Below.heap_alloc wr _ Lb hLlt).trans I.U.blk
        have c20 : w2.cell? ⟨Lb, 0, none⟩ = some (.slice ao its'.length cap) := by
          rw [cell_of_row w2 Lb 0 _ TL (0, 0) hL2]; rfl
        have own2 : w2.ownsRow B 9 1 (.slice ao its'.length cap) its'.length (strs its') := ((I.U.own.alloc _).drew).kept G2 (by
          cases hv : (Value.slice ao its'.length cap).ownBlock with
          | none => exact .inl rfl
          | some g => exact .inr (by simpa using (n4 g hv).2.2))
        have hB2 : B ≤ w2.heap.size := by
          have h1 := G2.size
          have h2 := I.F.size
          simp at h1
          omega
        have HH : Hid (h' y = none) := hh
        have HM2 : Hid (MapIs w2 p.2 (sz' + 1) (put (fun s => (h' s).map place) y (some (place its'.length)))) := by
          rw [hh] at hM2; exact hM2
        have HT2 : Hid ((wr.alloc (.cells #[.int .i64 0, .int .i64 0] 72)).drew.mapTurned w2 p.2) := ht2
        have hL2lt : Lb < w2.heap.size := lt_of hL2
        clear hM2 ht2 hst2 hlook2 cL0 cLf hX hM hh cX cy n1 n2 n3 n4 G2 hL2
        go_wp2_with (at_builtin; go_must (refine wpList_append_own_at _ rfl (.tmp 45) (.tmp 47) 25 rfl B 9 i0 (.string ByteArray.empty) 1 16 Yba.underlying25 hi hz0 hz1 hz2 rfl (by decide) _ _ _ rfl (own2.alloc _) ⟨w2.heap.size, 0, none⟩ 1 1 (strs [y]) rfl rfl (cell_one9 w2 y) (strs_one _) (by unfold maxLen; omega) (by omega) (by simp; omega) ?_); intro v3 w3 own3 G3 _ hloc; obtain ⟨g3, cap3, hv3, hg3, hg3s⟩ := own_form_pos own3 (by omega); have S := add_step hTL hTL2 hgis I hp HN.out hys HH.out HM2.out HT2.out own3 G3 hloc; subst hv3; have c30 : w3.cell? ⟨Lb, 0, none⟩ = some (.slice ao its'.length cap) := (by rw [cell_of_row w3 Lb 0 _ TL (0, 0) S.1]; rfl); have c3f := frozen_of_row w3 Lb 0 _ TL S.1)
        go_roundw
        case rel => exact ⟨k + 1, _, _, _, _, by omega, by go_num, by simp; omega, S.2⟩
        case measure => simp [intOf]; omega
    · go_wp2
      go_ret
      have hkm : k = m := by omega
      have hst := I.st
      rw [List.take_of_length_le (by omega)] at hst
      rw [← hst]
      exact ⟨vi', p, sz', rfl, I.U, I.F, I.v, hp, by have := I.z; omega⟩

end Go.Proofs.Ybulkdkiu
