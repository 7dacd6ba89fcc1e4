/-
  placedList.lines.
-/
import Derived.Test.YbulkdkiuPlacedAdd3
namespace Go.Proofs.Ybulkdkiu
open Go.RowKit Go.Maps
set_option linter.unusedVariables false
set_option linter.unusedSimpArgs false

theorem info46 : (Yba.prog.info? 46).map (fun i => (i.zero, i.size, i.bytes)) = some (some (.agg #[.string ByteArray.empty, .slice none 0 0]), 2, 40) := by kernel_rfl

abbrev Places := ByteArray → List (ByteArray × Int)

/-- The cells of a slice of Sourced. -/
def gcells (wd : ByteArray) (Pm : Places) : List (ByteArray × Nat × Nat) → List Value
  | [] => []
  | q :: r => .string (txt wd q.1) :: .slice (some ⟨q.2.1, 0, none⟩) (Pm q.1).length q.2.2 :: gcells wd Pm r

theorem gcells_len (wd : ByteArray) (Pm : Places) : ∀ Z, (gcells wd Pm Z).length = Z.length * 2
  | [] => rfl
  | q :: r => by simp [gcells, gcells_len wd Pm r]; omega
theorem gcells_append (wd : ByteArray) (Pm : Places) : ∀ Z Y, gcells wd Pm (Z ++ Y) = gcells wd Pm Z ++ gcells wd Pm Y
  | [], Y => rfl
  | q :: r, Y => by simp [gcells, gcells_append wd Pm r Y]
theorem gcells_one (wd : ByteArray) (Pm : Places) : ∀ Z, ∀ u ∈ gcells wd Pm Z, u.oneCell' = true
  | [], u, h => by simp [gcells] at h
  | q :: r, u, h => by
    simp only [gcells, List.mem_cons] at h
    rcases h with rfl | rfl | h
    · rfl
    · rfl
    · exact gcells_one wd Pm r u h
theorem gcells_get (wd : ByteArray) (Pm : Places) : ∀ (Z : List (ByteArray × Nat × Nat)) (j : Nat) (q : ByteArray × Nat × Nat), Z[j]? = some q → (gcells wd Pm Z)[j * 2]? = some (.string (txt wd q.1)) ∧ (gcells wd Pm Z)[j * 2 + 1]? = some (.slice (some ⟨q.2.1, 0, none⟩) (Pm q.1).length q.2.2)
  | [], j, q, h => by simp at h
  | y :: r, 0, q, h => by simp at h; subst h; simp [gcells]
  | y :: r, j + 1, q, h => by
    have := gcells_get wd Pm r j q (by simpa using h)
    rw [show (j + 1) * 2 = j * 2 + 1 + 1 by omega]
    simpa [gcells] using this

theorem cell_one46 (w : World) (s : ByteArray) (v : Value) : ∀ j u, [.string s, v][j]? = some u → (w.alloc (.cells #[.string s, v] 46)).cell? ((⟨w.heap.size, 0, none⟩ : Addr).add j) = some u := by
  intro j u hj
  match j, hj with
  | 0, hj => simp at hj; subst hj; simp [Addr.add]
  | 1, hj => simp at hj; subst hj; simp [Addr.add]

/-- The lines of L, each with places of its own from block H on. -/
def Got (w : World) (H : Nat) (wd : ByteArray) (Pm : Places) (L : List ByteArray) (v : Value) : Prop :=
  ∃ Z : List (ByteArray × Nat × Nat), Z.map Prod.fst = L ∧ w.ownsRow H 46 2 v L.length (gcells wd Pm Z) ∧ ∀ q ∈ Z, Pr w H (.slice (some ⟨q.2.1, 0, none⟩) (Pm q.1).length q.2.2) (Pm q.1)

structure LinesInv (w1 : World) (wd : ByteArray) (Pm : Places) (L : List ByteArray) (i : Nat) (wr : World) (v : Value) : Prop where
  below : Below w1.heap.size w1 wr
  got : Got wr w1.heap.size wd Pm (L.take i) v
  nil : i = 0 → v = .slice none 0 0

theorem Pr.base {w : World} {B B' : Nat} {v : Value} {ps : List (ByteArray × Int)} (h : Pr w B v ps) (hB : B' ≤ B) : Pr w B' v ps := by
  rcases h.2 with h0 | ⟨g, cap, cur, hv, hg, r⟩
  · exact ⟨h.1, .inl h0⟩
  · exact ⟨h.1, .inr ⟨g, cap, cur, hv, by omega, r⟩⟩

/-- One more line. -/
theorem LinesInv.next {w1 wr w2 w3 : World} {wd : ByteArray} {Pm : Places} {L : List ByteArray} {i : Nat} {v v3 : Value} {Z : List (ByteArray × Nat × Nat)} (hb : Below w1.heap.size w1 wr) (hZ : Z.map Prod.fst = L.take i) (hR : ∀ q ∈ Z, Pr wr w1.heap.size (.slice (some ⟨q.2.1, 0, none⟩) (Pm q.1).length q.2.2) (Pm q.1)) (hvt : ∀ k, v.ownBlock = some k → ∃ cur, wr.heap[k]? = some (.cells cur 46 (0, 0))) (hvB : ∀ k, v.ownBlock = some k → w1.heap.size ≤ k) {y : ByteArray} (hy : L[i]? = some y) {g c : Nat}
    (hp : Pr w2 wr.heap.size (.slice (some ⟨g, 0, none⟩) (Pm y).length c) (Pm y)) (hb2 : Below wr.heap.size wr w2) {o : Obj}
    (own3 : w3.ownsRow w1.heap.size 46 2 v3 (i + 1) (gcells wd Pm Z ++ [.string (txt wd y), .slice (some ⟨g, 0, none⟩) (Pm y).length c])) (G3 : (w2.alloc o).grownBy w3 v.ownBlock) : LinesInv w1 wd Pm L (i + 1) w3 v3 := by
  have hs := hb.size
  have hs2 := hb2.size
  have f3 : Fr (fun k => v.ownBlock = some k) w2 w3 := ((Fr.refl _ w2).alloc o).grown G3 (fun k hk _ => hk)
  have nt : ∀ {u : Value} {ps : List (ByteArray × Int)} {B k : Nat}, Pr wr B u ps → u.ownBlock = some k → v.ownBlock ≠ some k := fun hu hk e => by
    obtain ⟨cur, hg⟩ := row_type hu hk
    obtain ⟨cur', hg'⟩ := hvt _ e
    rw [hg] at hg'; simp at hg'
  obtain ⟨hi, he⟩ := List.getElem?_eq_some_iff.1 hy
  have ht : L.take (i + 1) = L.take i ++ [y] := by rw [List.take_succ_eq_append_getElem hi, he]
  have hl : (L.take i).length = i := by simp; omega
  refine ⟨(hb.trans (hb2.mono (by omega))).trans ?_, ⟨Z ++ [(y, g, c)], ?_, ?_, ?_⟩, fun e => by omega⟩
  · exact ((Below.refl _ w2).alloc (by omega) o).grown G3 (by simp; omega) (fun k hk => hvB k hk)
  · rw [List.map_append, hZ, ht]; rfl
  · rw [ht, gcells_append, List.length_append, hl]
    exact own3
  · intro q hq
    rcases List.mem_append.1 hq with hq | hq
    · have h0 := hR q hq
      exact f3.pr ((Fr.ofBelow (S := fun _ => False) hb2).pr h0 (fun _ _ => id)) (fun k hk => nt h0 hk)
    · simp at hq
      subst hq
      refine f3.pr (hp.base (by omega)) (fun k hk e => ?_)
      obtain ⟨cur', hg'⟩ := hvt _ e
      have := lt_of hg'
      have := (hp.lt k hk).1
      omega

theorem PL.look {w : World} {B Lb n : Nat} {vi : Value} {ix : Option (Nat × Nat)} {its : List ByteArray} {h : ByteArray → Option Nat} {dead sz : Nat} {fm : Option Nat} {F : ByteArray → Option Value} {jb : Option Nat} (P : PL w B Lb n vi ix its h dead sz fm F jb) {y : ByteArray} (hy : y.size ≤ maxLen) :
    (Instr.lookup 29 (.map fm) (.string y) false).run Yba.prog w = .ok (Ybulkdkiu.rowOf F y) w := by
  cases fm with
  | none =>
    have := Maps.look_nil (P := Yba.prog) (w := w) (t := 29) (e := 42) false law9 Yba.underlying29 (zero42 w) (key_of hy)
    rw [P.M0 rfl]
    exact this
  | some M =>
    obtain ⟨_, ⟨z0, _, m0⟩, _⟩ := P.M1 M rfl
    exact m0.look Yba.underlying29 (zero42 w) hy

theorem PL.mapOff {w : World} {B Lb n : Nat} {vi : Value} {ix : Option (Nat × Nat)} {its : List ByteArray} {h : ByteArray → Option Nat} {dead sz : Nat} {fm : Option Nat} {F : ByteArray → Option Value} {jb : Option Nat} (P : PL w B Lb n vi ix its h dead sz fm F jb) {M : Nat} (hM : fm = some M) : M < w.heap.size ∧ ¬ Foot Lb vi ix M := by
  obtain ⟨a, ⟨z, hz, m⟩, c⟩ := P.M1 M hM
  refine ⟨m.lt, ?_⟩
  rintro (e | e | ⟨q, hq, e | e⟩)
  · exact P.ne.1 M hM e
  · obtain ⟨cur, hg⟩ := row_type P.L.U.own e
    exact not_cells_map hg m rfl
  · obtain ⟨_, _, hX, _⟩ := P.L.U.some_ q hq
    exact not_cells_map hX m e.symm
  · exact c q hq e

/-- What lines leaves. -/
def LinesPost (w : World) (B Lb n : Nat) (foot : Nat → Prop) (fm : Option Nat) (F : ByteArray → Option Value) (jb : Option Nat) (L : List ByteArray) (wd : ByteArray) (Pm : Places) (v : Value) (w' : World) : Prop :=
  ∃ vi' ix' h' sz', PL w' B Lb n vi' ix' L h' 0 sz' fm F jb ∧ (∀ s, Pr w' B (rowOf F s) (Pm s)) ∧ Got w' w.heap.size wd Pm L v ∧ Fr foot w w' ∧ (L.length = 0 → v = .slice none 0 0) ∧ ∀ M, fm = some M → w'.heap[M]? = w.heap[M]?

set_option maxHeartbeats 1000000 in
theorem lines_any {w : World} {B Lb n : Nat} {vi : Value} {ix : Option (Nat × Nat)} {its : List ByteArray} {h : ByteArray → Option Nat} {dead sz : Nat} {fm : Option Nat} {F : ByteArray → Option Value} {jb : Option Nat} (P : PL w B Lb n vi ix its h dead sz fm F jb) {L : List ByteArray} (hl : live its h = L) (Pm : Places)
    (hPm : ∀ s, Pr w B (rowOf F s) (Pm s)) (hPn : ∀ s, (Pm s).length ≤ n) (wd : ByteArray) (hwd : wd.size ≤ 65536) (hbig : n ≤ 524288) :
    Calls Yba.prog 11 #[.pointer (some ⟨Lb, 0, none⟩), .string wd] w fun e w' => ∃ v, e = .returned v ∧ LinesPost w B Lb n (PFoot Lb vi ix fm F jb) fm F jb L wd Pm v w' := by
  obtain ⟨i0, hi, hz0, hz1, hz2⟩ := info_parts info46
  have hit := items_PL P (by omega)
  rw [hl] at hit
  have hrt : ∀ s k, (rowOf F s).ownBlock = some k → ¬ Foot Lb vi ix k := fun s k hk => by
    obtain ⟨cur, hg⟩ := row_type (hPm s) hk
    exact P.L.U.notFoot hg (by decide) (.inl (by decide)) (by decide)
  have hoff : ∀ M, fm = some M → M < w.heap.size ∧ ¬ Foot Lb vi ix M := fun M hM => P.mapOff hM
  clear hl P
  go_enter Yba.func11, Yba.ntmps11
  go_wp2_with fail
  refine hit.mono ?_
  rintro e w1 ⟨v, rfl, vi', ix', h', sz', P1, hL, rfl, F1, ft⟩
  have hPm1 : ∀ s, Pr w1 B (rowOf F s) (Pm s) := fun s => F1.pr (hPm s) (fun k hk => hrt s k hk)
  have hnl := P1.hn
  have tiny := P1.tiny
  rw [hL] at tiny
  have O := P1.L.U.own
  obtain ⟨ao, cap, hv⟩ := own_form O
  subst hv
  have c2 := P1.cell2
  have I0 : LinesInv w1 wd Pm L 0 w1 (.slice none 0 0) := ⟨Below.refl _ _, ⟨[], rfl, World.ownsRow_nil _ _ _ _, (fun q hq => by cases hq)⟩, fun _ => rfl⟩
  have hs01 := F1.size
  clear hit hPm
  go_wp2_with fail
  go_loopw [5, 13] (fun v j wr => ∃ k : Nat, k ≤ L.length ∧ j = .int .i64 k ∧ LinesInv w1 wd Pm L k wr v) (fun _ j _ => L.length - (intOf j).toNat)
  case atStart => exact ⟨0, Nat.zero_le _, rfl, I0⟩
  case round =>
    clear I0
    obtain ⟨k, hk, rfl, I⟩ := hrel
    obtain ⟨Z, hZ, OZ, RZ⟩ := I.got
    have hkl : (L.take k).length = k := by simp; omega
    rw [hkl] at OZ
    obtain ⟨aov, capv, hvv⟩ := own_form OZ
    subst hvv
    by_cases hlt : k < L.length
    · obtain ⟨y, hy⟩ : ∃ y, L[k]? = some y := ⟨_, List.getElem?_eq_getElem hlt⟩
      obtain ⟨g, cap', hvi, cy0⟩ := own_at O (strs_get hy)
      cases hvi
      have fb : Fr (fun _ => False) w1 wr := Fr.ofBelow I.below
      have cy := fb.cell cy0 id
      have Pw := P1.frame fb (fun _ _ => id)
      have hys : y.size ≤ 3 := tiny y (List.mem_of_getElem? hy)
      have hlook := Pw.look (y := y) (by unfold maxLen; omega)
      have cF := Pw.cell2
      have hln := line_any (fb.pr (hPm1 y) (fun _ _ => id)) wd y hwd (by omega) (by have := hPn y; omega)
      have hlt' : (k : Int) < (L.length : Int) := by omega
      have HZ : Hid (Z.map Prod.fst = L.take k) := hZ
      have HY : Hid (L[k]? = some y) := hy
      have hvt : ∀ j, (Value.slice aov k capv).ownBlock = some j → ∃ cur, wr.heap[j]? = some (.cells cur 46 (0, 0)) := fun j hj => row_type OZ hj
      have hvB : ∀ j, (Value.slice aov k capv).ownBlock = some j → w1.heap.size ≤ j := fun j hj => (OZ.lt j hj).1
      clear hy hZ cy0 hkl Pw
      go_wp2_with fail
      refine hln.mono ?_
      rintro e w2 ⟨r, rfl, g2, c2', rfl, hp2, hb2⟩
      have OZ2 : w2.ownsRow w1.heap.size 46 2 (.slice aov k capv) k (gcells wd Pm Z) := (Fr.ofBelow (S := fun _ => False) hb2).row OZ (fun _ _ => id)
      have hsz := I.below.size
      have hsz2 := hb2.size
      clear hln hlook
      go_wp2_with (at_builtin; go_must (refine wpList_append_own_at _ rfl (.tmp 17) (.tmp 27) 43 rfl w1.heap.size 46 i0 _ 2 40 Yba.underlying43 hi hz0 hz1 hz2 rfl (by decide) _ _ _ rfl (OZ2.alloc _) ⟨w2.heap.size, 0, none⟩ 1 1 [.string (txt wd y), .slice (some ⟨g2, 0, none⟩) (Pm y).length c2'] rfl rfl (cell_one46 w2 _ _) (by intro u hu; simp at hu; rcases hu with rfl | rfl <;> rfl) (by unfold maxLen; omega) (by omega) (by simp; omega) ?_); intro v3 w3 own3 G3 _ hloc)
      go_roundw
      case rel => exact ⟨k + 1, by omega, by go_num, LinesInv.next I.below HZ.out RZ hvt hvB HY.out hp2 hb2 own3 G3⟩
      case measure => simp [intOf]; omega
    · go_wp2_with fail
      go_ret
      obtain rfl : k = L.length := by omega
      have hn := I.nil
      rw [List.take_length] at hZ
      have fb : Fr (fun _ => False) w1 wr := Fr.ofBelow I.below
      refine ⟨.slice aov L.length capv, rfl, _, _, _, _, P1.frame fb (fun _ _ => id), fun s => fb.pr (hPm1 s) (fun _ _ => id), ⟨Z, hZ, ?_, fun q hq => (RZ q hq).base hs01⟩, (F1.mono (fun k _ e => .inl e)).trans fb (fun _ _ e => e.elim), hn, fun M hM => (I.below.block M (by have := (hoff M hM).1; omega)).trans (F1.old M (hoff M hM).1 (hoff M hM).2)⟩
      rcases OZ.2 with h0 | ⟨g, cap, cur, hv, hg, r⟩
      · exact ⟨OZ.1, .inl h0⟩
      · exact ⟨OZ.1, .inr ⟨g, cap, cur, hv, by omega, r⟩⟩

end Go.Proofs.Ybulkdkiu
