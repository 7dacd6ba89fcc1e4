/-
  placedList.join.
-/
import Derived.Test.YbulkdkiuPlacedRem
namespace Go.Proofs.Ybulkdkiu
open Go.RowKit Go.Maps
set_option linter.unusedVariables false
set_option linter.unusedSimpArgs false

theorem liveFrom_sub (h : ByteArray → Option Nat) : ∀ (n : Nat) (l : List ByteArray), (liveFrom h n l).Sublist l
  | n, [] => List.Sublist.refl _
  | n, x :: r => by
    simp only [liveFrom]
    split
    · exact (liveFrom_sub h (n + 1) r).cons_cons x
    · exact (liveFrom_sub h (n + 1) r).cons x

/-- Where none is dead all live. -/
theorem LL.all {w : World} {B Lb TL : Nat} {rest : List Value} {vi : Value} {ix : Option (Nat × Nat)} {its : List ByteArray} {h : ByteArray → Option Nat} {sz : Nat} (U : LL w B Lb TL rest vi ix its h 0 sz) : live its h = its :=
  (liveFrom_sub h 0 its).eq_of_length (by have := U.cnt; unfold live at this; omega)

theorem lens_tiny : ∀ (xs : List ByteArray), (∀ s ∈ xs, s.size ≤ 3) → Lib.lens (xs.map (·.data.toList)) ≤ 3 * xs.length
  | [], _ => by simp [Lib.lens]
  | x :: r, hx => by
    have h1 := lens_tiny r (fun s hs => hx s (List.mem_cons_of_mem _ hs))
    have h2 : x.data.toList.length ≤ 3 := hx x (List.mem_cons_self ..)
    simp only [Lib.lens, List.map_cons, List.sum_cons, List.length_cons] at *
    omega

theorem join_tiny (xs : List ByteArray) (h : ∀ s ∈ xs, s.size ≤ 3) : (Lib.join (xs.map (·.data.toList)) ({ data := #[32] } : ByteArray).data.toList).length ≤ 4 * xs.length := by
  cases xs with
  | nil => simp [Lib.join_nil]
  | cons x r =>
    have := lens_tiny (x :: r) h
    rw [List.map_cons, Lib.join_length]
    rw [List.map_cons] at this
    simp at *
    omega

/-- The items, however they lie. -/
def ItemsPost (w : World) (B Lb n : Nat) (L : List ByteArray) (foot : Nat → Prop) (jb : Option Nat) (v : Value) (w' : World) : Prop :=
  ∃ vi ix h sz fm F, PL w' B Lb n vi ix L h 0 sz fm F jb ∧ live L h = L ∧ v = vi ∧ Fr foot w w' ∧ ∀ k, PFoot Lb vi ix fm F jb k → foot k ∨ w.heap.size ≤ k

theorem items_PL {w : World} {B Lb n : Nat} {vi : Value} {ix : Option (Nat × Nat)} {its : List ByteArray} {h : ByteArray → Option Nat} {dead sz : Nat} {fm : Option Nat} {F : ByteArray → Option Value} {jb : Option Nat} (P : PL w B Lb n vi ix its h dead sz fm F jb) (hbig : n ≤ 1048576) :
    Calls Yba.prog 17 #[.pointer (some ⟨Lb, 0, none⟩)] w fun e w' => ∃ v, e = .returned v ∧ ∃ vi' ix' h' sz', PL w' B Lb n vi' ix' (live its h) h' 0 sz' fm F jb ∧ live (live its h) h' = live its h ∧ v = vi' ∧ Fr (Foot Lb vi ix) w w' ∧ ∀ k, PFoot Lb vi' ix' fm F jb k → PFoot Lb vi ix fm F jb k ∨ w.heap.size ≤ k := by
  cases ix with
  | none =>
    obtain ⟨rfl, rfl, rfl, rfl, rfl⟩ := P.L.U.none_ rfl
    refine (items_none P.L.U).mono ?_
    rintro e w' ⟨rfl, rfl⟩
    exact ⟨_, rfl, _, none, _, _, P, rfl, rfl, Fr.refl _ _, fun k hk => .inl hk⟩
  | some p =>
    refine (items_any P.L (by decide) (by decide) (by have := P.hn; omega) (by have := P.hz; omega)).mono ?_
    rintro e w1 ⟨vi', rfl, its', h', sz', L1, hL1, F1, loc1, ip1, hn1, hz1⟩
    have ha := L1.all
    rw [hL1] at ha
    subst ha
    have P1 := P.relist L1 F1 loc1 ip1 (by have := P.hn; omega) (by have := P.hz; omega) (Nat.le_refl n) (by rw [hL1]; exact P.tiny)
    exact ⟨_, rfl, _, _, _, _, P1, hL1, rfl, F1, fun k hk => foot_relist loc1 ip1 hk⟩

/-- joined is set. -/
theorem PL.joined {w w2 : World} {B Lb n : Nat} {vi : Value} {ix : Option (Nat × Nat)} {its : List ByteArray} {h : ByteArray → Option Nat} {dead sz : Nat} {fm : Option Nat} {F : ByteArray → Option Value} {jb : Option Nat} (P : PL w B Lb n vi ix its h dead sz fm F jb) (hb : Below w.heap.size w w2) (js : ByteArray) :
    PL ((w2.setCell ⟨Lb, 3, none⟩ (.pointer (some ⟨w2.heap.size, 0, none⟩))).alloc (.cells #[.string js] 9)) B Lb n vi ix its h dead sz fm F (some w2.heap.size) := by
  have P2 : PL w2 B Lb n vi ix its h dead sz fm F jb := P.frame (Fr.ofBelow (S := fun _ => False) hb) (fun _ _ => id)
  obtain ⟨n1, n2, n3⟩ := P2.ne
  have hlt := P2.lt (.inl (.inl rfl))
  have hs : (w2.setCell ⟨Lb, 3, none⟩ (.pointer (some ⟨w2.heap.size, 0, none⟩))).heap.size = w2.heap.size := by simp [World.setCell]
  have f : Fr (fun _ => False) (w2.setCell ⟨Lb, 3, none⟩ (.pointer (some ⟨w2.heap.size, 0, none⟩))) ((w2.setCell ⟨Lb, 3, none⟩ (.pointer (some ⟨w2.heap.size, 0, none⟩))).alloc (.cells #[.string js] 9)) := (Fr.refl _ _).alloc _
  have U3 : UL (w2.setCell ⟨Lb, 3, none⟩ (.pointer (some ⟨w2.heap.size, 0, none⟩))) B Lb 32 [.map fm, jp (some w2.heap.size)] vi ix its h dead sz := P2.L.U.set3 (by decide) (by decide) _
  refine ⟨⟨U3.frame f (fun _ _ => id), P.L.wf, P.L.cnt⟩, P.hn, P.hz, P.tiny, P.M0, fun M hM => ?_, fun s v hv => ?_, P.apart, ?_⟩
  · obtain ⟨a, ⟨z, hz, b⟩, c⟩ := P2.M1 M hM
    exact ⟨a, ⟨z, hz, (b.block (Below.heap_setCell _ _ _ _ (n1 M hM))).frame f id⟩, c⟩
  · obtain ⟨ps, a, b⟩ := P2.rows s v hv
    exact ⟨ps, f.pr (ownsRow_setCell_other a (fun e => n2 s v _ hv e rfl) _) (fun _ _ => id), b⟩
  · intro b hb
    cases hb
    refine ⟨by omega, ⟨js, ?_⟩, fun e => ?_⟩
    · have := heap_alloc_new (w2.setCell ⟨Lb, 3, none⟩ (.pointer (some ⟨w2.heap.size, 0, none⟩))) (.cells #[.string js] 9)
      rw [hs] at this
      exact this
    · have := (P2.L.U.own.lt _ e).2
      omega

/-- What join leaves. -/
theorem join_post {w w1 w2 : World} {B Lb n : Nat} {vi vi' : Value} {ix ix' : Option (Nat × Nat)} {L : List ByteArray} {h' : ByteArray → Option Nat} {sz' : Nat} {fm : Option Nat} {F : ByteArray → Option Value} (P1 : PL w1 B Lb n vi' ix' L h' 0 sz' fm F none) (hL : live L h' = L) (F1 : Fr (PFoot Lb vi ix fm F none) w w1)
    (ft : ∀ k, PFoot Lb vi' ix' fm F none k → PFoot Lb vi ix fm F none k ∨ w.heap.size ≤ k) (hb : Below w1.heap.size w1 w2) (js : ByteArray) :
    PPost w B Lb n L (PFoot Lb vi ix fm F none) ((w2.setCell ⟨Lb, 3, none⟩ (.pointer (some ⟨w2.heap.size, 0, none⟩))).alloc (.cells #[.string js] 9)) := by
  have PJ := P1.joined hb js
  refine ⟨_, ⟨_, _, _, _, _, _, _, _, _, PJ, hL, rfl⟩, ?_, ?_⟩
  · have f2 : Fr (PFoot Lb vi ix fm F none) w w2 := F1.trans (Fr.ofBelow (S := fun _ => False) hb) (fun _ _ e => e.elim)
    exact (f2.setCell (p := ⟨Lb, 3, none⟩) (fun _ => .inl (.inl rfl)) _).alloc _
  · rintro k (e | e | e | e)
    · exact ft k (.inl e)
    · exact ft k (.inr (.inl e))
    · exact ft k (.inr (.inr (.inl e)))
    · cases e
      have h1 := hb.size
      have h2 := F1.size
      exact .inr (by omega)

set_option maxHeartbeats 1000000 in
theorem join_any {w : World} {B Lb n : Nat} {L : List ByteArray} {foot : Nat → Prop} (H : Has w B Lb n L foot) (hbig : n ≤ 1048576) :
    Calls Yba.prog 10 #[.pointer (some ⟨Lb, 0, none⟩)] w fun e w' => ∃ s, e = .returned (.string s) ∧ PPost w B Lb n L foot w' := by
  obtain ⟨vi, ix, its, h, dead, sz, fm, F, jb, P, hl, rfl⟩ := H
  have c3 := P.cell3
  cases jb with
  | some b =>
    have c3' : w.cell? ⟨Lb, 3, none⟩ = some (.pointer (some ⟨b, 0, none⟩)) := c3
    obtain ⟨_, ⟨js, hj⟩, _⟩ := P.J b rfl
    have cj : w.cell? ⟨b, 0, none⟩ = some (.string js) := by rw [cell_of_row w b 0 _ 9 (0, 0) hj]; rfl
    have HP : Hid (PPost w B Lb n L (PFoot Lb vi ix fm F (some b)) w) := ⟨_, ⟨_, _, _, _, _, _, _, _, _, P, hl, rfl⟩, Fr.refl _ _, fun k hk => .inl hk⟩
    clear P c3 hj
    go_enter Yba.func10, Yba.ntmps10
    go_wp2_with fail
    go_ret
    exact ⟨_, rfl, HP.out⟩
  | none =>
    have c3' : w.cell? ⟨Lb, 3, none⟩ = some (.pointer none) := c3
    have hit := items_PL P hbig
    rw [hl] at hit
    clear c3 P
    go_enter Yba.func10, Yba.ntmps10
    go_wp2_with fail
    refine hit.mono ?_
    rintro e w1 ⟨v, rfl, vi', ix', h', sz', P1, hL, rfl, F0, ft⟩
    have F1 : Fr (PFoot Lb vi ix fm F none) w w1 := F0.mono (fun k _ e => .inl e)
    clear F0
    have hnl := P1.hn
    have tiny := P1.tiny
    rw [hL] at tiny
    have O := P1.L.U.own
    obtain ⟨ao, cap, hv⟩ := own_form O
    subst hv
    clear hit
    by_cases h0 : L.length = 0
    · obtain rfl : L = [] := List.length_eq_zero_iff.1 h0
      go_wp2_with fail
      refine (Yba.strings_Join_none ao cap _ w1).mono ?_
      rintro e w2 ⟨rfl, hw2⟩
      rw [hw2]
      have HP := join_post P1 hL F1 ft (Below.refl _ w1) ⟨#[]⟩
      have c31 := P1.cell3
      have cf1 := P1.cells.2.2
      have hlt := (P1.lt (.inl (.inl rfl))).2
      clear P1 F1 ft hw2 O
      go_wp2_with fail
      go_ret
      exact ⟨_, rfl, HP⟩
    · obtain ⟨g, cap', hv2, hgB, hgl⟩ := own_form_pos O (by omega)
      cases hv2
      have hcells : ∀ (j : Nat) x, L[j]? = some x → w1.cell? ⟨g, 0 + j, none⟩ = some (.string x) := fun j x hx => by
        have := O.cells (g := g) rfl j _ (strs_get hx)
        rwa [Addr.add_lit] at this
      have hcap : L.length ≤ cap := by
        rcases O.2 with ⟨e, _⟩ | ⟨_, _, _, e, _, _, hc, _⟩
        · cases e
        · cases e; exact hc
      go_wp2_with fail
      refine (Yba.strings_Join g 0 cap L _ w1 hcells hgl (by omega) hcap (Nat.le_trans (join_tiny L tiny) (by omega))).mono ?_
      rintro e w2 ⟨rfl, hb2⟩
      have HP := join_post P1 hL F1 ft hb2 ⟨(Lib.join (L.map (·.data.toList)) ({ data := #[32] } : ByteArray).data.toList).toArray⟩
      have P2 := P1.frame (Fr.ofBelow (S := fun _ => False) hb2) (fun _ _ => id)
      have c31 := P2.cell3
      have cf1 := P2.cells.2.2
      have hlt := (P2.lt (.inl (.inl rfl))).2
      clear P1 P2 F1 ft O hb2 hcells
      generalize (⟨(Lib.join (L.map (·.data.toList)) ({ data := #[32] } : ByteArray).data.toList).toArray⟩ : ByteArray) = js at *
      go_wp2_with fail
      go_ret
      exact ⟨_, rfl, HP⟩

end Go.Proofs.Ybulkdkiu
