/-
  placedList.add, walked.
-/
import Derived.Test.YbulkdkiuPlacedAdd
namespace Go.Proofs.Ybulkdkiu
open Go.RowKit Go.Maps
set_option linter.unusedVariables false
set_option linter.unusedSimpArgs false

/-- The from map is made. -/
theorem PL.made {w : World} {B Lb n : Nat} {vi : Value} {ix : Option (Nat × Nat)} {its : List ByteArray} {h : ByteArray → Option Nat} {dead sz : Nat} {F : ByteArray → Option Value} {jb : Option Nat} (P : PL w B Lb n vi ix its h dead sz none F jb) :
    PL ((w.setCell ⟨Lb, 2, none⟩ (.map (some w.heap.size))).alloc (.map #[] 0)) B Lb n vi ix its h dead sz (some w.heap.size) (fun _ => none) jb := by
  obtain ⟨n1, n2, n3⟩ := P.ne
  have hlt := P.lt (.inl (.inl rfl))
  have hs : (w.setCell ⟨Lb, 2, none⟩ (.map (some w.heap.size))).heap.size = w.heap.size := by simp [World.setCell]
  have f : Fr (fun _ => False) (w.setCell ⟨Lb, 2, none⟩ (.map (some w.heap.size))) ((w.setCell ⟨Lb, 2, none⟩ (.map (some w.heap.size))).alloc (.map #[] 0)) := (Fr.refl _ _).alloc _
  have U2 : UL (w.setCell ⟨Lb, 2, none⟩ (.map (some w.heap.size))) B Lb 32 [.map (some w.heap.size), jp jb] vi ix its h dead sz := P.L.U.set2 (by decide) (by decide) _
  refine ⟨⟨U2.frame f (fun _ _ => id), P.L.wf, P.L.cnt⟩, P.hn, P.hz, P.tiny, (fun e => by cases e), fun M hM => ?_, (fun s v hv => by cases hv), (fun s t v u g hv => by cases hv), fun b hb => ?_⟩
  · cases hM
    refine ⟨by omega, ⟨0, Nat.zero_le _, ?_⟩, fun q hq e => ?_⟩
    · have := MapIs.made (w.setCell ⟨Lb, 2, none⟩ (.map (some w.heap.size)))
      rw [hs] at this
      exact this
    · obtain ⟨_, _, _, hMq⟩ := P.L.U.some_ q hq
      have := hMq.lt
      omega
  · obtain ⟨a, ⟨js, c⟩, d⟩ := P.J b hb
    exact ⟨a, ⟨js, f.block ((Below.heap_setCell _ _ _ _ (n3 b hb)).trans c) id⟩, d⟩

theorem foot_made {Lb : Nat} {vi : Value} {ix : Option (Nat × Nat)} {F : ByteArray → Option Value} {jb : Option Nat} {N k : Nat} (hk : PFoot Lb vi ix (some N) (fun _ => none) jb k) : PFoot Lb vi ix none F jb k ∨ k = N := by
  rcases hk with e | e | ⟨s, v, hv, _⟩ | e
  · exact .inl (.inl e)
  · exact .inr (by cases e; rfl)
  · cases hv
  · exact .inl (.inr (.inr (.inr e)))

/-- What the loop of add keeps. -/
structure AddSt (w : World) (B Lb n : Nat) (foot : Nat → Prop) (ab gi : Nat) (a : ByteArray) (x : Int) (ys : List ByteArray) (vi : Value) (ix : Option (Nat × Nat)) (its : List ByteArray) (h : ByteArray → Option Nat) (dead sz M : Nat) (jb : Option Nat) (wr : World) (F : ByteArray → Option Value) : Prop where
  P : PL wr B Lb n vi ix its h dead sz (some M) F jb
  fr : Fr foot w wr
  ft : ∀ j, PFoot Lb vi ix (some M) F jb j → foot j ∨ w.heap.size ≤ j
  at_ : wr.heap[ab]? = some (.cells #[.string a, .int .i64 x] 36 (0, 0))
  nab : ¬ PFoot Lb vi ix (some M) F jb ab
  arg : wr.heap[gi]? = some (.cells (strs ys).toArray 9 (0, 0))
  ngi : ¬ PFoot Lb vi ix (some M) F jb gi

theorem AddSt.step {w : World} {B Lb n : Nat} {foot : Nat → Prop} {ab gi : Nat} {a : ByteArray} {x : Int} {ys : List ByteArray} {vi : Value} {ix : Option (Nat × Nat)} {its : List ByteArray} {h : ByteArray → Option Nat} {dead sz M : Nat} {jb : Option Nat} {wr : World} {F : ByteArray → Option Value}
    (S : AddSt w B Lb n foot ab gi a x ys vi ix its h dead sz M jb wr F) (hbig : n ≤ 1073741824) {y : ByteArray} (hy : y.size ≤ maxLen) {len : Nat} (hlen : len ≤ n) {v' : Value} {w2 : World} (hA : ApPost wr.drew B (rowOf F y) len v' w2) :
    ∃ w3, (Instr.mapUpdate 29 (.map (some M)) (.string y) v').run Yba.prog w2 = .ok () w3 ∧ AddSt w B Lb (n + 1) foot ab gi a x ys vi ix its h dead sz M jb w3 (put F y (some v')) ∧ w2.cell? ⟨Lb, 2, none⟩ = some (.map (some M)) ∧ w2.cell? ⟨ab, 0, none⟩ = some (.string a) ∧ w2.cell? ⟨ab, 1, none⟩ = some (.int .i64 x) := by
  have P1 : PL wr.drew B Lb n vi ix its h dead sz (some M) F jb := S.P.frame ((Fr.refl (fun _ => False) wr).drew) (fun _ _ => id)
  obtain ⟨hB, ⟨z0, hz0, m0⟩, hne⟩ := P1.M1 M rfl
  obtain ⟨ps', hp', hl', f2, loc⟩ := id hA
  have nb : ∀ {k : Nat} {cs : Array Value} {t : TypeId}, wr.heap[k]? = some (.cells cs t (0, 0)) → t ≠ 36 ∨ ¬ PFoot Lb vi ix (some M) F jb k → ¬ (rowOf F y).ownBlock = some k := by
    rintro k cs t hk ht e
    rcases ht with ht | ht
    · obtain ⟨ps, r, _⟩ := S.P.rows y _ (rowOf_block e)
      obtain ⟨cur, hg⟩ := row_type r e
      rw [hg] at hk; simp at hk; exact ht hk.2.symm
    · exact ht (.inr (.inr (.inl ⟨y, _, rowOf_block e, e⟩)))
  have m2 : MapIs w2 M z0 F := m0.frame f2 (fun e => by
    obtain ⟨ps, r, _⟩ := P1.rows y _ (rowOf_block e)
    obtain ⟨cur, hg⟩ := row_type r e
    exact not_cells_map hg m0 rfl)
  obtain ⟨w3, hst, hM3, ht3⟩ := m2.store Yba.underlying29 (by unfold maxLen; omega) hy v'
  obtain ⟨P3, F3, ft3⟩ := P1.place hlen hA (z := if (F y).isSome then z0 else z0 + 1) (by split <;> omega) hM3 ht3
  have hab2 := f2.block (k := ab) (o := .cells #[.string a, .int .i64 x] 36 (0, 0)) S.at_ (nb S.at_ (.inr S.nab))
  have F3' : Fr (PFoot Lb vi ix (some M) F jb) wr w3 := ⟨F3.os, F3.tape, F3.output, F3.size, F3.old⟩
  have hL2 := f2.block (k := Lb) S.P.L.U.blk (nb S.P.L.U.blk (.inl (by decide)))
  refine ⟨w3, hst, ⟨P3, S.fr.trans (F3'.mono (T := fun k => foot k ∨ w.heap.size ≤ k) (fun k _ e => S.ft k e)) (fun k hk e => by rcases e with e | e; exact e; omega), fun j hj => ?_, F3'.block S.at_ S.nab, fun e => ?_, F3'.block S.arg S.ngi, fun e => ?_⟩, ?_, ?_, ?_⟩
  · rcases ft3 j hj with e | e
    · exact S.ft j e
    · have e' : wr.heap.size ≤ j := e
      have := S.fr.size
      exact .inr (by omega)
  · rcases ft3 ab e with e | e
    · exact S.nab e
    · have e' : wr.heap.size ≤ ab := e
      have := lt_of S.at_
      omega
  · rcases ft3 gi e with e | e
    · exact S.ngi e
    · have e' : wr.heap.size ≤ gi := e
      have := lt_of S.arg
      omega
  · rw [cell_of_row w2 Lb 2 _ 32 (0, 0) hL2]; rfl
  · rw [cell_of_row w2 ab 0 _ 36 (0, 0) hab2]; rfl
  · rw [cell_of_row w2 ab 1 _ 36 (0, 0) hab2]; rfl

/-- The state ahead of the loop, where the from map stood. -/
theorem addSt_start {w w1 : World} {B Lb n : Nat} {foot : Nat → Prop} {ab gi : Nat} {a : ByteArray} {x : Int} {ys : List ByteArray} {vi : Value} {ix : Option (Nat × Nat)} {its : List ByteArray} {h : ByteArray → Option Nat} {dead sz : Nat} {fm : Option Nat} {F : ByteArray → Option Value} {jb : Option Nat} (P : PL w1 B Lb n vi ix its h dead sz fm F jb)
    (fr : Fr foot w w1) (ft : ∀ j, PFoot Lb vi ix fm F jb j → foot j ∨ w.heap.size ≤ j) (at_ : w1.heap[ab]? = some (.cells #[.string a, .int .i64 x] 36 (0, 0))) (nab : ¬ PFoot Lb vi ix fm F jb ab) (arg : w1.heap[gi]? = some (.cells (strs ys).toArray 9 (0, 0))) (ngi : ¬ PFoot Lb vi ix fm F jb gi) (hLf : foot Lb) :
    (∀ M, fm = some M → AddSt w B Lb n foot ab gi a x ys vi ix its h dead sz M jb w1 F) ∧
    (fm = none → AddSt w B Lb n foot ab gi a x ys vi ix its h dead sz w1.heap.size jb ((w1.setCell ⟨Lb, 2, none⟩ (.map (some w1.heap.size))).alloc (.map #[] 0)) (fun _ => none)) := by
  refine ⟨fun M hM => by subst hM; exact ⟨P, fr, ft, at_, nab, arg, ngi⟩, fun hM => ?_⟩
  subst hM
  have hs : (w1.setCell ⟨Lb, 2, none⟩ (.map (some w1.heap.size))).heap.size = w1.heap.size := by simp [World.setCell]
  have hab : ab ≠ Lb := fun e => nab (.inl (.inl e))
  have hgi : gi ≠ Lb := fun e => ngi (.inl (.inl e))
  refine ⟨P.made, (fr.setCell (p := ⟨Lb, 2, none⟩) (fun _ => hLf) _).alloc _, fun j hj => ?_, ?_, fun e => ?_, ?_, fun e => ?_⟩
  · rcases foot_made (F := F) hj with e | e
    · exact ft j e
    · have := fr.size
      exact .inr (by omega)
  · rw [Below.heap_alloc _ _ _ (by rw [hs]; exact lt_of at_), Below.heap_setCell _ _ _ _ hab]; exact at_
  · rcases foot_made (F := F) e with e | e
    · exact nab e
    · have := lt_of at_; omega
  · rw [Below.heap_alloc _ _ _ (by rw [hs]; exact lt_of arg), Below.heap_setCell _ _ _ _ hgi]; exact arg
  · rcases foot_made (F := F) e with e | e
    · exact ngi e
    · have := lt_of arg; omega

end Go.Proofs.Ybulkdkiu
