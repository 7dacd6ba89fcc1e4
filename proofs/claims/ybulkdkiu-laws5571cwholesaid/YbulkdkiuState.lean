/-
  The state of LawS5571CWhole's main loop, and what each of its steps makes of it.
-/
import Derived.Test.YbulkdkiuSourced
namespace Go.Proofs.Ybulkdkiu
open Go.RowKit Go.Maps
set_option linter.unusedVariables false
set_option linter.unusedSimpArgs false

/-- A slice of places that can be read. -/
def PS (w : World) (fv : Value) (ps : List (ByteArray × Int)) : Prop :=
  (fv = .slice none 0 0 ∧ ps = []) ∨ ∃ (ad : Addr) (n c : Nat), fv = .slice (some ad) n c ∧ ps.length = n ∧ ∀ j v, (pcells ps)[j]? = some v → w.cell? (ad.add j) = some v

/-- A copy of the call's own. -/
def Good (B : Nat) (w : World) (f : Value) (ps : List (ByteArray × Int)) : Prop :=
  (f = .slice none 0 0 ∧ ps = []) ∨ ∃ g n, f = .slice (some ⟨g, 0, none⟩) n n ∧ B ≤ g ∧ w.heap[g]? = some (.cells (pcells ps).toArray 36 (0, 0)) ∧ ps.length = n ∧ n ≤ 1048576

theorem Good.ps {B : Nat} {w : World} {f : Value} {ps : List (ByteArray × Int)} (h : Good B w f ps) : PS w f ps := by
  rcases h with h | ⟨g, n, rfl, _, hg, hl, _⟩
  · exact .inl h
  · refine .inr ⟨⟨g, 0, none⟩, n, n, rfl, hl, fun j v hv => ?_⟩
    rw [Addr.add_lit, Nat.zero_add, cell_of_row w g j _ 36 (0, 0) hg]
    simpa using hv

theorem Good.len {B : Nat} {w : World} {f : Value} {ps : List (ByteArray × Int)} (h : Good B w f ps) : ps.length ≤ 1048576 := by
  rcases h with ⟨_, rfl⟩ | ⟨g, n, _, _, _, hl, hn⟩
  · simp
  · omega

theorem Good.frame {B : Nat} {S : Nat → Prop} {w w' : World} {f : Value} {ps : List (ByteArray × Int)} (h : Good B w f ps) (g : Fr S w w') (hn : ∀ k cs, w.heap[k]? = some (.cells cs 36 (0, 0)) → ¬ S k) : Good B w' f ps := by
  rcases h with h | ⟨b, n, e, hb, hg, r⟩
  · exact .inl h
  · exact .inr ⟨b, n, e, hb, g.block hg (hn b _ hg), r⟩

/-- zzs5571ceq on two readings of the same places. -/
theorem ceq_any {w : World} {f f' : Value} {ps : List (ByteArray × Int)} (h : PS w f ps) (h' : PS w f' ps) (hnil : f = .slice none 0 0 ↔ f' = .slice none 0 0) (hbig : ps.length ≤ 1048576) :
    Calls Yba.prog 16 #[f, f'] w fun e w' => e = .returned (.bool true) ∧ ∃ q, w' = w.drewN q := by
  rcases h with ⟨rfl, rfl⟩ | ⟨ad, n, c, rfl, hn, hc⟩
  · obtain rfl := hnil.1 rfl
    refine (ceq_nil w).mono ?_
    rintro e w' ⟨rfl, rfl⟩
    exact ⟨rfl, 0, rfl⟩
  · rcases h' with ⟨rfl, _⟩ | ⟨ad', n', c', rfl, hn', hc'⟩
    · have := hnil.2 rfl
      cases this
    · obtain rfl : n = n' := by omega
      by_cases h0 : n = 0
      · subst h0
        refine (ceq_empty ad ad' c c' w).mono ?_
        rintro e w' ⟨rfl, rfl⟩
        exact ⟨rfl, 0, rfl⟩
      · obtain ⟨x, hx⟩ : ∃ x, (pcells ps)[0]? = some x := ⟨_, List.getElem?_eq_getElem (by rw [pcells_len]; omega)⟩
        obtain ⟨b, o, sp⟩ := ad
        obtain ⟨b', o', sp'⟩ := ad'
        have hsp : sp = none := by
          have := World.cell?_spot (hc 0 _ hx)
          simpa [Addr.add] using this
        have hsp' : sp' = none := by
          have := World.cell?_spot (hc' 0 _ hx)
          simpa [Addr.add] using this
        subst hsp
        subst hsp'
        exact ceq_some b o b' o' n c c' ps w hn (by omega) (fun j v hv => by rw [← Addr.add_lit]; exact hc j v hv) (fun j v hv => by rw [← Addr.add_lit]; exact hc' j v hv)

/-- zzs5571ccopy. -/
theorem ccopy_any {w : World} {f : Value} {ps : List (ByteArray × Int)} (h : PS w f ps) (hbig : ps.length ≤ 1048576) {B : Nat} (hB : B ≤ w.heap.size) :
    Calls Yba.prog 13 #[f] w fun e w' => ∃ ao n c, e = .returned (.slice ao n c) ∧ Good B w' (.slice ao n c) ps ∧ (Value.slice ao n c = .slice none 0 0 ↔ f = .slice none 0 0) ∧ Below w.heap.size w w' := by
  rcases h with ⟨rfl, rfl⟩ | ⟨ad, n, c, rfl, hn, hc⟩
  · refine (ccopy_nil w).mono ?_
    rintro e w' ⟨rfl, rfl⟩
    exact ⟨none, 0, 0, rfl, .inl ⟨rfl, rfl⟩, by simp, Below.refl _ _⟩
  · refine (ccopy_some ad n c ps w hn (by omega) hc).mono ?_
    rintro e w' ⟨rfl, hr, hb⟩
    exact ⟨_, n, n, rfl, .inr ⟨w.heap.size, n, rfl, hB, hr, hn, by omega⟩, by simp, hb⟩

theorem SL.frame {S : Nat → Prop} {w w' : World} {B Lb : Nat} {vi : Value} {ix : Option (Nat × Nat)} {vf : Value} {its : List ByteArray} {h : ByteArray → Option Nat} {sz : Nat} {fs : List Value} (s : SL w B Lb vi ix vf its h sz fs) (g : Fr S w w') (hn : ∀ k, SFoot Lb vi ix vf k → ¬ S k) : SL w' B Lb vi ix vf its h sz fs :=
  ⟨s.U.frame g (fun k hk => hn k (.inl hk)), g.row s.R (fun k hk => hn k (.inr hk))⟩

theorem SL.lt {w : World} {B Lb : Nat} {vi : Value} {ix : Option (Nat × Nat)} {vf : Value} {its : List ByteArray} {h : ByteArray → Option Nat} {sz : Nat} {fs : List Value} (s : SL w B Lb vi ix vf its h sz fs) : ∀ k, SFoot Lb vi ix vf k → B ≤ k ∧ k < w.heap.size := by
  intro k hk
  rcases hk with (rfl | hk | ⟨p, hp, hk⟩) | hk
  · exact ⟨s.U.hB, lt_of s.U.blk⟩
  · exact s.U.own.lt k hk
  · obtain ⟨h1, h2, hX, hM⟩ := s.U.some_ p hp
    rcases hk with rfl | rfl
    · exact ⟨h1, lt_of hX⟩
    · exact ⟨h2, hM.lt⟩
  · exact s.R.lt k hk

/-- A block of cells of type t is none of the list's feet, if t is none of its types (or the row is another). -/
theorem SL.notFoot {w : World} {B Lb : Nat} {vi : Value} {ix : Option (Nat × Nat)} {vf : Value} {its : List ByteArray} {h : ByteArray → Option Nat} {sz : Nat} {fs : List Value} (s : SL w B Lb vi ix vf its h sz fs) {k : Nat} {cs : Array Value} {t : TypeId} (hk : w.heap[k]? = some (.cells cs t (0, 0)))
    (h1 : t ≠ 53) (h2 : t ≠ 9 ∨ vi.ownBlock ≠ some k) (h3 : t ≠ 69) (h4 : t ≠ 42 ∨ vf.ownBlock ≠ some k) : ¬ SFoot Lb vi ix vf k := by
  rintro (hf | hf)
  · exact s.U.notFoot hk h1 h2 h3 hf
  · rcases h4 with h4 | h4
    · obtain ⟨cur, hg⟩ := row_type s.R hf
      rw [hg] at hk; simp at hk; exact h4 hk.2.symm
    · exact h4 hf

/-- Two rows of different types have different blocks. -/
theorem rows_apart {w : World} {B B' : Nat} {e e' : TypeId} {sz sz' : Nat} {v v' : Value} {n n' : Nat} {xs xs' : List Value} (h : w.ownsRow B e sz v n xs) (h' : w.ownsRow B' e' sz' v' n' xs') (hne : e ≠ e') : ∀ k, v.ownBlock = some k → v'.ownBlock ≠ some k := by
  intro k hk hk'
  obtain ⟨c, hc⟩ := row_type h hk
  obtain ⟨c', hc'⟩ := row_type h' hk'
  rw [hc] at hc'
  simp at hc'
  exact hne hc'.2

/-- The main loop's state. 'its', 'fs': the list's strings and sources; 'im', 'fm': the model's. -/
structure LS (w wr : World) (vi : Value) (ix : Option (Nat × Nat)) (vf : Value) (its : List ByteArray) (h : ByteArray → Option Nat) (sz : Nat) (fs : List Value) (v10 v11 : Value) (im : List ByteArray) (fm : List Value) : Prop where
  S : SL wr w.heap.size w.heap.size vi ix vf its h sz fs
  m : wr.ownsRow w.heap.size 9 1 v10 im.length (strs im)
  f : wr.ownsRow w.heap.size 42 1 v11 fm.length fm
  a1 : ∀ g, v10.ownBlock = some g → vi.ownBlock ≠ some g
  a2 : ∀ g, v11.ownBlock = some g → vf.ownBlock ≠ some g
  good : ∀ x ∈ fm, ∃ ps, Good w.heap.size wr x ps
  below : Below w.heap.size w wr

theorem LS.grow {w wr w1 : World} {vi : Value} {ix : Option (Nat × Nat)} {vf : Value} {its : List ByteArray} {h : ByteArray → Option Nat} {sz : Nat} {fs : List Value} {v10 v11 : Value} {im : List ByteArray} {fm : List Value} (s : LS w wr vi ix vf its h sz fs v10 v11 im fm) (hb : Below wr.heap.size wr w1) :
    LS w w1 vi ix vf its h sz fs v10 v11 im fm := by
  have g : Fr (fun _ => False) wr w1 := Fr.ofBelow hb
  exact ⟨s.S.frame g (fun _ _ => id), g.row s.m (fun _ _ => id), g.row s.f (fun _ _ => id), s.a1, s.a2, fun x hx => let ⟨ps, hp⟩ := s.good x hx; ⟨ps, hp.frame g (fun _ _ _ => id)⟩, s.below.trans (hb.mono s.below.size)⟩

theorem LS.sadd {w wr w1 : World} {vi : Value} {ix : Option (Nat × Nat)} {vf : Value} {its : List ByteArray} {h : ByteArray → Option Nat} {sz : Nat} {fs : List Value} {v10 v11 : Value} {im : List ByteArray} {fm : List Value} (s : LS w wr vi ix vf its h sz fs v10 v11 im fm)
    {st : List ByteArray × (ByteArray → Option Nat)} {fs' : List Value} (hp : SaddPost wr w.heap.size w.heap.size vi ix vf st sz fs' w1) :
    ∃ vi' p vf' sz', LS w w1 vi' (some p) vf' st.1 st.2 sz' fs' v10 v11 im fm ∧ sz' ≤ sz + 1 ∧ ∀ x ps, Good w.heap.size wr x ps → Good w.heap.size w1 x ps := by
  obtain ⟨vi', p, vf', sz', h1, h2, h3, h4, h5, h6⟩ := hp
  have nm : ∀ k, v10.ownBlock = some k → ¬ SFoot w.heap.size vi ix vf k := fun k hk => by
    obtain ⟨c, hc⟩ := row_type s.m hk
    exact s.S.notFoot hc (by decide) (.inr (s.a1 k hk)) (by decide) (.inl (by decide))
  have nf : ∀ k, v11.ownBlock = some k → ¬ SFoot w.heap.size vi ix vf k := fun k hk => by
    obtain ⟨c, hc⟩ := row_type s.f hk
    exact s.S.notFoot hc (by decide) (.inl (by decide)) (by decide) (.inr (s.a2 k hk))
  refine ⟨vi', p, vf', sz', ⟨h1, h2.row s.m nm, h2.row s.f nf, ?_, ?_, ?_, s.below.trans (h2.below s.below.size (fun k hk => (s.S.lt k hk).1))⟩, h6, fun x ps hp => hp.frame h2 (fun k cs hk => s.S.notFoot hk (by decide) (.inl (by decide)) (by decide) (.inl (by decide)))⟩
  · intro g hg
    rcases h3 with h | ⟨g', h, h'⟩
    · rw [h]; exact s.a1 g hg
    · rw [h]
      have := (s.m.lt g hg).2
      simp; omega
  · intro g hg
    rcases h4 with h | ⟨g', h, h'⟩
    · rw [h]; exact s.a2 g hg
    · rw [h]
      have := (s.f.lt g hg).2
      simp; omega
  · intro x hx
    obtain ⟨ps, hp⟩ := s.good x hx
    exact ⟨ps, hp.frame h2 (fun k cs hk => s.S.notFoot hk (by decide) (.inl (by decide)) (by decide) (.inl (by decide)))⟩

/-- The model's strings grow by one. -/
theorem LS.app1 {w wr w3 : World} {vi : Value} {ix : Option (Nat × Nat)} {vf : Value} {its : List ByteArray} {h : ByteArray → Option Nat} {sz : Nat} {fs : List Value} {v10 v11 : Value} {im : List ByteArray} {fm : List Value} (s : LS w wr vi ix vf its h sz fs v10 v11 im fm) {o : Obj} {v' : Value} {y : ByteArray}
    (own : w3.ownsRow w.heap.size 9 1 v' (im.length + 1) (strs im ++ strs [y])) (G : (wr.alloc o).grownBy w3 v10.ownBlock) (hloc : v'.ownBlock = v10.ownBlock ∨ v'.ownBlock = some (wr.alloc o).heap.size) :
    LS w w3 vi ix vf its h sz fs v' v11 (im ++ [y]) fm ∧ ∀ x ps, Good w.heap.size wr x ps → Good w.heap.size w3 x ps := by
  have g : Fr (fun k => v10.ownBlock = some k) wr w3 := (alloc_frame _ wr o).grown G (fun k hk _ => hk)
  have nm : ∀ k, SFoot w.heap.size vi ix vf k → ¬ v10.ownBlock = some k := fun k hk e => by
    obtain ⟨c, hc⟩ := row_type s.m e
    exact s.S.notFoot hc (by decide) (.inr (s.a1 k e)) (by decide) (.inl (by decide)) hk
  have own2 : w3.ownsRow w.heap.size 9 1 v' (im ++ [y]).length (strs (im ++ [y])) := by rw [strs_append, List.length_append]; exact own
  have gd : ∀ x ps, Good w.heap.size wr x ps → Good w.heap.size w3 x ps := fun x ps hp => hp.frame g (fun k cs hk e => by
    obtain ⟨c, hc⟩ := row_type s.m e
    rw [hc] at hk; simp at hk)
  refine ⟨⟨s.S.frame g nm, own2, g.row s.f (fun k hk => (rows_apart s.f s.m (by decide) k hk)), ?_, s.a2, ?_, s.below.trans (g.below s.below.size (fun k hk => (s.m.lt k hk).1))⟩, gd⟩
  · intro b hb
    rcases hloc with hl | hl
    · exact s.a1 b (hl.symm.trans hb)
    · intro e
      rw [hl] at hb
      cases hb
      have := (s.S.lt _ (.inl (.inr (.inl e)))).2
      simp at this; omega
  · intro x hx
    obtain ⟨ps, hp⟩ := s.good x hx
    exact ⟨ps, gd x ps hp⟩

/-- The model's sources grow by one. -/
theorem LS.app2 {w wr w3 : World} {vi : Value} {ix : Option (Nat × Nat)} {vf : Value} {its : List ByteArray} {h : ByteArray → Option Nat} {sz : Nat} {fs : List Value} {v10 v11 : Value} {im : List ByteArray} {fm : List Value} (s : LS w wr vi ix vf its h sz fs v10 v11 im fm) {o : Obj} {v' fv : Value} {ps0 : List (ByteArray × Int)}
    (hgd : Good w.heap.size wr fv ps0) (own : w3.ownsRow w.heap.size 42 1 v' (fm.length + 1) (fm ++ [fv])) (G : (wr.alloc o).grownBy w3 v11.ownBlock) (hloc : v'.ownBlock = v11.ownBlock ∨ v'.ownBlock = some (wr.alloc o).heap.size) :
    LS w w3 vi ix vf its h sz fs v10 v' im (fm ++ [fv]) ∧ Good w.heap.size w3 fv ps0 := by
  have g : Fr (fun k => v11.ownBlock = some k) wr w3 := (alloc_frame _ wr o).grown G (fun k hk _ => hk)
  have nm : ∀ k, SFoot w.heap.size vi ix vf k → ¬ v11.ownBlock = some k := fun k hk e => by
    obtain ⟨c, hc⟩ := row_type s.f e
    exact s.S.notFoot hc (by decide) (.inl (by decide)) (by decide) (.inr (s.a2 k e)) hk
  have own2 : w3.ownsRow w.heap.size 42 1 v' (fm ++ [fv]).length (fm ++ [fv]) := by rw [List.length_append]; exact own
  have gd : ∀ {x ps}, Good w.heap.size wr x ps → Good w.heap.size w3 x ps := fun hp => hp.frame g (fun k cs hk e => by
    obtain ⟨c, hc⟩ := row_type s.f e
    rw [hc] at hk; simp at hk)
  refine ⟨⟨s.S.frame g nm, g.row s.m (fun k hk => (rows_apart s.m s.f (by decide) k hk)), own2, s.a1, ?_, ?_, s.below.trans (g.below s.below.size (fun k hk => (s.f.lt k hk).1))⟩, gd hgd⟩
  · intro b hb
    rcases hloc with hl | hl
    · exact s.a2 b (hl.symm.trans hb)
    · intro e
      rw [hl] at hb
      cases hb
      have := (s.S.lt _ (.inr e)).2
      simp at this; omega
  · intro x hx
    simp only [List.mem_append, List.mem_singleton] at hx
    rcases hx with hx | rfl
    · obtain ⟨ps, hp⟩ := s.good x hx
      exact ⟨ps, gd hp⟩
    · exact ⟨ps0, gd hgd⟩

end Go.Proofs.Ybulkdkiu
