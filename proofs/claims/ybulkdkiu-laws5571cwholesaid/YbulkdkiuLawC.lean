/-
  The walk of LawS5571CWhole.
-/
import Derived.Test.YbulkdkiuState
namespace Go.Proofs.Ybulkdkiu
open Go.RowKit Go.Maps
set_option linter.unusedVariables false
set_option linter.unusedSimpArgs false

theorem PS.form {w : World} {f : Value} {ps : List (ByteArray × Int)} (h : PS w f ps) : ∃ ao c, f = .slice ao ps.length c := by
  rcases h with ⟨rfl, rfl⟩ | ⟨ad, n, c, rfl, hn, _⟩
  · exact ⟨none, 0, rfl⟩
  · exact ⟨some ad, c, by rw [hn]⟩

theorem PS.below {w w' : World} {f : Value} {ps : List (ByteArray × Int)} (h : PS w f ps) (hb : Below w.heap.size w w') : PS w' f ps := by
  rcases h with h | ⟨ad, n, c, e, hn, hc⟩
  · exact .inl h
  · exact .inr ⟨ad, n, c, e, hn, fun j v hv => (hb.cell (World.block_lt_of_cell? w _ (hc j v hv))).trans (hc j v hv)⟩

theorem PS.drewN {w : World} {f : Value} {ps : List (ByteArray × Int)} (h : PS w f ps) (n : Nat) : PS (w.drewN n) f ps := h

theorem ceq_quiet {w : World} {f f' : Value} {ps : List (ByteArray × Int)} {a b : Nat} (h : PS w f ps) (h' : PS w f' ps) (hnil : f = .slice none 0 0 ↔ f' = .slice none 0 0) (hbig : ps.length ≤ 1048576) :
    Calls Yba.prog 16 #[f, f'] (w.drewN (a + b)) fun e w'' => e = .returned (.bool true) ∧ ∃ n, w'' = w.drewN (a + n) :=
  (ceq_any (h.drewN (a + b)) (h'.drewN (a + b)) hnil hbig).mono fun _ _ ⟨he, m, hm⟩ => ⟨he, b + m, by rw [hm, World.drewN_drewN, Nat.add_assoc]⟩

theorem later {w w' : World} {a : Addr} {v : Value} (hb : Below w.heap.size w w') (h : w.cell? a = some v) : w'.cell? a = some v :=
  (hb.cell (World.block_lt_of_cell? w a h)).trans h

theorem Good.below {B : Nat} {w w' : World} {f : Value} {ps : List (ByteArray × Int)} (h : Good B w f ps) (hb : Below w.heap.size w w') : Good B w' f ps := h.frame (Fr.ofBelow (S := fun _ => False) hb) (fun _ _ _ => id)

/-- A row of strings as zzs5571chas reads it. -/
theorem row_strs {w : World} {B : Nat} {ao : Option Addr} {n cap : Nat} {xs : List ByteArray} (h : w.ownsRow B 9 1 (.slice ao n cap) n (strs xs)) : 0 < n → ∃ g, ao = some ⟨g, 0, none⟩ ∧ ∀ j u, (strs xs)[j]? = some u → w.cell? ⟨g, j, none⟩ = some u := by
  intro hn
  obtain ⟨g, cap', hv, _, _⟩ := own_form_pos h hn
  cases hv
  refine ⟨g, rfl, fun j u hu => ?_⟩
  have := h.cells (g := g) rfl j u hu
  rwa [Addr.add_lit, Nat.zero_add] at this

theorem addOne_view {its : List ByteArray} {h : ByteArray → Option Nat} (hh : ∀ s, (h s).isSome = hasB its s) (x : ByteArray) : ∀ s, ((addOne (its, h) x).2 s).isSome = hasB (addOne (its, h) x).1 s := by
  intro s
  cases hx : (h x).isSome with
  | true => rw [addOne_has hx]; exact hh s
  | false =>
    rw [addOne_new hx]
    show (if s = x then some its.length else h s : Option Nat).isSome = hasB (its ++ [x]) s
    have e : hasB (its ++ [x]) s = (hasB its s || (x.toList == s.toList)) := by simp [hasB]
    rw [e]
    by_cases es : s = x
    · subst es; simp
    · rw [if_neg es, hh s]
      have : (x.toList == s.toList) = false := by
        rw [beq_eq_false_iff_ne]; intro c; exact es (bytes_toList_inj c).symm
      rw [this, Bool.or_false]

/-- The main loop's state, whole. -/
def MainSt (w wr : World) (k : Nat) (v10 v11 : Value) : Prop :=
  ∃ (vi : Value) (ix : Option (Nat × Nat)) (vf : Value) (its : List ByteArray) (h : ByteArray → Option Nat) (sz : Nat) (fs : List Value), LS w wr vi ix vf its h sz fs v10 v11 its fs ∧ (∀ s, (h s).isSome = hasB its s) ∧ its.length ≤ k ∧ fs.length = its.length ∧ sz ≤ k

theorem mainSt_start (w : World) : MainSt w (w.alloc (.cells #[.slice none 0 0, .pointer none, .slice none 0 0] 53)) 0 (.slice none 0 0) (.slice none 0 0) := by
  refine ⟨.slice none 0 0, none, .slice none 0 0, [], fun _ => none, 0, [], ⟨⟨⟨?_, Nat.le_refl _, World.ownsRow_nil _ _ _ _, fun s hs => by simp at hs, fun _ => ⟨rfl, rfl, rfl, rfl, rfl⟩, fun p hp => by cases hp⟩, World.ownsRow_nil _ _ _ _⟩, World.ownsRow_nil _ _ _ _, World.ownsRow_nil _ _ _ _, fun g hg => by simp [Value.ownBlock] at hg, fun g hg => by simp [Value.ownBlock] at hg, fun x hx => by simp at hx, (Below.refl _ _).alloc (Nat.le_refl _) _⟩, fun s => rfl, Nat.le_refl _, rfl, Nat.le_refl _⟩
  exact heap_alloc_new w _

theorem main_has {w w2 : World} {vi' vf' v10 v11 : Value} {p : Nat × Nat} {its : List ByteArray} {h : ByteArray → Option Nat} {sz' k : Nat} {fs : List Value} {x : ByteArray} {f : Value} (hh : ∀ s, (h s).isSome = hasB its s) (hx : hasB its x = true)
    (s2 : LS w w2 vi' (some p) vf' (addOne (its, h) x).1 (addOne (its, h) x).2 sz' (srcs h x fs f) v10 v11 its fs) (hl1 : its.length ≤ k) (hl2 : fs.length = its.length) (hl3 : sz' ≤ k + 1) : MainSt w w2 (k + 1) v10 v11 := by
  have e : (h x).isSome = true := (hh x).trans hx
  rw [addOne_has e, srcs_has e] at s2
  exact ⟨vi', some p, vf', its, h, sz', fs, s2, hh, by omega, hl2, hl3⟩

theorem main_new {w w2 : World} {vi' vf' v10 v11 : Value} {p : Nat × Nat} {its : List ByteArray} {h : ByteArray → Option Nat} {sz' k : Nat} {fs : List Value} {x : ByteArray} {f : Value} (hh : ∀ s, (h s).isSome = hasB its s) (hx : hasB its x = false)
    (s2 : LS w w2 vi' (some p) vf' (addOne (its, h) x).1 (addOne (its, h) x).2 sz' (srcs h x fs f) v10 v11 (its ++ [x]) (fs ++ [f])) (hl1 : its.length ≤ k) (hl2 : fs.length = its.length) (hl3 : sz' ≤ k + 1) : MainSt w w2 (k + 1) v10 v11 := by
  have e : (h x).isSome = false := (hh x).trans hx
  have hv := addOne_view hh x
  rw [addOne_new e] at s2 hv
  rw [srcs_new e] at s2
  exact ⟨vi', some p, vf', _, _, sz', _, s2, hv, by simp; omega, by simp; omega, hl3⟩

/-- The list's sources and the model's, pair by pair. -/
def Twins (w : World) (fs fm : List Value) : Prop :=
  fs.length = fm.length ∧ ∀ (i : Nat) (a b : Value), fs[i]? = some a → fm[i]? = some b → ∃ ps, PS w a ps ∧ PS w b ps ∧ (a = .slice none 0 0 ↔ b = .slice none 0 0) ∧ ps.length ≤ 1048576

theorem twins_same {B : Nat} {w : World} {fs : List Value} (h : ∀ x ∈ fs, ∃ ps, Good B w x ps) : Twins w fs fs := by
  refine ⟨rfl, fun i a b ha hb => ?_⟩
  rw [ha] at hb
  cases hb
  obtain ⟨ps, hp⟩ := h a (List.mem_of_getElem? ha)
  exact ⟨ps, hp.ps, hp.ps, Iff.rfl, hp.len⟩

theorem twins_snoc {w : World} {fs fm : List Value} {a b : Value} {ps : List (ByteArray × Int)} (h : Twins w fs fm) (ha : PS w a ps) (hb : PS w b ps) (hn : a = .slice none 0 0 ↔ b = .slice none 0 0) (hl : ps.length ≤ 1048576) : Twins w (fs ++ [a]) (fm ++ [b]) := by
  refine ⟨by simp [h.1], fun i x y hx hy => ?_⟩
  by_cases hi : i < fs.length
  · rw [List.getElem?_append_left hi] at hx
    rw [List.getElem?_append_left (by have := h.1; omega)] at hy
    exact h.2 i x y hx hy
  · have hi2 : i = fs.length := by
      have := (List.getElem?_eq_some_iff.1 hx).1
      simp at this; omega
    subst hi2
    rw [List.getElem?_append_right (Nat.le_refl _)] at hx
    rw [h.1, List.getElem?_append_right (Nat.le_refl _)] at hy
    simp at hx hy
    subst hx; subst hy
    exact ⟨ps, ha, hb, hn, hl⟩

/-- What the last loop reads. -/
structure Fin4 (w wx : World) (N : Nat) (aoi ao10 aof ao11 : Option Addr) (capi capf : Nat) : Prop where
  U : ∃ p its h sz, UL wx w.heap.size w.heap.size 53 [.slice aof N capf] (.slice aoi N capi) (some p) its h 0 sz
  small : N ≤ 4097
  below : Below w.heap.size w wx
  at_ : ∀ i, i < N → ∃ gi g10 gf g11 x a b ps, aoi = some ⟨gi, 0, none⟩ ∧ ao10 = some ⟨g10, 0, none⟩ ∧ aof = some ⟨gf, 0, none⟩ ∧ ao11 = some ⟨g11, 0, none⟩ ∧ wx.cell? ⟨gi, i, none⟩ = some (.string x) ∧ wx.cell? ⟨g10, i, none⟩ = some (.string x) ∧
    wx.cell? ⟨gf, i, none⟩ = some a ∧ wx.cell? ⟨g11, i, none⟩ = some b ∧ PS wx a ps ∧ PS wx b ps ∧ (a = .slice none 0 0 ↔ b = .slice none 0 0) ∧ ps.length ≤ 1048576

theorem own_at {w : World} {B : Nat} {e : TypeId} {v : Value} {n : Nat} {xs : List Value} (h : w.ownsRow B e 1 v n xs) {i : Nat} {u : Value} (hu : xs[i]? = some u) : ∃ g cap, v = .slice (some ⟨g, 0, none⟩) n cap ∧ w.cell? ⟨g, i, none⟩ = some u := by
  have hl := h.1
  have hi := (List.getElem?_eq_some_iff.1 hu).1
  obtain ⟨g, cap, hv, _, _⟩ := own_form_pos h (by omega)
  refine ⟨g, cap, hv, ?_⟩
  have := h.cells (g := g) (by rw [hv]; rfl) i u hu
  rwa [Addr.add_lit, Nat.zero_add] at this

theorem fin4_of {w wx : World} {vi vf : Value} {ao10 ao11 : Option Addr} {N cap10 cap11 : Nat} {p : Nat × Nat} {its : List ByteArray} {h : ByteArray → Option Nat} {sz : Nat} {fs fm : List Value} (s : LS w wx vi (some p) vf its h sz fs (.slice ao10 N cap10) (.slice ao11 N cap11) its fm) (t : Twins wx fs fm) (hN : its.length = N) (hl : fs.length = N) (hs : N ≤ 4097) :
    ∃ aoi aof capi capf, Fin4 w wx N aoi ao10 aof ao11 capi capf := by
  have hl2 : fm.length = N := t.1.symm.trans hl
  have R := s.S.R
  have F := s.f
  have M := s.m
  have O := s.S.U.own
  rw [hl] at R
  rw [hl2] at F
  rw [hN] at M O
  obtain ⟨aoi, capi, hvi⟩ := own_form O
  obtain ⟨aof, capf, hvf⟩ := own_form R
  refine ⟨aoi, aof, capi, capf, ⟨⟨p, its, h, sz, ?_⟩, hs, s.below, fun i hi => ?_⟩⟩
  · have := s.S.U; rw [hvi, hvf] at this; exact this
  · obtain ⟨x, hx⟩ : ∃ x, its[i]? = some x := ⟨_, List.getElem?_eq_getElem (by omega)⟩
    obtain ⟨a, ha⟩ : ∃ a, fs[i]? = some a := ⟨_, List.getElem?_eq_getElem (by omega)⟩
    obtain ⟨b, hb⟩ : ∃ b, fm[i]? = some b := ⟨_, List.getElem?_eq_getElem (by omega)⟩
    obtain ⟨ps, h1, h2, h3, h4⟩ := t.2 i a b ha hb
    obtain ⟨gi, _, e1, c1⟩ := own_at O (strs_get hx)
    obtain ⟨g10, _, e2, c2⟩ := own_at M (strs_get hx)
    obtain ⟨gf, _, e3, c3⟩ := own_at R ha
    obtain ⟨g11, _, e4, c4⟩ := own_at F hb
    rw [hvi] at e1; rw [hvf] at e3
    cases e1; cases e2; cases e3; cases e4
    exact ⟨gi, g10, gf, g11, x, a, b, ps, rfl, rfl, rfl, rfl, c1, c2, c3, c4, h1, h2, h3, h4⟩

set_option maxRecDepth 100000 in
set_option maxHeartbeats 4000000 in
theorem lawC_main (a0 : Option Addr) (len cap : Nat) (V : Nat → ByteArray) (Fv : Nat → Value) (Ps : Nat → List (ByteArray × Int)) (y : ByteArray) (af : Option Addr) (nf cf : Nat) (ps : List (ByteArray × Int)) (w : World) (hlen : len ≤ 4096)
    (hV : ∀ i, i < len → (V i).size ≤ maxLen)
    (ha : 0 < len → ∃ b o, a0 = some ⟨b, o, none⟩ ∧ ∀ i, i < len → w.cell? ⟨b, o + i * 2, none⟩ = some (.string (V i)) ∧ w.cell? ⟨b, o + i * 2 + 1, none⟩ = some (Fv i))
    (hps : ∀ i, i < len → PS w (Fv i) (Ps i)) (hbd : ∀ i, i < len → (Ps i).length ≤ 8796093022208) (hy : y.size ≤ maxLen) (hf : PS w (.slice af nf cf) ps) (hfn : ps.length = nf) (hfl : nf ≤ 1048576) :
    Calls Yba.prog 4 #[.slice a0 len cap, .string y, .slice af nf cf] w fun e w' => e = .returned (.bool true) ∧ Below w.heap.size w w' := by
  have hnot : ∀ (x : Bool) (w : World), (Op.unary .not (.bool x)).run Yba.prog w = .ok (.bool (!x)) w := fun _ _ => rfl
  go_enter Yba.func4, Yba.ntmps4
  go_wp2_with fail
  go_loop [7, 8] (fun t i => ∃ (k : Nat) (s : Nat), k ≤ len ∧ i = .int .i64 k ∧ t = .int .i64 (s : Int) ∧ s ≤ 1048576 ∧ ∀ j, j < k → (Ps j).length ≤ 1048576) (fun _ i => len - (intOf i).toNat)
  case atStart => exact ⟨0, 0, Nat.zero_le _, rfl, rfl, by omega, fun j hj => by omega⟩
  case round =>
    obtain ⟨k, s, hk, rfl, rfl, hs, hsm⟩ := hrel
    by_cases hlt : k < len
    · obtain ⟨b, o, hae, hc⟩ := ha (by omega)
      subst hae
      obtain ⟨ao, c, hfe⟩ := (hps k hlt).form
      have c1 := (hc k hlt).2
      rw [hfe] at c1
      have hbk := hbd k hlt
      clear hc hfe
      generalize hpl : (Ps k).length = n at *
      have HPL : Hid ((Ps k).length = n) := hpl
      clear hpl
      by_cases hbig : 1048576 < s + n
      · go_wp2_with fail
        go_ret
        exact ⟨rfl, Below.refl _ _⟩
      · go_wp2_with fail
        go_round
        case rel => exact ⟨k + 1, s + n, by omega, by go_num, by go_num, by omega, fun j hj => by
            by_cases hjk : j < k
            · exact hsm j hjk
            · obtain rfl : j = k := by omega
              rw [HPL.out]; omega⟩
        case measure => simp [intOf]; omega
    · have hall : ∀ j, j < len → (Ps j).length ≤ 1048576 := fun j hj => hsm j (by omega)
      clear hsm
      go_wp2_with fail
      obtain ⟨i9, hi9, hz90, hz91, hz92⟩ := info_parts info9
      obtain ⟨i42, hi42, hz420, hz421, hz422⟩ := info_parts info42
      go_loopw [10, 11, 12] (fun v10 v11 i wr => ∃ k : Nat, k ≤ len ∧ i = .int .i64 k ∧ MainSt w wr k v10 v11) (fun _ _ i _ => len - (intOf i).toNat)
      case atStart => exact ⟨0, Nat.zero_le _, rfl, mainSt_start w⟩
      case round =>
        obtain ⟨k, hk, rfl, vi, ix, vf, its, h, sz, fs, s, hh, hl1, hl2, hl3⟩ := hrel
        obtain ⟨ao10, cap10, hv10⟩ := own_form s.m
        have sf := s.f
        rw [hl2] at sf
        obtain ⟨ao11, cap11, hv11⟩ := own_form sf
        clear sf
        have HL2 : Hid (fs.length = its.length) := hl2
        have hl2' : fs.length ≤ its.length := by omega
        clear hl2
        subst hv10
        subst hv11
        by_cases hlt : k < len
        · obtain ⟨b, o, hae, hc⟩ := ha (by omega)
          subst hae
          have pk := (hps k hlt).below s.below
          obtain ⟨ao, c, hfe⟩ := pk.form
          have c0 := later s.below (hc k hlt).1
          have c1 := later s.below (hc k hlt).2
          have hVk := hV k hlt
          rw [hfe] at c1 pk
          have hak := hall k hlt
          clear hfe
          go_wp2_with fail
          refine (ccopy_any pk hak s.below.size).mono ?_
          rintro e w1 ⟨ao1, n1, c1', rfl, gd, _, hb1⟩
          have s1 := s.grow hb1
          have c01 := later s1.below (hc k hlt).1
          go_wp2_with fail
          refine (sadd_any s1.S s1.below.size (V k) hVk ao1 n1 c1' (by omega) (by omega) (by omega)).mono ?_
          rintro e w2 ⟨rfl, hP⟩
          obtain ⟨vi', p, vf', sz', s2, hsz, hgd⟩ := s1.sadd hP
          have gd2 := hgd _ _ gd
          have c02 := later s2.below (hc k hlt).1
          go_wp2_with fail
          refine (chas_any ao10 cap10 its.length its (V k) w2 rfl (by omega) (row_strs s2.m)).mono ?_
          rintro e w3 ⟨rfl, hw3⟩
          rw [hw3]
          clear hw3 hP hgd s1 s gd c0 c1 c01
          cases hx : hasB its (V k) with
          | true =>
            have M := main_has hh hx s2 hl1 HL2.out (by omega)
            clear hx s2 hh gd2
            go_wp2_with fail
            go_roundw
            case rel => exact ⟨k + 1, by omega, by go_num, M⟩
            case measure => simp [intOf]; omega
          | false =>
            have HX : Hid (hasB its (V k) = false) := hx
            clear hx
            have tok1 : True := trivial
            have tok2 : True := trivial
            have hB2 := s2.below.size
            go_wp2_with (first | (at_builtin; have _t := tok1; refine wpList_append_own_at _ rfl (.tmp 68) (.tmp 74) 25 rfl w.heap.size 9 i9 (.string ByteArray.empty) 1 16 Yba.underlying25 hi9 hz90 hz91 hz92 rfl (by decide) _ _ _ rfl (s2.m.alloc _) ⟨w2.heap.size, 0, none⟩ 1 1 (strs [V k]) rfl rfl (cell_one9 w2 (V k)) (strs_one _) (by unfold maxLen; omega) (by omega) (by simp; omega) ?_; intro v4 w4 own4 G4 _ hloc4; clear tok1; obtain ⟨s4, hgd4⟩ := s2.app1 own4 G4 hloc4; have gd4 := hgd4 _ _ gd2; have hB4 := s4.below.size; obtain ⟨ao4, cap4, hv4⟩ := own_form own4; subst hv4; clear s2 gd2 hgd4 own4 G4 hloc4) | (at_builtin; have _t := tok2; refine wpList_append_own_at _ rfl (.tmp 76) (.tmp 78) 41 rfl w.heap.size 42 i42 (.slice none 0 0) 1 24 Yba.underlying41 hi42 hz420 hz421 hz422 rfl (by decide) _ _ _ rfl (s4.f.alloc _) ⟨w4.heap.size, 0, none⟩ 1 1 [.slice ao1 n1 c1'] rfl rfl (cell_one42 w4 _) (by intro u hu; simp at hu; subst hu; rfl) (by unfold maxLen; omega) (by omega) (by simp; omega) ?_; intro v5 w5 own5 G5 _ hloc5; clear tok2; obtain ⟨s5, _⟩ := s4.app2 gd4 own5 G5 hloc5; clear s4 gd4 own5 G5 hloc5))
            have M := main_new hh HX.out s5 hl1 HL2.out (by omega)
            go_roundw
            case rel => exact ⟨k + 1, by omega, by go_num, M⟩
            case measure => simp [intOf]; omega
        · clear ha hV hps hbd hall
          have pf := hf.below s.below
          go_wp2_with fail
          refine (ccopy_any pf (by omega) s.below.size).mono ?_
          rintro e w1 ⟨aoc, nc, cc, rfl, gd, hnil, hb1⟩
          have s1 := s.grow hb1
          go_wp2_with fail
          refine (sadd_any s1.S s1.below.size y hy af nf cf (by omega) (by omega) (by omega)).mono ?_
          rintro e w2 ⟨rfl, hP⟩
          obtain ⟨vi', p, vf', sz', s2, hsz, hgd⟩ := s1.sadd hP
          have gd2 := hgd _ _ gd
          go_wp2_with fail
          refine (chas_any ao10 cap10 its.length its y w2 rfl (by omega) (row_strs s2.m)).mono ?_
          rintro e w3 ⟨rfl, hw3⟩
          rw [hw3]
          have HNIL : Hid (Value.slice aoc nc cc = .slice none 0 0 ↔ Value.slice af nf cf = .slice none 0 0) := hnil
          clear hw3 hP hgd s1 s gd pf hnil
          cases hx : hasB its y with
          | true =>
            have e := (hh y).trans hx
            rw [addOne_has e, srcs_has e] at s2
            have TW := twins_same s2.good
            have HLEN := HL2.out
            clear hx hh e
            have hsm : its.length ≤ 4097 := by omega
            have pf := hf.below s2.below
            go_wp2_with fail
            refine (ceq_any pf gd2.ps HNIL.out.symm (by omega)).mono ?_
            rintro e w4 ⟨rfl, q, rfl⟩
            obtain ⟨aoi, aof, capi, capf, FF⟩ := fin4_of s2 TW rfl HLEN hsm
            clear s2 TW HLEN gd2 pf
            go_wp2_with fail
            obtain ⟨pX, itsX, hX, szX, UX⟩ := FF.U
            have UX2 := UX.frame ((Fr.refl (fun _ => False) _).drewN q) (fun _ _ => id)
            refine (items_clean UX2).mono ?_
            rintro e w6 ⟨rfl, hw6⟩
            rw [hw6]
            have cF : w2.cell? ⟨w.heap.size, 2, none⟩ = some (.slice aof its.length capf) := by
              rw [cell_of_row w2 w.heap.size 2 _ 53 (0, 0) UX.blk]; rfl
            clear hw6 UX UX2
            have hNs := FF.small
            go_wp2_with fail
            go_loopw [16] (fun i wy => ∃ k q : Nat, k ≤ its.length ∧ i = .int .i64 k ∧ wy = w2.drewN q) (fun i _ => its.length - (intOf i).toNat)
            case atStart => exact ⟨0, q, Nat.zero_le _, rfl, rfl⟩
            case round =>
              obtain ⟨j, r, hj, rfl, rfl⟩ := hrel
              by_cases hjl : j < its.length
              · obtain ⟨gi, g10, gf, g11, x, a, b, qs, e1, e2, e3, e4, d1, d2, d3, d4, p1, p2, p3, p4⟩ := FF.at_ j hjl
                obtain ⟨aa, ca, hfa⟩ := p1.form
                obtain ⟨ab, cb, hfb⟩ := p2.form
                subst e1 e2 e3 e4 hfa hfb
                have hjl' : (j : Int) < (its.length : Int) := by omega
                have hself := beq_self_bytes x
                have HP : Hid (PS w2 (.slice aa qs.length ca) qs ∧ PS w2 (.slice ab qs.length cb) qs ∧ (Value.slice aa qs.length ca = .slice none 0 0 ↔ Value.slice ab qs.length cb = .slice none 0 0)) := ⟨p1, p2, p3⟩
                clear p1 p2 p3
                go_wp2
                go_quiet (fail)
                go_wp2
                go_quiet ((go_at_call 16; go_must (exact ceq_quiet HP.out.1 HP.out.2.1 HP.out.2.2 p4)))
                go_wp2
                go_roundw
                case rel => exact ⟨j + 1, _, by omega, by go_num, rfl⟩
                case measure => simp [intOf]; omega
              · go_wp2
                go_ret
                exact ⟨rfl, below_drewN FF.below r⟩
          | false =>
            have HX : Hid (hasB its y = false) := hx
            clear hx
            have tok1 : True := trivial
            have tok2 : True := trivial
            have hB2 := s2.below.size
            go_wp2_with (first | (at_builtin; have _t := tok1; refine wpList_append_own_at _ rfl (.tmp 89) (.tmp 91) 25 rfl w.heap.size 9 i9 (.string ByteArray.empty) 1 16 Yba.underlying25 hi9 hz90 hz91 hz92 rfl (by decide) _ _ _ rfl (s2.m.alloc _) ⟨w2.heap.size, 0, none⟩ 1 1 (strs [y]) rfl rfl (cell_one9 w2 y) (strs_one _) (by unfold maxLen; omega) (by omega) (by simp; omega) ?_; intro v4 w4 own4 G4 _ hloc4; clear tok1; obtain ⟨s4, hgd4⟩ := s2.app1 own4 G4 hloc4; have gd4 := hgd4 _ _ gd2; have hB4 := s4.below.size; obtain ⟨ao4, cap4, hv4⟩ := own_form own4; subst hv4; clear s2 gd2 hgd4 own4 G4 hloc4) | (at_builtin; have _t := tok2; refine wpList_append_own_at _ rfl (.tmp 93) (.tmp 95) 41 rfl w.heap.size 42 i42 (.slice none 0 0) 1 24 Yba.underlying41 hi42 hz420 hz421 hz422 rfl (by decide) _ _ _ rfl (s4.f.alloc _) ⟨w4.heap.size, 0, none⟩ 1 1 [.slice aoc nc cc] rfl rfl (cell_one42 w4 _) (by intro u hu; simp at hu; subst hu; rfl) (by unfold maxLen; omega) (by omega) (by simp; omega) ?_; intro v5 w5 own5 G5 _ hloc5; clear tok2; obtain ⟨s5, gd5⟩ := s4.app2 gd4 own5 G5 hloc5; rw [HL2.out] at own5; obtain ⟨ao5, cap5, hv5⟩ := own_form own5; subst hv5; clear s4 gd4 own5 G5 hloc5))
            have e := (hh y).trans HX.out
            rw [addOne_new e, srcs_new e] at s5
            have pf := hf.below s5.below
            have TW : Twins w5 (fs ++ [.slice af nf cf]) (fs ++ [.slice aoc nc cc]) := twins_snoc (twins_same (fun x hx => s5.good x (by simp [hx]))) pf gd5.ps HNIL.out.symm (by omega)
            clear e hh
            refine (ceq_any pf gd5.ps HNIL.out.symm (by omega)).mono ?_
            rintro e w6 ⟨rfl, q, rfl⟩
            obtain ⟨aoi, aof, capi, capf, FF⟩ := fin4_of s5 TW (N := its.length + 1) (by simp) (by have := HL2.out; simp; omega) (by omega)
            clear s5 TW gd5 pf
            go_wp2_with fail
            obtain ⟨pX, itsX, hX, szX, UX⟩ := FF.U
            have UX2 := UX.frame ((Fr.refl (fun _ => False) _).drewN q) (fun _ _ => id)
            refine (items_clean UX2).mono ?_
            rintro e w6 ⟨rfl, hw6⟩
            rw [hw6]
            have cF : w5.cell? ⟨w.heap.size, 2, none⟩ = some (.slice aof (its.length + 1) capf) := by
              rw [cell_of_row w5 w.heap.size 2 _ 53 (0, 0) UX.blk]; rfl
            clear hw6 UX UX2
            have hNs := FF.small
            go_wp2_with fail
            go_loopw [16] (fun i wy => ∃ k q : Nat, k ≤ (its.length + 1) ∧ i = .int .i64 k ∧ wy = w5.drewN q) (fun i _ => (its.length + 1) - (intOf i).toNat)
            case atStart => exact ⟨0, q, Nat.zero_le _, rfl, rfl⟩
            case round =>
              obtain ⟨j, r, hj, rfl, rfl⟩ := hrel
              by_cases hjl : j < (its.length + 1)
              · obtain ⟨gi, g10, gf, g11, x, a, b, qs, e1, e2, e3, e4, d1, d2, d3, d4, p1, p2, p3, p4⟩ := FF.at_ j hjl
                obtain ⟨aa, ca, hfa⟩ := p1.form
                obtain ⟨ab, cb, hfb⟩ := p2.form
                subst e1 e2 e3 e4 hfa hfb
                have hjl' : (j : Int) < ((its.length + 1) : Int) := by omega
                have hself := beq_self_bytes x
                have HP : Hid (PS w5 (.slice aa qs.length ca) qs ∧ PS w5 (.slice ab qs.length cb) qs ∧ (Value.slice aa qs.length ca = .slice none 0 0 ↔ Value.slice ab qs.length cb = .slice none 0 0)) := ⟨p1, p2, p3⟩
                clear p1 p2 p3
                go_wp2
                go_quiet (fail)
                go_wp2
                go_quiet ((go_at_call 16; go_must (exact ceq_quiet HP.out.1 HP.out.2.1 HP.out.2.2 p4)))
                go_wp2
                go_roundw
                case rel => exact ⟨j + 1, _, by omega, by go_num, rfl⟩
                case measure => simp [intOf]; omega
              · go_wp2
                go_ret
                exact ⟨rfl, below_drewN FF.below r⟩

end Go.Proofs.Ybulkdkiu
