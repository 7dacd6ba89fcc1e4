/-
  The proof of 'Rows.LawS5571CWholeSaid'.
-/
import Derived.Test.YbulkdkiuOpen
import Derived.OpenShut
import Derived.ShutString
import Derived.ChangeOld
namespace Go.Proofs.Ybulkdkiu.lawS5571CWhole
open Go.ChangeShapes Go.WideShapes Go.ChangeAt Go.RowKit Go.Deep
open Go.ChangeMaps (open_string shut_string)
set_option linter.unusedVariables false
set_option linter.unusedSimpArgs false

theorem own : ownKnob Yba.prog.godebug = none := by kernel_rfl
theorem laidOut : laidOutB Yba.prog = true := by kernel_rfl

theorem weightsAll_mem {H : Type} {P : Program} {e : TypeId} : ∀ {l : List (DataW H)} {d : DataW H}, d ∈ l → ∀ n ∈ d.weights P e, n ∈ DataW.weightsAll P e l
  | d' :: r, d, hd, n, hn => by
    simp only [DataW.weightsAll, List.mem_append]
    rcases List.mem_cons.1 hd with rfl | hd
    · exact Or.inl hn
    · exact Or.inr (weightsAll_mem hd n hn)

/-- What the walk is told of the steps. -/
structure Steps (W : World) (a0 : Option Addr) (len : Nat) (V : Nat → ByteArray) (Fv : Nat → Value) (Ps : Nat → List (ByteArray × Int)) : Prop where
  hV : ∀ i, i < len → (V i).size ≤ maxLen
  ha : 0 < len → ∃ b o, a0 = some ⟨b, o, none⟩ ∧ ∀ i, i < len → W.cell? ⟨b, o + i * 2, none⟩ = some (.string (V i)) ∧ W.cell? ⟨b, o + i * 2 + 1, none⟩ = some (Fv i)
  hps : ∀ i, i < len → PS W (Fv i) (Ps i)
  hbd : ∀ i, i < len → (Ps i).length ≤ 8796093022208

set_option maxHeartbeats 400000 in
theorem law_long (a0 : Option Addr) (len cap : Nat) (y : ByteArray) (af : Option Addr) (nf cf : Nat) (w : World) (h : 4096 < len ∨ (len ≤ 4096 ∧ 1048576 < nf)) (hm : len ≤ 9223372036854775807) (hm2 : nf ≤ 9223372036854775807) :
    Calls Yba.prog 4 #[.slice a0 len cap, .string y, .slice af nf cf] w fun e w' => e = .returned (.bool true) ∧ Below w.heap.size w w' := by
  rcases h with h | ⟨h, h2⟩
  · have t1 : decide ((4096 : Int) < (len : Int)) = true := by simp; omega
    go_enter Yba.func4, Yba.ntmps4
    go_wp2
    go_ret
    exact ⟨rfl, Below.refl _ _⟩
  · have t1 : decide ((4096 : Int) < (len : Int)) = false := by simp; omega
    have t2 : decide ((1048576 : Int) < (nf : Int)) = true := by simp; omega
    go_enter Yba.func4, Yba.ntmps4
    go_wp2
    go_ret
    exact ⟨rfl, Below.refl _ _⟩

theorem walk (a0 : Option Addr) (len cap : Nat) (V : Nat → ByteArray) (Fv : Nat → Value) (Ps : Nat → List (ByteArray × Int)) (y : ByteArray) (af : Option Addr) (nf cf : Nat) (ps : List (ByteArray × Int)) (w : World)
    (S : Steps w a0 len V Fv Ps) (hm : len ≤ maxLen) (hy : y.size ≤ maxLen) (hf : PS w (.slice af nf cf) ps) (hm2 : ps.length ≤ maxLen) :
    Calls Yba.prog 4 #[.slice a0 len cap, .string y, .slice af nf cf] w fun e w' => e = .returned (.bool true) ∧ Below w.heap.size w w' := by
  have hn : ps.length = nf := by
    obtain ⟨ao, c, e⟩ := hf.form
    cases e
    rfl
  unfold maxLen at hm hm2
  by_cases h1 : 4096 < len
  · exact law_long _ _ _ _ _ _ _ w (.inl h1) (by omega) (by omega)
  · by_cases h2 : 1048576 < nf
    · exact law_long _ _ _ _ _ _ _ w (.inr ⟨by omega, h2⟩) (by omega) (by omega)
    · exact lawC_main a0 len cap V Fv Ps y af nf cf ps w (by omega) S.hV S.ha S.hps S.hbd hy hf hn (by omega)

set_option maxRecDepth 100000 in
set_option maxHeartbeats 1600000 in
theorem lifted (os : Os) (started : os.Started) (H : Type) (enc : TypeId × Value → H) :
    ReturnsInHanded {} Yba.checked os 4 .any (Rows.lawS5571CWholeSpec.pre6 enc Yba.prog Yba.f4 Rows.lawS5571CWholeRow.domain false) (Rows.lawS5571CWholeSpec.post enc Yba.prog Yba.f4 false true false false) := by
  refine returnsInHanded_of_change_sized (C := Yba.checked) own started (by kernel_rfl) Yba.func4
    (ChangeSpec.witness6 (enc := enc) (C := Yba.checked) false ⟨#[], #[.slice none 0 0, .string ByteArray.empty, .slice none 0 0], []⟩ 8 (by kernel_rfl) (by kernel_rfl) (by kernel_rfl) (by kernel_rfl)) ?_
  intro W base args ds gs before hval0 hW hcnd hsz0 _
  have hsz : (DataW.weightsEach Yba.prog (Yba.f4.params.toList ++ Rows.lawS5571CWholeSpec.plain.varTypes Yba.prog) (ds ++ gs)).all (· ≤ reachBytes) = true := hsz0
  clear hsz0
  have hval : ∀ (j : Nat) t v, Yba.f4.params[j]? = some t → args[j]? = some v → Value.okWide Yba.prog W .any base t v := hval0
  have hW' := hW
  obtain ⟨p, q, hA0, hV, rfl, hfz, hnd⟩ := hW
  have hA : DataW.TrodAll enc Yba.prog W 0 (fun _ => true) true Yba.f4.params.toList args.toList ds p := hA0
  rw [Yba.params4] at hA hval hsz
  obtain ⟨v0, vs0, d0, ds0, p0, q0, hargs, rfl, rfl, h0, r0⟩ := trodAll_cons hA
  obtain ⟨v1, vs1, d1, ds1, p1, q1, rfl, rfl, rfl, h1, r1⟩ := trodAll_cons r0
  obtain ⟨v2, vs2, d2, ds2, p2, q2, rfl, rfl, rfl, h2, r2⟩ := trodAll_cons r1
  obtain ⟨rfl, rfl, rfl⟩ := trodAll_nil r2
  obtain rfl : args = #[v0, v1, v2] := by cases args; simp_all
  obtain ⟨rfl, rfl⟩ := trodVars_none hV
  obtain ⟨a0, len0, cap0, rfl⟩ := okWide_slice Yba.underlying49 (hval 0 49 v0 rfl rfl)
  have k0 := h0
  have lt0 : ∀ x ∈ p0, x.block < W.heap.size := by obtain ⟨m, hm⟩ := k0; exact DataW.trod_lt m _ _ _ hm
  obtain ⟨s, rfl, rfl, rfl, hs⟩ := open_string Yba.underlying9 (hval 1 9 v1 rfl rfl) h1
  obtain ⟨a2, len2, cap2, rfl⟩ := okWide_slice Yba.underlying42 (hval 2 42 v2 rfl rfl)
  have k2 := h2
  have lt2 : ∀ x ∈ p2, x.block < W.heap.size := by obtain ⟨m, hm⟩ := k2; exact DataW.trod_lt m _ _ _ hm
  obtain ⟨ps, hps, hpl, _⟩ : ∃ ps, PS W (.slice a2 len2 cap2) ps ∧ ps.length ≤ maxLen ∧ True := by
    obtain ⟨fuel, hf⟩ := h2
    obtain ⟨ps, a, b, _⟩ := open_places (v := .slice a2 len2 cap2) (by simpa [Value.cells] using hf)
    exact ⟨ps, a, b, trivial⟩
  obtain ⟨V, Fv, Ps, S, hlen⟩ : ∃ V Fv Ps, Steps W a0 len0 V Fv Ps ∧ len0 ≤ maxLen := by
    obtain ⟨fuel, hf⟩ := h0
    rcases open_slice_pairs Yba.underlying49 Yba.underlying51 cells51 rfl rfl cells9 cells42 hf with ⟨hcs, _⟩ | ⟨a, len, cap, m, n, V0, V1, D0, D1, P0, P1, hcs, _, hl, hm, hmm, hx0, hx⟩
    · simp [Value.cells] at hcs
      obtain ⟨rfl, rfl, rfl⟩ := hcs
      exact ⟨fun _ => ByteArray.empty, fun _ => .slice none 0 0, fun _ => [], ⟨fun i h => by omega, fun h => by omega, fun i h => by omega, fun i h => by omega⟩, Nat.zero_le _⟩
    · simp [Value.cells] at hcs
      obtain ⟨rfl, rfl, rfl⟩ := hcs
      have hlm : len0 ≤ m := by rw [hmm]; split <;> omega
      have hd0 : d0 = .slice ((List.range len0).map fun i => .agg [D0 i, D1 i]) ((List.range (m - len0)).map fun j => .agg [D0 (len0 + j), D1 (len0 + j)]) := congrArg Prod.fst hx0
      obtain ⟨f, hf2⟩ := choose_lt (α := ByteArray × List (ByteArray × Int)) (n := len0) (p := fun i y => W.cell? (a.add (i * 2)) = some (.string y.1) ∧ y.1.size ≤ maxLen ∧ PS W (V1 i) y.2 ∧ y.2.length ≤ 8796093022208) (fun i hi => by
        obtain ⟨c0, c1, t0, t1⟩ := hx i (by omega)
        obtain ⟨y, e0, _, hys⟩ := DataW.trod_string Yba.underlying9 t0
        obtain ⟨qs, hq1, hq2, hq3⟩ := open_places t1
        simp at e0
        refine ⟨(y, qs), by rw [c0, e0], hys, hq1, ?_⟩
        rcases hq3 with rfl | ⟨el, sp, he, hel⟩
        · simp
        · have hmem : (el.length + sp.length) * Yba.prog.bytesOf 36 ≤ reachBytes := by
            refine of_decide_eq_true (List.all_eq_true.1 hsz _ (DataW.weights_mem_each (j := 0) (t := 49) (d := d0) rfl rfl _ ?_))
            rw [hd0]
            simp only [DataW.weights, Yba.underlying49, List.mem_cons, List.mem_append]
            refine Or.inr (Or.inl (weightsAll_mem (d := .agg [D0 i, D1 i]) (List.mem_map.2 ⟨i, List.mem_range.2 hi, rfl⟩) _ ?_))
            simp only at he
            rw [he]
            simp [DataW.weights, DataW.weightsEach, Yba.underlying51, Yba.underlying42]
          rw [bytes36] at hmem
          simp only [reachBytes] at hmem
          show qs.length ≤ _
          omega)
      refine ⟨fun i => (f i).1, V1, fun i => (f i).2, ⟨fun i hi => (hf2 i hi).2.1, fun hpos => ?_, fun i hi => (hf2 i hi).2.2.1, fun i hi => (hf2 i hi).2.2.2⟩, by omega⟩
      obtain ⟨b, o, sp⟩ := a
      have hsp : sp = none := by
        have := World.cell?_spot (hf2 0 hpos).1
        simpa [Addr.add] using this
      subst hsp
      refine ⟨b, o, rfl, fun i hi => ?_⟩
      have c0 := (hf2 i hi).1
      have c1 := (hx i (by omega)).2.1
      rw [Addr.add_lit] at c0 c1
      rw [← Nat.add_assoc] at c1
      exact ⟨c0, c1⟩
  clear hA0 hval0
  refine (walk a0 len0 cap0 V Fv Ps s a2 len2 cap2 ps W S hlen hs hps hpl).mono fun e W' ⟨he, bel⟩ => ?_
  subst he
  exact ⟨_, rfl, _, _, _, [], _, [], hW', trodAll_mk1 (shut_bool Yba.underlying4 _), (trodAll_cons_mk (Below.trod laidOut (by kernel_rfl) (of_decide_eq_true (by kernel_rfl)) k0 bel lt0) (trodAll_cons_mk (shut_string Yba.underlying9 hs) (trodAll_cons_mk (Below.trod laidOut (by kernel_rfl) (of_decide_eq_true (by kernel_rfl)) k2 bel lt2) trodAll_mk0))), rfl, bel.frame _, fun h => by cases h⟩

theorem over : Rows.lawS5571CWholeRow.holds Yba.pinned (OpenSpec.ofChange Rows.lawS5571CWholeSpec) :=
  OpenClaim.holds_of_wide 4 Yba.f4 rfl rfl rfl rfl rfl rfl rfl ⟨rfl, rfl, rfl, rfl, rfl⟩ rfl rfl rfl rfl rfl (by kernel_rfl) Yba.func4 (by kernel_rfl)
    (of_decide_eq_true (by kernel_rfl)) (by unfold Func.isWrapper; first | (rw [if_pos (by decide +kernel)]; kernel_rfl) | (rw [if_neg (by decide +kernel)]; exact ⟨rfl, rfl⟩))
    (fun os started H enc _ => lifted os started H enc)

/-- ████ THE STATEMENT ████ -/
theorem proved : Rows.LawS5571CWholeSaid := over
#print axioms proved
end Go.Proofs.Ybulkdkiu.lawS5571CWhole
