/-
  The proof of 'Rows.LawS5572AWholeSaid'.
-/
import Derived.Test.YbulkdkjiRows
import Derived.Test.YbulkdkjiLaw
import Derived.ProofKit
import Derived.SizedLaws
import Derived.Deep.SlicePairs
import Derived.OpenShut
import Derived.ShutString
import Derived.ChangeOld
namespace Go.Proofs.Ybulkdkji.lawS5572AWhole
open Go.ChangeShapes Go.WideShapes Go.ChangeAt Go.RowKit Go.Deep
open Go.ChangeMaps (open_string shut_string)
set_option linter.unusedVariables false
set_option linter.unusedSimpArgs false

theorem own : ownKnob Yba.prog.godebug = none := by kernel_rfl
theorem cells54 : Yba.prog.cellsOf 54 = 2 := by kernel_rfl
theorem cells4 : Yba.prog.cellsOf 4 = 1 := by kernel_rfl
theorem cells3 : Yba.prog.cellsOf 3 = 1 := by kernel_rfl
theorem bytes5 : Yba.prog.bytesOf 5 = 1 := by kernel_rfl
theorem bytes54 : Yba.prog.bytesOf 54 = 16 := by kernel_rfl

/-- A byte, by its number. -/
theorem byte_nat {z : Int} (h : (Lit.int .u8 z).wf = true) : ∃ n : Nat, z = (n : Int) ∧ n ≤ 255 := by
  have := bounds_u8 h
  exact ⟨z.toNat, by omega, by omega⟩

/-- What the walk is told of the selection. -/
structure Sel (W : World) (a : Option Addr) (len : Nat) (A : Nat → Nat) : Prop where
  lt : ∀ i, A i < 256
  at_ : 0 < len → ∃ b o, a = some ⟨b, o, none⟩ ∧ ∀ i, i < len → W.cell? ⟨b, o + i, none⟩ = some (.int .u8 (A i : Int))
/-- .. of the ops. -/
structure Ops (W : World) (a : Option Addr) (len : Nat) (sk : Nat → Bool) (nn : Nat → Int) : Prop where
  bd : ∀ i, -9223372036854775808 ≤ nn i ∧ nn i ≤ 9223372036854775807
  at_ : 0 < len → ∃ b o, a = some ⟨b, o, none⟩ ∧ ∀ i, i < len → W.cell? ⟨b, o + i * 2, none⟩ = some (.bool (sk i)) ∧ W.cell? ⟨b, o + i * 2 + 1, none⟩ = some (.int .i64 (nn i))

set_option maxRecDepth 100000 in
set_option maxHeartbeats 1600000 in
theorem lifted (os : Os) (started : os.Started) (H : Type) (enc : TypeId × Value → H) :
    ReturnsInHanded {} Yba.checked os 3 .any (Rows.lawS5572AWholeSpec.pre6 enc Yba.prog Yba.f3 Rows.lawS5572AWholeRow.domain false) (Rows.lawS5572AWholeSpec.post enc Yba.prog Yba.f3 false true false false) := by
  refine returnsInHanded_of_change_sized (C := Yba.checked) own started (by kernel_rfl) Yba.func3
    (ChangeSpec.witness6 (enc := enc) (C := Yba.checked) false ⟨#[], #[.int .u8 0, .bool false, .slice none 0 0, .slice none 0 0, .int .u8 0], []⟩ 8 (by kernel_rfl) (by kernel_rfl) (by kernel_rfl) (by kernel_rfl)) ?_
  intro W base args ds gs before hval0 hW hcnd hsz0 _
  have hval : ∀ (j : Nat) t v, Yba.f3.params[j]? = some t → args[j]? = some v → Value.okWide Yba.prog W .any base t v := hval0
  have hsz : (DataW.weightsEach Yba.prog (Yba.f3.params.toList ++ Rows.lawS5572AWholeSpec.plain.varTypes Yba.prog) (ds ++ gs)).all (· ≤ reachBytes) = true := hsz0
  have hW' := hW
  obtain ⟨p, q, hA0, hV, rfl, hfz, hnd⟩ := hW
  have hA : DataW.TrodAll enc Yba.prog W 0 (fun _ => true) true Yba.f3.params.toList args.toList ds p := hA0
  rw [Yba.params3] at hA hval hsz
  obtain ⟨v0, vs0, d0, ds0, p0, q0, hargs, rfl, rfl, h0, r0⟩ := trodAll_cons hA
  obtain ⟨v1, vs1, d1, ds1, p1, q1, rfl, rfl, rfl, h1, r1⟩ := trodAll_cons r0
  obtain ⟨v2, vs2, d2, ds2, p2, q2, rfl, rfl, rfl, h2, r2⟩ := trodAll_cons r1
  obtain ⟨v3, vs3, d3, ds3, p3, q3, rfl, rfl, rfl, h3, r3⟩ := trodAll_cons r2
  obtain ⟨v4, vs4, d4, ds4, p4, q4, rfl, rfl, rfl, h4, r4⟩ := trodAll_cons r3
  obtain ⟨rfl, rfl, rfl⟩ := trodAll_nil r4
  obtain rfl : args = #[v0, v1, v2, v3, v4] := by cases args; simp_all
  obtain ⟨rfl, rfl⟩ := trodVars_none hV
  obtain ⟨z0, rfl, rfl, rfl, w0⟩ := open_int Yba.underlying5 (hval 0 5 v0 rfl rfl) h0
  obtain ⟨b1, rfl, rfl, rfl⟩ := open_bool Yba.underlying4 (hval 1 4 v1 rfl rfl) h1
  obtain ⟨a2, len2, cap2, rfl⟩ := okWide_slice Yba.underlying22 (hval 2 22 v2 rfl rfl)
  obtain ⟨a3, len3, cap3, rfl⟩ := okWide_slice Yba.underlying23 (hval 3 23 v3 rfl rfl)
  obtain ⟨z4, rfl, rfl, rfl, w4⟩ := open_int Yba.underlying5 (hval 4 5 v4 rfl rfl) h4
  have k2 := h2
  have lt2 : ∀ x ∈ p2, x.block < W.heap.size := by obtain ⟨m, hm⟩ := k2; exact DataW.trod_lt m _ _ _ hm
  have k3 := h3
  have lt3 : ∀ x ∈ p3, x.block < W.heap.size := by obtain ⟨m, hm⟩ := k3; exact DataW.trod_lt m _ _ _ hm
  obtain ⟨T, rfl, hT⟩ := byte_nat w0
  obtain ⟨K, rfl, hK⟩ := byte_nat w4
  obtain ⟨A, SA, hlen2⟩ : ∃ A, Sel W a2 len2 A ∧ len2 ≤ 140737488355328 := by
    obtain ⟨fuel, hf⟩ := h2
    rcases open_ints Yba.underlying22 Yba.underlying5 (by kernel_rfl) hf with ⟨hcs, _⟩ | ⟨x, l, c, zs, hcs, _, hl, hm, hz, hx0, hcell, hwz⟩
    · simp [Value.cells] at hcs
      obtain ⟨rfl, rfl, rfl⟩ := hcs
      exact ⟨fun _ => 0, ⟨fun i => by omega, fun h => by omega⟩, by omega⟩
    · simp [Value.cells] at hcs
      obtain ⟨rfl, rfl, rfl⟩ := hcs
      have hzl : zs.length = cap2 := by simpa using hz
      have hd2 : d2 = .slice (lits .u8 (zs.take len2)) (lits .u8 (zs.drop len2)) := congrArg Prod.fst hx0
      subst hd2
      have hw := sized_slice hsz (j := 2) (t := 22) (e := 5) rfl rfl Yba.underlying22
      rw [bytes5] at hw
      simp only [lits, List.length_map, reachBytes, List.length_take, List.length_drop] at hw
      refine ⟨fun i => (zs.getD i 0).toNat % 256, ⟨fun i => Nat.mod_lt _ (by omega), fun hpos => ?_⟩, by omega⟩
      obtain ⟨b, o, sp⟩ := x
      have hsp : sp = none := by
        have := World.cell?_spot (hcell 0 (by omega))
        simpa [Addr.add] using this
      subst hsp
      refine ⟨b, o, rfl, fun i hi => ?_⟩
      have hc := hcell i (by omega)
      rw [Addr.add_lit] at hc
      have hmem : zs.getD i 0 ∈ zs := by
        rw [List.getD_eq_getElem?_getD, List.getElem?_eq_getElem (by omega)]
        exact List.getElem_mem _
      have hb := bounds_u8 (hwz _ hmem)
      rw [hc]
      congr 2
      omega
  obtain ⟨sk, nn, SO, hlen3⟩ : ∃ sk nn, Ops W a3 len3 sk nn ∧ len3 ≤ 140737488355328 := by
    obtain ⟨fuel, hf⟩ := h3
    rcases open_slice_pairs Yba.underlying23 Yba.underlying54 cells54 rfl rfl cells4 cells3 hf with ⟨hcs, _⟩ | ⟨a, len, cap, m, n, V0, V1, D0, D1, P0, P1, hcs, _, hl, hm, hmm, hx0, hx⟩
    · simp [Value.cells] at hcs
      obtain ⟨rfl, rfl, rfl⟩ := hcs
      exact ⟨fun _ => false, fun _ => 0, ⟨fun i => by omega, fun h => by omega⟩, by omega⟩
    · simp [Value.cells] at hcs
      obtain ⟨rfl, rfl, rfl⟩ := hcs
      have hlm : len3 ≤ m := by rw [hmm]; split <;> omega
      have hd3 : d3 = .slice ((List.range len3).map fun i => .agg [D0 i, D1 i]) ((List.range (m - len3)).map fun j => .agg [D0 (len3 + j), D1 (len3 + j)]) := congrArg Prod.fst hx0
      subst hd3
      have hw := sized_slice hsz (j := 3) (t := 23) (e := 54) rfl rfl Yba.underlying23
      rw [bytes54] at hw
      simp only [List.length_map, List.length_range, reachBytes] at hw
      obtain ⟨f, hf2⟩ := choose_lt (α := Bool × Int) (n := len3) (p := fun i y => W.cell? (a.add (i * 2)) = some (.bool y.1) ∧ W.cell? (a.add (i * 2 + 1)) = some (.int .i64 y.2) ∧ (-9223372036854775808 ≤ y.2 ∧ y.2 ≤ 9223372036854775807)) (fun i hi => by
        obtain ⟨c0, c1, t0, t1⟩ := hx i (by omega)
        obtain ⟨y, e0, _⟩ := DataW.trod_bool Yba.underlying4 t0
        obtain ⟨z, e1, _, hwz⟩ := DataW.trod_int Yba.underlying3 t1
        simp at e0 e1
        have hb := bounds_i64 hwz
        exact ⟨(y, z), by rw [c0, e0], by rw [c1, e1], by omega⟩)
      refine ⟨fun i => (f i).1, fun i => if i < len3 then (f i).2 else 0, ⟨fun i => ?_, fun hpos => ?_⟩, by omega⟩
      · by_cases hi : i < len3
        · simp only [if_pos hi]; exact (hf2 i hi).2.2
        · simp only [if_neg hi]; omega
      · obtain ⟨b, o, sp⟩ := a
        have hsp : sp = none := by
          have := World.cell?_spot (hf2 0 hpos).1
          simpa [Addr.add] using this
        subst hsp
        refine ⟨b, o, rfl, fun i hi => ?_⟩
        have c0 := (hf2 i hi).1
        have c1 := (hf2 i hi).2.1
        rw [Addr.add_lit] at c0 c1
        simp only [if_pos hi]
        exact ⟨c0, c1⟩
  clear hA0 hval0
  refine (law_main T K hT hK b1 a2 a3 len2 cap2 len3 cap3 A sk nn W hlen2 hlen3 SA.lt SO.bd SA.at_ SO.at_).mono fun e W' ⟨he, bel⟩ => ?_
  subst he
  exact ⟨_, rfl, _, _, _, [], _, [], hW', trodAll_mk1 (shut_bool Yba.underlying4 _), (trodAll_cons_mk (shut_int Yba.underlying5 w0) (trodAll_cons_mk (shut_bool Yba.underlying4 _) (trodAll_cons_mk (Below.trod laidOut (by kernel_rfl) (of_decide_eq_true (by kernel_rfl)) k2 bel lt2) (trodAll_cons_mk (Below.trod laidOut (by kernel_rfl) (of_decide_eq_true (by kernel_rfl)) k3 bel lt3) (trodAll_cons_mk (shut_int Yba.underlying5 w4) trodAll_mk0))))), rfl, bel.frame _, fun h => by cases h⟩

theorem over : Rows.lawS5572AWholeRow.holds Yba.pinned (OpenSpec.ofChange Rows.lawS5572AWholeSpec) :=
  OpenClaim.holds_of_wide 3 Yba.f3 rfl rfl rfl rfl rfl rfl rfl ⟨rfl, rfl, rfl, rfl, rfl⟩ rfl rfl rfl rfl rfl (by kernel_rfl) Yba.func3 (by kernel_rfl)
    (of_decide_eq_true (by kernel_rfl)) (by unfold Func.isWrapper; first | (rw [if_pos (by decide +kernel)]; kernel_rfl) | (rw [if_neg (by decide +kernel)]; exact ⟨rfl, rfl⟩))
    (fun os started H enc _ => lifted os started H enc)

/-- ████ THE STATEMENT ████ -/
theorem proved : Rows.LawS5572AWholeSaid := over
#print axioms proved
end Go.Proofs.Ybulkdkji.lawS5572AWhole
