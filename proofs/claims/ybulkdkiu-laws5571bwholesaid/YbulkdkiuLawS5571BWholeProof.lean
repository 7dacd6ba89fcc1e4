/-
  The proof of 'Rows.LawS5571BWholeSaid'.
-/
import Derived.Test.YbulkdkiuLawB
import Derived.ProofKit
import Derived.SizedLaws
import Derived.Deep.SlicePairs
import Derived.OpenShut
import Derived.ShutString
import Derived.ChangeOld
namespace Go.Proofs.Ybulkdkiu.lawS5571BWhole
open Go.ChangeShapes Go.WideShapes Go.ChangeAt Go.RowKit Go.Deep
open Go.ChangeMaps (open_string shut_string)
set_option linter.unusedVariables false
set_option linter.unusedSimpArgs false

theorem own : ownKnob Yba.prog.godebug = none := by kernel_rfl
theorem laidOut : laidOutB Yba.prog = true := by kernel_rfl
theorem cells34 : Yba.prog.cellsOf 34 = 5 := by kernel_rfl
theorem cells5 : Yba.prog.cellsOf 5 = 1 := by kernel_rfl
theorem cells3 : Yba.prog.cellsOf 3 = 1 := by kernel_rfl

/-- A byte, by its number. -/
theorem byte_nat {z : Int} (h : (Lit.int .u8 z).wf = true) : ∃ n : Nat, z = (n : Int) ∧ n < 256 := by
  have := bounds_u8 h
  exact ⟨z.toNat, by omega, by omega⟩

/-- What the walk is told of the ops. -/
structure Ops (W : World) (a0 : Option Addr) (len : Nat) (A : Nat → (Nat × Nat × Nat × Nat) × Int) : Prop where
  hA : ∀ i, i < len → (A i).1.1 < 256 ∧ (A i).1.2.1 < 256 ∧ (A i).1.2.2.1 < 256 ∧ (A i).1.2.2.2 < 256
  ha : 0 < len → ∃ b o, a0 = some ⟨b, o, none⟩ ∧ ∀ i, i < len → OpAt W b (o + i * 5) (A i).1.1 (A i).1.2.1 (A i).1.2.2.1 (A i).1.2.2.2 (A i).2

set_option maxRecDepth 100000 in
set_option maxHeartbeats 400000 in
theorem law_long (wd : ByteArray) (a0 : Option Addr) (len cap : Nat) (w : World) (h : 4096 < len ∨ (len ≤ 4096 ∧ 65536 < wd.size)) (hm : len ≤ 9223372036854775807) (hm2 : wd.size ≤ 9223372036854775807) :
    Calls Yba.prog 3 #[.string wd, .slice a0 len cap] w fun e w' => e = .returned (.bool true) ∧ Below w.heap.size w w' := by
  rcases h with h | ⟨h, h2⟩
  · have t1 : decide ((4096 : Int) < (len : Int)) = true := by simp; omega
    go_enter Yba.func3, Yba.ntmps3
    go_wp2
    go_ret
    exact ⟨rfl, Below.refl _ _⟩
  · have t1 : decide ((4096 : Int) < (len : Int)) = false := by simp; omega
    have t2 : decide ((65536 : Int) < (wd.size : Int)) = true := by simp; omega
    go_enter Yba.func3, Yba.ntmps3
    go_wp2
    go_ret
    exact ⟨rfl, Below.refl _ _⟩

theorem walk (wd : ByteArray) (a0 : Option Addr) (len cap : Nat) (A : Nat → (Nat × Nat × Nat × Nat) × Int) (w : World) (S : Ops w a0 len A) (hm : len ≤ maxLen) (hwd : wd.size ≤ maxLen) :
    Calls Yba.prog 3 #[.string wd, .slice a0 len cap] w fun e w' => e = .returned (.bool true) ∧ Below w.heap.size w w' := by
  unfold maxLen at hm hwd
  by_cases h1 : 4096 < len
  · exact law_long _ _ _ _ w (.inl h1) (by omega) (by omega)
  · by_cases h2 : 65536 < wd.size
    · exact law_long _ _ _ _ w (.inr ⟨by omega, h2⟩) (by omega) (by omega)
    · exact lawB_main wd a0 len cap _ _ _ _ _ w (by omega) (by omega) S.hA S.ha

/-- One op, opened. -/
theorem open_op {H : Type} {enc : TypeId × Value → H} {W : World} {spare : Nat → Bool} {held : Bool} {n b o i : Nat} {cs : List Value} {x : DataW H × List MemPlace} (hc : W.cells? 0 ((⟨b, o, none⟩ : Addr).add (i * Yba.prog.cellsOf 34)) (Yba.prog.cellsOf 34) = some cs)
    (h : DataW.trod enc Yba.prog W 0 spare held n 34 cs = some x) : ∃ A : (Nat × Nat × Nat × Nat) × Int, (A.1.1 < 256 ∧ A.1.2.1 < 256 ∧ A.1.2.2.1 < 256 ∧ A.1.2.2.2 < 256) ∧ OpAt W b (o + i * 5) A.1.1 A.1.2.1 A.1.2.2.1 A.1.2.2.2 A.2 := by
  rw [cells34] at hc
  obtain ⟨_, hlen, hcell⟩ := World.cells?_some hc
  obtain ⟨xs, k, hk, hxy, _, hxl, hf⟩ := DataW.trod_struct Yba.underlying34 h
  match xs, hxl, cs, hlen with
  | [y0, y1, y2, y3, y4], _, [v0, v1, v2, v3, v4], _ =>
    have g0 := hf 0 _ rfl
    have g1 := hf 1 _ rfl
    have g2 := hf 2 _ rfl
    have g3 := hf 3 _ rfl
    have g4 := hf 4 _ rfl
    simp [cells5, cells3] at g0 g1 g2 g3 g4
    obtain ⟨z0, e0, _, w0⟩ := DataW.trod_int Yba.underlying5 g0
    obtain ⟨z1, e1, _, w1⟩ := DataW.trod_int Yba.underlying5 g1
    obtain ⟨z2, e2, _, w2⟩ := DataW.trod_int Yba.underlying5 g2
    obtain ⟨z3, e3, _, w3⟩ := DataW.trod_int Yba.underlying3 g3
    obtain ⟨z4, e4, _, w4⟩ := DataW.trod_int Yba.underlying5 g4
    simp at e0 e1 e2 e3 e4
    subst e0 e1 e2 e3 e4
    obtain ⟨a0, rfl, h0⟩ := byte_nat w0
    obtain ⟨a1, rfl, h1⟩ := byte_nat w1
    obtain ⟨a2, rfl, h2⟩ := byte_nat w2
    obtain ⟨a4, rfl, h4⟩ := byte_nat w4
    have c0 := hcell 0 (by omega)
    have c1 := hcell 1 (by omega)
    have c2 := hcell 2 (by omega)
    have c3 := hcell 3 (by omega)
    have c4 := hcell 4 (by omega)
    rw [Addr.add_lit, Addr.add_lit] at c0 c1 c2 c3 c4
    exact ⟨((a0, a1, a2, a4), z3), ⟨h0, h1, h2, h4⟩, c0, c1, c2, c3, c4⟩

set_option maxRecDepth 100000 in
set_option maxHeartbeats 1600000 in
theorem lifted (os : Os) (started : os.Started) (H : Type) (enc : TypeId × Value → H) :
    ReturnsInHanded {} Yba.checked os 3 .any (Rows.lawS5571BWholeSpec.pre6 enc Yba.prog Yba.f3 Rows.lawS5571BWholeRow.domain false) (Rows.lawS5571BWholeSpec.post enc Yba.prog Yba.f3 false true false false) := by
  refine returnsInHanded_of_change (C := Yba.checked) own started (by kernel_rfl) Yba.func3
    (ChangeSpec.witness6 (enc := enc) (C := Yba.checked) false ⟨#[], #[.string ByteArray.empty, .slice none 0 0], []⟩ 8 (by kernel_rfl) (by kernel_rfl) (by kernel_rfl) (by kernel_rfl)) ?_
  intro W base args ds gs before hval0 hW hcnd _
  have hval : ∀ (j : Nat) t v, Yba.f3.params[j]? = some t → args[j]? = some v → Value.okWide Yba.prog W .any base t v := hval0
  have hW' := hW
  obtain ⟨p, q, hA0, hV, rfl, hfz, hnd⟩ := hW
  have hA : DataW.TrodAll enc Yba.prog W 0 (fun _ => true) true Yba.f3.params.toList args.toList ds p := hA0
  rw [Yba.params3] at hA hval
  obtain ⟨v0, vs0, d0, ds0, p0, q0, hargs, rfl, rfl, h0, r0⟩ := trodAll_cons hA
  obtain ⟨v1, vs1, d1, ds1, p1, q1, rfl, rfl, rfl, h1, r1⟩ := trodAll_cons r0
  obtain ⟨rfl, rfl, rfl⟩ := trodAll_nil r1
  obtain rfl : args = #[v0, v1] := by cases args; simp_all
  obtain ⟨rfl, rfl⟩ := trodVars_none hV
  obtain ⟨s, rfl, rfl, rfl, hs⟩ := open_string Yba.underlying9 (hval 0 9 v0 rfl rfl) h0
  obtain ⟨a0, len0, cap0, rfl⟩ := okWide_slice Yba.underlying22 (hval 1 22 v1 rfl rfl)
  have k1 := h1
  have lt1 : ∀ x ∈ p1, x.block < W.heap.size := by obtain ⟨m, hm⟩ := k1; exact DataW.trod_lt m _ _ _ hm
  obtain ⟨A, S, hlen⟩ : ∃ A, Ops W a0 len0 A ∧ len0 ≤ maxLen := by
    obtain ⟨fuel, hf⟩ := h1
    rcases open_slice Yba.underlying22 hf with ⟨hcs, _⟩ | ⟨a, len, cap, m, n, D, Pl, hcs, _, hl, hm, hmm, _, hx⟩
    · simp [Value.cells] at hcs
      obtain ⟨rfl, rfl, rfl⟩ := hcs
      exact ⟨fun _ => ((0, 0, 0, 0), 0), ⟨fun i h => by omega, fun h => by omega⟩, Nat.zero_le _⟩
    · simp [Value.cells] at hcs
      obtain ⟨rfl, rfl, rfl⟩ := hcs
      have hlm : len0 ≤ m := by rw [hmm]; split <;> omega
      by_cases hpos : 0 < len0
      · obtain ⟨b, o, sp⟩ := a
        have hsp : sp = none := by
          obtain ⟨cs', h1, h2⟩ := hx 0 (by omega)
          rw [cells34] at h1
          obtain ⟨_, hlen, hcell⟩ := World.cells?_some h1
          have h0 := hcell 0 (by omega)
          rw [List.getElem?_eq_getElem (by omega)] at h0
          have := World.cell?_spot h0
          simpa [Addr.add] using this
        subst hsp
        obtain ⟨A, hA2⟩ := choose_lt (α := (Nat × Nat × Nat × Nat) × Int) (n := len0) (p := fun i A => (A.1.1 < 256 ∧ A.1.2.1 < 256 ∧ A.1.2.2.1 < 256 ∧ A.1.2.2.2 < 256) ∧ OpAt W b (o + i * 5) A.1.1 A.1.2.1 A.1.2.2.1 A.1.2.2.2 A.2) (fun i hi => by
          obtain ⟨cs', h1, h2⟩ := hx i (by omega)
          exact open_op h1 h2)
        exact ⟨A, ⟨fun i hi => (hA2 i hi).1, fun _ => ⟨b, o, rfl, fun i hi => (hA2 i hi).2⟩⟩, by omega⟩
      · exact ⟨fun _ => ((0, 0, 0, 0), 0), ⟨fun i h => by omega, fun h => by omega⟩, by omega⟩
  clear hA0 hval0
  refine (walk s a0 len0 cap0 A W S hlen hs).mono fun e W' ⟨he, bel⟩ => ?_
  subst he
  exact ⟨_, rfl, _, _, _, [], _, [], hW', trodAll_mk1 (shut_bool Yba.underlying4 _), (trodAll_cons_mk (shut_string Yba.underlying9 hs) (trodAll_cons_mk (Below.trod laidOut (by kernel_rfl) (of_decide_eq_true (by kernel_rfl)) k1 bel lt1) trodAll_mk0)), rfl, bel.frame _, fun h => by cases h⟩

theorem over : Rows.lawS5571BWholeRow.holds Yba.pinned (OpenSpec.ofChange Rows.lawS5571BWholeSpec) :=
  OpenClaim.holds_of_wide 3 Yba.f3 rfl rfl rfl rfl rfl rfl rfl ⟨rfl, rfl, rfl, rfl, rfl⟩ rfl rfl rfl rfl rfl (by kernel_rfl) Yba.func3 (by kernel_rfl)
    (of_decide_eq_true (by kernel_rfl)) (by unfold Func.isWrapper; first | (rw [if_pos (by decide +kernel)]; kernel_rfl) | (rw [if_neg (by decide +kernel)]; exact ⟨rfl, rfl⟩))
    (fun os started H enc _ => lifted os started H enc)

/-- ████ THE STATEMENT ████ -/
theorem proved : Rows.LawS5571BWholeSaid := over
#print axioms proved
end Go.Proofs.Ybulkdkiu.lawS5571BWhole
