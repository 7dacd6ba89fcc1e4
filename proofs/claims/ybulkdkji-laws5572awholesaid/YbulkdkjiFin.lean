/-
  The law's end: its comparisons, the lengths of its maps, what Count gives it.
-/
import Derived.Test.YbulkdkjiNew
import Derived.Laws.StructEq
import Derived.LaidEql
namespace Go.Proofs.Ybulkdkji
open Go.RowKit Go.Maps
set_option linter.unusedVariables false
set_option linter.unusedSimpArgs false

theorem neq_term (a : Int) (s : ByteArray) (w : World) : (binOp .neq 30 (.agg #[.int .u8 a, .string s, .int .u64 0, .string ByteArray.empty, .string ByteArray.empty]) (.agg #[.int .u8 a, .string s, .int .u64 0, .string ByteArray.empty, .string ByteArray.empty])).run Yba.prog w = .ok (.bool false) w := by
  have ht : Yba.prog.underlying 30 = some (.struct (Yba.prog.fieldsOf 30)) := by kernel_rfl
  have hp : Yba.prog.stoodInHeld 30 = false := by kernel_rfl
  have e26 : ∀ d w, (Op.equalIn (d + 1) 26 (.int .u8 a) (.int .u8 a)).run Yba.prog w = .ok true w := fun d w => by rw [run_equalIn_int w d 26 .u8 .u8 a a Yba.underlying26]; simp
  have e9 : ∀ (d : Nat) (x : ByteArray) w, (Op.equalIn (d + 1) 9 (.string x) (.string x)).run Yba.prog w = .ok true w := fun d x w => by rw [run_equalIn_string w d 9 x x Yba.underlying9]; simp
  have e28 : ∀ d w, (Op.equalIn (d + 1) 28 (.int .u64 0) (.int .u64 0)).run Yba.prog w = .ok true w := fun d w => by rw [run_equalIn_int w d 28 .u64 .u64 0 0 Yba.underlying28]; simp
  rw [run_neq_struct, show (10000 : Nat) = 9998 + 1 + 1 from rfl, run_equalIn_agg w (9998 + 1) 30 _ _ ht hp, show (Yba.prog.fieldsOf 30).toList = _ from rfl]
  simp [go_sem, Op.eqFields, e26, e9, e28]

theorem comp93 : (Yba.prog.info? 93).map (fun i => i.comparable) = some true := by kernel_rfl
theorem size95 : (Yba.prog.info? 95).map (fun i => i.size) = some 1 := by kernel_rfl
theorem eql_err (b : Nat) (w : World) : (binOp .eql 57 (.iface 93 (.pointer (some ⟨b, 0, none⟩))) (.iface 93 (.pointer (some ⟨b, 0, none⟩)))).run Yba.prog w = .ok (.bool true) w := by
  cases hi : Yba.prog.info? 93 with
  | none => have := comp93; rw [hi] at this; cases this
  | some i =>
    cases hj : Yba.prog.info? 95 with
    | none => have := size95; rw [hj] at this; cases this
    | some j =>
      have c1 : i.comparable = true := by have := comp93; rw [hi] at this; simpa using this
      have c2 : j.size = 1 := by have := size95; rw [hj] at this; simpa using this
      exact run_eql_iface_ptr_same w ⟨b, 0, none⟩ Yba.underlying57 Yba.underlying93 hi c1 hj
theorem eql_nil (w : World) : (binOp .eql 57 .nilIface .nilIface).run Yba.prog w = .ok (.bool true) w := by kernel_rfl

theorem MapIs.len {w : World} {M sz : Nat} {f : Value → Option Value} (h : MapIs w M sz f) (ty : TypeId) : (Builtin.len_ #[25] ty #[.map (some M)]).run Yba.prog w = .ok (.int .i64 (sz : Int)) w := by
  obtain ⟨D, ho, hs, _⟩ := h
  have := ho.len Yba.underlying25 ty
  rwa [hs] at this
theorem empty_len {w : World} {Q : Nat} (h : w.heap[Q]? = some (.map #[] 0)) (ty : TypeId) : (Builtin.len_ #[34] ty #[.map (some Q)]).run Yba.prog w = .ok (.int .i64 0) w := by
  simp [Builtin.len_, run_underlying Yba.underlying34, MapKept.run_getObj_map h, goInt, Result.andThen]

theorem pulls_d (m : Nat) (X : List Op2) : (dLaw (m + 1) (demI X) < 0 ∧ pulls m X = m) ∨ (0 ≤ dLaw (m + 1) (demI X) ∧ dLaw (m + 1) (demI X) < (m : Int) ∧ (pulls m X : Int) = dLaw (m + 1) (demI X)) ∨ (0 ≤ dLaw (m + 1) (demI X) ∧ ¬ dLaw (m + 1) (demI X) < (m : Int) ∧ pulls m X = m) := by
  unfold pulls
  cases demI X with
  | none => left; simp [dLaw, le?]
  | some v =>
    right
    simp only [dLaw, le?]
    by_cases h : v < m
    · left; omega
    · right; omega
theorem pulls_le (m : Nat) (X : List Op2) : pulls m X ≤ m := by
  unfold pulls
  cases demI X with
  | none => exact Nat.le_refl _
  | some v => simp only [le?]; omega

/-- The law's Count. -/
theorem count_law {wX wP w6 : World} {T K : Nat} {g cp : Nat} {st M Q : Nat} {ov nv sv : Value} {m pp cb : Nat} {sk : Nat → Bool} {nn : Nat → Int} {L : Nat} {rops : List StepM} {et : TypeId} {ep : Value} {X : List Op2} {C : Nat}
    (hS : StoreAt wX st 0 0 (.slice (some ⟨g, 0, none⟩) (T + 1) cp) (.map (some M)) (.map (some Q)) ov nv) (hM : MapIs wX M T (fm T)) (hsrc : Src wX T sv m) (P : PB wX wP sv sk nn L pp rops) (bel : Below wP.heap.size wP w6) (hct : CT cb K (.iface et ep) 0 w6)
    (hT : T ≤ 255) (hK : K ≤ 255) (hL : L ≤ 1099511627776) (hX : rops.reverse.map (fun o => (o.1, o.2.1)) = X) (hC : fwd X m = C) :
    Calls Yba.prog 10 #[.pointer (some ⟨pp, 0, none⟩), .iface 59 (.pointer (some ⟨cb, 0, none⟩)), .pointer (some ⟨st, 0, none⟩)] w6 fun e w' => ∃ gv ev cl, e = .returned (.tuple #[.int .i64 gv, ev]) ∧ CT cb K (.iface et ep) cl w' ∧ Fr (fun k => k = cb) w6 w' ∧ cl ≤ 1099511627776 ∧
      (K ≤ pulls m X → gv = 0 ∧ ev = .iface et ep ∧ cl = min (pulls m X) (K + 1) + 1) ∧ (pulls m X < K → gv = (C : Int) ∧ ev = .nilIface ∧ cl = pulls m X + 1) := by
  have fP : Fr (fun _ => False) wX wP := Fr.ofBelow P.below
  have f6 : Fr (fun _ => False) wP w6 := Fr.ofBelow bel
  have fX : Fr (fun _ => False) wX w6 := fP.trans f6 (fun _ _ e => e)
  have hS6 := hS.frame fX id
  have f7 : Fr (fun k => k = st) w6 (w6.setCell ⟨st, 4, none⟩ (.int .i32 1)) := (Fr.refl (fun k => k = st) w6).setCell (p := ⟨st, 4, none⟩) (fun _ => rfl) _
  have hSb : w6.heap[st]? = some (.cells (storeC 0 0 (.slice (some ⟨g, 0, none⟩) (T + 1) cp) (.map (some M)) (.map (some Q)) ov nv) 49 (0, 0)) := hS6
  have hcb : w6.heap[cb]? = some (.cells #[.nilIface, .int .i64 (K : Int), .int .i64 ((0 : Nat) : Int), .iface et ep] 63 (0, 0)) := hct
  have nt : ∀ k cs ty, w6.heap[k]? = some (.cells cs ty (0, 0)) → ty ≠ 49 → ¬ k = st := fun k cs ty hk hty e => by
    rw [e, hSb] at hk
    simp at hk
    exact hty hk.2.symm
  have hM6 := hM.frame fX id
  have hnM : ¬ M = st := fun e => by
    obtain ⟨es, cl, hb⟩ := hM6.isMap
    rw [e, hSb] at hb
    cases hb
  have hsrc6 := hsrc.frame fX (fun _ _ _ => id)
  have hP6 : PathIs w6 sv rops pp := P.path.frame f6 (fun _ _ _ => id)
  obtain ⟨Ro0, R⟩ := runAt_mk (w := w6.setCell ⟨st, 4, none⟩ (.int .i32 1)) (et := et) (ep := ep) (cb := cb) (K := K) (hP6.frame f7 (fun k cs hk => nt k cs 83 hk (by decide))) hS6.set4 (hM6.frame f7 hnM) (hsrc6.frame f7 (fun k cs hk => nt k cs 30 hk (by decide)))
    (f7.block hcb (nt _ _ 63 hcb (by decide))) (fun o ho => by
      have h1 := f6.block (P.blk o ho).1 id
      exact ⟨f7.block h1 (nt _ _ 3 h1 (by decide)), (P.blk o ho).2⟩) P.nodup hT hK (by rw [P.len]; exact hL)
  refine (count_any hS6 R (fun e => nt _ _ 63 hcb (by decide) e.symm)).mono ?_
  rintro e w' ⟨rfl, ct, fr⟩
  rw [costs_dem, sups_fwd, hX, calls_eq] at ct
  rw [costs_dem, sups_fwd, hX, calls_eq]
  by_cases h : K ≤ pulls m X
  · refine ⟨0, .iface et ep, _, ?_, ct, fr, by omega, fun _ => ⟨rfl, rfl, rfl⟩, fun h' => by omega⟩
    unfold countV
    rw [if_neg (by omega)]
  · refine ⟨(C : Int), .nilIface, _, ?_, ct, fr, by omega, fun h' => by omega, fun h' => ⟨rfl, rfl, by omega⟩⟩
    unfold countV
    rw [if_pos (by omega), got_eq m K X (by omega), hC]

end Go.Proofs.Ybulkdkji
