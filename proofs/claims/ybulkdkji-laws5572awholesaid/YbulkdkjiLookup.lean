/-
  Store.lookup.
-/
import Derived.Test.YbulkdkjiMap
import Derived.Maps.AppendAt
namespace Go.Proofs.Ybulkdkji
open Go.RowKit Go.Maps
set_option linter.unusedVariables false
set_option linter.unusedSimpArgs false

/-- The cells of a list of terms. -/
def tcells : List (Int × ByteArray) → List Value
  | [] => []
  | x :: r => .int .u8 x.1 :: .string x.2 :: .int .u64 0 :: .string ByteArray.empty :: .string ByteArray.empty :: tcells r

theorem tcells_len : ∀ ts, (tcells ts).length = ts.length * 5
  | [] => rfl
  | x :: r => by simp [tcells, tcells_len r]; omega
theorem tcells_one : ∀ ts, ∀ u ∈ tcells ts, u.oneCell' = true
  | [], u, h => by simp [tcells] at h
  | x :: r, u, h => by
    simp only [tcells, List.mem_cons] at h
    rcases h with rfl | rfl | rfl | rfl | rfl | h
    · rfl
    · rfl
    · rfl
    · rfl
    · rfl
    · exact tcells_one r u h
theorem tcells_append : ∀ ts qs, tcells (ts ++ qs) = tcells ts ++ tcells qs
  | [], qs => rfl
  | x :: r, qs => by simp [tcells, tcells_append r qs]
theorem tcells_get : ∀ (ts : List (Int × ByteArray)) (j : Nat) (x : Int × ByteArray), ts[j]? = some x → (tcells ts)[j * 5]? = some (.int .u8 x.1) ∧ (tcells ts)[j * 5 + 1]? = some (.string x.2) ∧ (tcells ts)[j * 5 + 2]? = some (.int .u64 0) ∧ (tcells ts)[j * 5 + 3]? = some (.string ByteArray.empty) ∧ (tcells ts)[j * 5 + 4]? = some (.string ByteArray.empty)
  | [], j, x, h => by simp at h
  | y :: r, 0, x, h => by simp at h; subst h; simp [tcells]
  | y :: r, j + 1, x, h => by
    have := tcells_get r j x (by simpa using h)
    rw [show (j + 1) * 5 = j * 5 + 1 + 1 + 1 + 1 + 1 by omega]
    simpa [tcells] using this

theorem info32 : (Yba.prog.info? 32).map (fun i => (i.zero, i.size, i.bytes)) = some (some (.int .u32 0), 1, 4) := by kernel_rfl

/-- How many of the terms are held. -/
def held (f : Value → Option Value) (ts : List (Int × ByteArray)) : Nat := ts.countP fun x => (f (term x.1 x.2)).isSome

theorem held_snoc (f : Value → Option Value) {ts : List (Int × ByteArray)} {i : Nat} {x : Int × ByteArray} (hx : ts[i]? = some x) : held f (ts.take (i + 1)) = held f (ts.take i) + if (f (term x.1 x.2)).isSome then 1 else 0 := by
  obtain ⟨hi, he⟩ := List.getElem?_eq_some_iff.1 hx
  unfold held
  rw [List.take_succ_eq_append_getElem hi, List.countP_append, he]
  simp [List.countP_cons]
theorem held_le (f : Value → Option Value) (ts : List (Int × ByteArray)) : held f ts ≤ ts.length := List.countP_le_length

structure LkInv (w : World) (f : Value → Option Value) (ts : List (Int × ByteArray)) (i : Nat) (wr : World) (v : Value) : Prop where
  below : Below w.heap.size w wr
  own : ∃ ids, wr.ownsRow w.heap.size 32 1 v (held f (ts.take i)) (ids32 ids)

theorem cell_one32 (w : World) (x : Int) : ∀ j u, (ids32 [x])[j]? = some u → (w.alloc (.cells #[.int .u32 x] 32)).cell? ((⟨w.heap.size, 0, none⟩ : Addr).add j) = some u := by
  intro j u hj
  match j, hj with
  | 0, hj => simp [ids32] at hj; subst hj; simp [Addr.add]

theorem ids32_one (ids : List Int) : ∀ u ∈ ids32 ids, u.oneCell' = true := by
  intro u hu
  simp only [ids32, List.mem_map] at hu
  obtain ⟨b, _, rfl⟩ := hu
  rfl

set_option maxRecDepth 100000 in
set_option maxHeartbeats 1000000 in
theorem lookup_any {w : World} {st M z : Nat} {sc : Array Value} (hst : w.heap[st]? = some (.cells sc 49 (0, 0))) (hids : sc[7]? = some (.map (some M))) {f : Value → Option Value} (hM : MapIs w M z f) (hf : ∀ v u, f v = some u → ∃ x, u = .int .u32 x)
    (ao : Option Addr) (N cp : Nat) (ts : List (Int × ByteArray)) (hN : ts.length = N) (hNs : N ≤ 1099511627776) (hk : ∀ x ∈ ts, IsKey (term x.1 x.2)) (h0 : 0 < N → ∃ g, ao = some ⟨g, 0, none⟩ ∧ ∀ j u, (tcells ts)[j]? = some u → w.cell? ⟨g, j, none⟩ = some u) :
    Calls Yba.prog 48 #[.pointer (some ⟨st, 0, none⟩), .slice ao N cp] w fun e w' => ∃ v ids, e = .returned v ∧ w'.ownsRow w.heap.size 32 1 v (held f ts) (ids32 ids) ∧ Below w.heap.size w w' := by
  obtain ⟨i0, hi, hz0, hz1, hz2⟩ := info_parts info32
  have a30 := Yba.isAgg30
  have z30 := Yba.sizeOf30
  have z32 : ∀ w, (zeroValue 32).run Yba.prog w = .ok (.int .u32 0) w := fun w => by kernel_rfl
  have I0 : LkInv w f ts 0 w (.slice none 0 0) := ⟨Below.refl _ _, [], World.ownsRow_nil _ _ _ _⟩
  go_enter Yba.func48, Yba.ntmps48
  go_wp2_with fail
  go_loopw [5, 12] (fun v j wr => ∃ i : Nat, i ≤ N ∧ j = .int .i64 i ∧ LkInv w f ts i wr v) (fun _ j _ => N - (intOf j).toNat)
  case atStart => exact ⟨0, Nat.zero_le _, rfl, I0⟩
  case round =>
    clear I0
    obtain ⟨i, hiN, rfl, I⟩ := hrel
    obtain ⟨ids, own⟩ := I.own
    obtain ⟨aov, capv, hv⟩ := own_form own
    subst hv
    by_cases hlt : i < N
    · obtain ⟨x, hx⟩ : ∃ x, ts[i]? = some x := ⟨_, List.getElem?_eq_getElem (by omega)⟩
      obtain ⟨g, hao, hc⟩ := h0 (by omega)
      subst hao
      obtain ⟨e0, e1, e2, e3, e4⟩ := tcells_get ts i x hx
      have fb : Fr (fun _ => False) w wr := Fr.ofBelow I.below
      have q0 := fb.cell (hc _ _ e0) id
      have q1 := fb.cell (hc _ _ e1) id
      have q2 := fb.cell (hc _ _ e2) id
      have q3 := fb.cell (hc _ _ e3) id
      have q4 := fb.cell (hc _ _ e4) id
      have stX := fb.block hst id
      have cI : wr.cell? ⟨st, 7, none⟩ = some (.map (some M)) := by rw [cell_of_row wr st 7 _ 49 (0, 0) stX]; exact hids
      have lst := lt_of stX
      have hlk : ∀ q, (Instr.lookup 25 (.map (some M)) (term x.1 x.2) true).run Yba.prog ((wr.alloc (.cells #[.int .u8 x.1, .string x.2, .int .u64 0, .string ByteArray.empty, .string ByteArray.empty] 30)).drewN q) = .ok (.tuple #[(f (term x.1 x.2)).getD (.int .u32 0), .bool (f (term x.1 x.2)).isSome]) _ := fun q => by
        have m1 := hM.frame fb id
        have m2 : MapIs ((wr.alloc (.cells #[.int .u8 x.1, .string x.2, .int .u64 0, .string ByteArray.empty, .string ByteArray.empty] 30)).drewN q) M z f := m1.block (Below.heap_alloc wr _ _ m1.lt)
        exact m2.look_ok Yba.underlying25 (z32 _) (hk x (List.mem_of_getElem? hx))
      unfold term at hlk
      have hsn := held_snoc f hx
      have hle := held_le f (ts.take i)
      have HS : Hid (held f (ts.take (i + 1)) = held f (ts.take i) + if (f (term x.1 x.2)).isSome then 1 else 0) := hsn
      have HX : Hid (ts[i]? = some x) := hx
      clear e0 e1 e2 e3 e4 hc hx hsn
      have hlt' : (i : Int) < (N : Int) := by omega
      have hB := I.below.size
      cases hfx : f (term x.1 x.2) with
      | none =>
        have HF : Hid (held f (ts.take (i + 1)) = held f (ts.take i)) := by have := HS.out; rw [hfx] at this; exact this
        unfold term at hfx
        rw [hfx] at hlk
        have hlk2 : ∀ q, (Instr.lookup 25 (.map (some M)) (.agg #[.int .u8 x.1, .string x.2, .int .u64 0, .string ByteArray.empty, .string ByteArray.empty]) true).run Yba.prog ((wr.alloc (.cells #[.int .u8 x.1, .string x.2, .int .u64 0, .string ByteArray.empty, .string ByteArray.empty] 30)).drewN q) = .ok (.tuple #[.int .u32 0, .bool false]) ((wr.alloc (.cells #[.int .u8 x.1, .string x.2, .int .u64 0, .string ByteArray.empty, .string ByteArray.empty] 30)).drewN q) := hlk
        clear hlk hfx
        go_wp2_with fail
        go_quiet (fail)
        go_wp2_with fail
        go_roundw
        case rel =>
          refine ⟨i + 1, by omega, by go_num, ⟨?_, ids, ?_⟩⟩
          · have b := I.below.alloc hB (.cells #[.int .u8 x.1, .string x.2, .int .u64 0, .string ByteArray.empty, .string ByteArray.empty] 30)
            exact ⟨b.os, b.tape, b.output, b.size, b.block⟩
          · rw [HF.out]
            exact own.alloc _
        case measure => simp [intOf]; omega
      | some u =>
        obtain ⟨y, rfl⟩ := hf _ _ hfx
        have HF : Hid (held f (ts.take (i + 1)) = held f (ts.take i) + 1) := by have := HS.out; rw [hfx] at this; exact this
        unfold term at hfx
        rw [hfx] at hlk
        have hlk2 : ∀ q, (Instr.lookup 25 (.map (some M)) (.agg #[.int .u8 x.1, .string x.2, .int .u64 0, .string ByteArray.empty, .string ByteArray.empty]) true).run Yba.prog ((wr.alloc (.cells #[.int .u8 x.1, .string x.2, .int .u64 0, .string ByteArray.empty, .string ByteArray.empty] 30)).drewN q) = .ok (.tuple #[.int .u32 y, .bool true]) ((wr.alloc (.cells #[.int .u8 x.1, .string x.2, .int .u64 0, .string ByteArray.empty, .string ByteArray.empty] 30)).drewN q) := hlk
        clear hlk hfx
        go_wp2_with fail
        go_quiet (fail)
        have ownq : ((wr.alloc (.cells #[.int .u8 x.1, .string x.2, .int .u64 0, .string ByteArray.empty, .string ByteArray.empty] 30)).drewN nq).ownsRow w.heap.size 32 1 (.slice aov (held f (ts.take i)) capv) (held f (ts.take i)) (ids32 ids) := own.alloc _
        have belq : Below w.heap.size w ((wr.alloc (.cells #[.int .u8 x.1, .string x.2, .int .u64 0, .string ByteArray.empty, .string ByteArray.empty] 30)).drewN nq) := by
          have b := I.below.alloc hB (.cells #[.int .u8 x.1, .string x.2, .int .u64 0, .string ByteArray.empty, .string ByteArray.empty] 30)
          exact ⟨b.os, b.tape, b.output, b.size, b.block⟩
        clear own hlk2 q0 q1 q2 q3 q4 cI stX
        generalize (wr.alloc (.cells #[.int .u8 x.1, .string x.2, .int .u64 0, .string ByteArray.empty, .string ByteArray.empty] 30)).drewN nq = W2 at *
        have hB2 := belq.size
        have hlen : (ts.take i).length ≤ N := by simp; omega
        go_wp2_with (at_builtin; go_must (refine wpList_append_own_at _ rfl (.tmp 26) (.tmp 28) 113 rfl w.heap.size 32 i0 (.int .u32 0) 1 4 Yba.underlying113 hi hz0 hz1 hz2 rfl (by decide) _ _ _ rfl (ownq.alloc _) ⟨W2.heap.size, 0, none⟩ 1 1 (ids32 [y]) rfl rfl (cell_one32 W2 y) (ids32_one _) (by unfold maxLen; omega) (by omega) (by simp; omega) ?_); intro v3 w3 own3 G3 _ hloc)
        go_roundw
        case rel =>
          refine ⟨i + 1, by omega, by go_num, ⟨?_, ids ++ [y], ?_⟩⟩
          · exact (belq.alloc hB2 _).grown G3 (by simp; omega) (fun j hj => (ownq.lt j hj).1)
          · rw [HF.out]
            have e : ids32 (ids ++ [y]) = ids32 ids ++ ids32 [y] := by simp [ids32]
            rw [e]
            exact own3
        case measure => simp [intOf]; omega
    · have hie : i = N := by omega
      go_wp2_with fail
      go_ret
      have e : ts.take i = ts := List.take_of_length_le (by omega)
      rw [e] at own
      refine ⟨.slice aov (held f (ts.take i)) capv, ids, rfl, ?_, I.below⟩
      rw [e]
      exact own

end Go.Proofs.Ybulkdkji
