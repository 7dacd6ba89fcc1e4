/-
  The law's own little functions: zzs5571badd, zzs5571bdel, zzs5571beq.
-/
import Derived.Test.YbulkdkiuRemove2
namespace Go.Proofs.Ybulkdkiu
open Go.RowKit Go.Maps
set_option linter.unusedVariables false
set_option linter.unusedSimpArgs false

/-- The model's add. -/
def added (xs : List ByteArray) (y : ByteArray) : List ByteArray := if hasB xs y then xs else xs ++ [y]

theorem row_cells {w : World} {B : Nat} {v : Value} {n : Nat} {xs : List ByteArray} (h : w.ownsRow B 9 1 v n (strs xs)) {ao : Option Addr} {m cap : Nat} (hv : v = .slice ao m cap) : 0 < n → ∃ g, ao = some ⟨g, 0, none⟩ ∧ ∀ j u, (strs xs)[j]? = some u → w.cell? ⟨g, j, none⟩ = some u := by
  intro hn
  obtain ⟨g, c, hv2, _, _⟩ := own_form_pos h hn
  rw [hv] at hv2
  cases hv2
  refine ⟨g, rfl, fun j u hu => ?_⟩
  have := h.cells (g := g) (by rw [hv]; rfl) j u hu
  rwa [Addr.add_lit, Nat.zero_add] at this

/-- What badd leaves. -/
def AddedPost (w : World) (B : Nat) (v : Value) (xs : List ByteArray) (y : ByteArray) (v' : Value) (w' : World) : Prop :=
  w'.ownsRow B 9 1 v' (added xs y).length (strs (added xs y)) ∧ Fr (fun k => v.ownBlock = some k) w w' ∧ LocB w v v'

set_option maxHeartbeats 800000 in
theorem badd_any {w : World} {B : Nat} {v : Value} {xs : List ByteArray} (O : w.ownsRow B 9 1 v xs.length (strs xs)) (hB : B ≤ w.heap.size) (s : ByteArray) (hbig : xs.length ≤ 1073741824) :
    Calls Yba.prog 6 #[v, .string s] w fun e w' => ∃ v', e = .returned v' ∧ AddedPost w B v xs s v' w' := by
  obtain ⟨i9, hi9, hz90, hz91, hz92⟩ := info_parts info9
  obtain ⟨ao, cap, hv⟩ := own_form O
  subst hv
  have h0 := row_cells O rfl
  obtain ⟨n, hn⟩ : ∃ n, xs.length = n := ⟨_, rfl⟩
  have HN : Hid (xs.length = n) := hn
  rw [hn] at O h0 hbig
  rw [hn]
  have HO : Hid (w.ownsRow B 9 1 (.slice ao n cap) n (strs xs)) := O
  clear hn
  go_enter Yba.func6, Yba.ntmps6
  go_wp2
  go_loop [9] (fun i => ∃ k : Nat, k ≤ n ∧ i = .int .i64 k ∧ ∀ (j : Nat) (x : ByteArray), j < k → xs[j]? = some x → (x.toList == s.toList) = false) (fun i => n - (intOf i).toNat)
  case atStart => exact ⟨0, Nat.zero_le _, rfl, fun j x hj => by omega⟩
  case round =>
    obtain ⟨k, hk, rfl, hno⟩ := hrel
    by_cases hlt : k < n
    · obtain ⟨g, hao, hc⟩ := h0 (by omega)
      subst hao
      obtain ⟨x, hx⟩ : ∃ x, xs[k]? = some x := ⟨_, List.getElem?_eq_getElem (by have := HN.out; omega)⟩
      have cx := hc k _ (strs_get hx)
      have HX : Hid (xs[k]? = some x) := hx
      have HNO : Hid (∀ (j : Nat) (x : ByteArray), j < k → xs[j]? = some x → (x.toList == s.toList) = false) := hno
      clear hx hc hno h0 O
      cases heq : (x.toList == s.toList) with
      | true =>
        have HT : Hid (added xs s = xs) := by
          unfold added
          rw [if_pos (hasB_true HX.out heq)]
          trivial
        go_wp2
        go_ret
        refine ⟨_, rfl, ?_, Fr.refl _ _, LocB.refl _ _⟩
        rw [HT.out, HN.out]
        exact HO.out
      | false =>
        have HF : Hid ((x.toList == s.toList) = false) := heq
        go_wp2
        go_round
        case rel =>
          refine ⟨k + 1, by omega, by go_num, fun j y hj hy => ?_⟩
          by_cases hjk : j < k
          · exact HNO.out j y hjk hy
          · obtain rfl : j = k := by omega
            have hx2 := HX.out
            rw [hy] at hx2
            cases hx2
            exact HF.out
        case measure => simp [intOf]; omega
    · have HF : Hid (added xs s = xs ++ [s]) := by
        unfold added
        rw [hasB_false (fun j x hx => hno j x (by have := (List.getElem?_eq_some_iff.1 hx).1; have := HN.out; omega) hx)]
        trivial
      clear hno h0
      go_wp2_with (at_builtin; go_must (refine wpList_append_own_at _ rfl (.tmp 18) (.tmp 20) 25 rfl B 9 i9 (.string ByteArray.empty) 1 16 Yba.underlying25 hi9 hz90 hz91 hz92 rfl (by decide) _ _ _ rfl (O.alloc _) ⟨w.heap.size, 0, none⟩ 1 1 (strs [s]) rfl rfl (cell_one9 w s) (strs_one _) (by unfold maxLen; omega) (by omega) (by simp; omega) ?_); intro v3 w3 own3 G3 _ hloc)
      go_ret
      refine ⟨v3, rfl, ?_, ((Fr.refl _ w).alloc _).grown G3 (fun k hk _ => hk), ?_⟩
      · rw [HF.out, List.length_append, HN.out, strs_append]
        exact own3
      · intro g hg
        rcases hloc with hl | hl
        · exact .inl (hl.symm.trans hg)
        · rw [hl] at hg
          cases hg
          exact .inr (by simp)

theorem struck_take_ne {xs : List ByteArray} {i : Nat} {x s : ByteArray} (hx : xs[i]? = some x) (h : (x.toList == s.toList) = false) : struck (xs.take (i + 1)) s = struck (xs.take i) s ++ [x] := by
  obtain ⟨hi, he⟩ := List.getElem?_eq_some_iff.1 hx
  unfold struck
  rw [List.take_succ_eq_append_getElem hi, List.filter_append, he]
  have : x ≠ s := fun c => by subst c; simp at h
  simp [this]
theorem struck_take_eq {xs : List ByteArray} {i : Nat} {x s : ByteArray} (hx : xs[i]? = some x) (h : (x.toList == s.toList) = true) : struck (xs.take (i + 1)) s = struck (xs.take i) s := by
  obtain ⟨hi, he⟩ := List.getElem?_eq_some_iff.1 hx
  unfold struck
  rw [List.take_succ_eq_append_getElem hi, List.filter_append, he]
  have : x = s := bytes_toList_inj (beq_iff_eq.1 h)
  simp [this]
theorem struck_len (xs : List ByteArray) (s : ByteArray) : (struck xs s).length ≤ xs.length := List.length_filter_le _ _
theorem struck_take_len (xs : List ByteArray) (s : ByteArray) (i : Nat) : (struck (xs.take i) s).length ≤ i := by
  have := struck_len (xs.take i) s
  simp at this
  omega

/-- What bdel leaves. -/
def StruckPost (w : World) (xs : List ByteArray) (y : ByteArray) (v' : Value) (w' : World) : Prop :=
  w'.ownsRow w.heap.size 9 1 v' (struck xs y).length (strs (struck xs y)) ∧ Below w.heap.size w w'

structure DelInv (w : World) (xs : List ByteArray) (s : ByteArray) (i : Nat) (v : Value) (wr : World) : Prop where
  own : wr.ownsRow w.heap.size 9 1 v (struck (xs.take i) s).length (strs (struck (xs.take i) s))
  below : Below w.heap.size w wr

theorem DelInv.skip {w : World} {xs : List ByteArray} {s : ByteArray} {i : Nat} {v : Value} {wr : World} (I : DelInv w xs s i v wr) {x : ByteArray} (hx : xs[i]? = some x) (h : (x.toList == s.toList) = true) : DelInv w xs s (i + 1) v wr := by
  have e := struck_take_eq hx h
  exact ⟨by rw [e]; exact I.own, I.below⟩

set_option maxHeartbeats 800000 in
theorem bdel_any {w : World} {B : Nat} {v : Value} {xs : List ByteArray} (O : w.ownsRow B 9 1 v xs.length (strs xs)) (s : ByteArray) (hbig : xs.length ≤ 1073741824) :
    Calls Yba.prog 8 #[v, .string s] w fun e w' => ∃ v', e = .returned v' ∧ StruckPost w xs s v' w' := by
  obtain ⟨i9, hi9, hz90, hz91, hz92⟩ := info_parts info9
  obtain ⟨ao, cap, hv⟩ := own_form O
  subst hv
  have h0 := row_cells O rfl
  obtain ⟨n, hn⟩ : ∃ n, xs.length = n := ⟨_, rfl⟩
  have HN : Hid (xs.length = n) := hn
  rw [hn] at O h0 hbig
  rw [hn]
  clear hn
  have hnot : ∀ (x : Bool) (w : World), (Op.unary .not (.bool x)).run Yba.prog w = .ok (.bool (!x)) w := fun _ _ => rfl
  go_enter Yba.func8, Yba.ntmps8
  go_wp2_with (at_make; go_must (refine wpList_make_own _ rfl _ _ 25 rfl w.heap.size 9 i9 _ 1 Yba.underlying25 hi9 hz90 hz91 .i64 .i64 _ n rfl rfl (by omega) (by rw [hz92]; omega) (by unfold maxLen; omega) (Nat.le_refl _) ?_); intro w1 hk1 hg1)
  have I0 : DelInv w xs s 0 (.slice (some ⟨w.heap.size, 0, none⟩) 0 n) w1 := ⟨by simpa [struck, strs] using hk1, (Below.refl _ w).grown hg1 (Nat.le_refl _) (fun k hk => by cases hk)⟩
  clear hk1 hg1
  go_loopw [5, 13] (fun vk j wr => ∃ i : Nat, i ≤ n ∧ j = .int .i64 i ∧ DelInv w xs s i vk wr) (fun _ j _ => n - (intOf j).toNat)
  case atStart => exact ⟨0, Nat.zero_le _, rfl, I0⟩
  case round =>
    clear I0
    obtain ⟨k, hk, rfl, I⟩ := hrel
    obtain ⟨aok, capk, hvk⟩ := own_form I.own
    subst hvk
    by_cases hlt : k < n
    · obtain ⟨g, hao, hc⟩ := h0 (by omega)
      subst hao
      obtain ⟨x, hx⟩ : ∃ x, xs[k]? = some x := ⟨_, List.getElem?_eq_getElem (by have := HN.out; omega)⟩
      have cx := (Fr.ofBelow (S := fun _ => False) I.below).cell (hc k _ (strs_get hx)) id
      have HX : Hid (xs[k]? = some x) := hx
      have hle := struck_take_len xs s k
      clear hx hc h0 O
      cases heq : (x.toList == s.toList) with
      | true =>
        have HF : Hid ((x.toList == s.toList) = true) := heq
        go_wp2_with fail
        go_roundw
        case rel => exact ⟨k + 1, by omega, by go_num, I.skip HX.out HF.out⟩
        case measure => simp [intOf]; omega
      | false =>
        have HF : Hid ((x.toList == s.toList) = false) := heq
        have hB := I.below.size
        go_wp2_with (at_builtin; go_must (refine wpList_append_own_at _ rfl (.tmp 20) (.tmp 22) 25 rfl w.heap.size 9 i9 (.string ByteArray.empty) 1 16 Yba.underlying25 hi9 hz90 hz91 hz92 rfl (by decide) _ _ _ rfl (I.own.alloc _) ⟨wr.heap.size, 0, none⟩ 1 1 (strs [x]) rfl rfl (cell_one9 wr x) (strs_one _) (by unfold maxLen; omega) (by omega) (by simp; omega) ?_); intro v3 w3 own3 G3 _ hloc)
        go_roundw
        case rel =>
          refine ⟨k + 1, by omega, by go_num, ?_, ?_⟩
          · rw [struck_take_ne HX.out HF.out, List.length_append, strs_append]
            exact own3
          · exact (I.below.alloc (by omega) _).grown G3 (by simp; omega) (fun j hj => (I.own.lt j hj).1)
        case measure => simp [intOf]; omega
    · have hke : k = n := by omega
      go_wp2_with fail
      go_ret
      have e : xs.take k = xs := List.take_of_length_le (by have := HN.out; omega)
      have hO := I.own
      refine ⟨.slice aok (struck (xs.take k) s).length capk, rfl, ?_, I.below⟩
      rw [e] at hO ⊢
      exact hO

set_option maxHeartbeats 400000 in
theorem beq_empty (a0 a1 : Option Addr) (c0 c1 : Nat) (w : World) : Calls Yba.prog 12 #[.slice a0 0 c0, .slice a1 0 c1] w fun e w' => e = .returned (.bool true) ∧ w' = w := by
  go_enter Yba.func12, Yba.ntmps12
  go_wp2
  refine wp_loop_rounds 1 ?_
  rw [rounds_succ]
  go_wp2
  go_ret
  exact ⟨rfl, rfl⟩

set_option maxHeartbeats 800000 in
theorem beq_some (b0 o0 b1 o1 n c0 c1 : Nat) (ps : List (ByteArray × Int)) (w : World) (hn : ps.length = n) (hbig : n ≤ 1048576)
    (h0 : ∀ j v, (pcells ps)[j]? = some v → w.cell? ⟨b0, o0 + j, none⟩ = some v) (h1 : ∀ j v, (pcells ps)[j]? = some v → w.cell? ⟨b1, o1 + j, none⟩ = some v) :
    Calls Yba.prog 12 #[.slice (some ⟨b0, o0, none⟩) n c0, .slice (some ⟨b1, o1, none⟩) n c1] w fun e w' => e = .returned (.bool true) ∧ ∃ q, w' = w.drewN q := by
  have heq := eq36
  have a36 := Yba.isAgg36
  have z36 := Yba.sizeOf36
  go_enter Yba.func12, Yba.ntmps12
  go_wp2
  go_loopw [13] (fun i wr => ∃ k q : Nat, k ≤ n ∧ i = .int .i64 k ∧ wr = w.drewN q) (fun i _ => n - (intOf i).toNat)
  case atStart => exact ⟨0, 0, Nat.zero_le _, rfl, rfl⟩
  case round =>
    obtain ⟨k, q, hk, rfl, rfl⟩ := hrel
    by_cases hlt : k < n
    · have hlt' : (k : Int) < (n : Int) := by omega
      obtain ⟨x, hx⟩ : ∃ x, ps[k]? = some x := ⟨_, List.getElem?_eq_getElem (by omega)⟩
      obtain ⟨e0, e1⟩ := pcells_get ps k x hx
      have g0 := h0 _ _ e0
      have g0' := h0 _ _ e1
      have g1 := h1 _ _ e0
      have g1' := h1 _ _ e1
      rw [← Nat.add_assoc] at g0' g1'
      have hself := beq_self_bytes x.1
      clear h0 h1 e0 e1 hx hn
      go_wp2
      go_quiet (fail)
      go_wp2
      go_roundw
      case rel => exact ⟨k + 1, _, by omega, by go_num, rfl⟩
      case measure => simp [intOf]; omega
    · go_wp2
      go_ret
      exact ⟨rfl, _, rfl⟩

end Go.Proofs.Ybulkdkiu
