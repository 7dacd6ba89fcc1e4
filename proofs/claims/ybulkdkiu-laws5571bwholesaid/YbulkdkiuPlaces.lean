/-
  Slices of places (two cells an element) in memory: copied whole, compared; a slice of strings searched.
-/
import Derived.Test.YbulkdkiuAdd
import Derived.Deep.QuietTactic
import Derived.BigQuiet
namespace Go.Proofs.Ybulkdkiu
open Go.RowKit Go.Maps
set_option linter.unusedVariables false
set_option linter.unusedSimpArgs false

def pcells : List (ByteArray × Int) → List Value
  | [] => []
  | x :: r => .string x.1 :: .int .i64 x.2 :: pcells r

theorem pcells_len : ∀ ps, (pcells ps).length = ps.length * 2
  | [] => rfl
  | x :: r => by simp [pcells, pcells_len r]; omega
theorem pcells_one : ∀ ps, ∀ u ∈ pcells ps, u.oneCell' = true
  | [], u, h => by simp [pcells] at h
  | x :: r, u, h => by
    simp only [pcells, List.mem_cons] at h
    rcases h with rfl | rfl | h
    · rfl
    · rfl
    · exact pcells_one r u h
theorem pcells_append : ∀ ps qs, pcells (ps ++ qs) = pcells ps ++ pcells qs
  | [], qs => rfl
  | x :: r, qs => by simp [pcells, pcells_append r qs]
theorem pcells_get : ∀ (ps : List (ByteArray × Int)) (j : Nat) (x : ByteArray × Int), ps[j]? = some x → (pcells ps)[j * 2]? = some (.string x.1) ∧ (pcells ps)[j * 2 + 1]? = some (.int .i64 x.2)
  | [], j, x, h => by simp at h
  | y :: r, 0, x, h => by simp at h; subst h; simp [pcells]
  | y :: r, j + 1, x, h => by
    have := pcells_get r j x (by simpa using h)
    rw [show (j + 1) * 2 = j * 2 + 1 + 1 by omega]
    simpa [pcells] using this

theorem run_copy_whole {P : Program} (w : World) (dT sT ty elem : TypeId) (i : TypeInfo) (size : Nat) (hu : P.underlying dT = some (.slice elem)) (hi : P.info? elem = some i) (hsz : i.size = size) (g n : Nat) (ad : Addr) (sCap : Nat)
    (cur : Array Value) (t : TypeId) (hg : w.heap[g]? = some (.cells cur t (0, 0))) (hcur : cur.size = n * size) (cs : List Value) (hl : cs.length = n * size) (hsrc : ∀ j v, cs[j]? = some v → w.cell? (ad.add j) = some v) (h1 : ∀ v ∈ cs, v.oneCell' = true) :
    (Builtin.copy_ #[dT, sT] ty #[.slice (some ⟨g, 0, none⟩) n n, .slice (some ad) n sCap]).run P w = .ok (goInt n) (w.setRow g cs.toArray) := by
  have hf := run_firstCells_some (P := P) w size n ad n sCap cs hl hsrc
  have hst := run_storeCells_at P g 0 t cs 0 cur w hg (by omega) h1
  have e : cur.toList.drop (0 + 0 + cs.length) = [] := List.drop_eq_nil_of_le (by simp; omega)
  rw [e] at hst
  simp [Builtin.copy_, run_underlying hu, Builtin.lenOf, sizeOf, typeInfo, hi, hsz, hf, hst]

theorem wpList_copy_whole {P : Program} {w : World} {ops : Array Oper} {rest : List Oper} {o : Oper} {a : Act} {Q : Exit → Act → World → Prop} (hgd : o.guard = none) (d s : Operand) (dT sT : TypeId)
    (ho : o.op = .call { callee := .builtin .copy, args := #[d, s], argTypes := #[dT, sT] }) (elem : TypeId) (i : TypeInfo) (size : Nat) (hu : P.underlying dT = some (.slice elem)) (hi : P.info? elem = some i) (hsz : i.size = size) (g n : Nat) (ad : Addr) (sCap : Nat)
    (hd : a.eval d = .slice (some ⟨g, 0, none⟩) n n) (hs : a.eval s = .slice (some ad) n sCap) (cur : Array Value) (t : TypeId) (hg : w.heap[g]? = some (.cells cur t (0, 0))) (hcur : cur.size = n * size) (cs : List Value) (hl : cs.length = n * size)
    (hsrc : ∀ j v, cs[j]? = some v → w.cell? (ad.add j) = some v) (h1 : ∀ v ∈ cs, v.oneCell' = true)
    (h : ∀ w', w'.heap[g]? = some (.cells cs.toArray t (0, 0)) → w.grownBy w' (some g) → wpList P ops Q rest (a.put o.dst (goInt n)) w') : wpList P ops Q (o :: rest) a w := by
  refine wpList_plain hgd fun K hK => ?_
  have hrun := run_copy_whole (P := P) w dT sT o.type elem i size hu hi hsz g n ad sCap cur t hg hcur cs hl hsrc h1
  unfold Oper.wp
  simp only [execOp, ho, resolve, invoke, builtin, Sem.run_bind, Sem.run_pure, Result.andThen_ok, List.map_toArray, List.map_cons, List.map_nil, hd, hs, hrun]
  exact hK _ _ (h _ (setRow_heap w g cur _ t _ hg) ⟨rfl, rfl, rfl, by simp [World.setRow], fun k _ hk => setRow_other w g k _ (fun e => hk (by rw [e]))⟩)

theorem info36 : (Yba.prog.info? 36).map (fun i => (i.zero, i.size, i.bytes)) = some (some (.agg #[.string ByteArray.empty, .int .i64 0]), 2, 24) := by kernel_rfl

theorem made_row36 {w : World} {B g n : Nat} {xs : List Value} (h : w.ownsRow B 36 2 (.slice (some ⟨g, 0, none⟩) n n) n xs) : ∃ cur : Array Value, cur.size = n * 2 ∧ w.heap[g]? = some (.cells cur 36 (0, 0)) := by
  rcases h.2 with ⟨hv, _⟩ | ⟨g', cap, cur, hv, _, hg, _, _, hs, _⟩
  · cases hv
  · cases hv
    exact ⟨cur, hs, hg⟩

set_option maxHeartbeats 400000 in
theorem ccopy_nil (w : World) : Calls Yba.prog 13 #[.slice none 0 0] w fun e w' => e = .returned (.slice none 0 0) ∧ w' = w := by
  have hne := fun w' => Lib.run_eql_slice_nil (P := Yba.prog) w' 42 36 none 0 0 0 0 Yba.underlying42
  go_enter Yba.func13, Yba.ntmps13
  go_wp2
  go_ret
  exact ⟨rfl, rfl⟩

set_option maxHeartbeats 400000 in
theorem ccopy_some (ad : Addr) (n cap : Nat) (ps : List (ByteArray × Int)) (w : World) (hn : ps.length = n) (hbig : n ≤ 1048576) (hc : ∀ j v, (pcells ps)[j]? = some v → w.cell? (ad.add j) = some v) :
    Calls Yba.prog 13 #[.slice (some ad) n cap] w fun e w' => e = .returned (.slice (some ⟨w.heap.size, 0, none⟩) n n) ∧ w'.heap[w.heap.size]? = some (.cells (pcells ps).toArray 36 (0, 0)) ∧ Below w.heap.size w w' := by
  obtain ⟨i0, hi, hz0, hz1, hz2⟩ := info_parts info36
  have hne := fun w' => Lib.run_eql_slice_nil (P := Yba.prog) w' 42 36 (some ad) n cap 0 0 Yba.underlying42
  have tok : True := trivial
  go_enter Yba.func13, Yba.ntmps13
  go_wp2_with (first | (at_make; go_must (refine wpList_make_full _ rfl _ _ 42 rfl w.heap.size 36 i0 _ 2 Yba.underlying42 hi hz0 hz1 .i64 .i64 _ _ n rfl rfl (by omega) (by omega) (by rw [hz2]; omega) (by unfold maxLen; omega) (Nat.le_refl _) ?_); intro w1 hown1 hgr1; obtain ⟨cur, hcl, hrow⟩ := made_row36 hown1; have HCL : Hid (cur.size = n * 2) := hcl; have HR : Hid (w1.heap[w.heap.size]? = some (.cells cur 36 (0, 0))) := hrow; have hb1 : Below w.heap.size w w1 := (Below.refl _ w).grown hgr1 (by simp) (fun k hk => by cases hk); have hc1 : ∀ j u, (pcells ps)[j]? = some u → w1.cell? (ad.add j) = some u := fun j u hu => hgr1.cell (hc j u hu) (by simp); clear hgr1 hown1 hcl hrow hc) | (have _t := tok; refine wpList_copy_whole rfl (.tmp 9) (.tmp 10) 42 42 rfl 36 i0 2 Yba.underlying42 hi hz1 w.heap.size n ad cap rfl rfl cur 36 HR.out HCL.out (pcells ps) (by rw [pcells_len, hn]) hc1 (pcells_one ps) ?_; intro w2 hr2 hg2; clear tok))
  go_ret
  exact ⟨rfl, hr2, hb1.grown hg2 hb1.size (fun k hk => by cases hk; exact Nat.le_refl _)⟩

set_option maxHeartbeats 400000 in
theorem ceq_nil (w : World) : Calls Yba.prog 16 #[.slice none 0 0, .slice none 0 0] w fun e w' => e = .returned (.bool true) ∧ w' = w := by
  have hne := fun w' => Lib.run_eql_slice_nil (P := Yba.prog) w' 42 36 none 0 0 0 0 Yba.underlying42
  go_enter Yba.func16, Yba.ntmps16
  go_wp2
  refine wp_loop_rounds 1 ?_
  rw [rounds_succ]
  go_wp2
  go_ret
  exact ⟨rfl, rfl⟩

theorem beq_self_bytes (a : ByteArray) : (a.toList == a.toList) = true := by simp

set_option maxHeartbeats 400000 in
theorem ceq_empty (a0 a1 : Addr) (c0 c1 : Nat) (w : World) : Calls Yba.prog 16 #[.slice (some a0) 0 c0, .slice (some a1) 0 c1] w fun e w' => e = .returned (.bool true) ∧ w' = w := by
  have hn0 := fun w' => Lib.run_eql_slice_nil (P := Yba.prog) w' 42 36 (some a0) 0 c0 0 0 Yba.underlying42
  have hn1 := fun w' => Lib.run_eql_slice_nil (P := Yba.prog) w' 42 36 (some a1) 0 c1 0 0 Yba.underlying42
  go_enter Yba.func16, Yba.ntmps16
  go_wp2
  refine wp_loop_rounds 1 ?_
  rw [rounds_succ]
  go_wp2
  go_ret
  exact ⟨rfl, rfl⟩

set_option maxHeartbeats 800000 in
theorem ceq_some (b0 o0 b1 o1 n c0 c1 : Nat) (ps : List (ByteArray × Int)) (w : World) (hn : ps.length = n) (hbig : n ≤ 1048576)
    (h0 : ∀ j v, (pcells ps)[j]? = some v → w.cell? ⟨b0, o0 + j, none⟩ = some v) (h1 : ∀ j v, (pcells ps)[j]? = some v → w.cell? ⟨b1, o1 + j, none⟩ = some v) :
    Calls Yba.prog 16 #[.slice (some ⟨b0, o0, none⟩) n c0, .slice (some ⟨b1, o1, none⟩) n c1] w fun e w' => e = .returned (.bool true) ∧ ∃ q, w' = w.drewN q := by
  have hn0 := fun w' => Lib.run_eql_slice_nil (P := Yba.prog) w' 42 36 (some ⟨b0, o0, none⟩) n c0 0 0 Yba.underlying42
  have hn1 := fun w' => Lib.run_eql_slice_nil (P := Yba.prog) w' 42 36 (some ⟨b1, o1, none⟩) n c1 0 0 Yba.underlying42
  have heq := eq36
  have a36 := Yba.isAgg36
  have z36 := Yba.sizeOf36
  go_enter Yba.func16, Yba.ntmps16
  go_wp2
  go_loopw [5] (fun i wr => ∃ k q : Nat, k ≤ n ∧ i = .int .i64 k ∧ wr = w.drewN q) (fun i _ => n - (intOf i).toNat)
  case atStart => exact ⟨0, 0, Nat.zero_le _, rfl, rfl⟩
  case round =>
    obtain ⟨k, q, hk, rfl, rfl⟩ := hrel
    by_cases hlt : k < n
    · have hlt' : (k : Int) < (n : Int) := by omega
      obtain ⟨x, hx⟩ : ∃ x, ps[k]? = some x := ⟨_, List.getElem?_eq_getElem (by omega)⟩
      obtain ⟨e0, e1⟩ := pcells_get ps k x hx
      have g0 := h0 _ _ e0
      have g0' := h0 _ _ e1
      have g1 := h1 _ _ e0
      have g1' := h1 _ _ e1
      rw [← Nat.add_assoc] at g0' g1'
      have hself := beq_self_bytes x.1
      clear h0 h1 e0 e1 hx hn
      go_wp2
      go_quiet (fail)
      go_wp2
      go_roundw
      case rel => exact ⟨k + 1, _, by omega, by go_num, rfl⟩
      case measure => simp [intOf]; omega
    · go_wp2
      go_ret
      exact ⟨rfl, _, rfl⟩

def hasB (xs : List ByteArray) (s : ByteArray) : Bool := xs.any fun x => x.toList == s.toList

theorem bytes_toList_inj {a b : ByteArray} (h : a.toList = b.toList) : a = b := by
  rw [ByteArray.toList_eq, ByteArray.toList_eq] at h
  exact ByteArray.ext (Array.toList_inj.1 h)

theorem hasB_iff (xs : List ByteArray) (s : ByteArray) : hasB xs s = true ↔ s ∈ xs := by
  unfold hasB
  rw [List.any_eq_true]
  constructor
  · rintro ⟨x, hx, he⟩
    have := bytes_toList_inj (beq_iff_eq.1 he)
    exact this ▸ hx
  · intro h
    exact ⟨s, h, by simp⟩

theorem hasB_false {xs : List ByteArray} {s : ByteArray} (h : ∀ (j : Nat) (x : ByteArray), xs[j]? = some x → (x.toList == s.toList) = false) : hasB xs s = false := by
  unfold hasB
  rw [List.any_eq_false]
  intro x hx
  obtain ⟨j, hj⟩ := List.getElem?_of_mem hx
  rw [h j x hj]; simp

theorem hasB_true {xs : List ByteArray} {s : ByteArray} {j : Nat} {x : ByteArray} (hj : xs[j]? = some x) (h : (x.toList == s.toList) = true) : hasB xs s = true := by
  unfold hasB
  rw [List.any_eq_true]
  exact ⟨x, List.mem_of_getElem? hj, h⟩

set_option maxHeartbeats 400000 in
/-- zzs5571chas. -/
theorem chas_any (ao : Option Addr) (cap n : Nat) (xs : List ByteArray) (s : ByteArray) (w : World) (hn : xs.length = n) (hbig : n ≤ 1099511627776) (h0 : 0 < n → ∃ g, ao = some ⟨g, 0, none⟩ ∧ ∀ j u, (strs xs)[j]? = some u → w.cell? ⟨g, j, none⟩ = some u) :
    Calls Yba.prog 15 #[.slice ao n cap, .string s] w fun e w' => e = .returned (.bool (hasB xs s)) ∧ w' = w := by
  obtain ⟨R, hR⟩ : ∃ R, R = hasB xs s := ⟨_, rfl⟩
  rw [← hR]
  have HR : Hid (R = hasB xs s) := hR
  clear hR
  go_enter Yba.func15, Yba.ntmps15
  go_wp2
  go_loop [5] (fun i => ∃ k : Nat, k ≤ n ∧ i = .int .i64 k ∧ ∀ (j : Nat) (x : ByteArray), j < k → xs[j]? = some x → (x.toList == s.toList) = false) (fun i => n - (intOf i).toNat)
  case atStart => exact ⟨0, Nat.zero_le _, rfl, fun j x hj => by omega⟩
  case round =>
    obtain ⟨k, hk, rfl, hno⟩ := hrel
    by_cases hlt : k < n
    · obtain ⟨g, hao, hc⟩ := h0 (by omega)
      subst hao
      obtain ⟨x, hx⟩ : ∃ x, xs[k]? = some x := ⟨_, List.getElem?_eq_getElem (by omega)⟩
      have cx := hc k _ (strs_get hx)
      have HX : Hid (xs[k]? = some x) := hx
      have HNO : Hid (∀ (j : Nat) (x : ByteArray), j < k → xs[j]? = some x → (x.toList == s.toList) = false) := hno
      clear hx hc hno h0
      cases heq : (x.toList == s.toList) with
      | true =>
        have HT : Hid (R = true) := HR.out.trans (hasB_true HX.out heq)
        go_wp2
        go_ret
        exact ⟨congrArg (fun b => Ending.returned (Value.bool b)) HT.out.symm, rfl⟩
      | false =>
        have HF : Hid ((x.toList == s.toList) = false) := heq
        go_wp2
        go_round
        case rel =>
          refine ⟨k + 1, by omega, by go_num, fun j y hj hy => ?_⟩
          by_cases hjk : j < k
          · exact HNO.out j y hjk hy
          · obtain rfl : j = k := by omega
            have hx2 := HX.out
            rw [hy] at hx2
            cases hx2
            exact HF.out
        case measure => simp [intOf]; omega
    · have HF : Hid (R = false) := HR.out.trans (hasB_false (fun j x hx => hno j x (by have := (List.getElem?_eq_some_iff.1 hx).1; omega) hx))
      clear hno
      go_wp2
      go_ret
      exact ⟨congrArg (fun b => Ending.returned (Value.bool b)) HF.out.symm, rfl⟩

end Go.Proofs.Ybulkdkiu
