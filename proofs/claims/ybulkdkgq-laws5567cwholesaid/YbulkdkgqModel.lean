/-
  zzs5567cmodel: what it builds is dst's bytes, the tag 3 and the varint of clock, in a row of its own.
-/
import Derived.Test.YbulkdkgqEq
import Derived.Test.YbulkdkgqLen
import Derived.Test.YbulkdkgqPlain
import Derived.Laws.AppendOwnNone
namespace Go.Proofs.Ybulkdkgq
open Go.RowKit

theorem bitLenAux_le : ∀ (f x : Nat), Lib.bitLenAux f x ≤ f
  | 0, _ => Nat.le_refl _
  | f + 1, x => by
    unfold Lib.bitLenAux
    have := bitLenAux_le f (x / 2)
    split <;> omega

theorem byte_at (x k : Nat) (hx : x < 18446744073709551616) : bits .and .u64 ((x : Int) / 2 ^ (7 * k)) 127 = ((x / 128 ^ k % 128 : Nat) : Int) := by
  have e1 : ((x : Int) / 2 ^ (7 * k)) = ((x / 128 ^ k : Nat) : Int) := by
    have e2 : ((2 : Int) ^ (7 * k)) = ((128 ^ k : Nat) : Int) := by rw [Int.pow_mul]; simp
    rw [Int.natCast_ediv, e2]
  have hlt : x / 128 ^ k < 2 ^ 64 := Nat.lt_of_le_of_lt (Nat.div_le_self _ _) (Nat.lt_of_lt_of_le hx (by decide))
  have h := (bits_nat .u64 64 (by decide) (fun n h₀ h₁ => by rw [IntKind.wrap_u64]; omega) (x / 128 ^ k) 127 hlt (by decide)).1
  have h2 : (x / 128 ^ k &&& 127) = x / 128 ^ k % 128 := Nat.and_two_pow_sub_one_eq_mod _ 7
  rw [e1]
  rw [h2] at h
  exact h

theorem len64_at (x L : Nat) (w : World) (h1 : x < 18446744073709551616) (hL : Hid (Lib.bitLen x = L)) :
    Calls Yba.prog 7 #[.int .u64 (x : Int)] w fun e w' => e = .returned (.int .i64 (L : Int)) ∧ w' = w := by
  have h := len64_any (x : Int) w (by omega) (by omega)
  rw [Int.toNat_natCast, hL.out] at h
  exact h

set_option maxHeartbeats 1000000 in
theorem model_some_1 (ad : Addr) (n cap x L : Nat) (olds : List Value) (w : World) (hx : x < 18446744073709551616) (hn : n ≤ 1048576) (hL : Lib.bitLen x = L) (hL0 : ¬ L = 0)
    (hl : olds.length = n) (h1 : ∀ u ∈ olds, u.oneCell' = true) (holds : ∀ j u, olds[j]? = some u → w.cell? (ad.add j) = some u) :
    Calls Yba.prog 4 #[.slice (some ad) n cap, .int .u64 x] w fun e w' => ∃ v', e = .returned v' ∧ w'.ownsRow w.heap.size 5 1 v' (n + 1 + (Lib.uvarint x).length) (olds ++ [.int .u8 3] ++ Lib.byteCells (Lib.uvarint x)) ∧ Below w.heap.size w w' := by
  obtain ⟨i0, hi, hz0, hz1, hz2⟩ := info_parts info5
  have hlen := Lib.uvarint_length64 hx
  have tok1 : True := trivial
  have tok2 : True := trivial
  have tok3 : True := trivial
  have hL64 : L ≤ 64 := by rw [← hL]; exact bitLenAux_le 64 x
  have HL : Hid (Lib.bitLen x = L) := hL
  have hN := uvarint_len x hx
  rw [hL] at hN
  clear hL
  rw [if_neg (by omega)] at hN
  have HN : Hid ((Lib.uvarint x).length = (L + 6) / 7) := hN
  clear hN
  have hc0 : (((L : Int) + 6) / 7 == 0) = false := by rw [beq_eq_false_iff_ne]; omega
  go_enter Yba.func4, Yba.ntmps4
  go_wp2_with (first | (at_make; have _t := tok1; refine wpList_make_own _ rfl _ _ 22 rfl w.heap.size 5 i0 (.int .u8 0) 1 Yba.underlying22 hi hz0 hz1 .i64 .i64 _ (n + 11) rfl rfl (by omega) (by rw [hz2]; omega) (by unfold maxLen; omega) (Nat.le_refl _) ?_; intro w1 hown1 hgr1; clear tok1; have hb1 : Below w.heap.size w w1 := (Below.refl _ w).grown hgr1 (by simp) (fun k hk => by cases hk); have holds1 : ∀ j u, olds[j]? = some u → w1.cell? (ad.add j) = some u := fun j u hu => hgr1.cell (holds j u hu) (by simp); clear hgr1) | (at_builtin; have _t := tok2; refine wpList_append_own _ rfl (.tmp 13) (.tmp 14) 22 rfl w.heap.size 5 i0 (.int .u8 0) 1 1 Yba.underlying22 hi hz0 hz1 hz2 rfl (by decide) _ 0 [] rfl hown1 ad n cap olds rfl (by omega) holds1 h1 (by unfold maxLen; omega) (by omega) hb1.size ?_; intro v2 w2 hown2 hgr2 _; clear tok2; have hb2 : Below w.heap.size w w2 := hb1.grown hgr2 hb1.size (fun k hk => (hown1.lt k hk).1); simp only [Nat.zero_add, List.nil_append] at hown2; clear hgr2 hown1 holds1 holds hb1) | (at_builtin; have _t := tok3; refine wpList_append_own _ rfl (.tmp 16) (.tmp 17) 22 rfl w.heap.size 5 i0 (.int .u8 0) 1 1 Yba.underlying22 hi hz0 hz1 hz2 rfl (by decide) _ n _ rfl (hown2.alloc _) ⟨w2.heap.size, 0, none⟩ 1 1 [.int .u8 3] rfl rfl (cell_one_new5 w2 _) (by intro u hu; simp at hu; subst hu; rfl) (by unfold maxLen; omega) (by omega) (by have := hb2.size; simp; omega) ?_; intro v3 w3 hown3 hgr3 _; clear tok3; have hb3 : Below w.heap.size w w3 := (hb2.alloc hb2.size _).grown hgr3 (by have := hb2.size; simp; omega) (fun k hk => (hown2.lt k hk).1); clear hgr3 hown2 hb2) | (go_at_call 7; refine (len64_at x L _ hx HL).mono ?_; rintro e w' ⟨rfl, rfl⟩))
  go_loopw [5, 7] (fun v i wr => ∃ k : Nat, k ≤ (Lib.uvarint x).length ∧ i = .int .i64 k ∧ wr.ownsRow w.heap.size 5 1 v (n + 1 + k) (olds ++ [.int .u8 3] ++ Lib.byteCells ((Lib.uvarint x).take k)) ∧ Below w.heap.size w wr) (fun _ i _ => (Lib.uvarint x).length - (intOf i).toNat)
  case atStart => exact ⟨0, Nat.zero_le _, rfl, by simpa [Lib.byteCells] using hown3, hb3⟩
  case round =>
    obtain ⟨k, hk, rfl, hown, hb⟩ := hrel
    clear hown3 hb3
    have hand := byte_at x k hx
    have hat := uvarint_at k x
    rw [HN.out] at hat
    obtain ⟨y, hy⟩ : ∃ y, x / 128 ^ k % 128 = y := ⟨_, rfl⟩
    have hy128 : y < 128 := by omega
    rw [hy] at hand hat
    clear hy
    have HA : Hid (k < (L + 6) / 7 → (Lib.uvarint x)[k]? = some (y + if k + 1 < (L + 6) / 7 then 128 else 0).toUInt8) := hat
    clear hat
    have hor : bits .or .u8 (y : Int) 128 = (y : Int) + 128 := by
      rw [Lib.u8_or128_any _ (by omega) (by omega)]; omega
    have hk10 : k ≤ 10 := by omega
    by_cases hlt : k < (L + 6) / 7
    · have hgot := HA.out hlt
      by_cases hlast : k + 1 < (L + 6) / 7
      · rw [if_pos hlast] at hgot
        have HG : Hid (Lib.byteCells ((Lib.uvarint x).take (k + 1)) = Lib.byteCells ((Lib.uvarint x).take k) ++ [.int .u8 ((y : Int) + 128)]) := by
          show _ = _
          rw [take_snoc_at hgot, Lib.byteCells_snoc _ (by omega)]; rfl
        clear hgot
        go_wp2_with (at_builtin; go_must (refine wpList_append_own _ rfl (.tmp 43) (.tmp 45) 22 rfl w.heap.size 5 i0 (.int .u8 0) 1 1 Yba.underlying22 hi hz0 hz1 hz2 rfl (by decide) _ (n + 1 + k) _ rfl (hown.alloc _) ⟨wr.heap.size, 0, none⟩ 1 1 [.int .u8 ((y : Int) + 128)] rfl rfl (cell_one_new5 wr _) (by intro u hu; simp at hu; subst hu; rfl) (by unfold maxLen; omega) (by omega) (by have := hb.size; simp; omega) ?_); intro v4 w4 hown4 hgr4 _; have hb4 : Below w.heap.size w w4 := (hb.alloc hb.size _).grown hgr4 (by have := hb.size; simp; omega) (fun k hk => (hown.lt k hk).1); clear hgr4 hown hb)
        go_roundw
        case rel => exact ⟨k + 1, by rw [HN.out]; omega, by go_num, by rw [HG.out, ← List.append_assoc, ← Nat.add_assoc]; exact hown4, hb4⟩
        case measure => have := HN.out; simp [intOf]; omega
      · rw [if_neg hlast] at hgot
        have HG : Hid (Lib.byteCells ((Lib.uvarint x).take (k + 1)) = Lib.byteCells ((Lib.uvarint x).take k) ++ [.int .u8 (y : Int)]) := by
          show _ = _
          rw [take_snoc_at hgot, Nat.add_zero, Lib.byteCells_snoc _ (by omega)]
        clear hgot
        go_wp2_with (at_builtin; go_must (refine wpList_append_own _ rfl (.tmp 43) (.tmp 45) 22 rfl w.heap.size 5 i0 (.int .u8 0) 1 1 Yba.underlying22 hi hz0 hz1 hz2 rfl (by decide) _ (n + 1 + k) _ rfl (hown.alloc _) ⟨wr.heap.size, 0, none⟩ 1 1 [.int .u8 (y : Int)] rfl rfl (cell_one_new5 wr _) (by intro u hu; simp at hu; subst hu; rfl) (by unfold maxLen; omega) (by omega) (by have := hb.size; simp; omega) ?_); intro v4 w4 hown4 hgr4 _; have hb4 : Below w.heap.size w w4 := (hb.alloc hb.size _).grown hgr4 (by have := hb.size; simp; omega) (fun k hk => (hown.lt k hk).1); clear hgr4 hown hb)
        go_roundw
        case rel => exact ⟨k + 1, by rw [HN.out]; omega, by go_num, by rw [HG.out, ← List.append_assoc, ← Nat.add_assoc]; exact hown4, hb4⟩
        case measure => have := HN.out; simp [intOf]; omega
    · go_wp2
      go_ret
      have hkN : k = (Lib.uvarint x).length := by have := HN.out; omega
      rw [List.take_of_length_le (by omega)] at hown
      subst hkN
      exact ⟨_, rfl, hown, hb⟩

set_option maxHeartbeats 1000000 in
theorem model_some_0 (ad : Addr) (n cap x L : Nat) (olds : List Value) (w : World) (hx : x < 18446744073709551616) (hn : n ≤ 1048576) (hL : Lib.bitLen x = L) (hL0 : L = 0)
    (hl : olds.length = n) (h1 : ∀ u ∈ olds, u.oneCell' = true) (holds : ∀ j u, olds[j]? = some u → w.cell? (ad.add j) = some u) :
    Calls Yba.prog 4 #[.slice (some ad) n cap, .int .u64 x] w fun e w' => ∃ v', e = .returned v' ∧ w'.ownsRow w.heap.size 5 1 v' (n + 1 + (Lib.uvarint x).length) (olds ++ [.int .u8 3] ++ Lib.byteCells (Lib.uvarint x)) ∧ Below w.heap.size w w' := by
  obtain ⟨i0, hi, hz0, hz1, hz2⟩ := info_parts info5
  have hlen := Lib.uvarint_length64 hx
  have tok1 : True := trivial
  have tok2 : True := trivial
  have tok3 : True := trivial
  have hL64 : L ≤ 64 := by rw [← hL]; exact bitLenAux_le 64 x
  have HL : Hid (Lib.bitLen x = L) := hL
  have hN := uvarint_len x hx
  rw [hL] at hN
  clear hL
  subst hL0
  have HN : Hid ((Lib.uvarint x).length = 1) := hN
  clear hN
  go_enter Yba.func4, Yba.ntmps4
  go_wp2_with (first | (at_make; have _t := tok1; refine wpList_make_own _ rfl _ _ 22 rfl w.heap.size 5 i0 (.int .u8 0) 1 Yba.underlying22 hi hz0 hz1 .i64 .i64 _ (n + 11) rfl rfl (by omega) (by rw [hz2]; omega) (by unfold maxLen; omega) (Nat.le_refl _) ?_; intro w1 hown1 hgr1; clear tok1; have hb1 : Below w.heap.size w w1 := (Below.refl _ w).grown hgr1 (by simp) (fun k hk => by cases hk); have holds1 : ∀ j u, olds[j]? = some u → w1.cell? (ad.add j) = some u := fun j u hu => hgr1.cell (holds j u hu) (by simp); clear hgr1) | (at_builtin; have _t := tok2; refine wpList_append_own _ rfl (.tmp 13) (.tmp 14) 22 rfl w.heap.size 5 i0 (.int .u8 0) 1 1 Yba.underlying22 hi hz0 hz1 hz2 rfl (by decide) _ 0 [] rfl hown1 ad n cap olds rfl (by omega) holds1 h1 (by unfold maxLen; omega) (by omega) hb1.size ?_; intro v2 w2 hown2 hgr2 _; clear tok2; have hb2 : Below w.heap.size w w2 := hb1.grown hgr2 hb1.size (fun k hk => (hown1.lt k hk).1); simp only [Nat.zero_add, List.nil_append] at hown2; clear hgr2 hown1 holds1 holds hb1) | (at_builtin; have _t := tok3; refine wpList_append_own _ rfl (.tmp 16) (.tmp 17) 22 rfl w.heap.size 5 i0 (.int .u8 0) 1 1 Yba.underlying22 hi hz0 hz1 hz2 rfl (by decide) _ n _ rfl (hown2.alloc _) ⟨w2.heap.size, 0, none⟩ 1 1 [.int .u8 3] rfl rfl (cell_one_new5 w2 _) (by intro u hu; simp at hu; subst hu; rfl) (by unfold maxLen; omega) (by omega) (by have := hb2.size; simp; omega) ?_; intro v3 w3 hown3 hgr3 _; clear tok3; have hb3 : Below w.heap.size w w3 := (hb2.alloc hb2.size _).grown hgr3 (by have := hb2.size; simp; omega) (fun k hk => (hown2.lt k hk).1); clear hgr3 hown2 hb2) | (go_at_call 7; refine (len64_at x 0 _ hx HL).mono ?_; rintro e w' ⟨rfl, rfl⟩))
  go_loopw [5, 7] (fun v i wr => ∃ k : Nat, k ≤ (Lib.uvarint x).length ∧ i = .int .i64 k ∧ wr.ownsRow w.heap.size 5 1 v (n + 1 + k) (olds ++ [.int .u8 3] ++ Lib.byteCells ((Lib.uvarint x).take k)) ∧ Below w.heap.size w wr) (fun _ i _ => (Lib.uvarint x).length - (intOf i).toNat)
  case atStart => exact ⟨0, Nat.zero_le _, rfl, by simpa [Lib.byteCells] using hown3, hb3⟩
  case round =>
    obtain ⟨k, hk, rfl, hown, hb⟩ := hrel
    clear hown3 hb3
    have hand := byte_at x k hx
    have hat := uvarint_at k x
    rw [HN.out] at hat
    obtain ⟨y, hy⟩ : ∃ y, x / 128 ^ k % 128 = y := ⟨_, rfl⟩
    have hy128 : y < 128 := by omega
    rw [hy] at hand hat
    clear hy
    have HA : Hid (k < 1 → (Lib.uvarint x)[k]? = some (y + if k + 1 < 1 then 128 else 0).toUInt8) := hat
    clear hat
    have hor : bits .or .u8 (y : Int) 128 = (y : Int) + 128 := by
      rw [Lib.u8_or128_any _ (by omega) (by omega)]; omega
    have hk10 : k ≤ 10 := by omega
    by_cases hlt : k < 1
    · have hgot := HA.out hlt
      obtain rfl : k = 0 := by omega
      have hlast : ¬ 0 + 1 < 1 := by omega
      rw [if_neg hlast] at hgot
      have HG : Hid (Lib.byteCells ((Lib.uvarint x).take (0 + 1)) = Lib.byteCells ((Lib.uvarint x).take 0) ++ [.int .u8 (y : Int)]) := by
        show _ = _
        rw [take_snoc_at hgot, Nat.add_zero, Lib.byteCells_snoc _ (by omega)]
      clear hgot
      have hand0 : bits .and .u64 (x : Int) 127 = (y : Int) := by simpa using hand
      clear hand
      go_wp2_with (at_builtin; go_must (refine wpList_append_own _ rfl (.tmp 43) (.tmp 45) 22 rfl w.heap.size 5 i0 (.int .u8 0) 1 1 Yba.underlying22 hi hz0 hz1 hz2 rfl (by decide) _ (n + 1 + 0) _ rfl (hown.alloc _) ⟨wr.heap.size, 0, none⟩ 1 1 [.int .u8 (y : Int)] rfl rfl (cell_one_new5 wr _) (by intro u hu; simp at hu; subst hu; rfl) (by unfold maxLen; omega) (by omega) (by have := hb.size; simp; omega) ?_); intro v4 w4 hown4 hgr4 _; have hb4 : Below w.heap.size w w4 := (hb.alloc hb.size _).grown hgr4 (by have := hb.size; simp; omega) (fun k hk => (hown.lt k hk).1); clear hgr4 hown hb)
      go_roundw
      case rel => exact ⟨0 + 1, by rw [HN.out]; omega, by go_num, by rw [HG.out, ← List.append_assoc, ← Nat.add_assoc]; exact hown4, hb4⟩
      case measure => have := HN.out; simp [intOf]; omega
    · go_wp2
      go_ret
      have hkN : k = (Lib.uvarint x).length := by have := HN.out; omega
      rw [List.take_of_length_le (by omega)] at hown
      subst hkN
      exact ⟨_, rfl, hown, hb⟩

set_option maxHeartbeats 1000000 in
theorem model_nil_1 (x L : Nat) (w : World) (hx : x < 18446744073709551616) (hL : Lib.bitLen x = L) (hL0 : ¬ L = 0) :
    Calls Yba.prog 4 #[.slice none 0 0, .int .u64 x] w fun e w' => ∃ v', e = .returned v' ∧ w'.ownsRow w.heap.size 5 1 v' (0 + 1 + (Lib.uvarint x).length) (([] : List Value) ++ [.int .u8 3] ++ Lib.byteCells (Lib.uvarint x)) ∧ Below w.heap.size w w' := by
  obtain ⟨i0, hi, hz0, hz1, hz2⟩ := info_parts info5
  have hlen := Lib.uvarint_length64 hx
  have tok1 : True := trivial
  have tok2 : True := trivial
  have tok3 : True := trivial
  have hL64 : L ≤ 64 := by rw [← hL]; exact bitLenAux_le 64 x
  have HL : Hid (Lib.bitLen x = L) := hL
  have hN := uvarint_len x hx
  rw [hL] at hN
  clear hL
  rw [if_neg (by omega)] at hN
  have HN : Hid ((Lib.uvarint x).length = (L + 6) / 7) := hN
  clear hN
  have hc0 : (((L : Int) + 6) / 7 == 0) = false := by rw [beq_eq_false_iff_ne]; omega
  go_enter Yba.func4, Yba.ntmps4
  go_wp2_with (first | (at_make; have _t := tok1; refine wpList_make_own _ rfl _ _ 22 rfl w.heap.size 5 i0 (.int .u8 0) 1 Yba.underlying22 hi hz0 hz1 .i64 .i64 _ (11) rfl rfl (by omega) (by rw [hz2]; omega) (by unfold maxLen; omega) (Nat.le_refl _) ?_; intro w1 hown1 hgr1; clear tok1; have hb1 : Below w.heap.size w w1 := (Below.refl _ w).grown hgr1 (by simp) (fun k hk => by cases hk); clear hgr1) | (at_builtin; have _t := tok2; refine wpList_append_own_none rfl (.tmp 13) (.tmp 14) 22 rfl w.heap.size 5 i0 1 Yba.underlying22 hi _ 0 [] rfl hown1 rfl ?_; clear tok2; have hb2 := hb1; have hown2 := hown1; clear hown1 hb1) | (at_builtin; have _t := tok3; refine wpList_append_own _ rfl (.tmp 16) (.tmp 17) 22 rfl w.heap.size 5 i0 (.int .u8 0) 1 1 Yba.underlying22 hi hz0 hz1 hz2 rfl (by decide) _ 0 _ rfl (hown2.alloc _) ⟨w1.heap.size, 0, none⟩ 1 1 [.int .u8 3] rfl rfl (cell_one_new5 w1 _) (by intro u hu; simp at hu; subst hu; rfl) (by unfold maxLen; omega) (by omega) (by have := hb2.size; simp; omega) ?_; intro v3 w3 hown3 hgr3 _; clear tok3; have hb3 : Below w.heap.size w w3 := (hb2.alloc hb2.size _).grown hgr3 (by have := hb2.size; simp; omega) (fun k hk => (hown2.lt k hk).1); clear hgr3 hown2 hb2) | (go_at_call 7; refine (len64_at x L _ hx HL).mono ?_; rintro e w' ⟨rfl, rfl⟩))
  go_loopw [5, 7] (fun v i wr => ∃ k : Nat, k ≤ (Lib.uvarint x).length ∧ i = .int .i64 k ∧ wr.ownsRow w.heap.size 5 1 v (0 + 1 + k) (([] : List Value) ++ [.int .u8 3] ++ Lib.byteCells ((Lib.uvarint x).take k)) ∧ Below w.heap.size w wr) (fun _ i _ => (Lib.uvarint x).length - (intOf i).toNat)
  case atStart => exact ⟨0, Nat.zero_le _, rfl, by simpa [Lib.byteCells] using hown3, hb3⟩
  case round =>
    obtain ⟨k, hk, rfl, hown, hb⟩ := hrel
    clear hown3 hb3
    have hand := byte_at x k hx
    have hat := uvarint_at k x
    rw [HN.out] at hat
    obtain ⟨y, hy⟩ : ∃ y, x / 128 ^ k % 128 = y := ⟨_, rfl⟩
    have hy128 : y < 128 := by omega
    rw [hy] at hand hat
    clear hy
    have HA : Hid (k < (L + 6) / 7 → (Lib.uvarint x)[k]? = some (y + if k + 1 < (L + 6) / 7 then 128 else 0).toUInt8) := hat
    clear hat
    have hor : bits .or .u8 (y : Int) 128 = (y : Int) + 128 := by
      rw [Lib.u8_or128_any _ (by omega) (by omega)]; omega
    have hk10 : k ≤ 10 := by omega
    by_cases hlt : k < (L + 6) / 7
    · have hgot := HA.out hlt
      by_cases hlast : k + 1 < (L + 6) / 7
      · rw [if_pos hlast] at hgot
        have HG : Hid (Lib.byteCells ((Lib.uvarint x).take (k + 1)) = Lib.byteCells ((Lib.uvarint x).take k) ++ [.int .u8 ((y : Int) + 128)]) := by
          show _ = _
          rw [take_snoc_at hgot, Lib.byteCells_snoc _ (by omega)]; rfl
        clear hgot
        go_wp2_with (at_builtin; go_must (refine wpList_append_own _ rfl (.tmp 43) (.tmp 45) 22 rfl w.heap.size 5 i0 (.int .u8 0) 1 1 Yba.underlying22 hi hz0 hz1 hz2 rfl (by decide) _ (0 + 1 + k) _ rfl (hown.alloc _) ⟨wr.heap.size, 0, none⟩ 1 1 [.int .u8 ((y : Int) + 128)] rfl rfl (cell_one_new5 wr _) (by intro u hu; simp at hu; subst hu; rfl) (by unfold maxLen; omega) (by omega) (by have := hb.size; simp; omega) ?_); intro v4 w4 hown4 hgr4 _; have hb4 : Below w.heap.size w w4 := (hb.alloc hb.size _).grown hgr4 (by have := hb.size; simp; omega) (fun k hk => (hown.lt k hk).1); clear hgr4 hown hb)
        go_roundw
        case rel => exact ⟨k + 1, by rw [HN.out]; omega, by go_num, by rw [HG.out, ← List.append_assoc, ← Nat.add_assoc]; exact hown4, hb4⟩
        case measure => have := HN.out; simp [intOf]; omega
      · rw [if_neg hlast] at hgot
        have HG : Hid (Lib.byteCells ((Lib.uvarint x).take (k + 1)) = Lib.byteCells ((Lib.uvarint x).take k) ++ [.int .u8 (y : Int)]) := by
          show _ = _
          rw [take_snoc_at hgot, Nat.add_zero, Lib.byteCells_snoc _ (by omega)]
        clear hgot
        go_wp2_with (at_builtin; go_must (refine wpList_append_own _ rfl (.tmp 43) (.tmp 45) 22 rfl w.heap.size 5 i0 (.int .u8 0) 1 1 Yba.underlying22 hi hz0 hz1 hz2 rfl (by decide) _ (0 + 1 + k) _ rfl (hown.alloc _) ⟨wr.heap.size, 0, none⟩ 1 1 [.int .u8 (y : Int)] rfl rfl (cell_one_new5 wr _) (by intro u hu; simp at hu; subst hu; rfl) (by unfold maxLen; omega) (by omega) (by have := hb.size; simp; omega) ?_); intro v4 w4 hown4 hgr4 _; have hb4 : Below w.heap.size w w4 := (hb.alloc hb.size _).grown hgr4 (by have := hb.size; simp; omega) (fun k hk => (hown.lt k hk).1); clear hgr4 hown hb)
        go_roundw
        case rel => exact ⟨k + 1, by rw [HN.out]; omega, by go_num, by rw [HG.out, ← List.append_assoc, ← Nat.add_assoc]; exact hown4, hb4⟩
        case measure => have := HN.out; simp [intOf]; omega
    · go_wp2
      go_ret
      have hkN : k = (Lib.uvarint x).length := by have := HN.out; omega
      rw [List.take_of_length_le (by omega)] at hown
      subst hkN
      exact ⟨_, rfl, hown, hb⟩

set_option maxHeartbeats 1000000 in
theorem model_nil_0 (x L : Nat) (w : World) (hx : x < 18446744073709551616) (hL : Lib.bitLen x = L) (hL0 : L = 0) :
    Calls Yba.prog 4 #[.slice none 0 0, .int .u64 x] w fun e w' => ∃ v', e = .returned v' ∧ w'.ownsRow w.heap.size 5 1 v' (0 + 1 + (Lib.uvarint x).length) (([] : List Value) ++ [.int .u8 3] ++ Lib.byteCells (Lib.uvarint x)) ∧ Below w.heap.size w w' := by
  obtain ⟨i0, hi, hz0, hz1, hz2⟩ := info_parts info5
  have hlen := Lib.uvarint_length64 hx
  have tok1 : True := trivial
  have tok2 : True := trivial
  have tok3 : True := trivial
  have hL64 : L ≤ 64 := by rw [← hL]; exact bitLenAux_le 64 x
  have HL : Hid (Lib.bitLen x = L) := hL
  have hN := uvarint_len x hx
  rw [hL] at hN
  clear hL
  subst hL0
  have HN : Hid ((Lib.uvarint x).length = 1) := hN
  clear hN
  go_enter Yba.func4, Yba.ntmps4
  go_wp2_with (first | (at_make; have _t := tok1; refine wpList_make_own _ rfl _ _ 22 rfl w.heap.size 5 i0 (.int .u8 0) 1 Yba.underlying22 hi hz0 hz1 .i64 .i64 _ (11) rfl rfl (by omega) (by rw [hz2]; omega) (by unfold maxLen; omega) (Nat.le_refl _) ?_; intro w1 hown1 hgr1; clear tok1; have hb1 : Below w.heap.size w w1 := (Below.refl _ w).grown hgr1 (by simp) (fun k hk => by cases hk); clear hgr1) | (at_builtin; have _t := tok2; refine wpList_append_own_none rfl (.tmp 13) (.tmp 14) 22 rfl w.heap.size 5 i0 1 Yba.underlying22 hi _ 0 [] rfl hown1 rfl ?_; clear tok2; have hb2 := hb1; have hown2 := hown1; clear hown1 hb1) | (at_builtin; have _t := tok3; refine wpList_append_own _ rfl (.tmp 16) (.tmp 17) 22 rfl w.heap.size 5 i0 (.int .u8 0) 1 1 Yba.underlying22 hi hz0 hz1 hz2 rfl (by decide) _ 0 _ rfl (hown2.alloc _) ⟨w1.heap.size, 0, none⟩ 1 1 [.int .u8 3] rfl rfl (cell_one_new5 w1 _) (by intro u hu; simp at hu; subst hu; rfl) (by unfold maxLen; omega) (by omega) (by have := hb2.size; simp; omega) ?_; intro v3 w3 hown3 hgr3 _; clear tok3; have hb3 : Below w.heap.size w w3 := (hb2.alloc hb2.size _).grown hgr3 (by have := hb2.size; simp; omega) (fun k hk => (hown2.lt k hk).1); clear hgr3 hown2 hb2) | (go_at_call 7; refine (len64_at x 0 _ hx HL).mono ?_; rintro e w' ⟨rfl, rfl⟩))
  go_loopw [5, 7] (fun v i wr => ∃ k : Nat, k ≤ (Lib.uvarint x).length ∧ i = .int .i64 k ∧ wr.ownsRow w.heap.size 5 1 v (0 + 1 + k) (([] : List Value) ++ [.int .u8 3] ++ Lib.byteCells ((Lib.uvarint x).take k)) ∧ Below w.heap.size w wr) (fun _ i _ => (Lib.uvarint x).length - (intOf i).toNat)
  case atStart => exact ⟨0, Nat.zero_le _, rfl, by simpa [Lib.byteCells] using hown3, hb3⟩
  case round =>
    obtain ⟨k, hk, rfl, hown, hb⟩ := hrel
    clear hown3 hb3
    have hand := byte_at x k hx
    have hat := uvarint_at k x
    rw [HN.out] at hat
    obtain ⟨y, hy⟩ : ∃ y, x / 128 ^ k % 128 = y := ⟨_, rfl⟩
    have hy128 : y < 128 := by omega
    rw [hy] at hand hat
    clear hy
    have HA : Hid (k < 1 → (Lib.uvarint x)[k]? = some (y + if k + 1 < 1 then 128 else 0).toUInt8) := hat
    clear hat
    have hor : bits .or .u8 (y : Int) 128 = (y : Int) + 128 := by
      rw [Lib.u8_or128_any _ (by omega) (by omega)]; omega
    have hk10 : k ≤ 10 := by omega
    by_cases hlt : k < 1
    · have hgot := HA.out hlt
      obtain rfl : k = 0 := by omega
      have hlast : ¬ 0 + 1 < 1 := by omega
      rw [if_neg hlast] at hgot
      have HG : Hid (Lib.byteCells ((Lib.uvarint x).take (0 + 1)) = Lib.byteCells ((Lib.uvarint x).take 0) ++ [.int .u8 (y : Int)]) := by
        show _ = _
        rw [take_snoc_at hgot, Nat.add_zero, Lib.byteCells_snoc _ (by omega)]
      clear hgot
      have hand0 : bits .and .u64 (x : Int) 127 = (y : Int) := by simpa using hand
      clear hand
      go_wp2_with (at_builtin; go_must (refine wpList_append_own _ rfl (.tmp 43) (.tmp 45) 22 rfl w.heap.size 5 i0 (.int .u8 0) 1 1 Yba.underlying22 hi hz0 hz1 hz2 rfl (by decide) _ (0 + 1 + 0) _ rfl (hown.alloc _) ⟨wr.heap.size, 0, none⟩ 1 1 [.int .u8 (y : Int)] rfl rfl (cell_one_new5 wr _) (by intro u hu; simp at hu; subst hu; rfl) (by unfold maxLen; omega) (by omega) (by have := hb.size; simp; omega) ?_); intro v4 w4 hown4 hgr4 _; have hb4 : Below w.heap.size w w4 := (hb.alloc hb.size _).grown hgr4 (by have := hb.size; simp; omega) (fun k hk => (hown.lt k hk).1); clear hgr4 hown hb)
      go_roundw
      case rel => exact ⟨0 + 1, by rw [HN.out]; omega, by go_num, by rw [HG.out, ← List.append_assoc, ← Nat.add_assoc]; exact hown4, hb4⟩
      case measure => have := HN.out; simp [intOf]; omega
    · go_wp2
      go_ret
      have hkN : k = (Lib.uvarint x).length := by have := HN.out; omega
      rw [List.take_of_length_le (by omega)] at hown
      subst hkN
      exact ⟨_, rfl, hown, hb⟩

end Go.Proofs.Ybulkdkgq
