/-
  Plain mathematics for LawS5567CWhole: how long a varint is (by the number's bit length), and what each of its bytes is. No program in this text.
-/
import Derived.Lib.BitFns
import Derived.Lib.VarintMem
namespace Go.Proofs.Ybulkdkgq

theorem bitLenAux_spec : ∀ (f x : Nat), x < 2 ^ f → x < 2 ^ (Lib.bitLenAux f x) ∧ (x ≠ 0 → 1 ≤ Lib.bitLenAux f x ∧ 2 ^ (Lib.bitLenAux f x - 1) ≤ x)
  | 0, x, h => by
    have : x = 0 := by simpa using h
    subst this
    simp [Lib.bitLenAux]
  | f + 1, x, h => by
    unfold Lib.bitLenAux
    by_cases hx : x = 0
    · subst hx; simp
    · rw [if_neg hx]
      have h2 : x / 2 < 2 ^ f := by rw [Nat.pow_succ] at h; omega
      obtain ⟨a, b⟩ := bitLenAux_spec f (x / 2) h2
      refine ⟨?_, fun _ => ⟨by omega, ?_⟩⟩
      · rw [Nat.add_comm, Nat.pow_succ]; omega
      · by_cases h1 : x / 2 = 0
        · have e : Lib.bitLenAux f (x / 2) = 0 := by
            rw [h1]; cases f <;> simp [Lib.bitLenAux]
          rw [e]; simp; omega
        · obtain ⟨c, d⟩ := b h1
          have e : 1 + Lib.bitLenAux f (x / 2) - 1 = (Lib.bitLenAux f (x / 2) - 1) + 1 := by omega
          rw [e, Nat.pow_succ]; omega

theorem uvarint_len_ge : ∀ (k x : Nat), 128 ^ k ≤ x → k + 1 ≤ (Lib.uvarint x).length
  | 0, x, _ => Lib.uvarint_pos x
  | k + 1, x, h => by
    have hp : 128 ≤ 128 ^ (k + 1) := by
      have : 0 < 128 ^ k := Nat.pow_pos (by decide)
      rw [Nat.pow_succ]; omega
    rw [Lib.uvarint_big (by omega), List.length_cons]
    have := uvarint_len_ge k (x / 128) (by rw [Nat.pow_succ] at h; exact (Nat.le_div_iff_mul_le (by decide)).2 h)
    omega

/-- The number of bytes, as the model reckons it. -/
theorem uvarint_len (x : Nat) (h : x < 18446744073709551616) :
    (Lib.uvarint x).length = if (Lib.bitLen x + 6) / 7 = 0 then 1 else (Lib.bitLen x + 6) / 7 := by
  by_cases hx : x = 0
  · subst hx
    have e : Lib.bitLen 0 = 0 := by decide
    rw [e, Lib.uvarint_small (by decide)]; rfl
  · obtain ⟨a, b⟩ := bitLenAux_spec 64 x (Nat.lt_of_lt_of_le h (by decide))
    have hL : Lib.bitLen x = Lib.bitLenAux 64 x := rfl
    rw [hL]
    generalize Lib.bitLenAux 64 x = L at *
    obtain ⟨c, d⟩ := b hx
    rw [if_neg (by omega)]
    obtain ⟨n, hn⟩ : ∃ n, (L + 6) / 7 = n + 1 := ⟨(L + 6) / 7 - 1, by omega⟩
    rw [hn]
    have e7 : ∀ k, (128 : Nat) ^ k = 2 ^ (7 * k) := fun k => by rw [Nat.pow_mul]
    have up : x < 128 ^ (n + 1) := by
      rw [e7]; exact Nat.lt_of_lt_of_le a (Nat.pow_le_pow_right (by decide) (by omega))
    have lo : 128 ^ n ≤ x := by
      rw [e7]; exact Nat.le_trans (Nat.pow_le_pow_right (by decide) (by omega)) d
    have := Lib.uvarint_length n x up
    have := uvarint_len_ge n x lo
    omega

/-- Each byte. -/
theorem uvarint_at : ∀ (i x : Nat), i < (Lib.uvarint x).length →
    (Lib.uvarint x)[i]? = some (x / 128 ^ i % 128 + if i + 1 < (Lib.uvarint x).length then 128 else 0).toUInt8
  | 0, x, _ => by
    by_cases hx : x < 128
    · rw [Lib.uvarint_small hx]; simp [Nat.mod_eq_of_lt hx]
    · have := Lib.uvarint_pos (x / 128)
      rw [Lib.uvarint_big (by omega), List.length_cons, if_pos (by omega)]; simp
  | i + 1, x, h => by
    by_cases hx : x < 128
    · rw [Lib.uvarint_small hx] at h; simp at h
    · rw [Lib.uvarint_big (by omega), List.length_cons] at h ⊢
      have ih := uvarint_at i (x / 128) (by omega)
      rw [List.getElem?_cons_succ, ih, Nat.pow_succ, Nat.mul_comm, ← Nat.div_div_eq_div_mul]
      by_cases hc : i + 1 < (Lib.uvarint (x / 128)).length
      · rw [if_pos hc, if_pos (by omega)]
      · rw [if_neg hc, if_neg (by omega)]

theorem take_snoc_at {α : Type} {l : List α} {i : Nat} {a : α} (h : l[i]? = some a) : l.take (i + 1) = l.take i ++ [a] := by
  obtain ⟨hi, he⟩ := List.getElem?_eq_some_iff.1 h
  rw [List.take_succ_eq_append_getElem hi, he]

end Go.Proofs.Ybulkdkgq
