/-
  The walk of LawS5567CWhole out of its callees' contracts.
-/
import Derived.Test.YbulkdkgqModel
import Derived.Laws.CopyOwn
import Derived.WalkSpells
import Derived.WalkSmall
namespace Go.Proofs.Ybulkdkgq
open Go.RowKit

theorem model_any (ad : Addr) (n cap x : Nat) (olds : List Value) (w : World) (hx : x < 18446744073709551616) (hn : n ≤ 1048576)
    (hl : olds.length = n) (h1 : ∀ u ∈ olds, u.oneCell' = true) (holds : ∀ j u, olds[j]? = some u → w.cell? (ad.add j) = some u) :
    Calls Yba.prog 4 #[.slice (some ad) n cap, .int .u64 x] w fun e w' => ∃ v', e = .returned v' ∧ w'.ownsRow w.heap.size 5 1 v' (n + 1 + (Lib.uvarint x).length) (olds ++ [.int .u8 3] ++ Lib.byteCells (Lib.uvarint x)) ∧ Below w.heap.size w w' := by
  by_cases h : Lib.bitLen x = 0
  · exact model_some_0 ad n cap x _ olds w hx hn rfl h hl h1 holds
  · exact model_some_1 ad n cap x _ olds w hx hn rfl h hl h1 holds

theorem model_nil (x : Nat) (w : World) (hx : x < 18446744073709551616) :
    Calls Yba.prog 4 #[.slice none 0 0, .int .u64 x] w fun e w' => ∃ v', e = .returned v' ∧ w'.ownsRow w.heap.size 5 1 v' (0 + 1 + (Lib.uvarint x).length) (([] : List Value) ++ [.int .u8 3] ++ Lib.byteCells (Lib.uvarint x)) ∧ Below w.heap.size w w' := by
  by_cases h : Lib.bitLen x = 0
  · exact model_nil_0 x _ w hx rfl h
  · exact model_nil_1 x _ w hx rfl h

def ints (l : List Int) : List Value := l.map (Value.int .u8)
theorem ints_len (l : List Int) : (ints l).length = l.length := by simp [ints]
theorem ints_one (l : List Int) : ∀ u ∈ ints l, u.oneCell' = true := by
  intro u hu
  simp only [ints, List.mem_map] at hu
  obtain ⟨z, _, rfl⟩ := hu
  rfl
theorem ints_get (l : List Int) (j : Nat) (h : j < l.length) : (ints l)[j]? = some (.int .u8 (l.getD j 0)) := by
  simp [ints, h]

/-- Two rows that hold the same cells are equal to zzs5567ceq. -/
theorem eq_owned {W W2 : World} {B B2 : Nat} {v v2 : Value} {n : Nat} (T : List Int) (hT : T.length = n) (hn : 0 < n) (hle : n ≤ 1099511627776)
    (h : W.ownsRow B 5 1 v n (ints T)) (h2 : W2.ownsRow B2 5 1 v2 n (ints T)) (hb : Below W.heap.size W W2) :
    Calls Yba.prog 6 #[v2, v] W2 fun e w' => e = .returned (.bool true) ∧ ∃ q, w' = W2.drewN q := by
  obtain ⟨g, cap, rfl, _, hg, hc⟩ := own_shape h hn
  obtain ⟨g2, cap2, rfl, _, _, hc2⟩ := own_shape h2 hn
  refine eq_same g2 0 cap2 g 0 cap n (fun j => T.getD j 0) W2 hle (fun j hj => ?_) (fun j hj => ?_)
  · exact hc2 j _ (ints_get T j (by omega))
  · rw [hb.cell (by exact hg)]
    exact hc j _ (ints_get T j (by omega))

theorem cells_total (zs : List Int) (x : Nat) : ints zs ++ [.int .u8 3] ++ Lib.byteCells (Lib.uvarint x) = ints (zs ++ [3] ++ (Lib.uvarint x).map fun b => (b.toNat : Int)) := by
  simp [ints, Lib.byteCells]

set_option maxHeartbeats 400000 in
theorem law_long (a0 : Option Addr) (len cap : Nat) (c : Int) (w : World) (h : 1048576 < len) (hm : len ≤ 9223372036854775807) :
    Calls Yba.prog 3 #[.slice a0 len cap, .int .u64 c] w fun e w' => e = .returned (.bool true) ∧ Below w.heap.size w w' := by
  go_enter Yba.func3, Yba.ntmps3
  go_wp2
  go_ret
  exact ⟨rfl, Below.refl _ _⟩

set_option maxHeartbeats 400000 in
theorem law_nil (x : Nat) (w : World) (hx : x < 18446744073709551616) :
    Calls Yba.prog 3 #[.slice none 0 0, .int .u64 (x : Int)] w fun e w' => e = .returned (.bool true) ∧ Below w.heap.size w w' := by
  have hne := fun w' => run_neq_slice_nil_any (P := Yba.prog) w' 22 5 none 0 0 0 0 Yba.underlying22
  have hlen := Lib.uvarint_length64 hx
  go_enter Yba.func3, Yba.ntmps3
  go_wp2_with fail
  refine (model_nil x w hx).mono ?_
  rintro e w1 ⟨v1, rfl, hown1, hb1⟩
  go_wp2_with fail
  refine (rec_any none 0 x [] w1 hx (by omega) (fun _ => rfl) rfl (fun b hb => by cases hb)).mono ?_
  rintro e w2 ⟨v2, rfl, hown2, hb2⟩
  go_wp2_with fail
  have ht := cells_total [] x
  rw [show ints [] = [] from rfl] at ht
  rw [ht] at hown1 hown2
  refine (eq_owned _ (by simp; omega) (by omega) (by omega) hown1 hown2 hb2).mono ?_
  rintro e w3 ⟨rfl, q, rfl⟩
  have hnot : ∀ (x : Bool) (w : World), (Op.unary .not (.bool x)).run Yba.prog w = .ok (.bool (!x)) w := fun _ _ => rfl
  clear hown1 hown2 ht
  go_wp2_with fail
  refine (eq_zero none none 0 0 _).mono ?_
  rintro e w4 ⟨rfl, rfl⟩
  go_wp2_with fail
  go_ret
  exact ⟨rfl, below_drewN (hb1.trans (hb2.mono hb1.size)) q⟩

theorem size5 : (Yba.prog.info? 5).map (·.size) = some 1 := by kernel_rfl

/-- A made row, as a list of cells. -/
theorem made_row {w : World} {B g n : Nat} {xs : List Value} (h : w.ownsRow B 5 1 (.slice (some ⟨g, 0, none⟩) n n) n xs) : ∃ cur : List Value, cur.length = n ∧ w.heap[g]? = some (.cells cur.toArray 5 (0, 0)) := by
  rcases h.2 with ⟨hv, _⟩ | ⟨g', cap, cur, hv, _, hg, _, _, hs, _⟩
  · cases hv
  · cases hv
    exact ⟨cur.toList, by simpa using hs, by simpa using hg⟩

theorem splice_all {α : Type} (cur cs : List α) (h : cs.length = cur.length) : splice cur 0 cs = cs := by
  simp [splice, h]

set_option maxHeartbeats 1000000 in
theorem law_some (ad : Addr) (len cap x : Nat) (zs : List Int) (w : World) (hx : x < 18446744073709551616) (hlen : len ≤ 1048576) (hz : zs.length = len)
    (hc : ∀ j u, (ints zs)[j]? = some u → w.cell? (ad.add j) = some u) :
    Calls Yba.prog 3 #[.slice (some ad) len cap, .int .u64 (x : Int)] w fun e w' => e = .returned (.bool true) ∧ Below w.heap.size w w' := by
  obtain ⟨i0, hi, hz0, hz1, hz2⟩ := info_parts info5
  have hne := fun w' => run_neq_slice_nil_any (P := Yba.prog) w' 22 5 (some ad) len cap 0 0 Yba.underlying22
  have hnot : ∀ (x : Bool) (w : World), (Op.unary .not (.bool x)).run Yba.prog w = .ok (.bool (!x)) w := fun _ _ => rfl
  have hul := Lib.uvarint_length64 hx
  have hil := ints_len zs
  obtain ⟨cs, hcs⟩ : ∃ cs, cs = ints zs := ⟨_, rfl⟩
  rw [← hcs] at hc hil
  have h1 : ∀ u ∈ cs, u.oneCell' = true := by rw [hcs]; exact ints_one zs
  have HC : Hid (cs = ints zs) := hcs
  have HL : Hid (cs.length = len) := by show _ = _; omega
  have HZ : Hid (zs.length = len) := hz
  clear hcs hil hz
  have tok : True := trivial
  have HB : Hid (∀ j u, cs[j]? = some u → (ad.add j).block < w.heap.size) := fun j u hu => World.block_lt_of_cell? w _ (hc j u hu)
  go_enter Yba.func3, Yba.ntmps3
  go_wp2_with (first | (at_make; go_must (refine wpList_make_full _ rfl _ _ 22 rfl w.heap.size 5 i0 (.int .u8 0) 1 Yba.underlying22 hi hz0 hz1 .i64 .i64 _ _ len rfl rfl (by omega) (by omega) (by rw [hz2]; omega) (by unfold maxLen; omega) (Nat.le_refl _) ?_); intro w1 hown1 hgr1; obtain ⟨cur, hcl, hrow⟩ := made_row hown1; have HCL : Hid (cur.length = len) := hcl; have HR : Hid (w1.heap[w.heap.size]? = some (.cells cur.toArray 5 (0, 0))) := hrow; have hb1 : Below w.heap.size w w1 := (Below.refl _ w).grown hgr1 (by simp) (fun k hk => by cases hk); have hc1 : ∀ j u, cs[j]? = some u → w1.cell? (ad.add j) = some u := fun j u hu => hgr1.cell (hc j u hu) (by simp); clear hgr1 hown1 hcl hrow hc) | (have _t := tok; refine wpList_copy_splice rfl (.tmp 16) (.tmp 17) 22 22 rfl 5 Yba.underlying22 size5 (some ⟨w.heap.size, 0, none⟩) (some ad) len len len cap rfl rfl w.heap.size 0 cur 5 HR.out cs (by rw [HL.out]; simp) (fun _ => ⟨rfl, ad, rfl, hc1⟩) (by rw [HL.out, HCL.out]; omega) h1 w.heap.size w hb1 (Nat.le_refl _) ?_; intro w2 HR2 hb2; clear tok))
  have hc2 : ∀ j u, cs[j]? = some u → w2.cell? (ad.add j) = some u := fun j u hu => by
    have hlt := HB.out j u hu
    rw [hb2.cell hlt, ← hb1.cell hlt]; exact hc1 j u hu
  have HR2' : Hid (w2.heap[w.heap.size]? = some (.cells cs.toArray 5 (0, 0))) := by
    have := HR2.out
    rw [splice_all _ _ (by rw [HL.out, HCL.out])] at this
    exact this
  clear HR2 HR hb1 hc1 HCL
  refine (model_any ad len cap x cs w2 hx hlen HL.out h1 hc2).mono ?_
  rintro e w3 ⟨v3, rfl, hown3, hb3⟩
  go_wp2_with fail
  have hg : w.heap.size < w2.heap.size := (Array.getElem?_eq_some_iff.1 HR2'.out).1
  have HR3 : Hid (w3.heap[w.heap.size]? = some (.cells cs.toArray 5 (0, 0))) := (hb3.block _ hg).trans HR2'.out
  refine (rec_any (some ⟨w.heap.size, 0, none⟩) len x cs w3 hx (by omega) (fun h => by cases h) HL.out (fun b hb j u hu => ?_)).mono ?_
  · cases hb
    rw [Addr.add_lit, cell_of_row w3 w.heap.size _ _ 5 (0, 0) HR3.out]
    simpa using hu
  rintro e w4 ⟨v4, rfl, hown4, hb4⟩
  go_wp2_with fail
  have ht := cells_total zs x
  rw [← HC.out] at ht
  rw [ht] at hown3 hown4
  refine (eq_owned _ (by have := HZ.out; simp; omega) (by omega) (by omega) hown3 hown4 hb4).mono ?_
  rintro e w5 ⟨rfl, q, rfl⟩
  have hb : Below w.heap.size w w4 := (hb2.trans (hb3.mono hb2.size)).trans (hb4.mono (Nat.le_trans hb2.size hb3.size))
  have HR4 : Hid (w4.heap[w.heap.size]? = some (.cells cs.toArray 5 (0, 0))) := (hb4.block _ (Nat.lt_of_lt_of_le hg hb3.size)).trans HR3.out
  have hc4 : ∀ j u, cs[j]? = some u → w4.cell? (ad.add j) = some u := fun j u hu => by
    have hlt := HB.out j u hu
    rw [hb4.cell (Nat.lt_of_lt_of_le hlt (Nat.le_trans hb2.size hb3.size)), hb3.cell (Nat.lt_of_lt_of_le hlt hb2.size)]
    exact hc2 j u hu
  clear hown3 hown4 ht hb3 hb4 hb2 HR3 HR2' hc2
  go_wp2_with fail
  by_cases h0 : len = 0
  · subst h0
    refine (eq_zero _ _ _ _ _).mono ?_
    rintro e w6 ⟨rfl, rfl⟩
    go_wp2_with fail
    go_ret
    exact ⟨rfl, below_drewN hb q⟩
  · have hget : ∀ j, j < len → cs[j]? = some (.int .u8 (zs.getD j 0)) := fun j hj => by
      rw [HC.out]; exact ints_get zs j (by have := HZ.out; omega)
    obtain ⟨b, o, sp⟩ := ad
    have hsp : sp = none := by
      have := World.cell?_spot (hc4 0 _ (hget 0 (by omega)))
      simpa [Addr.add] using this
    subst hsp
    refine (eq_same w.heap.size 0 len b o cap len (fun j => zs.getD j 0) _ (by omega) (fun j hj => ?_) (fun j hj => ?_)).mono ?_
    · rw [World.cell?_drewN, cell_of_row w4 w.heap.size _ _ 5 (0, 0) HR4.out]
      simpa using hget j hj
    · rw [World.cell?_drewN, ← Addr.add_lit]
      exact hc4 j _ (hget j hj)
    rintro e w6 ⟨rfl, r, rfl⟩
    go_wp2_with fail
    go_ret
    exact ⟨rfl, below_drewN hb (q + r)⟩

end Go.Proofs.Ybulkdkgq
