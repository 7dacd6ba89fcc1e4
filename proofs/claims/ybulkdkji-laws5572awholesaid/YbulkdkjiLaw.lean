/-
  LawS5572AWhole, walked.
-/
import Derived.Test.YbulkdkjiFin
import Derived.Deep.DeepCutAuto
namespace Go.Proofs.Ybulkdkji
open Go.RowKit Go.Maps
set_option linter.unusedVariables false
set_option linter.unusedSimpArgs false

theorem set5_below {wc wr : World} (h : Below wc.heap.size wc wr) (q0 q1 q2 q3 q4 : Nat) (v0 v1 v2 v3 v4 : Value) : Below wc.heap.size wc (((((wr.setCell ⟨wc.heap.size, q0, none⟩ v0).setCell ⟨wc.heap.size, q1, none⟩ v1).setCell ⟨wc.heap.size, q2, none⟩ v2).setCell ⟨wc.heap.size, q3, none⟩ v3).setCell ⟨wc.heap.size, q4, none⟩ v4) := by
  have f : Fr (fun k => k = wc.heap.size) wr (((((wr.setCell ⟨wc.heap.size, q0, none⟩ v0).setCell ⟨wc.heap.size, q1, none⟩ v1).setCell ⟨wc.heap.size, q2, none⟩ v2).setCell ⟨wc.heap.size, q3, none⟩ v3).setCell ⟨wc.heap.size, q4, none⟩ v4) :=
    (((((Fr.refl (fun k => k = wc.heap.size) wr).setCell (p := ⟨wc.heap.size, q0, none⟩) (fun _ => rfl) _).setCell (p := ⟨wc.heap.size, q1, none⟩) (fun _ => rfl) _).setCell (p := ⟨wc.heap.size, q2, none⟩) (fun _ => rfl) _).setCell (p := ⟨wc.heap.size, q3, none⟩) (fun _ => rfl) _).setCell (p := ⟨wc.heap.size, q4, none⟩) (fun _ => rfl) _
  exact h.trans (f.below h.size (fun k e => by omega))

/-- The cells of the node that is to be written. -/
theorem RowOf.now {w : World} {g T : Nat} {A : Nat → Nat} {N i : Nat} (h : RowOf w g (nodesAt T A N i)) (hi : i < N) :
    (w.cell? ⟨g, i * 5, none⟩ = some (.int .u8 0) ∧ w.cell? ⟨g, i * 5 + 1, none⟩ = some (.string ByteArray.empty) ∧ w.cell? ⟨g, i * 5 + 2, none⟩ = some (.int .u64 0) ∧ w.cell? ⟨g, i * 5 + 3, none⟩ = some (.string ByteArray.empty) ∧ w.cell? ⟨g, i * 5 + 4, none⟩ = some (.string ByteArray.empty)) ∧ ∀ q, w.frozen? ⟨g, q, none⟩ = false := by
  have hx0 : (nodesAt T A N i)[i]? = some (0, ByteArray.empty) := by unfold nodesAt; simp [hi]
  obtain ⟨x0, x1, x2, x3, x4⟩ := tcells_get _ i _ hx0
  obtain ⟨cur, hcur, r⟩ := h
  have h' : RowOf w g (nodesAt T A N i) := ⟨cur, hcur, r⟩
  exact ⟨⟨h'.cell _ _ x0, h'.cell _ _ x1, h'.cell _ _ x2, h'.cell _ _ x3, h'.cell _ _ x4⟩, fun q => frozen_of_row w g q _ 30 hcur⟩

set_option maxRecDepth 100000 in
set_option maxHeartbeats 4000000 in
theorem law_main (T K : Nat) (hT : T ≤ 255) (hK : K ≤ 255) (uv : Bool) (sa oa : Option Addr) (N scap L ocap : Nat) (A : Nat → Nat) (sk : Nat → Bool) (nn : Nat → Int) (w : World) (hN : N ≤ 140737488355328) (hL : L ≤ 140737488355328)
    (hA : ∀ i, A i < 256) (hn : ∀ i, -9223372036854775808 ≤ nn i ∧ nn i ≤ 9223372036854775807)
    (hsel : 0 < N → ∃ b o, sa = some ⟨b, o, none⟩ ∧ ∀ i, i < N → w.cell? ⟨b, o + i, none⟩ = some (.int .u8 (A i : Int)))
    (hops : 0 < L → ∃ b o, oa = some ⟨b, o, none⟩ ∧ ∀ i, i < L → w.cell? ⟨b, o + i * 2, none⟩ = some (.bool (sk i)) ∧ w.cell? ⟨b, o + i * 2 + 1, none⟩ = some (.int .i64 (nn i))) :
    Calls Yba.prog 3 #[.int .u8 (T : Int), .bool uv, .slice sa N scap, .slice oa L ocap, .int .u8 (K : Int)] w fun e w' => e = .returned (.bool true) ∧ Below w.heap.size w w' := by
  obtain ⟨i0, hi, hz0, hz1, hz2⟩ := info_parts info30
  have a30 := Yba.isAgg30
  have z30 := Yba.sizeOf30
  by_cases hover : 1048576 < N + L
  · have hov : (1048576 : Int) < (N : Int) + (L : Int) := by omega
    go_enter Yba.func3, Yba.ntmps3
    go_wp2_with fail
    go_ret
    exact ⟨rfl, Below.refl _ _⟩
  have hov : ¬ (1048576 : Int) < (N : Int) + (L : Int) := by omega
  have mkM : ∀ t w, (Instr.makeMap t none).run Yba.prog w = .ok (.map (some w.heap.size)) (w.alloc (.map #[] 0)) := fun t w => rfl
  obtain ⟨tc0, mkT, ownT⟩ := make_terms T hT
  have own0 := (ownT w).alloc (.map #[] 0)
  have map0 : MapIs ((w.alloc (.cells tc0 30)).alloc (.map #[] 0)) (w.heap.size + 1) 0 (fm 0) := by
    have := MapIs.made (w.alloc (.cells tc0 30)); rw [World.size_alloc, ← fm_zero] at this; exact this
  have bel0 : Below w.heap.size w ((w.alloc (.cells tc0 30)).alloc (.map #[] 0)) := ((Below.refl _ w).alloc (Nat.le_refl _) _).alloc (by simp) _
  clear ownT
  go_enter Yba.func3, Yba.ntmps3
  go_wp2_with fail
  go_loopw [12, 14] (fun v j wr => ∃ k : Nat, k ≤ T ∧ j = .int .i64 ((k : Int) + 1) ∧ wr.ownsRow w.heap.size 30 5 v (k + 1) (tcells (tl k)) ∧ MapIs wr (w.heap.size + 1) k (fm k) ∧ Below w.heap.size w wr) (fun _ j _ => T + 1 - (intOf j).toNat)
  case atStart => exact ⟨0, Nat.zero_le _, rfl, own0, map0, bel0⟩
  case round =>
    clear own0 map0 bel0 mkT
    obtain ⟨k, hk, rfl, own, hm, bel⟩ := hrel
    obtain ⟨g, cp, hv, hg1, hg2⟩ := own_form_pos own (by omega)
    subst hv
    by_cases hlt : k < T
    · have hlt' : (k : Int) + 1 ≤ (T : Int) := by omega
      have hrep := repeat_any (k + 1) (by omega) wr
      rw [Int.natCast_succ] at hrep
      go_wp2_with fail
      refine hrep.mono ?_
      rintro e w1 ⟨rfl, b1⟩
      have f1 : Fr (fun _ => False) wr w1 := Fr.ofBelow b1
      have own1 := own_fr own f1 (fun _ _ => id)
      have hm1 := hm.frame f1 id
      have bel1 : Below w.heap.size w w1 := bel.trans (b1.mono bel.size)
      have hB1 := bel1.size
      clear own hm bel hrep b1 f1 hg2
      go_wp2_with (at_builtin; go_must (refine wpList_append_own_at _ rfl (.tmp 64) (.tmp 66) 24 rfl w.heap.size 30 i0 _ 5 64 Yba.underlying24 hi hz0 hz1 hz2 rfl (by decide) _ _ _ rfl ((own1.alloc _).alloc _) ⟨w1.heap.size + 1, 0, none⟩ 1 1 (tcells [(1, xs (k + 1))]) rfl rfl (by have := cell_five (w1.alloc (B5 (1, xs (k + 1)))) (1, xs (k + 1)); rw [World.size_alloc] at this; exact this) (tcells_one _) (by unfold maxLen; omega) (by omega) (by simp; omega) ?_); intro v3 w3 own3 G3 _ hloc; obtain ⟨⟨e0, e1, e2, e3, e4⟩, w4, hup, own4, hm4, bel4⟩ := terms_step bel1 own1 hm1 (by omega) own3 G3; clear own3 G3 hloc)
      go_roundw
      case rel => exact ⟨k + 1, by omega, by go_num, own4, hm4, bel4⟩
      case measure => simp [intOf]; omega
    · have hkT : k = T := by omega
      subst hkT
      obtain ⟨ed, mkE⟩ := make_edges k hT
      go_upto_region 12 with fail
      go_cut [16] from 72 to 82 (fun s wx => ∃ st Q ov nv, s = .pointer (some ⟨st, 0, none⟩) ∧ StoreAt wx st 0 0 (.slice (some ⟨g, 0, none⟩) (k + 1) cp) (.map (some (w.heap.size + 1))) (.map (some Q)) ov nv ∧ wx.heap[Q]? = some (.map #[] 0) ∧ Below wr.heap.size wr wx ∧ wr.heap.size ≤ st)
      case first =>
        clear own hm bel hsel hops
        go_region
        all_goals
          go_wp2_with fail
          go_meet
          first
            | exact store_new wr _ _ _ _ _ _ _ _ (.inl ⟨rfl, rfl⟩)
            | exact store_new wr _ _ _ _ _ _ _ _ (.inr (.inl ⟨rfl, rfl⟩))
            | exact store_new wr _ _ _ _ _ _ _ _ (.inr (.inr ⟨rfl, rfl⟩))
      case rest =>
        obtain ⟨wS, hwS⟩ : ∃ x, x = wc := ⟨_, rfl⟩
        subst hwS
        obtain ⟨st, Q, ov, nv, rfl, hst, hQ, belS, lst⟩ := hcut
        have fS : Fr (fun _ => False) wr wS := Fr.ofBelow belS
        have bel2 : Below w.heap.size w wS := bel.trans (belS.mono bel.size)
        have own2 := own_fr own fS (fun _ _ => id)
        have hm2 := hm.frame fS id
        clear own hm bel belS fS mkE tc0 hk hlt hg2
        have hT := hT
        go_upto_if 84 with fail
        go_cut [17, 18, 19, 20, 21, 22, 23] from 84 to 130 (fun p mv _ _ _ _ _ wx => ∃ pp sv m, p = .pointer (some ⟨pp, 0, none⟩) ∧ mv = .int .i64 ((m : Nat) : Int) ∧ wx.heap[pp]? = some (.cells #[sv, .pointer none, .nilIface] 83 (0, 0)) ∧ Src wx k sv m ∧ Below wS.heap.size wS wx)
        case first =>
          cases uv with
          | false =>
            go_wp2_with fail
            refine (m_any wS).mono ?_
            rintro e w1 ⟨rfl, rfl⟩
            go_wp2_with fail
            go_meet
            exact ⟨_, _, k, rfl, rfl, heap_alloc_new wS _, ⟨none, 0, 0, rfl, by omega, .inl ⟨rfl, rfl⟩⟩, (Below.refl _ wS).alloc (Nat.le_refl _) _⟩
          | true =>
            obtain ⟨nc, mkN, rowN⟩ := make_nodes k A N (by omega)
            have row0 := rowN wS
            go_wp2_with fail
            go_loopw [20, 90] (fun f j wr => ∃ i : Nat, i ≤ N ∧ j = .int .i64 (i : Int) ∧ f = .int .i64 (foundAt k A i : Int) ∧ RowOf wr wS.heap.size (nodesAt k A N i) ∧ Below wS.heap.size wS wr) (fun _ j _ => N - (intOf j).toNat)
            case atStart => exact ⟨0, Nat.zero_le _, rfl, rfl, row0, (Below.refl _ wS).alloc (Nat.le_refl _) _⟩
            case round =>
              clear row0 rowN mkN
              obtain ⟨i, hiN, rfl, rfl, row, belN⟩ := hrel
              have fN : Fr (fun _ => False) wS wr := Fr.ofBelow belN
              by_cases hlt : i < N
              · obtain ⟨b, o, hsa, hcs⟩ := hsel (by omega)
                subst hsa
                have cs := hcs i hlt
                have hAi := hA i
                have cs2 : wr.cell? ⟨b, o + i, none⟩ = some (.int .u8 (A i : Int)) := fN.cell ((Fr.ofBelow (S := fun _ => False) bel2).cell cs id) id
                clear hcs cs hops
                have hlt' : (i : Int) < (N : Int) := by omega
                have e1 : ((A i : Nat) : Int).tmod ((k : Int) + 2) = ((A i % (k + 2) : Nat) : Int) := (Int.ofNat_tmod (A i) (k + 2)).symm
                have hnode : node k (A i) = if A i % (k + 2) = 0 then (0, ByteArray.empty) else if A i % (k + 2) ≤ k then (1, xs (A i % (k + 2))) else (2, noneB) := rfl
                have hfnd : isFound k (A i) = (decide (A i % (k + 2) ≠ 0) && decide (A i % (k + 2) ≤ k)) := rfl
                have hfs := foundAt_succ k A i
                have hfl := foundAt_le k A i
                have HRow : Hid (RowOf wr wS.heap.size (nodesAt k A N i)) := row
                obtain ⟨⟨y0, y1, y2, y3, y4⟩, fz⟩ := row.now hlt
                have lrow := row.lt
                generalize hR : A i % (k + 2) = R at *
                have hRl : R < k + 2 := by rw [← hR]; exact Nat.mod_lt _ (by omega)
                clear hR row
                have HFS : Hid (foundAt k A (i + 1) = foundAt k A i + if isFound k (A i) = true then 1 else 0) := hfs
                clear hfs
                generalize hF0 : foundAt k A i = F0 at *
                clear hF0
                by_cases h0 : R = 0
                · subst h0
                  rw [if_pos rfl] at hnode
                  have HNode : Hid (node k (A i) = (0, ByteArray.empty)) := hnode
                  have HF1 : Hid (foundAt k A (i + 1) = F0) := by show _ = _; rw [HFS.out, hfnd]; simp
                  clear hnode hfnd
                  go_wp2_with fail
                  go_roundw
                  case rel => exact ⟨i + 1, by omega, by go_num, by rw [HF1.out], HRow.out.node hlt HNode.out, set5_below belN _ _ _ _ _ _ _ _ _ _⟩
                  case measure => simp [intOf]; omega
                · rw [if_neg h0] at hnode
                  by_cases h1 : R ≤ k
                  · rw [if_pos h1] at hnode
                    have HNode : Hid (node k (A i) = (1, xs R)) := hnode
                    have HF1 : Hid (foundAt k A (i + 1) = F0 + 1) := by show _ = _; rw [HFS.out, hfnd]; simp [h0, h1]
                    have hrep := repeat_any R (by omega) wr
                    clear hnode hfnd y0 y1 y2 y3 y4 fz
                    have h0' : ((R : Int) == 0) = false := by simp; omega
                    have h0'' : ¬ (R : Int) = 0 := by omega
                    have h1' : (R : Int) ≤ (k : Int) := by omega
                    go_wp2_with fail
                    refine hrep.mono ?_
                    rintro e w1 ⟨rfl, b1⟩
                    have f1 : Fr (fun _ => False) wr w1 := Fr.ofBelow b1
                    have row1 := HRow.out.frame f1 id
                    obtain ⟨⟨y0, y1, y2, y3, y4⟩, fz⟩ := row1.now hlt
                    have HRow1 : Hid (RowOf w1 wS.heap.size (nodesAt k A N i)) := row1
                    have lrow1 := row1.lt
                    have belN1 : Below wS.heap.size wS w1 := belN.trans (b1.mono belN.size)
                    clear row1 hrep HRow f1 b1
                    go_wp2_with fail
                    go_roundw
                    case rel => exact ⟨i + 1, by omega, by go_num, by rw [HF1.out]; go_num, HRow1.out.node hlt HNode.out, set5_below belN1 _ _ _ _ _ _ _ _ _ _⟩
                    case measure => simp [intOf]; omega
                  · rw [if_neg h1] at hnode
                    have HNode : Hid (node k (A i) = (2, noneB)) := hnode
                    have HF1 : Hid (foundAt k A (i + 1) = F0) := by show _ = _; rw [HFS.out, hfnd]; simp [h0, h1]
                    have h0' : ((R : Int) == 0) = false := by simp; omega
                    have h0'' : ¬ (R : Int) = 0 := by omega
                    have h1' : ¬ (R : Int) ≤ (k : Int) := by omega
                    clear hnode hfnd
                    go_wp2_with fail
                    go_roundw
                    case rel => exact ⟨i + 1, by omega, by go_num, by rw [HF1.out], HRow.out.node hlt HNode.out, set5_below belN _ _ _ _ _ _ _ _ _ _⟩
                    case measure => simp [intOf]; omega
              · have hie : i = N := by omega
                subst hie
                have hv := v_any (w := wr) (g := wS.heap.size) (N := i) (cp := i) (ts := nodesAt k A i i) (nodesAt_len _ _ _ _) (by omega) row.cell
                have hfl := foundAt_le k A i
                have HF : Hid (held (fm k) (nodesAt k A i i) = foundAt k A i) := held_nodes k A i
                generalize foundAt k A i = F0 at *
                clear hsel hops row
                go_wp2_with fail
                refine hv.mono ?_
                rintro e w1 ⟨v, w2, rfl, hw1, ownV, bV⟩
                obtain ⟨aoV, cpV, hvv⟩ := own_form ownV
                subst hvv
                have hsrc : ∀ mm, ((i = 0 ∧ mm = k) ∨ (0 < i ∧ mm = F0)) → Src w1 k (.slice aoV i cpV) mm := fun mm hmm => by
                  refine ⟨aoV, i, cpV, rfl, by omega, ?_⟩
                  rcases hmm with hmm | ⟨h0, rfl⟩
                  · exact .inl hmm
                  · refine .inr ⟨h0, ?_⟩
                    obtain ⟨g', cap', hv', hgb, hgl⟩ := own_form_pos ownV h0
                    cases hv'
                    rcases ownV.2 with ⟨hv', _⟩ | ⟨g2, cap2, cur, hv', _, hg, _, _, _, ht⟩
                    · cases hv'
                    · cases hv'
                      refine ⟨g', nodesAt k A i i, rfl, nodesAt_len _ _ _ _, ⟨cur, ?_, fun q u hq => ?_⟩, key_nodes k A i hT, HF.out.symm⟩
                      · rw [hw1]; exact ((Fr.refl (fun _ => False) w2).alloc _).block hg id
                      · rw [← ht] at hq
                        have := List.getElem?_take (l := cur.toList) (i := i * 5) (j := q)
                        rw [hq] at this
                        split at this
                        · rw [← Array.getElem?_toList]; exact this.symm
                        · cases this
                have hpp : w1.heap[w2.heap.size]? = some (.cells #[.slice aoV i cpV, .pointer none, .nilIface] 83 (0, 0)) := by rw [hw1]; exact heap_alloc_new w2 _
                have belW : Below wS.heap.size wS w1 := by
                  have b2 : Below wS.heap.size wS w2 := belN.trans (bV.mono belN.size)
                  rw [hw1]; exact b2.alloc b2.size _
                clear hv HF ownV bV hw1
                by_cases hi0 : i = 0
                · have HI : Hid (i = 0) := hi0
                  have hn0 : ¬ (0 : Int) < (i : Int) := by omega
                  have hb0 : decide ((0 : Int) < (i : Int)) = false := decide_eq_false hn0
                  have hb1 : decide (0 < i) = false := decide_eq_false (by omega)
                  clear hi0
                  go_wp2_with fail
                  go_meet
                  exact ⟨_, _, k, rfl, rfl, hpp, hsrc k (.inl ⟨HI.out, rfl⟩), belW⟩
                · have hpos : (0 : Int) < (i : Int) := by omega
                  go_wp2_with fail
                  go_meet
                  exact ⟨_, _, F0, rfl, rfl, hpp, hsrc F0 (.inr ⟨by omega, rfl⟩), belW⟩
        case rest =>
          obtain ⟨wX, hwX⟩ : ∃ x, x = wc := ⟨_, rfl⟩
          subst hwX
          obtain ⟨pp0, sv, m, rfl, rfl, hpp, hsrc, belP⟩ := hcut
          have fP : Fr (fun _ => False) wS wX := Fr.ofBelow belP
          have belX : Below w.heap.size w wX := bel2.trans (belP.mono bel2.size)
          have HB : Hid (StoreAt wX st 0 0 (.slice (some ⟨g, 0, none⟩) (k + 1) cp) (.map (some (w.heap.size + 1))) (.map (some Q)) ov nv ∧ wX.heap[Q]? = some (.map #[] 0) ∧ wX.ownsRow w.heap.size 30 5 (.slice (some ⟨g, 0, none⟩) (k + 1) cp) (k + 1) (tcells (tl k)) ∧ MapIs wX (w.heap.size + 1) k (fm k) ∧ Src wX k sv m) :=
            ⟨hst.frame fP id, fP.block hQ id, own_fr own2 fP (fun _ _ => id), hm2.frame fP id, hsrc⟩
          obtain ⟨sao, sN, scp, hsv⟩ : ∃ a n c, sv = .slice a n c := by obtain ⟨a, n, c, h, _⟩ := hsrc; exact ⟨a, n, c, h⟩
          subst hsv
          have hmB := hsrc.le hT
          have P0 := PB.start hpp sk nn
          have hopX : ∀ i, i < L → ∃ b o, oa = some ⟨b, o, none⟩ ∧ wX.cell? ⟨b, o + i * 2, none⟩ = some (.bool (sk i)) ∧ wX.cell? ⟨b, o + i * 2 + 1, none⟩ = some (.int .i64 (nn i)) := fun i hi => by
            obtain ⟨b, o, h1, h2⟩ := hops (by omega)
            have f : Fr (fun _ => False) w wX := Fr.ofBelow belX
            exact ⟨b, o, h1, f.cell (h2 i hi).1 id, f.cell (h2 i hi).2 id⟩
          clear hst hQ own2 hm2 hsrc fP belP hpp hsel hops hA bel2 mkM hN
          have a54 := Yba.isAgg54
          have z54 := Yba.sizeOf54
          go_wp2_with fail
          go_loopw [17, 133] (fun p j wr => ∃ (i pp : Nat) (rops : List StepM), i ≤ L ∧ j = .int .i64 (i : Int) ∧ p = .pointer (some ⟨pp, 0, none⟩) ∧ PB wX wr (.slice sao sN scp) sk nn i pp rops) (fun _ j _ => L - (intOf j).toNat)
          case atStart => exact ⟨0, pp0, [], Nat.zero_le _, rfl, rfl, P0⟩
          case round =>
            clear P0
            obtain ⟨i, pp, rops, hiL, rfl, rfl, P⟩ := hrel
            by_cases hlt : i < L
            · obtain ⟨b, o, hoa, c0, c1⟩ := hopX i hlt
              subst hoa
              have fX : Fr (fun _ => False) wX wr := Fr.ofBelow P.below
              have c0' := fX.cell c0 id
              have c1' := fX.cell c1 id
              have hni := hn i
              clear c0 c1 hopX
              have hlt' : (i : Int) < (L : Int) := by omega
              obtain ⟨pa, pl, hph⟩ := (P.alloc (.cells #[.bool (sk i), .int .i64 (nn i)] 54)).path.head
              cases hsk : sk i with
              | true =>
                rw [hsk] at c0' hph
                have hcall := skip_any hph sao sN scp rfl (nn i)
                have HP : Hid _ := (P.alloc (.cells #[.bool true, .int .i64 (nn i)] 54)).step hni hsk
                clear hsk P hph
                generalize nn i = n at *
                go_wp2_with fail
                refine hcall.mono ?_
                rintro e w1 ⟨rfl, rfl⟩
                clear hcall
                go_wp2_with fail
                have hp := HP.out
                rw [World.size_alloc] at hp
                clear HP
                go_roundw
                case rel => exact ⟨i + 1, _, _, by omega, by go_num, rfl, hp⟩
                case measure => simp [intOf]; omega
              | false =>
                rw [hsk] at c0' hph
                have hcall := limit_any hph sao sN scp rfl (nn i)
                have HP : Hid _ := (P.alloc (.cells #[.bool false, .int .i64 (nn i)] 54)).step hni hsk
                clear hsk P hph
                generalize nn i = n at *
                go_wp2_with fail
                refine hcall.mono ?_
                rintro e w1 ⟨rfl, rfl⟩
                clear hcall
                go_wp2_with fail
                have hp := HP.out
                rw [World.size_alloc] at hp
                clear HP
                go_roundw
                case rel => exact ⟨i + 1, _, _, by omega, by go_num, rfl, hp⟩
                case measure => simp [intOf]; omega
            · have hie : i = L := by omega
              subst hie
              obtain ⟨wP, hwP⟩ : ∃ x, x = wr := ⟨_, rfl⟩
              subst hwP
              have HPB : Hid (PB wX wP (.slice sao sN scp) sk nn i pp rops) := P
              have hopP : ∀ q, q < i → ∃ b o, oa = some ⟨b, o, none⟩ ∧ wP.cell? ⟨b, o + q * 2, none⟩ = some (.bool (sk q)) ∧ wP.cell? ⟨b, o + q * 2 + 1, none⟩ = some (.int .i64 (nn q)) := fun q hq => by
                obtain ⟨b, o, h1, h2, h3⟩ := hopX q hq
                have f : Fr (fun _ => False) wX wP := Fr.ofBelow P.below
                exact ⟨b, o, h1, f.cell h2 id, f.cell h3 id⟩
              clear hopX P hlt hiL
              go_wp2_with fail
              go_loopw [26, 151] (fun c j wr => ∃ q : Nat, q ≤ i ∧ j = .int .i64 (q : Int) ∧ c = .int .i64 (fwd (opl sk nn q) m : Int) ∧ Below wP.heap.size wP wr) (fun _ j _ => i - (intOf j).toNat)
              case atStart => exact ⟨0, Nat.zero_le _, rfl, rfl, Below.refl _ _⟩
              case round =>
                obtain ⟨q, hqi, rfl, rfl, belq⟩ := hrel
                by_cases hlt : q < i
                · obtain ⟨b, o, hoa, c0, c1⟩ := hopP q hlt
                  subst hoa
                  have fq : Fr (fun _ => False) wP wr := Fr.ofBelow belq
                  have c0' := fq.cell c0 id
                  have c1' := fq.cell c1 id
                  have hnq := hn q
                  have hfs := fwd_succ sk nn q m
                  have hfl : fwd (opl sk nn q) m ≤ 1048576 := by have := fwd_le (opl sk nn q) m; omega
                  have hlt' : (q : Int) < (i : Int) := by omega
                  have HF : Hid (fwd (opl sk nn (q + 1)) m = stepSup (sk q) (nn q) (fwd (opl sk nn q) m)) := hfs
                  have HB2 : Hid (∀ o, Below wP.heap.size wP (wr.alloc o)) := fun o => belq.alloc belq.size o
                  clear c0 c1 hopP hfs
                  generalize fwd (opl sk nn q) m = c at *
                  generalize nn q = n at *
                  cases hsk : sk q with
                  | true =>
                    rw [hsk] at c0' HF
                    clear hsk
                    by_cases h1 : n < 0
                    · by_cases h2 : (c : Int) ≤ 0
                      · have HS : Hid (((stepSup true n c : Nat) : Int) = 0) := by show _ = _; unfold stepSup; simp; omega
                        go_wp2_with fail
                        go_roundw
                        case rel => exact ⟨q + 1, by omega, by go_num, congrArg (Value.int .i64) (by rw [HF.out]; exact HS.out.symm), HB2.out _⟩
                        case measure => simp [intOf]; omega
                      · have HS : Hid (((stepSup true n c : Nat) : Int) = (c : Int)) := by show _ = _; unfold stepSup; simp; omega
                        go_wp2_with fail
                        go_roundw
                        case rel => exact ⟨q + 1, by omega, by go_num, congrArg (Value.int .i64) (by rw [HF.out]; exact HS.out.symm), HB2.out _⟩
                        case measure => simp [intOf]; omega
                    · by_cases h2 : (c : Int) ≤ n
                      · have HS : Hid (((stepSup true n c : Nat) : Int) = 0) := by show _ = _; unfold stepSup; simp; omega
                        go_wp2_with fail
                        go_roundw
                        case rel => exact ⟨q + 1, by omega, by go_num, congrArg (Value.int .i64) (by rw [HF.out]; exact HS.out.symm), HB2.out _⟩
                        case measure => simp [intOf]; omega
                      · have HS : Hid (((stepSup true n c : Nat) : Int) = (c : Int) - n) := by show _ = _; unfold stepSup; simp; omega
                        go_wp2_with fail
                        go_roundw
                        case rel => exact ⟨q + 1, by omega, by go_num, congrArg (Value.int .i64) (by rw [HF.out]; exact HS.out.symm), HB2.out _⟩
                        case measure => simp [intOf]; omega
                  | false =>
                    rw [hsk] at c0' HF
                    clear hsk
                    by_cases h1 : 0 < n
                    · by_cases h2 : n < (c : Int)
                      · have HS : Hid (((stepSup false n c : Nat) : Int) = n) := by show _ = _; unfold stepSup; simp; rw [if_neg (by omega)]; omega
                        go_wp2_with fail
                        go_roundw
                        case rel => exact ⟨q + 1, by omega, by go_num, congrArg (Value.int .i64) (by rw [HF.out]; exact HS.out.symm), HB2.out _⟩
                        case measure => simp [intOf]; omega
                      · have HS : Hid (((stepSup false n c : Nat) : Int) = (c : Int)) := by show _ = _; unfold stepSup; simp; rw [if_neg (by omega)]; omega
                        go_wp2_with fail
                        go_roundw
                        case rel => exact ⟨q + 1, by omega, by go_num, congrArg (Value.int .i64) (by rw [HF.out]; exact HS.out.symm), HB2.out _⟩
                        case measure => simp [intOf]; omega
                    · have HS : Hid (((stepSup false n c : Nat) : Int) = (c : Int)) := by show _ = _; unfold stepSup; simp; rw [if_pos (by omega)]
                      go_wp2_with fail
                      go_roundw
                      case rel => exact ⟨q + 1, by omega, by go_num, congrArg (Value.int .i64) (by rw [HF.out]; exact HS.out.symm), HB2.out _⟩
                      case measure => simp [intOf]; omega
                · have hqe : q = i := by omega
                  subst hqe
                  obtain ⟨w4, hw4⟩ : ∃ x, x = wr := ⟨_, rfl⟩
                  subst hw4
                  have hop4 : ∀ r, r < q → ∃ b o, oa = some ⟨b, o, none⟩ ∧ w4.cell? ⟨b, o + r * 2, none⟩ = some (.bool (sk r)) ∧ w4.cell? ⟨b, o + r * 2 + 1, none⟩ = some (.int .i64 (nn r)) := fun r hr => by
                    obtain ⟨b, o, h1, h2, h3⟩ := hopP r hr
                    have f : Fr (fun _ => False) wP w4 := Fr.ofBelow belq
                    exact ⟨b, o, h1, f.cell h2 id, f.cell h3 id⟩
                  have HC : Hid (∃ C, C = fwd (opl sk nn q) m) := ⟨_, rfl⟩
                  obtain ⟨C, hC⟩ := HC.out
                  have HCE : Hid (fwd (opl sk nn q) m = C) := hC.symm
                  rw [← hC]
                  clear hopP hlt hqi hC HC
                  go_wp2_with fail
                  go_loopw [30, 32] (fun d j wr => ∃ r : Nat, r ≤ q ∧ j = .int .i64 ((r : Int) - 1) ∧ d = .int .i64 (dLaw (m + 1) (demI ((opl sk nn q).drop r))) ∧ Below w4.heap.size w4 wr) (fun _ j _ => (intOf j + 1).toNat)
                  case atStart => exact ⟨q, Nat.le_refl _, rfl, by rw [List.drop_of_length_le (by rw [opl_len]; exact Nat.le_refl _)]; rfl, Below.refl _ _⟩
                  case round =>
                    obtain ⟨r, hrq, hj, rfl, belr⟩ := hrel
                    cases r with
                    | zero =>
                      rw [show ((0 : Nat) : Int) - 1 = -1 from rfl] at hj
                      subst hj
                      obtain ⟨w5, hw5⟩ : ∃ x, x = wr := ⟨_, rfl⟩
                      subst hw5
                      rw [List.drop_zero]
                      have HX : Hid (∃ X, X = opl sk nn q) := ⟨_, rfl⟩
                      obtain ⟨X, hX⟩ := HX.out
                      rw [← hX] at HCE ⊢
                      have HPB2 : Hid (rops.reverse.map (fun o => (o.1, o.2.1)) = X) := by show _ = _; rw [hX]; exact HPB.out.ops
                      clear hX HX hop4
                      have hpd := pulls_d m X
                      have hple := pulls_le m X
                      have HPL : Hid (∃ PL, PL = pulls m X) := ⟨_, rfl⟩
                      obtain ⟨PL, hPL⟩ := HPL.out
                      have HPE : Hid (pulls m X = PL) := hPL.symm
                      rw [← hPL] at hpd hple
                      clear hPL HPL
                      generalize dLaw (m + 1) (demI X) = d at *
                      go_upto_region 77 with fail
                      go_cut [235] from 229 to 234 (fun c wx => ∃ bb : Bool, c = .bool bb ∧ (bb = true → (PL : Int) = d) ∧ (bb = false → PL = m) ∧ wx = w5)
                      case first =>
                        rcases hpd with ⟨h1, h2⟩ | ⟨h1, h2, h3⟩ | ⟨h1, h2, h3⟩
                        · have HF : Hid (PL = m) := h2
                          have hng : ¬ 0 ≤ d := by omega
                          clear h2
                          go_wp2_with fail
                          go_meet
                          exact ⟨false, rfl, fun h => (by cases h), fun _ => HF.out, rfl⟩
                        · have HF : Hid ((PL : Int) = d) := h3
                          clear h3
                          go_wp2_with fail
                          go_meet
                          exact ⟨true, rfl, fun _ => HF.out, fun h => (by cases h), rfl⟩
                        · have HF : Hid (PL = m) := h3
                          clear h3
                          go_wp2_with fail
                          go_meet
                          exact ⟨false, rfl, fun h => (by cases h), fun _ => HF.out, rfl⟩
                      case rest =>
                        obtain ⟨bb, rfl, hbt, hbf, hwc⟩ := hcut
                        rw [hwc]
                        clear hwc hpd
                        go_upto_if 235 with fail
                        go_cut [36] from 236 to 236 (fun p wx => p = .int .i64 (PL : Int) ∧ wx = w5)
                        case first =>
                          cases bb with
                          | true =>
                            have HE : Hid ((PL : Int) = d) := hbt rfl
                            clear hbt hbf
                            go_wp2_with fail
                            go_meet
                            exact ⟨congrArg (Value.int .i64) HE.out.symm, rfl⟩
                          | false =>
                            have HE : Hid (PL = m) := hbf rfl
                            clear hbt hbf
                            go_wp2_with fail
                            go_meet
                            exact ⟨congrArg (Value.int .i64) (by rw [HE.out]), rfl⟩
                        case rest =>
                          obtain ⟨rfl, hwc⟩ := hcut
                          rw [hwc]
                          clear hwc hbt hbf
                          have hnew := new_any w5 ⟨#[100, 111, 110, 101]⟩
                          have hct : CT (w5.heap.size + 1) K (.iface 93 (.pointer (some ⟨w5.heap.size, 0, none⟩))) 0 ((w5.alloc (.cells #[.string ⟨#[100, 111, 110, 101]⟩] 95)).alloc (.cells #[.nilIface, .int .i64 (K : Int), .int .i64 0, .iface 93 (.pointer (some ⟨w5.heap.size, 0, none⟩))] 63)) := by
                            have := heap_alloc_new (w5.alloc (.cells #[.string ⟨#[100, 111, 110, 101]⟩] 95)) (.cells #[.nilIface, .int .i64 (K : Int), .int .i64 0, .iface 93 (.pointer (some ⟨w5.heap.size, 0, none⟩))] 63)
                            rw [World.size_alloc] at this
                            exact this
                          have bel5 : Below wP.heap.size wP w5 := belq.trans (belr.mono belq.size)
                          have bel6 : Below wP.heap.size wP ((w5.alloc (.cells #[.string ⟨#[100, 111, 110, 101]⟩] 95)).alloc (.cells #[.nilIface, .int .i64 (K : Int), .int .i64 0, .iface 93 (.pointer (some ⟨w5.heap.size, 0, none⟩))] 63)) := (bel5.alloc bel5.size _).alloc (by have := bel5.size; simp; omega) _
                          have bel5s := bel5.size
                          obtain ⟨hSX, hQX, hoX, hMX, hsX⟩ := HB.out
                          have hcnt := count_law hSX hMX hsX HPB.out bel6 hct hT hK (by omega) HPB2.out HCE.out
                          rw [HPE.out] at hcnt
                          have HHct : Hid _ := hcnt
                          have HHBel : Hid _ := bel6
                          clear bel6 hcnt hct hSX hQX hoX hMX hsX HPB2 HCE HPE bel5 belq belr
                          have a63 := Yba.isAgg63
                          have z63 := Yba.sizeOf63
                          go_wp2_with fail
                          refine hnew.mono ?_
                          rintro e w6a ⟨rfl, rfl⟩
                          clear hnew
                          go_wp2_with fail
                          refine Calls.mono HHct.out ?_
                          rintro e w8 ⟨gv, ev, cl, rfl, ct8, fr8, hcl, hge, hlt⟩
                          have fX8 : Fr (fun _ => False) wX w8 := by
                            have h1 : Fr (fun _ => False) wX wP := Fr.ofBelow HPB.out.below
                            have h2 := h1.trans (Fr.ofBelow (S := fun _ => False) HHBel.out) (fun _ _ e => e)
                            have h3 := HHBel.out.size
                            have h4 := HPB.out.below.size
                            have h5 : wP.heap.size ≤ w5.heap.size := bel5s
                            exact h2.trans fr8 (fun k hk e => by omega)
                          obtain ⟨hSX, hQX, hoX, hMX, hsX⟩ := HB.out
                          have hS8 := hSX.frame fX8 id
                          have htry := store_try hS8
                          have HGE : Hid (K ≤ PL → gv = 0 ∧ ev = .iface 93 (.pointer (some ⟨w5.heap.size, 0, none⟩)) ∧ cl = min PL (K + 1) + 1) := hge
                          have HLT : Hid (PL < K → gv = (C : Int) ∧ ev = .nilIface ∧ cl = PL + 1) := hlt
                          have HX : Hid (StoreAt wX st 0 0 (.slice (some ⟨g, 0, none⟩) (k + 1) cp) (.map (some (w.heap.size + 1))) (.map (some Q)) ov nv ∧ wX.heap[Q]? = some (.map #[] 0) ∧ wX.ownsRow w.heap.size 30 5 (.slice (some ⟨g, 0, none⟩) (k + 1) cp) (k + 1) (tcells (tl k)) ∧ MapIs wX (w.heap.size + 1) k (fm k)) := ⟨hSX, hQX, hoX, hMX⟩
                          clear HHct hge hlt hSX hQX hoX hMX hsX HB HPB HHBel fr8
                          have lst8 := lt_of (show w8.heap[st]? = some _ from hS8)
                          go_wp2_with fail
                          refine htry.mono ?_
                          rintro e w9 ⟨rfl, hS9, f9⟩
                          have hun := store_unlock hS9
                          clear htry
                          go_wp2_with fail
                          refine hun.mono ?_
                          rintro e w10 ⟨rfl, hS10, f10⟩
                          clear hun
                          have f810 : Fr (fun _ => False) w8 w10 := by
                            refine Fr.back (st := st) ((f9.mono (fun _ _ e => .inr e)).trans (f10.mono (fun _ _ e => .inr e)) (fun _ _ e => e)) ?_
                            exact (show w10.heap[st]? = some _ from hS10).trans (show w8.heap[st]? = some _ from hS8).symm
                          have fX10 : Fr (fun _ => False) wX w10 := fX8.trans f810 (fun _ _ e => e)
                          have ct10 : CT (w5.heap.size + 1) K (.iface 93 (.pointer (some ⟨w5.heap.size, 0, none⟩))) cl w10 := f810.block ct8 id
                          have bel10 : Below w.heap.size w w10 := belX.trans (fX10.below belX.size (fun _ e => e.elim))
                          have hQ10 := fX10.block HX.out.2.1 id
                          have own10 := own_fr HX.out.2.2.1 fX10 (fun _ _ => id)
                          have hM10 := HX.out.2.2.2.frame fX10 id
                          have hlenM := hM10.len 3
                          have hlenQ := empty_len hQ10 3
                          have c6 : w10.cell? ⟨st, 6, none⟩ = some (.slice (some ⟨g, 0, none⟩) (k + 1) cp) := hS10.cell 6
                          have c7 : w10.cell? ⟨st, 7, none⟩ = some (.map (some (w.heap.size + 1))) := hS10.cell 7
                          have c8 : w10.cell? ⟨st, 8, none⟩ = some (.map (some Q)) := hS10.cell 8
                          have hrow : ∀ j u, (tcells (tl k))[j]? = some u → w10.cell? ⟨g, j, none⟩ = some u := fun j u hj => by
                            have := own10.cells (g := g) rfl j u hj
                            rwa [Addr.add_lit, Nat.zero_add] at this
                          obtain ⟨z0, z1, z2, z3, z4⟩ := tcells_get (tl k) 0 _ (tl_zero k)
                          have y0 : w10.cell? ⟨g, 0, none⟩ = some (.int .u8 0) := hrow _ _ z0
                          have y1 : w10.cell? ⟨g, 1, none⟩ = some (.string ⟨#[]⟩) := hrow _ _ z1
                          have y2 : w10.cell? ⟨g, 2, none⟩ = some (.int .u64 0) := hrow _ _ z2
                          have y3 : w10.cell? ⟨g, 3, none⟩ = some (.string ⟨#[]⟩) := hrow _ _ z3
                          have y4 : w10.cell? ⟨g, 4, none⟩ = some (.string ⟨#[]⟩) := hrow _ _ z4
                          have hneq := fun w => neq_term 0 ByteArray.empty w
                          have hneq0 : ∀ w, (binOp .neq 30 (.agg #[.int .u8 0, .string ⟨#[]⟩, .int .u64 0, .string ⟨#[]⟩, .string ⟨#[]⟩]) (.agg #[.int .u8 0, .string ⟨#[]⟩, .int .u64 0, .string ⟨#[]⟩, .string ⟨#[]⟩])).run Yba.prog w = .ok (.bool false) w := hneq
                          have lst10 := lt_of (show w10.heap[st]? = some _ from hS10)
                          have HR10 : Hid (∀ j u, (tcells (tl k))[j]? = some u → w10.cell? ⟨g, j, none⟩ = some u) := hrow
                          have HS10 : Hid (StoreAt w10 st 0 0 (.slice (some ⟨g, 0, none⟩) (k + 1) cp) (.map (some (w.heap.size + 1))) (.map (some Q)) ov nv) := hS10
                          have HC10 : Hid (CT (w5.heap.size + 1) K (.iface 93 (.pointer (some ⟨w5.heap.size, 0, none⟩))) cl w10) := ct10
                          have hk1 : 0 < k + 1 := by omega
                          clear hneq z0 z1 z2 z3 z4 hrow own10 hM10 hQ10 hS8 hS9 hS10 ct8 ct10 f9 f10 f810 fX8 fX10 HX lst8
                          go_wp2_with fail
                          clear y0 y1 y2 y3 y4 hneq0 hlenM hlenQ c7 c8
                          go_loopw [42] (fun j wr => ∃ r : Nat, r ≤ k ∧ j = .int .i64 ((r : Int) + 1) ∧ Below w10.heap.size w10 wr) (fun j _ => k + 1 - (intOf j).toNat)
                          case atStart => exact ⟨0, Nat.zero_le _, rfl, Below.refl _ _⟩
                          case round =>
                            obtain ⟨r, hrk, rfl, belr⟩ := hrel
                            have fr : Fr (fun _ => False) w10 wr := Fr.ofBelow belr
                            by_cases hlt : r < k
                            · have hlt' : (r : Int) + 1 ≤ (k : Int) := by omega
                              have hlt'' : (r : Int) + 1 < (k : Int) + 1 := by omega
                              obtain ⟨z0, z1, z2, z3, z4⟩ := tcells_get (tl k) (r + 1) _ (tl_get k (by omega) (by omega : r + 1 ≤ k))
                              have y0 : wr.cell? ⟨g, (r + 1) * 5, none⟩ = some (.int .u8 1) := fr.cell (HR10.out _ _ z0) id
                              have y1 : wr.cell? ⟨g, (r + 1) * 5 + 1, none⟩ = some (.string (xs (r + 1))) := fr.cell (HR10.out _ _ z1) id
                              have y2 : wr.cell? ⟨g, (r + 1) * 5 + 2, none⟩ = some (.int .u64 0) := fr.cell (HR10.out _ _ z2) id
                              have y3 : wr.cell? ⟨g, (r + 1) * 5 + 3, none⟩ = some (.string ⟨#[]⟩) := fr.cell (HR10.out _ _ z3) id
                              have y4 : wr.cell? ⟨g, (r + 1) * 5 + 4, none⟩ = some (.string ⟨#[]⟩) := fr.cell (HR10.out _ _ z4) id
                              have c6r := fr.cell c6 id
                              have hneq : ∀ w, (binOp .neq 30 (.agg #[.int .u8 1, .string (xs (r + 1)), .int .u64 0, .string ⟨#[]⟩, .string ⟨#[]⟩]) (.agg #[.int .u8 1, .string (xs (r + 1)), .int .u64 0, .string ⟨#[]⟩, .string ⟨#[]⟩])).run Yba.prog w = .ok (.bool false) w := fun w => neq_term 1 (xs (r + 1)) w
                              have hrep := fun w => repeat_any (r + 1) (by omega) w
                              simp only [Int.natCast_succ] at hrep
                              have lstr : st < wr.heap.size := by have := fr.size; omega
                              clear z0 z1 z2 z3 z4
                              go_upto_region 91 with fail
                              go_cut [311] from 301 to 310 (fun c wx => c = .bool false ∧ Below w10.heap.size w10 wx)
                              case first =>
                                go_region_with (go_at_call 4; refine (hrep _).mono ?_; rintro e w1 ⟨rfl, b1⟩; have f1 : Fr (fun _ => False) wr w1 := ⟨b1.os, b1.tape, b1.output, b1.size, fun q hq _ => b1.block q hq⟩; have x0 := f1.cell y0 id; have x1 := f1.cell y1 id; have x2 := f1.cell y2 id; have x3 := f1.cell y3 id; have x4 := f1.cell y4 id; have c61 := f1.cell c6r id; have lst1 : st < w1.heap.size := (by have := f1.size; omega); have belW : Below w10.heap.size w10 w1 := belr.trans (f1.below belr.size (fun _ e => e.elim)))
                                all_goals
                                  go_wp2_with fail
                                  go_meet
                                  first
                                    | exact ⟨rfl, belW⟩
                                    | exact ⟨rfl, belW.drew⟩
                              case rest =>
                                obtain ⟨rfl, belc⟩ := hcut
                                clear y0 y1 y2 y3 y4 hneq hrep fr c6r
                                go_wp2_with fail
                                go_roundw
                                case rel => exact ⟨r + 1, by omega, by go_num, belc⟩
                                case measure => (simp [intOf]; omega)
                            · have hrk' : ¬ (r : Int) + 1 ≤ (k : Int) := by omega
                              have hcc : wr.cell? ⟨w5.heap.size + 1, 2, none⟩ = some (.int .i64 (cl : Int)) := by
                                have hb := fr.block (show w10.heap[w5.heap.size + 1]? = some _ from HC10.out) id
                                rw [cell_of_row wr _ 2 _ 63 (0, 0) hb]; rfl
                              have lcb : w5.heap.size + 1 < wr.heap.size := lt_of (fr.block (show w10.heap[w5.heap.size + 1]? = some _ from HC10.out) id)
                              have HBel : Hid (Below w.heap.size w wr) := bel10.trans (belr.mono bel10.size)
                              have heqE : ∀ w, (binOp .eql 57 (.iface 93 (.pointer (some ⟨w5.heap.size, 0, none⟩))) (.iface 93 (.pointer (some ⟨w5.heap.size, 0, none⟩)))).run Yba.prog w = .ok (.bool true) w := fun w => eql_err w5.heap.size w
                              have heqN : ∀ w, (binOp .eql 57 .nilIface .nilIface).run Yba.prog w = .ok (.bool true) w := fun w => eql_nil w
                              clear belr fr hrk hlt c6
                              by_cases hKP : K ≤ PL
                              · obtain ⟨rfl, rfl, hcl2⟩ := HGE.out hKP
                                have hKP' : (K : Int) ≤ (PL : Int) := by omega
                                clear HGE HLT heqN
                                by_cases h2 : (K : Int) + 1 < (PL : Int)
                                · have HE : (cl : Int) = (K : Int) + 1 + 1 := by omega
                                  rw [HE] at hcc
                                  clear HE hcl2 hcl
                                  go_wp2_with fail
                                  go_ret
                                  exact ⟨rfl, HBel.out⟩
                                · have HE : (cl : Int) = (PL : Int) + 1 := by omega
                                  rw [HE] at hcc
                                  clear HE hcl2 hcl
                                  go_wp2_with fail
                                  go_ret
                                  exact ⟨rfl, HBel.out⟩
                              · obtain ⟨rfl, rfl, hcl2⟩ := HLT.out (by omega)
                                have hKP' : ¬ (K : Int) ≤ (PL : Int) := by omega
                                have HE : (cl : Int) = (PL : Int) + 1 := by omega
                                rw [HE] at hcc
                                clear HE hcl2 hcl HGE HLT heqE
                                go_wp2_with fail
                                go_ret
                                exact ⟨rfl, HBel.out⟩
                    | succ r =>
                      rw [show ((r + 1 : Nat) : Int) - 1 = (r : Int) by omega] at hj
                      subst hj
                      obtain ⟨b, o, hoa, c0, c1⟩ := hop4 r (by omega)
                      subst hoa
                      have fr : Fr (fun _ => False) w4 wr := Fr.ofBelow belr
                      have c0' := fr.cell c0 id
                      have c1' := fr.cell c1 id
                      have hnr := hn r
                      have hdrop := opl_drop sk nn (L := q) (i := r) (by omega)
                      have HB2 : Hid (∀ o, Below w4.heap.size w4 (wr.alloc o)) := fun o => belr.alloc belr.size o
                      have hr0 : (0 : Int) ≤ (r : Int) := by omega
                      have hrq' : (r : Int) < (q : Int) := by omega
                      clear c0 c1 hop4 fr
                      have HD : Hid ((opl sk nn q).drop r = (sk r, nn r) :: (opl sk nn q).drop (r + 1)) := hdrop
                      clear hdrop
                      generalize (opl sk nn q).drop (r + 1) = rest at *
                      generalize nn r = n at *
                      cases hsk : sk r with
                      | true =>
                        rw [hsk] at c0' HD
                        clear hsk
                        cases hD : demI rest with
                        | none =>
                          have hd : dLaw (m + 1) none = -1 := rfl
                          rw [hd]
                          clear hd
                          by_cases h1 : n < 0
                          · have HS : Hid (dLaw (m + 1) (demI ((opl sk nn q).drop r)) = -1) := by show _ = _; rw [HD.out, d_skip_none hD]
                            clear HD hD
                            go_wp2_with fail
                            go_roundw
                            case rel => exact ⟨r, by omega, rfl, congrArg (Value.int .i64) HS.out.symm, HB2.out _⟩
                            case measure => simp [intOf]
                          · have HS : Hid (dLaw (m + 1) (demI ((opl sk nn q).drop r)) = -1) := by show _ = _; rw [HD.out, d_skip_none hD]
                            clear HD hD
                            go_wp2_with fail
                            go_roundw
                            case rel => exact ⟨r, by omega, rfl, congrArg (Value.int .i64) HS.out.symm, HB2.out _⟩
                            case measure => simp [intOf]
                        | some v =>
                          have hd : dLaw (m + 1) (some v) = ((min (m + 1) v : Nat) : Int) := rfl
                          rw [hd]
                          have hdS : min (m + 1) v ≤ m + 1 := Nat.min_le_left _ _
                          have HV : Hid (∃ dv, dv = min (m + 1) v) := ⟨_, rfl⟩
                          obtain ⟨dv, hdv⟩ := HV.out
                          rw [← hdv] at hdS ⊢
                          clear HV hd
                          by_cases h1 : n < 0
                          · have HS : Hid (dLaw (m + 1) (demI ((opl sk nn q).drop r)) = (dv : Int)) := by show _ = _; rw [HD.out, d_skip_some hD]; omega
                            clear HD hdv hD
                            go_wp2_with fail
                            go_roundw
                            case rel => exact ⟨r, by omega, rfl, congrArg (Value.int .i64) HS.out.symm, HB2.out _⟩
                            case measure => simp [intOf]
                          · by_cases h2 : (m : Int) + 1 ≤ n
                            · have HS : Hid (dLaw (m + 1) (demI ((opl sk nn q).drop r)) = (m : Int) + 1) := by show _ = _; rw [HD.out, d_skip_some hD]; omega
                              clear HD hdv hD
                              go_wp2_with fail
                              go_roundw
                              case rel => exact ⟨r, by omega, rfl, congrArg (Value.int .i64) HS.out.symm, HB2.out _⟩
                              case measure => simp [intOf]
                            · by_cases h3 : (m : Int) + 1 < n + (dv : Int)
                              · have HS : Hid (dLaw (m + 1) (demI ((opl sk nn q).drop r)) = (m : Int) + 1) := by show _ = _; rw [HD.out, d_skip_some hD]; omega
                                clear HD hdv hD
                                go_wp2_with fail
                                go_roundw
                                case rel => exact ⟨r, by omega, rfl, congrArg (Value.int .i64) HS.out.symm, HB2.out _⟩
                                case measure => simp [intOf]
                              · have HS : Hid (dLaw (m + 1) (demI ((opl sk nn q).drop r)) = n + (dv : Int)) := by show _ = _; rw [HD.out, d_skip_some hD]; omega
                                clear HD hdv hD
                                go_wp2_with fail
                                go_roundw
                                case rel => exact ⟨r, by omega, rfl, congrArg (Value.int .i64) HS.out.symm, HB2.out _⟩
                                case measure => simp [intOf]
                      | false =>
                        rw [hsk] at c0' HD
                        clear hsk
                        by_cases h1 : 0 < n
                        · cases hD : demI rest with
                          | none =>
                            have hd : dLaw (m + 1) none = -1 := rfl
                            rw [hd]
                            clear hd
                            by_cases h2 : (m : Int) + 1 < n
                            · have HS : Hid (dLaw (m + 1) (demI ((opl sk nn q).drop r)) = (m : Int) + 1) := by show _ = _; rw [HD.out, d_lim_none hD h1]; omega
                              clear HD hD
                              go_wp2_with fail
                              go_roundw
                              case rel => exact ⟨r, by omega, rfl, congrArg (Value.int .i64) HS.out.symm, HB2.out _⟩
                              case measure => simp [intOf]
                            · have HS : Hid (dLaw (m + 1) (demI ((opl sk nn q).drop r)) = n) := by show _ = _; rw [HD.out, d_lim_none hD h1]; omega
                              clear HD hD
                              go_wp2_with fail
                              go_roundw
                              case rel => exact ⟨r, by omega, rfl, congrArg (Value.int .i64) HS.out.symm, HB2.out _⟩
                              case measure => simp [intOf]
                          | some v =>
                            have hd : dLaw (m + 1) (some v) = ((min (m + 1) v : Nat) : Int) := rfl
                            rw [hd]
                            have hdS : min (m + 1) v ≤ m + 1 := Nat.min_le_left _ _
                            have HV : Hid (∃ dv, dv = min (m + 1) v) := ⟨_, rfl⟩
                            obtain ⟨dv, hdv⟩ := HV.out
                            rw [← hdv] at hdS ⊢
                            clear HV hd
                            have hd0 : ¬ (dv : Int) < 0 := by omega
                            by_cases h2 : (m : Int) + 1 < n
                            · have HS : Hid (dLaw (m + 1) (demI ((opl sk nn q).drop r)) = (dv : Int)) := by show _ = _; rw [HD.out, d_lim_some hD h1]; omega
                              clear HD hdv hD
                              have h4 : ¬ (m : Int) + 1 < (dv : Int) := by omega
                              go_wp2_with fail
                              go_roundw
                              case rel => exact ⟨r, by omega, rfl, congrArg (Value.int .i64) HS.out.symm, HB2.out _⟩
                              case measure => simp [intOf]
                            · by_cases h3 : n < (dv : Int)
                              · have HS : Hid (dLaw (m + 1) (demI ((opl sk nn q).drop r)) = n) := by show _ = _; rw [HD.out, d_lim_some hD h1]; omega
                                clear HD hdv hD
                                go_wp2_with fail
                                go_roundw
                                case rel => exact ⟨r, by omega, rfl, congrArg (Value.int .i64) HS.out.symm, HB2.out _⟩
                                case measure => simp [intOf]
                              · have HS : Hid (dLaw (m + 1) (demI ((opl sk nn q).drop r)) = (dv : Int)) := by show _ = _; rw [HD.out, d_lim_some hD h1]; omega
                                clear HD hdv hD
                                go_wp2_with fail
                                go_roundw
                                case rel => exact ⟨r, by omega, rfl, congrArg (Value.int .i64) HS.out.symm, HB2.out _⟩
                                case measure => simp [intOf]
                        · have HS : Hid (dLaw (m + 1) (demI ((opl sk nn q).drop r)) = dLaw (m + 1) (demI rest)) := by show _ = _; rw [HD.out, d_lim_neg (by omega)]
                          clear HD
                          generalize dLaw (m + 1) (demI rest) = dd at *
                          go_wp2_with fail
                          go_roundw
                          case rel => exact ⟨r, by omega, rfl, congrArg (Value.int .i64) HS.out.symm, HB2.out _⟩
                          case measure => simp [intOf]

end Go.Proofs.Ybulkdkji
