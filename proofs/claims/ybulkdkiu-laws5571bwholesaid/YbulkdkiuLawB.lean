/-
  LawS5571BWhole, walked.
-/
import Derived.Test.YbulkdkiuTail2
namespace Go.Proofs.Ybulkdkiu
open Go.RowKit Go.Maps
set_option linter.unusedVariables false
set_option linter.unusedSimpArgs false

theorem info42 : (Yba.prog.info? 42).map (fun i => (i.zero, i.size, i.bytes)) = some (some (.slice none 0 0), 1, 24) := by kernel_rfl

/-- One op in memory. -/
def OpAt (w : World) (b o : Nat) (A0 A1 A2 A4 : Nat) (Ln : Int) : Prop :=
  w.cell? ⟨b, o, none⟩ = some (.int .u8 (A0 : Int)) ∧ w.cell? ⟨b, o + 1, none⟩ = some (.int .u8 (A1 : Int)) ∧ w.cell? ⟨b, o + 2, none⟩ = some (.int .u8 (A2 : Int)) ∧ w.cell? ⟨b, o + 3, none⟩ = some (.int .i64 Ln) ∧ w.cell? ⟨b, o + 4, none⟩ = some (.int .u8 (A4 : Int))

theorem tmod_nat (a k : Nat) : ((a : Int)).tmod (k : Int) = ((a % k : Nat) : Int) := by
  exact (Int.ofNat_tmod a k).symm

theorem added_len (L : List ByteArray) (y : ByteArray) : (added L y).length ≤ L.length + 1 := by
  unfold added; split <;> simp

theorem three_new (wr : World) (O P S : Obj) : Below wr.heap.size wr (((wr.alloc O).alloc P).alloc S).drew ∧ ((((wr.alloc O).alloc P).alloc S).drew).heap[wr.heap.size + 2]? = some S := by
  refine ⟨((((Below.refl _ wr).alloc (Nat.le_refl _) O).alloc (by simp) P).alloc (by simp; omega) S).drew, ?_⟩
  have := heap_alloc_new ((wr.alloc O).alloc P) S
  rw [World.size_alloc, World.size_alloc] at this
  exact this

set_option maxRecDepth 100000 in
set_option maxHeartbeats 4000000 in
theorem lawB_main (wd : ByteArray) (a0 : Option Addr) (len cap : Nat) (A0 A1 A2 A4 : Nat → Nat) (Ln : Nat → Int) (w : World) (hlen : len ≤ 4096) (hwd : wd.size ≤ 65536) (hA : ∀ i, i < len → A0 i < 256 ∧ A1 i < 256 ∧ A2 i < 256 ∧ A4 i < 256)
    (ha : 0 < len → ∃ b o, a0 = some ⟨b, o, none⟩ ∧ ∀ i, i < len → OpAt w b (o + i * 5) (A0 i) (A1 i) (A2 i) (A4 i) (Ln i)) :
    Calls Yba.prog 3 #[.string wd, .slice a0 len cap] w fun e w' => e = .returned (.bool true) ∧ Below w.heap.size w w' := by
  have hnot : ∀ (x : Bool) (w : World), (Op.unary .not (.bool x)).run Yba.prog w = .ok (.bool (!x)) w := fun _ _ => rfl
  have a34 := Yba.isAgg34
  have z34 := Yba.sizeOf34
  have a36 := Yba.isAgg36
  have z36 := Yba.sizeOf36
  go_enter Yba.func3, Yba.ntmps3
  go_wp2_with fail
  obtain ⟨foot0, s0⟩ := ms_start w
  go_loopw [7, 38] (fun v j wr => ∃ (k : Nat) (L : List ByteArray) (foot : Nat → Prop), k ≤ len ∧ j = .int .i64 k ∧ MS w wr (4 * k) L L foot v) (fun _ j _ => len - (intOf j).toNat)
  case atStart => exact ⟨0, [], foot0, Nat.zero_le _, rfl, s0⟩
  case round =>
    clear s0
    obtain ⟨k, L, foot, hk, rfl, s⟩ := hrel
    have hnL := s.H.len
    by_cases hlt : k < len
    · obtain ⟨b, o, hae, hc⟩ := ha (by omega)
      subst hae
      obtain ⟨q0, q1, q2, q3, q4⟩ := hc k hlt
      obtain ⟨g0, g1, g2, g4⟩ := hA k hlt
      clear hc hA ha
      generalize A0 k = B0 at *
      generalize A1 k = B1 at *
      generalize A2 k = B2 at *
      generalize A4 k = B4 at *
      generalize Ln k = Lx at *
      have bel := s.below
      have lt0 : b < w.heap.size := World.block_lt_of_cell? w _ q0
      have p0 := (bel.cell (p := ⟨b, _, none⟩) lt0).trans q0
      have p1 := (bel.cell (p := ⟨b, _, none⟩) lt0).trans q1
      have p2 := (bel.cell (p := ⟨b, _, none⟩) lt0).trans q2
      have p3 := (bel.cell (p := ⟨b, _, none⟩) lt0).trans q3
      have p4 := (bel.cell (p := ⟨b, _, none⟩) lt0).trans q4
      clear q0 q1 q2 q3 q4
      have e1 : (B1 : Int).tmod 5 = ((B1 % 5 : Nat) : Int) := tmod_nat B1 5
      have e1' : (B1 : Int).tdiv 5 = ((B1 / 5 : Nat) : Int) := (Int.ofNat_tdiv B1 5).symm
      have e2 : ((B1 / 5 : Nat) : Int).tmod 5 = ((B1 / 5 % 5 : Nat) : Int) := tmod_nat (B1 / 5) 5
      have e3 : (B2 : Int).tmod 5 = ((B2 % 5 : Nat) : Int) := tmod_nat B2 5
      have r1 : B1 % 5 < 5 := Nat.mod_lt _ (by omega)
      have r2 : B1 / 5 % 5 < 5 := Nat.mod_lt _ (by omega)
      have r3 : B2 % 5 < 5 := Nat.mod_lt _ (by omega)
      have q5 : B1 / 5 < 256 := by omega
      obtain ⟨s1, ct1, hs1⟩ := tab_at s.tab r1
      obtain ⟨s2, ct2, hs2⟩ := tab_at s.tab r2
      obtain ⟨s3, ct3, hs3⟩ := tab_at s.tab r3
      generalize B1 / 5 % 5 = R2 at *
      generalize B1 % 5 = R1 at *
      generalize B1 / 5 = Q1 at *
      generalize B2 % 5 = R3 at *
      have htl := lt_of s.tab
      have e0 : (B0 : Int).tmod 4 = ((B0 % 4 : Nat) : Int) := tmod_nat B0 4
      have hr0 : B0 % 4 < 4 := Nat.mod_lt _ (by omega)
      have n2 : (B4 : Int).tmod 2 = ((B4 % 2 : Nat) : Int) := tmod_nat B4 2
      have n4 : (B4 : Int).tmod 4 = ((B4 % 4 : Nat) : Int) := tmod_nat B4 4
      have m2 : B4 % 2 < 2 := Nat.mod_lt _ (by omega)
      have m4 : B4 % 4 < 4 := Nat.mod_lt _ (by omega)
      generalize B0 % 4 = R0 at *
      generalize B4 % 2 = N2 at *
      generalize B4 % 4 = N4 at *
      have hR0 : R0 = 0 ∨ R0 = 1 ∨ R0 = 2 ∨ R0 = 3 := by omega
      rcases hR0 with rfl | rfl | rfl | rfl
      · have hN2 : N2 = 0 ∨ N2 = 1 := by omega
        rcases hN2 with rfl | rfl
        · clear n4 m4
          go_wp2_with fail
          go_region
          clear ct1 ct2 ct3 p0 p1 p2 p3 p4 e1 e1' e2 e3 e0
          go_wp2_with fail
          obtain ⟨hb, hg⟩ := three_new wr (.cells #[.int .u8 (B0 : Int), .int .u8 (B1 : Int), .int .u8 (B2 : Int), .int .i64 Lx, .int .u8 (B4 : Int)] 34) (.cells #[.string s3, .int .i64 Lx] 36) (.cells #[.string s1] 9)
          refine (padd_any (s.grow hb).H s3 Lx (wr.heap.size + 2) 1 [s1] rfl hg (fun e => by have := (s.H.lt e).2; omega) (fun x hx => by simp at hx; subst hx; exact hs1) (by omega) (by omega)).mono ?_
          rintro e w2 ⟨rfl, hP⟩
          obtain ⟨foot2, sA⟩ := (s.grow hb).method hP
          clear hP hb hg s bel htl
          go_wp2_with fail
          refine (badd_any sA.m sA.below.size s1 (by omega)).mono ?_
          rintro e w3 ⟨v', rfl, hA⟩
          have sB := sA.badd hA
          clear hA sA
          go_wp2_with fail
          go_roundw
          case rel => exact ⟨k + 1, _, _, by omega, by go_num, sB.wider (by omega)⟩
          case measure => simp [intOf]; omega
        · clear n4 m4
          go_wp2_with fail
          go_region
          clear ct1 ct2 ct3 p0 p1 p2 p3 p4 e1 e1' e2 e3 e0
          go_wp2_with fail
          obtain ⟨hb, hg⟩ := three_new wr (.cells #[.int .u8 (B0 : Int), .int .u8 (B1 : Int), .int .u8 (B2 : Int), .int .i64 Lx, .int .u8 (B4 : Int)] 34) (.cells #[.string s3, .int .i64 Lx] 36) (.cells #[.string s1, .string s2] 9)
          refine (padd_any (s.grow hb).H s3 Lx (wr.heap.size + 2) 2 [s1, s2] rfl hg (fun e => by have := (s.H.lt e).2; omega) (fun x hx => by simp at hx; rcases hx with rfl | rfl; exact hs1; exact hs2) (by omega) (by omega)).mono ?_
          rintro e w2 ⟨rfl, hP⟩
          obtain ⟨foot2, sA⟩ := (s.grow hb).method hP
          clear hP hb hg s bel htl
          go_wp2_with fail
          refine (badd_any sA.m sA.below.size s1 (by omega)).mono ?_
          rintro e w3 ⟨v', rfl, hA⟩
          have sB := sA.badd hA
          clear hA sA
          go_wp2_with fail
          refine (badd_any sB.m sB.below.size s2 (by have := added_len L s1; omega)).mono ?_
          rintro e w4 ⟨v4, rfl, hA4⟩
          have sC := sB.badd hA4
          clear hA4 sB
          go_wp2_with fail
          go_roundw
          case rel => exact ⟨k + 1, _, _, by omega, by go_num, sC.wider (by omega)⟩
          case measure => simp [intOf]; omega
      · have hN2 : N2 = 0 ∨ N2 = 1 := by omega
        rcases hN2 with rfl | rfl
        · clear n4 m4
          go_wp2_with fail
          go_region
          clear ct1 ct2 ct3 p0 p1 p2 p3 p4 e1 e1' e2 e3 e0
          go_wp2_with fail
          obtain ⟨hb, hg⟩ := three_new wr (.cells #[.int .u8 (B0 : Int), .int .u8 (B1 : Int), .int .u8 (B2 : Int), .int .i64 Lx, .int .u8 (B4 : Int)] 34) (.cells #[.string s3, .int .i64 Lx] 36) (.cells #[.string s1] 9)
          refine (padd_any (s.grow hb).H s3 Lx (wr.heap.size + 2) 1 [s1] rfl hg (fun e => by have := (s.H.lt e).2; omega) (fun x hx => by simp at hx; subst hx; exact hs1) (by omega) (by omega)).mono ?_
          rintro e w2 ⟨rfl, hP⟩
          obtain ⟨foot2, sA⟩ := (s.grow hb).method hP
          clear hP hb hg s bel htl
          go_wp2_with fail
          refine (badd_any sA.m sA.below.size s1 (by omega)).mono ?_
          rintro e w3 ⟨v', rfl, hA⟩
          have sB := sA.badd hA
          clear hA sA
          go_wp2_with fail
          go_roundw
          case rel => exact ⟨k + 1, _, _, by omega, by go_num, sB.wider (by omega)⟩
          case measure => simp [intOf]; omega
        · clear n4 m4
          go_wp2_with fail
          go_region
          clear ct1 ct2 ct3 p0 p1 p2 p3 p4 e1 e1' e2 e3 e0
          go_wp2_with fail
          obtain ⟨hb, hg⟩ := three_new wr (.cells #[.int .u8 (B0 : Int), .int .u8 (B1 : Int), .int .u8 (B2 : Int), .int .i64 Lx, .int .u8 (B4 : Int)] 34) (.cells #[.string s3, .int .i64 Lx] 36) (.cells #[.string s1, .string s2] 9)
          refine (padd_any (s.grow hb).H s3 Lx (wr.heap.size + 2) 2 [s1, s2] rfl hg (fun e => by have := (s.H.lt e).2; omega) (fun x hx => by simp at hx; rcases hx with rfl | rfl; exact hs1; exact hs2) (by omega) (by omega)).mono ?_
          rintro e w2 ⟨rfl, hP⟩
          obtain ⟨foot2, sA⟩ := (s.grow hb).method hP
          clear hP hb hg s bel htl
          go_wp2_with fail
          refine (badd_any sA.m sA.below.size s1 (by omega)).mono ?_
          rintro e w3 ⟨v', rfl, hA⟩
          have sB := sA.badd hA
          clear hA sA
          go_wp2_with fail
          refine (badd_any sB.m sB.below.size s2 (by have := added_len L s1; omega)).mono ?_
          rintro e w4 ⟨v4, rfl, hA4⟩
          have sC := sB.badd hA4
          clear hA4 sB
          go_wp2_with fail
          go_roundw
          case rel => exact ⟨k + 1, _, _, by omega, by go_num, sC.wider (by omega)⟩
          case measure => simp [intOf]; omega
      · clear n4 m4 n2 m2
        go_wp2_with fail
        have hb : Below wr.heap.size wr (wr.alloc (.cells #[.int .u8 (B0 : Int), .int .u8 (B1 : Int), .int .u8 (B2 : Int), .int .i64 Lx, .int .u8 (B4 : Int)] 34)) := (Below.refl _ wr).alloc (Nat.le_refl _) _
        refine (premove_any (s.grow hb).H s1 (by unfold maxLen; omega) (by omega)).mono ?_
        rintro e w2 ⟨rfl, hP⟩
        obtain ⟨foot2, sA⟩ := (s.grow hb).method hP
        clear hP hb s bel htl ct1 ct2 ct3 p0 p1 p2 p3 p4 e1 e1' e2 e3 e0
        go_wp2_with fail
        refine (bdel_any sA.m s1 (by omega)).mono ?_
        rintro e w3 ⟨v', rfl, hA⟩
        have sB := sA.bdel hA
        clear hA sA
        go_wp2_with fail
        go_roundw
        case rel => exact ⟨k + 1, _, _, by omega, by go_num, sB.wider (by omega)⟩
        case measure => simp [intOf]; omega
      · clear n2 m2
        have hb : Below wr.heap.size wr (wr.alloc (.cells #[.int .u8 (B0 : Int), .int .u8 (B1 : Int), .int .u8 (B2 : Int), .int .i64 Lx, .int .u8 (B4 : Int)] 34)) := (Below.refl _ wr).alloc (Nat.le_refl _) _
        by_cases hN : N4 = 0
        · subst hN
          go_wp2_with fail
          refine (clear_any (s.grow hb).H).mono ?_
          rintro e w2 ⟨rfl, hP⟩
          obtain ⟨foot2, sA⟩ := (s.grow hb).method hP
          have sB := sA.none_
          clear hP hb s bel htl ct1 ct2 ct3 p0 p1 p2 p3 p4 e1 e1' e2 e3 e0 sA
          go_wp2_with fail
          go_roundw
          case rel => exact ⟨k + 1, _, _, by omega, by go_num, sB.wider (by omega)⟩
          case measure => simp [intOf]; omega
        · have hN' : ((N4 : Int) == 0) = false := by rw [beq_eq_false_iff_ne]; omega
          go_wp2_with fail
          refine (join_any (s.grow hb).H (by omega)).mono ?_
          rintro e w2 ⟨js, rfl, hP⟩
          obtain ⟨foot2, sA⟩ := (s.grow hb).method hP
          clear hP hb s bel htl ct1 ct2 ct3 p0 p1 p2 p3 p4 e1 e1' e2 e3 e0
          go_wp2_with fail
          go_roundw
          case rel => exact ⟨k + 1, _, _, by omega, by go_num, sA.wider (by omega)⟩
          case measure => simp [intOf]; omega
    · clear ha hA
      have hkl : k = len := by omega
      subst hkl
      generalize wr = wm at *
      obtain ⟨aoM, capM, hv7⟩ := own_form s.m
      subst hv7
      obtain ⟨vi, ix, its, h, dead, sz, fm, F, jb, P, hl, hft⟩ := s.H
      subst hft
      obtain ⟨Pm, hPm⟩ := Classical.skolem.1 (fun y => P.rowOf y)
      have hPl : ∀ y, (Pm y).length ≤ 16384 := fun y => by have := (hPm y).2; omega
      obtain ⟨z, hz⟩ := P.lenIs
      have hzl : ∀ M, fm = some M → M < wm.heap.size := fun M hM => (P.mapOff hM).1
      have tinyL : ∀ y ∈ L, y.size ≤ 3 := hl ▸ P.tiny
      obtain ⟨i42, hi42, hz420, hz421, hz422⟩ := info_parts info42
      go_wp2_with (at_make; go_must (refine wpList_make_full _ rfl _ _ 41 rfl wm.heap.size 42 i42 _ 1 Yba.underlying41 hi42 hz420 hz421 .i64 .i64 _ _ L.length rfl rfl rfl rfl (by rw [hz422]; omega) (by unfold maxLen; omega) (Nat.le_refl _) ?_); intro w1 own1 g1; have B0 := bef_start (L := L) (Pm := Pm) rfl own1 g1; clear own1 g1)
      go_loopw [116] (fun j wx => ∃ i : Nat, i ≤ L.length ∧ j = .int .i64 i ∧ Bef wm L Pm i wx) (fun j _ => L.length - (intOf j).toNat)
      case atStart => exact ⟨0, Nat.zero_le _, rfl, B0⟩
      case round =>
        clear B0
        obtain ⟨i, hi, rfl, b⟩ := hrel
        have fb : Fr (fun _ => False) wm wr := Fr.ofBelow b.below
        by_cases hil : i < L.length
        · obtain ⟨y, hy⟩ : ∃ y, L[i]? = some y := ⟨_, List.getElem?_eq_getElem hil⟩
          obtain ⟨gM, capM', hvM, cy0⟩ := own_at s.m (strs_get hy)
          cases hvM
          have cy := fb.cell cy0 id
          have PX := P.frame fb (fun _ _ => id)
          have hlook := PX.look (y := y) (by have := tinyL y (List.mem_of_getElem? hy); unfold maxLen; omega)
          have cF := PX.cell2
          have prX := fb.pr (hPm y).1 (fun _ _ => id)
          have hbs := b.below.size
          have hil' : (i : Int) < (L.length : Int) := by omega
          have HY : Hid (L[i]? = some y) := hy
          have hpl := hPl y
          clear cy0 hy
          go_wp2_with (at_builtin; go_must (refine wpList_copy_row rfl (.const (.slice none 0 0)) (.tmp 128) rfl rfl rfl prX (by omega) ?_); intro v' w2 hp2 hg2; obtain ⟨⟨u, cu⟩, cf, b2⟩ := b.next HY.out hp2 hg2; obtain ⟨aoB, cB, hvB⟩ := own_form hp2; subst hvB; clear hp2 hg2)
          go_roundw
          case rel => exact ⟨i + 1, by omega, by go_num, b2⟩
          case measure => simp [intOf]; omega
        · obtain rfl : i = L.length := by omega
          have PX := P.frame fb (fun _ _ => id)
          have cF := PX.cell2
          have hzX : LenIs wr fm z := hz.kept (fun M hM => b.below.block M (hzl M hM))
          have prX : ∀ y, Pr wr w.heap.size (rowOf F y) (Pm y) := fun y => fb.pr (hPm y).1 (fun _ _ => id)
          have hlin := lines_any PX hl Pm prX (fun y => (hPm y).2) wd hwd (by omega)
          generalize wr = wb at *
          go_wp2_with (at_len; refine wpList_len_fm rfl (.tmp 135) rfl rfl hzX ?_)
          refine hlin.mono ?_
          rintro e wl ⟨gv, rfl, hP⟩
          obtain ⟨T, belw, got, hsz, hnil⟩ := tl_of s P b hzX hP
          obtain ⟨Z, G, RZ⟩ := GW.of got
          have hHw : w.heap.size ≤ wb.heap.size := Nat.le_trans s.below.size b.below.size
          clear hP hlin prX hzX cF PX hPm hz b got P s fb hl hzl tinyL
          obtain ⟨aoG, capG, hvG⟩ := own_form G.own
          subst hvG
          have hNs : L.length ≤ 16384 := by omega
          generalize hN : L.length = N at *
          have HN : Hid (L.length = N) := hN
          clear hN hnL
          go_upto_if 142 with fail
          go_cut [] from 111 (fun wx => wx = wl)
          case first =>
            by_cases h0 : N = 0
            · subst h0
              have e := hnil rfl
              cases e
              have hne := fun w' => run_neq_slice_nil_any (P := Yba.prog) w' 43 46 none 0 0 0 0 Yba.underlying43
              clear hnil T G RZ
              go_wp2_with fail
              go_meet
              case rel => rfl
            · have t : ((N : Int) == 0) = false := by rw [beq_eq_false_iff_ne]; omega
              clear hnil T G RZ
              go_wp2_with fail
              go_meet
              case rel => rfl
          case rest =>
            have hcut2 := hcut.symm
            clear hcut
            subst hcut2
            clear hnil
            go_wp2_with fail
            go_loopw [152] (fun j wx => ∃ i : Nat, i ≤ N ∧ j = .int .i64 i ∧ Below wl.heap.size wl wx) (fun j _ => N - (intOf j).toNat)
            case atStart => exact ⟨0, Nat.zero_le _, rfl, Below.refl _ _⟩
            case round =>
              obtain ⟨i, hi, rfl, hb⟩ := hrel
              have Tx := T.below (hb.mono hsz)
              have Gx := G.below hb
              by_cases hil : i < N
              · obtain ⟨q, hq, hqm, hy⟩ := Gx.get (i := i) (by have := HN.out; omega)
                obtain ⟨gg, hgg, c0, c1⟩ := Gx.at_ hq
                subst hgg
                obtain ⟨gm, capm, hv7, _, cm⟩ := Tx.mod i q.1 hy
                rw [HN.out] at hv7
                cases hv7
                obtain ⟨hbb0, bv, cb, rb⟩ := Tx.bef i q.1 hy
                have hws := hb.size
                have hbb : wm.heap.size < wr.heap.size := by omega
                obtain ⟨aob, capb, hbv⟩ := rb.form
                subst hbv
                have hys := Tx.tiny q.1 (List.mem_of_getElem? hy)
                have cF := Tx.fld.2
                have hFl : w.heap.size + 1 < wr.heap.size := by have := Tx.fld.1; omega
                have R1 := (RZ q hqm).below hb
                have hR := Tx.row q.1
                have hpl := hPl q.1
                have hil' : (i : Int) < (N : Int) := by omega
                have hne := fun w' => Lib.run_eql_slice_nil (P := Yba.prog) w' 42 36 (some ⟨q.2.1, 0, none⟩) (Pm q.1).length q.2.2 0 0 Yba.underlying42
                clear hq hqm hy
                generalize q.1 = y at *
                generalize q.2.1 = gq at *
                generalize q.2.2 = cq at *
                have o46 : Below wl.heap.size wr (wr.alloc (.cells #[.string (wd ++ { data := #[32] } ++ y), .slice (some ⟨gq, 0, none⟩) (Pm y).length cq] 46)) := (Below.refl _ wr).alloc hb.size _
                have Ra := R1.below o46
                have Rb := rb.below (o46.mono hsz)
                have Rc := hR.below (o46.mono hsz)
                have hlook := (Tx.below (o46.mono hsz)).look hys
                have hbn := hb.trans o46
                clear R1 rb hR Tx Gx G T
                generalize rowOf F y = rv at *
                go_wp2_with fail
                go_quiet ((go_at_call 12; go_must (exact beq_quiet0 Ra Rb (by omega))))
                go_wp2_with fail
                go_quiet ((go_at_call 12; go_must (exact beq_quiet Rc Rb (by omega))))
                go_wp2_with fail
                go_roundw
                case rel => exact ⟨i + 1, by omega, by go_num, ⟨hbn.os, hbn.tape, hbn.output, hbn.size, hbn.block⟩⟩
                case measure => simp [intOf]; omega
              · have cF := Tx.fld.2
                have hlenX := Tx.len
                generalize wr = wg at *
                go_wp2_with (at_len; refine wpList_len_fm rfl (.tmp 195) rfl rfl hlenX ?_)
                clear hlenX cF Tx
                have hHl : Below wb.heap.size wl wg := hb.mono hsz
                clear hb hi hil G
                go_loopw [201] (fun j wx => ∃ i : Nat, i ≤ N ∧ j = .int .i64 i ∧ Below wb.heap.size wl wx ∧ GW wx wb.heap.size wd Pm L Z (.slice aoG N capG)) (fun j _ => N - (intOf j).toNat)
                case atStart => exact ⟨0, Nat.zero_le _, rfl, hHl, Gx⟩
                case round =>
                  clear Gx hHl
                  obtain ⟨i, hi, rfl, hb, Gx⟩ := hrel
                  by_cases hil : i < N
                  · obtain ⟨q, hq, hqm, hy⟩ := Gx.get (i := i) (by have := HN.out; omega)
                    obtain ⟨gg, hgg, c0, c1⟩ := Gx.at_ hq
                    subst hgg
                    have hil' : (i : Int) < (N : Int) := by omega
                    have hpl := hPl q.1
                    generalize wr = wo at *
                    go_wp2_with fail
                    go_loopw [210] (fun j wx => ∃ jj : Nat, jj ≤ (Pm q.1).length ∧ j = .int .i64 jj ∧ Below wb.heap.size wl wx ∧ GW wx wb.heap.size wd Pm L Z (.slice (some ⟨gg, 0, none⟩) N capG)) (fun j _ => (Pm q.1).length - (intOf j).toNat)
                    case atStart => exact ⟨0, Nat.zero_le _, rfl, hb, Gx⟩
                    case round =>
                      clear Gx hb c0 c1
                      obtain ⟨jj, hj, rfl, hb, Gx⟩ := hrel
                      by_cases hjl : jj < (Pm q.1).length
                      · obtain ⟨gg', hgg, c0, c1⟩ := Gx.at_ hq
                        cases hgg
                        obtain ⟨⟨u0, cu0⟩, ⟨u1, cu1⟩, cf, Wr⟩ := Gx.write hqm hjl
                        have hjl' : (jj : Int) < ((Pm q.1).length : Int) := by omega
                        have W1 := Wr (.string { data := #[122, 122] }) (.int .i64 (-1))
                        clear Wr c0 Gx
                        go_wp2_with fail
                        go_roundw
                        case rel => exact ⟨jj + 1, by omega, by go_num, hb.trans W1.2, W1.1⟩
                        case measure => simp [intOf]; omega
                      · go_wp2_with fail
                        go_roundw
                        case rel => exact ⟨i + 1, by omega, by go_num, hb, Gx⟩
                        case measure => simp [intOf]; omega
                  · generalize wr = wh at *
                    clear Gx
                    go_wp2_with fail
                    clear hi hil
                    go_loopw [225] (fun j wx => ∃ i : Nat, i ≤ N ∧ j = .int .i64 i ∧ Below wb.heap.size wl wx) (fun j _ => N - (intOf j).toNat)
                    case atStart => exact ⟨0, Nat.zero_le _, rfl, hb⟩
                    case round =>
                      clear hb
                      obtain ⟨i, hi, rfl, hb⟩ := hrel
                      have Tx := T.below hb
                      by_cases hil : i < N
                      · obtain ⟨y, hy⟩ : ∃ y, L[i]? = some y := ⟨_, List.getElem?_eq_getElem (by have := HN.out; omega)⟩
                        obtain ⟨gm, capm, hv7, _, cm⟩ := Tx.mod i y hy
                        rw [HN.out] at hv7
                        cases hv7
                        obtain ⟨hbb0, bv, cb, rb⟩ := Tx.bef i y hy
                        obtain ⟨aob, capb, hbv⟩ := rb.form
                        subst hbv
                        have hys := Tx.tiny y (List.mem_of_getElem? hy)
                        have cF := Tx.fld.2
                        have hR := Tx.row y
                        have hpl := hPl y
                        have hil' : (i : Int) < (N : Int) := by omega
                        have hlook := Tx.look hys
                        clear hy T Tx
                        generalize rowOf F y = rv at *
                        go_wp2_with fail
                        go_quiet ((go_at_call 12; go_must (exact beq_quiet0 hR rb (by omega))))
                        go_wp2_with fail
                        go_roundw
                        case rel => exact ⟨i + 1, by omega, by go_num, ⟨hb.os, hb.tape, hb.output, hb.size, hb.block⟩⟩
                        case measure => simp [intOf]; omega
                      · go_wp2_with fail
                        go_ret
                        exact ⟨rfl, belw.trans (hb.mono hHw)⟩

end Go.Proofs.Ybulkdkiu
