/-
  What stands when the law calls Count.
-/
import Derived.Test.YbulkdkjiPre
namespace Go.Proofs.Ybulkdkji
open Go.RowKit Go.Maps
set_option linter.unusedVariables false
set_option linter.unusedSimpArgs false

/-- The path's start and how many nodes it gives. -/
def Src (w : World) (T : Nat) (sv : Value) (m : Nat) : Prop :=
  ∃ ao N cp, sv = .slice ao N cp ∧ N ≤ 1048576 ∧ ((N = 0 ∧ m = T) ∨ (0 < N ∧ ∃ g ts, ao = some ⟨g, 0, none⟩ ∧ ts.length = N ∧ (∃ cur : Array Value, w.heap[g]? = some (.cells cur 30 (0, 0)) ∧ ∀ (k : Nat) (u : Value), (tcells ts)[k]? = some u → cur[k]? = some u) ∧ (∀ x ∈ ts, IsKey (term x.1 x.2)) ∧ m = held (fm T) ts))

theorem Src.frame {S : Nat → Prop} {w w' : World} {T : Nat} {sv : Value} {m : Nat} (h : Src w T sv m) (f : Fr S w w') (hn : ∀ k cs, w.heap[k]? = some (.cells cs 30 (0, 0)) → ¬ S k) : Src w' T sv m := by
  obtain ⟨ao, N, cp, a, b, c⟩ := h
  refine ⟨ao, N, cp, a, b, ?_⟩
  rcases c with c | ⟨h0, g, ts, d, e, ⟨cur, hb, hc⟩, r⟩
  · exact .inl c
  · exact .inr ⟨h0, g, ts, d, e, ⟨cur, f.block hb (hn _ _ hb), hc⟩, r⟩
theorem Src.le {w : World} {T : Nat} {sv : Value} {m : Nat} (h : Src w T sv m) (hT : T ≤ 255) : m ≤ 1048576 := by
  obtain ⟨ao, N, cp, a, b, c⟩ := h
  rcases c with ⟨_, rfl⟩ | ⟨h0, g, ts, d, e, _, _, rfl⟩
  · omega
  · have := held_le (fm T) ts; omega

theorem nodup_rev {l : List Nat} (h : l.Nodup) : l.reverse.Nodup := by
  induction l with
  | nil => exact h
  | cons a r ih =>
    obtain ⟨h1, h2⟩ := List.nodup_cons.1 h
    rw [List.reverse_cons]
    refine List.nodup_append.2 ⟨ih h2, List.nodup_cons.2 ⟨by simp, List.Pairwise.nil⟩, ?_⟩
    intro x hx y hy e
    rw [List.mem_singleton.1 hy] at e
    rw [e] at hx
    exact h1 (List.mem_reverse.1 hx)

theorem two_at {Ro : Nat → Option Obj} {pb sb : Nat} {po so : Obj} {k : Nat} {o : Obj} (hp : Ro pb = none) (hs : Ro sb = none) (h : Ro k = some o) : two Ro pb po sb so k = some o := by
  unfold two
  rw [if_neg (fun e => by rw [e, hp] at h; cases h), if_neg (fun e => by rw [e, hs] at h; cases h)]
  exact h

theorem runAt_mk {w : World} {T K : Nat} {tao : Option Addr} {tc : Nat} {qv ov nv sv : Value} {st M pp m cb : Nat} {et : TypeId} {ep : Value} {rops : List StepM} {rc : Int}
    (hp : PathIs w sv rops pp) (hst : StoreAt w st 0 rc (.slice tao (T + 1) tc) (.map (some M)) qv ov nv) (hM : MapIs w M T (fm T)) (hsrc : Src w T sv m) (hct : CT cb K (.iface et ep) 0 w)
    (hsteps : ∀ o ∈ rops, w.heap[o.2.2]? = some (.cells #[.int .i64 o.2.1] 3 (0, 0)) ∧ (-9223372036854775808 ≤ o.2.1 ∧ o.2.1 ≤ 9223372036854775807)) (hnd : (rops.map (fun o => o.2.2)).Nodup) (hT : T ≤ 255) (hK : K ≤ 255) (hl : rops.length ≤ 1099511627776) :
    ∃ Ro0, RunAt w Ro0 pp st m cb K et ep sv rops := by
  have hm := hsrc.le hT
  obtain ⟨ao, N, cp, hsv, hN, hcase⟩ := hsrc
  obtain ⟨pa, pl, hpp⟩ := hp.head
  obtain ⟨es, clock, hMb⟩ := hM.isMap
  have hst' : w.heap[st]? = some (.cells (storeC 0 rc (.slice tao (T + 1) tc) (.map (some M)) qv ov nv) 49 (0, 0)) := hst
  have hct' : w.heap[cb]? = some (.cells #[.nilIface, .int .i64 (K : Int), .int .i64 ((0 : Nat) : Int), .iface et ep] 63 (0, 0)) := hct
  obtain ⟨g, hg⟩ : ∃ g, (g = pp ∧ N = 0) ∨ (0 < N ∧ ∃ ts, ao = some ⟨g, 0, none⟩ ∧ ts.length = N ∧ (∃ cur : Array Value, w.heap[g]? = some (.cells cur 30 (0, 0)) ∧ ∀ (k : Nat) (u : Value), (tcells ts)[k]? = some u → cur[k]? = some u) ∧ (∀ x ∈ ts, IsKey (term x.1 x.2)) ∧ m = held (fm T) ts) := by
    rcases hcase with ⟨h0, _⟩ | ⟨h0, g, ts, r⟩
    · exact ⟨pp, .inl ⟨rfl, h0⟩⟩
    · exact ⟨g, .inr ⟨h0, ts, r⟩⟩
  have hgb : ∃ cs ty, w.heap[g]? = some (.cells cs ty (0, 0)) ∧ ty ≠ 3 ∧ ty ≠ 63 := by
    rcases hg with ⟨rfl, _⟩ | ⟨_, ts, _, _, ⟨cur, hb, _⟩, _⟩
    · exact ⟨_, 83, hpp, by decide, by decide⟩
    · exact ⟨cur, 30, hb, by decide, by decide⟩
  obtain ⟨gcs, gty, hgb, gn3, gn63⟩ := hgb
  obtain ⟨Ro0, hRo0⟩ : ∃ Ro0 : Nat → Option Obj, Ro0 = fun k => if k = pp ∨ k = st ∨ k = M ∨ k = g then w.heap[k]? else none := ⟨_, rfl⟩
  have rp : Ro0 pp = some (.cells #[sv, pa, pl] 83 (0, 0)) := by rw [hRo0]; simp only [true_or, if_true]; exact hpp
  have rs : Ro0 st = some (.cells (storeC 0 rc (.slice tao (T + 1) tc) (.map (some M)) qv ov nv) 49 (0, 0)) := by rw [hRo0]; simp only [true_or, or_true, if_true]; exact hst'
  have rM : Ro0 M = some (.map es clock) := by rw [hRo0]; simp only [true_or, or_true, if_true]; exact hMb
  have rg : Ro0 g = some (.cells gcs gty (0, 0)) := by rw [hRo0]; simp only [or_true, if_true]; exact hgb
  have ro : ∀ k o, Ro0 k = some o → w.heap[k]? = some o := fun k o h => by
    rw [hRo0] at h
    simp only at h
    split at h
    · exact h
    · cases h
  have notIn : ∀ k cs ty, w.heap[k]? = some (.cells cs ty (0, 0)) → (ty = 3 ∨ ty = 63) → Ro0 k = none := fun k cs ty hk hty => by
    rw [hRo0]
    simp only
    rw [if_neg]
    rintro (rfl | rfl | rfl | rfl)
    · rw [hpp] at hk; simp at hk; rcases hty with e | e <;> (rw [← hk.2] at e; revert e; decide)
    · rw [hst'] at hk; simp at hk; rcases hty with e | e <;> (rw [← hk.2] at e; revert e; decide)
    · rw [hMb] at hk; cases hk
    · rw [hgb] at hk; simp at hk; rcases hty with e | e; exact gn3 (hk.2.trans e); exact gn63 (hk.2.trans e)
  refine ⟨Ro0, ?_, ro, notIn cb _ 63 hct' (.inr rfl), hct, hp, ⟨fun o ho => ?_, ?_⟩, by omega, by omega, hl⟩
  · intro pb sb hne hpb hsb
    have SR : StartRo (two Ro0 pb (.cells #[.pointer (some ⟨pp, 0, none⟩)] 50 (0, 0)) sb (.cells #[.pointer (some ⟨st, 0, none⟩)] 33 (0, 0))) pb sb pp st #[sv, pa, pl] (storeC 0 rc (.slice tao (T + 1) tc) (.map (some M)) qv ov nv) := by
      refine ⟨?_, ?_, two_at hpb hsb rp, two_at hpb hsb rs⟩
      · unfold two; rw [if_pos rfl]
      · unfold two; rw [if_neg hne.symm, if_pos rfl]
    rcases hcase with ⟨h0, hmT⟩ | ⟨h0, _⟩
    · subst h0
      rw [hmT]
      exact start_all SR ao cp (by rw [hsv]; rfl) tao T tc rfl (by omega)
    · rcases hg with ⟨_, h00⟩ | ⟨_, ts, hao, hlen, ⟨cur, hb, hc⟩, hkey, hmm⟩
      · omega
      · refine start_list SR ao N cp h0 (by omega) (by rw [hsv]; rfl) m (by omega) ?_
        intro X hX
        rw [hmm]
        have hbX : X.heap[g]? = some (.cells cur 30 (0, 0)) := by
          have := hX _ _ (two_at hpb hsb rg)
          rw [this, ← hgb, hb]
        refine lookup_any (hX _ _ (two_at hpb hsb rs)) rfl (hM.block ((hX _ _ (two_at hpb hsb rM)).trans hMb.symm)) (fm_u32 T) ao N cp ts hlen (by omega) hkey ?_
        intro _
        exact ⟨g, hao, fun j u hj => by rw [cell_of_row X g j _ 30 (0, 0) hbX]; exact hc j u hj⟩
  · have ho' : o ∈ rops := by simpa using ho
    obtain ⟨h1, h2⟩ := hsteps o ho'
    have hn := notIn _ _ 3 h1 (.inl rfl)
    refine ⟨h1, fun e => ?_, ?_, h2⟩
    · rw [e, hct'] at h1; simp at h1
    · rintro ⟨q, hq⟩; rw [hn] at hq; cases hq
  · rw [List.map_reverse]
    exact nodup_rev hnd

end Go.Proofs.Ybulkdkji
