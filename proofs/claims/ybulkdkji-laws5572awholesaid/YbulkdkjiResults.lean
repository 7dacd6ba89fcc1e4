/-
  untilDone, Path.results.
-/
import Derived.Test.YbulkdkjiPath
import Derived.Deep.RegionWith
namespace Go.Proofs.Ybulkdkji
open Go.RowKit Go.Maps
set_option linter.unusedVariables false
set_option linter.unusedSimpArgs false

theorem untilDone_any {w : World} (c : Value) (ct : TypeId) (cv : Value) (hc : c = .iface ct cv) (gf : Nat) (lb : Array Value) :
    Calls Yba.prog 51 #[c, .func (.func gf) #[] lb] w fun e w' => e = .returned (.func (.func 59) #[] #[.pointer (some ⟨w.heap.size + 1, 0, none⟩), .pointer (some ⟨w.heap.size, 0, none⟩)]) ∧ w' = (w.alloc (.cells #[c] 61)).alloc (.cells #[.func (.func gf) #[] lb] 88) := by
  subst hc
  have h := hmf
  go_enter Yba.func51, Yba.ntmps51
  go_wp2
  go_ret
  exact ⟨rfl, rfl⟩

/-- What a run needs of its start: with two boxes beside Ro0 an iterator of m items. -/
def StartOk (Ro0 : Nat → Option Obj) (pp st m : Nat) : Prop :=
  ∀ pb sb, pb ≠ sb → Ro0 pb = none → Ro0 sb = none → Plain (two Ro0 pb (.cells #[.pointer (some ⟨pp, 0, none⟩)] 50 (0, 0)) sb (.cells #[.pointer (some ⟨st, 0, none⟩)] 33 (0, 0))) 47 #[.pointer (some ⟨pb, 0, none⟩), .pointer (some ⟨sb, 0, none⟩)] m

theorem two_dom {Ro : Nat → Option Obj} {rb nb : Nat} {ro no : Obj} {k : Nat} {o : Obj} (h : two Ro rb ro nb no k = some o) : (k = rb ∧ o = ro) ∨ (k = nb ∧ o = no) ∨ Ro k = some o := by
  unfold two at h
  split at h
  · rename_i e; cases h; exact .inl ⟨e, rfl⟩
  · split at h
    · rename_i e; cases h; exact .inr (.inl ⟨e, rfl⟩)
    · exact .inr (.inr h)

/-- The source of a run, its four boxes laid. -/
theorem source_chain {w : World} {Ro0 : Nat → Option Obj} {pp st m cb K : Nat} {et : TypeId} {ep : Value} (hs : StartOk Ro0 pp st m) (hm : m ≤ 1099511627776) (hK : K ≤ 1099511627776) (hRo : ∀ k o, Ro0 k = some o → w.heap[k]? = some o) (hcb : Ro0 cb = none)
    (pb sb rb xb H : Nat) (d1 : pb ≠ sb) (d2 : pb ≠ rb) (d3 : pb ≠ xb) (d4 : sb ≠ rb) (d5 : sb ≠ xb) (d6 : rb ≠ xb) (hH : ∀ k o, Ro0 k = some o → k < H) (hcH : cb < H) (h1 : H ≤ pb) (h2 : H ≤ sb) (h3 : H ≤ rb) (h4 : H ≤ xb)
    (b1 : w.heap[pb]? = some (.cells #[.pointer (some ⟨pp, 0, none⟩)] 50 (0, 0))) (b2 : w.heap[sb]? = some (.cells #[.pointer (some ⟨st, 0, none⟩)] 33 (0, 0)))
    (b3 : w.heap[rb]? = some (.cells #[.func (.func 47) #[] #[.pointer (some ⟨pb, 0, none⟩), .pointer (some ⟨sb, 0, none⟩)]] 88 (0, 0))) (b4 : w.heap[xb]? = some (.cells #[.iface 59 (.pointer (some ⟨cb, 0, none⟩))] 61 (0, 0))) :
    Chain (CT cb K (.iface et ep)) (fun k => k = cb) w (.func (.func 59) #[] #[.pointer (some ⟨rb, 0, none⟩), .pointer (some ⟨xb, 0, none⟩)]) (min m K) (fun D => min m (min (K + 1) D)) (fun k => (∃ o, Ro0 k = some o) ∨ H ≤ k) := by
  have nn : ∀ k, H ≤ k → Ro0 k = none := fun k hk => by
    cases h : Ro0 k with
    | none => rfl
    | some o => have := hH k o h; omega
  have n2 : ∀ k, H ≤ k → k ≠ pb → k ≠ sb → two Ro0 pb (.cells #[.pointer (some ⟨pp, 0, none⟩)] 50 (0, 0)) sb (.cells #[.pointer (some ⟨st, 0, none⟩)] 33 (0, 0)) k = none := fun k hk e1 e2 => by
    unfold two; rw [if_neg e1, if_neg e2]; exact nn k hk
  have ncb : two Ro0 pb (.cells #[.pointer (some ⟨pp, 0, none⟩)] 50 (0, 0)) sb (.cells #[.pointer (some ⟨st, 0, none⟩)] 33 (0, 0)) cb = none := by
    unfold two; rw [if_neg (by omega), if_neg (by omega)]; exact hcb
  have sq := done_sq (hs pb sb d1 (nn pb h1) (nn sb h2)) (enters_of Yba.func47 (by kernel_rfl) rfl) rb xb cb K et ep d6 (n2 rb h3 d2.symm d4.symm) (n2 xb h4 d3.symm d5.symm) ncb (by omega) (by omega) hm hK
  refine ⟨59, _, _, rfl, sq, enters_of Yba.func59 (by kernel_rfl) rfl, fun k o hk => ?_, fun k o hk => ?_⟩
  · rcases two_dom hk with ⟨rfl, rfl⟩ | ⟨rfl, rfl⟩ | hk
    · exact b3
    · exact b4
    · rcases two_dom hk with ⟨rfl, rfl⟩ | ⟨rfl, rfl⟩ | hk
      · exact b1
      · exact b2
      · exact hRo k o hk
  · rcases two_dom hk with ⟨rfl, rfl⟩ | ⟨rfl, rfl⟩ | hk
    · exact ⟨by omega, .inr h3⟩
    · exact ⟨by omega, .inr h4⟩
    · rcases two_dom hk with ⟨rfl, rfl⟩ | ⟨rfl, rfl⟩ | hk
      · exact ⟨by omega, .inr h1⟩
      · exact ⟨by omega, .inr h2⟩
      · exact ⟨(fun e => by rw [e, hcb] at hk; cases hk), .inl ⟨o, hk⟩⟩

end Go.Proofs.Ybulkdkji
