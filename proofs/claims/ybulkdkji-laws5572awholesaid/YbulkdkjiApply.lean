/-
  The steps applied.
-/
import Derived.Test.YbulkdkjiLookup
namespace Go.Proofs.Ybulkdkji
open Go.RowKit Go.Maps
set_option linter.unusedVariables false
set_option linter.unusedSimpArgs false

theorem hmf : ∀ (fn : Fn) (first cap : Array Value) (w : World), (Instr.makeFunc fn first cap).run Yba.prog w = .ok (.func fn first cap) w := fun _ _ _ _ => rfl

theorem skip1_any {w : World} (c s : Value) (gf : Nat) (lb : Array Value) (nb : Nat) :
    Calls Yba.prog 21 #[c, s, .func (.func gf) #[] lb, .pointer (some ⟨nb, 0, none⟩)] w fun e w' => e = .returned (.func (.func 22) #[] #[.pointer (some ⟨w.heap.size, 0, none⟩), .pointer (some ⟨nb, 0, none⟩)]) ∧ w' = w.alloc (.cells #[.func (.func gf) #[] lb] 88) := by
  have h := hmf
  go_enter Yba.func21, Yba.ntmps21
  go_wp2
  go_ret
  exact ⟨rfl, rfl⟩

theorem limit1_any {w : World} (c s : Value) (gf : Nat) (lb : Array Value) (nb : Nat) (n : Int) (hn : w.cell? ⟨nb, 0, none⟩ = some (.int .i64 n)) (hlt : nb < w.heap.size) :
    Calls Yba.prog 23 #[c, s, .func (.func gf) #[] lb, .pointer (some ⟨nb, 0, none⟩)] w fun e w' => e = .returned (if n ≤ 0 then .func (.func gf) #[] lb else .func (.func 24) #[] #[.pointer (some ⟨w.heap.size, 0, none⟩), .pointer (some ⟨nb, 0, none⟩)]) ∧ w' = w.alloc (.cells #[.func (.func gf) #[] lb] 88) := by
  have h := hmf
  by_cases h0 : n ≤ 0
  · rw [if_pos h0]
    go_enter Yba.func23, Yba.ntmps23
    go_wp2
    go_ret
    exact ⟨rfl, rfl⟩
  · rw [if_neg h0]
    go_enter Yba.func23, Yba.ntmps23
    go_wp2
    go_ret
    exact ⟨rfl, rfl⟩

/-- A step's value. -/
def stepV (skip : Bool) (nb : Nat) : Value := .func (.func (if skip then 21 else 23)) #[] #[.pointer (some ⟨nb, 0, none⟩)]
/-- What applying a step hands back. -/
def nextV (skip : Bool) (n : Int) (nb rb gf : Nat) (lb : Array Value) : Value :=
  if skip then .func (.func 22) #[] #[.pointer (some ⟨rb, 0, none⟩), .pointer (some ⟨nb, 0, none⟩)] else if n ≤ 0 then .func (.func gf) #[] lb else .func (.func 24) #[] #[.pointer (some ⟨rb, 0, none⟩), .pointer (some ⟨nb, 0, none⟩)]

theorem apply_any {w : World} (skip : Bool) (c s : Value) (gf : Nat) (lb : Array Value) (nb : Nat) (n : Int) (hn : w.cell? ⟨nb, 0, none⟩ = some (.int .i64 n)) (hlt : nb < w.heap.size) :
    Calls Yba.prog 86 #[stepV skip nb, c, s, .func (.func gf) #[] lb] w fun e w' => e = .returned (nextV skip n nb w.heap.size gf lb) ∧ w' = w.alloc (.cells #[.func (.func gf) #[] lb] 88) := by
  cases skip with
  | true =>
    unfold stepV nextV
    simp only [if_true]
    go_enter Yba.func86, Yba.ntmps86
    go_wp2_with fail
    refine (skip1_any c s gf lb nb).mono ?_
    rintro e w' ⟨rfl, hw⟩
    rw [hw]
    go_wp2_with fail
    go_ret
    exact ⟨rfl, rfl⟩
  | false =>
    unfold stepV nextV
    simp only [Bool.false_eq_true, if_false]
    have hl := limit1_any c s gf lb nb n hn hlt
    generalize (if n ≤ 0 then Value.func (.func gf) #[] lb else Value.func (.func 24) #[] #[.pointer (some ⟨w.heap.size, 0, none⟩), .pointer (some ⟨nb, 0, none⟩)]) = r at *
    go_enter Yba.func86, Yba.ntmps86
    go_wp2_with fail
    refine hl.mono ?_
    rintro e w' ⟨rfl, hw⟩
    rw [hw]
    go_wp2_with fail
    go_ret
    exact ⟨rfl, rfl⟩

end Go.Proofs.Ybulkdkji
