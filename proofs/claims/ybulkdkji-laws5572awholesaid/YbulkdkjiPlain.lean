/-
  The plain law: what Count gives and what it costs, against the law's own count.
-/
import Derived.Test.YbulkdkjiCount
namespace Go.Proofs.Ybulkdkji
set_option linter.unusedVariables false
set_option linter.unusedSimpArgs false

abbrev Op2 := Bool × Int

/-- How many come out of s. -/
def fwd (xs : List Op2) (s : Nat) : Nat := xs.foldl (fun s o => stepSup o.1 o.2 s) s
/-- How many are asked of the source, D asked of the whole. -/
def dem : List Op2 → Nat → Nat
  | [], D => D
  | o :: r, D => if o.1 then dem r D + o.2.toNat else if o.2 ≤ 0 then dem r D else min (dem r D) o.2.toNat
/-- .. if all are asked for. -/
def demI : List Op2 → Option Nat
  | [] => none
  | o :: r => if o.1 then (demI r).map (· + o.2.toNat) else if o.2 ≤ 0 then demI r else some (match demI r with | none => o.2.toNat | some v => min v o.2.toNat)

theorem sups_fwd : ∀ (ops : List StepM) (s : Nat), sups ops s = fwd (ops.map fun o => (o.1, o.2.1)) s
  | [], s => rfl
  | o :: r, s => sups_fwd r _
theorem costs_dem : ∀ (ops : List StepM) (cost : Nat → Nat) (D : Nat), costs ops cost D = cost (dem (ops.map fun o => (o.1, o.2.1)) D)
  | [], cost, D => rfl
  | o :: r, cost, D => by
    show costs r (stepCost o.1 o.2.1 cost) D = _
    rw [costs_dem r]
    simp only [List.map_cons, dem, stepCost]
    split
    · rfl
    · split <;> rfl

def le? (s : Nat) : Option Nat → Nat
  | none => s
  | some v => min s v

theorem demand (xs : List Op2) : ∀ s, min (s + 1) (dem xs (fwd xs s + 1)) = le? (s + 1) (demI xs) := by
  induction xs with
  | nil => intro s; simp [dem, demI, le?, fwd]
  | cons o r ih =>
    intro s
    have h := ih (stepSup o.1 o.2 s)
    have hf : fwd (o :: r) s = fwd r (stepSup o.1 o.2 s) := rfl
    rw [hf]
    generalize fwd r (stepSup o.1 o.2 s) + 1 = D at h ⊢
    simp only [dem, demI]
    unfold stepSup at h
    by_cases h1 : o.1 = true
    · simp only [h1, if_true] at h ⊢
      cases hd : demI r with
      | none => rw [hd] at h; simp [le?] at h ⊢; omega
      | some v => rw [hd] at h; simp [le?] at h ⊢; omega
    · simp only [h1, if_false] at h ⊢
      by_cases h2 : o.2 ≤ 0
      · simp only [h2, if_true] at h ⊢
        simpa using h
      · simp only [h2, if_false] at h ⊢
        cases hd : demI r with
        | none => rw [hd] at h; simp [le?] at h ⊢; omega
        | some v => rw [hd] at h; simp [le?] at h ⊢; omega

theorem supply (xs : List Op2) : ∀ (v s t : Nat), demI xs = some v → v ≤ s → s ≤ t → fwd xs s = fwd xs t := by
  induction xs with
  | nil => intro v s t h; simp [demI] at h
  | cons o r ih =>
    intro v s t h hv hst
    have hf : ∀ s, fwd (o :: r) s = fwd r (stepSup o.1 o.2 s) := fun _ => rfl
    rw [hf, hf]
    simp only [demI] at h
    unfold stepSup
    by_cases h1 : o.1 = true
    · simp only [h1, if_true] at h ⊢
      cases hd : demI r with
      | none => rw [hd] at h; simp at h
      | some u =>
        rw [hd] at h
        simp at h
        exact ih u _ _ hd (by omega) (by omega)
    · simp only [h1, if_false] at h ⊢
      by_cases h2 : o.2 ≤ 0
      · simp only [h2, if_true] at h ⊢
        simp only [Bool.false_eq_true, if_false] at h ⊢
        exact ih v _ _ h hv hst
      · simp only [h2, if_false, Bool.false_eq_true] at h ⊢
        by_cases h3 : o.2.toNat ≤ s
        · rw [show min s o.2.toNat = o.2.toNat by omega, show min t o.2.toNat = o.2.toNat by omega]
        · cases hd : demI r with
          | none => rw [hd] at h; simp at h; omega
          | some u =>
            rw [hd] at h
            simp at h
            exact ih u _ _ hd (by omega) (by omega)

/-- The law's d. -/
def dLaw (S : Nat) : Option Nat → Int
  | none => -1
  | some v => ((min S v : Nat) : Int)

/-- pulls. -/
def pulls (m : Nat) (xs : List Op2) : Nat := le? m (demI xs)

theorem calls_eq (m K : Nat) (xs : List Op2) : min m (min (K + 1) (dem xs (fwd xs (min m K) + 1))) = min (pulls m xs) (K + 1) := by
  have h := demand xs (min m K)
  unfold pulls
  cases hd : demI xs with
  | none => rw [hd] at h; simp only [le?] at h ⊢; omega
  | some v => rw [hd] at h; simp only [le?] at h ⊢; omega

theorem got_eq (m K : Nat) (xs : List Op2) (h : pulls m xs < K) : fwd xs (min m K) = fwd xs m := by
  unfold pulls at h
  cases hd : demI xs with
  | none => rw [hd] at h; simp only [le?] at h; rw [show min m K = m by omega]
  | some v =>
    rw [hd] at h
    simp only [le?] at h
    by_cases hm : m ≤ K
    · rw [show min m K = m by omega]
    · rw [show min m K = K by omega]
      exact supply xs v K m hd (by omega) (by omega)

end Go.Proofs.Ybulkdkji
