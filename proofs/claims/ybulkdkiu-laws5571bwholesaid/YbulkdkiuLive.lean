/-
  Plain mathematics for uniq.List: which of its strings are alive, and what adding, removing and compacting make of that. No program in this text.
-/
namespace Go.Proofs.Ybulkdkiu
set_option linter.unusedVariables false
set_option linter.unusedSimpArgs false

def liveFrom (h : ByteArray → Option Nat) : Nat → List ByteArray → List ByteArray
  | _, [] => []
  | n, x :: r => if h x = some n then x :: liveFrom h (n + 1) r else liveFrom h (n + 1) r

def live (its : List ByteArray) (h : ByteArray → Option Nat) : List ByteArray := liveFrom h 0 its

theorem liveFrom_append (h : ByteArray → Option Nat) : ∀ (n : Nat) (a b : List ByteArray), liveFrom h n (a ++ b) = liveFrom h n a ++ liveFrom h (n + a.length) b
  | n, [], b => by simp [liveFrom]
  | n, x :: a, b => by
    simp only [List.cons_append, liveFrom, List.length_cons]
    rw [liveFrom_append h (n + 1) a b, show n + (a.length + 1) = n + 1 + a.length by omega]
    split <;> simp

theorem liveFrom_congr {h h' : ByteArray → Option Nat} : ∀ (n : Nat) (l : List ByteArray), (∀ i x, l[i]? = some x → (h x = some (n + i) ↔ h' x = some (n + i))) → liveFrom h n l = liveFrom h' n l
  | n, [], _ => rfl
  | n, x :: r, hc => by
    have h0 := hc 0 x rfl
    have ih := liveFrom_congr (h := h) (h' := h') (n + 1) r (fun i y hy => by
      have := hc (i + 1) y (by simpa using hy)
      rwa [show n + (i + 1) = n + 1 + i by omega] at this)
    simp only [liveFrom, ih]
    simp only [Nat.add_zero] at h0
    by_cases e : h x = some n
    · rw [if_pos e, if_pos (h0.1 e)]
    · rw [if_neg e, if_neg (fun c => e (h0.2 c))]

theorem liveFrom_len (h : ByteArray → Option Nat) : ∀ (n : Nat) (l : List ByteArray), (liveFrom h n l).length ≤ l.length
  | n, [] => Nat.le_refl _
  | n, x :: r => by
    have := liveFrom_len h (n + 1) r
    simp only [liveFrom]
    split <;> simp <;> omega

theorem live_take_succ {its : List ByteArray} {h : ByteArray → Option Nat} {i : Nat} {x : ByteArray} (hx : its[i]? = some x) :
    live (its.take (i + 1)) h = if h x = some i then live (its.take i) h ++ [x] else live (its.take i) h := by
  obtain ⟨hi, he⟩ := List.getElem?_eq_some_iff.1 hx
  unfold live
  rw [List.take_succ_eq_append_getElem hi, liveFrom_append, he]
  have : (its.take i).length = i := by simp; omega
  rw [this, Nat.zero_add]
  simp only [liveFrom]
  split <;> simp

theorem live_take_le (its : List ByteArray) (h : ByteArray → Option Nat) (i : Nat) : (live (its.take i) h).length ≤ i := by
  have := liveFrom_len h 0 (its.take i)
  unfold live
  simp at this
  omega

theorem live_take_mono (its : List ByteArray) (h : ByteArray → Option Nat) {i j : Nat} (hij : i ≤ j) : ∃ r, live (its.take j) h = live (its.take i) h ++ r := by
  refine ⟨liveFrom h (its.take i).length ((its.take j).drop i), ?_⟩
  unfold live
  have e : its.take j = its.take i ++ (its.take j).drop i := by
    have h1 : (its.take j).take i = its.take i := by rw [List.take_take, Nat.min_eq_left hij]
    rw [← h1, List.take_append_drop]
  conv => lhs; rw [e]
  rw [liveFrom_append, Nat.zero_add]

/-- Where the string that stands alive at p comes to stand among the living. -/
def posn (its : List ByteArray) (h : ByteArray → Option Nat) (p : Nat) : Nat := (live (its.take p) h).length

theorem live_at {its : List ByteArray} {h : ByteArray → Option Nat} {p : Nat} {s : ByteArray} (hs : its[p]? = some s) (hh : h s = some p) : (live its h)[posn its h p]? = some s := by
  have hp := (List.getElem?_eq_some_iff.1 hs).1
  obtain ⟨r, hr⟩ := live_take_mono its h (i := p + 1) (j := its.length) (by omega)
  rw [List.take_length] at hr
  rw [hr, live_take_succ hs, if_pos hh]
  unfold posn
  simp

theorem liveFrom_mem {h : ByteArray → Option Nat} : ∀ (n : Nat) (l : List ByteArray) (s : ByteArray), s ∈ liveFrom h n l → ∃ i, l[i]? = some s ∧ h s = some (n + i)
  | n, [], s, hs => by simp [liveFrom] at hs
  | n, x :: r, s, hs => by
    simp only [liveFrom] at hs
    by_cases e : h x = some n
    · rw [if_pos e] at hs
      rcases List.mem_cons.1 hs with rfl | hs
      · exact ⟨0, rfl, e⟩
      · obtain ⟨i, h1, h2⟩ := liveFrom_mem (n + 1) r s hs
        exact ⟨i + 1, by simpa using h1, by rw [h2]; congr 1; omega⟩
    · rw [if_neg e] at hs
      obtain ⟨i, h1, h2⟩ := liveFrom_mem (n + 1) r s hs
      exact ⟨i + 1, by simpa using h1, by rw [h2]; congr 1; omega⟩

theorem live_mem {its : List ByteArray} {h : ByteArray → Option Nat} {s : ByteArray} (hs : s ∈ live its h) : ∃ i, its[i]? = some s ∧ h s = some i := by
  obtain ⟨i, h1, h2⟩ := liveFrom_mem 0 its s hs
  exact ⟨i, h1, by simpa using h2⟩

/-- Each held string stands where 'h' says. -/
def Wfh (its : List ByteArray) (h : ByteArray → Option Nat) : Prop := ∀ s i, h s = some i → its[i]? = some s

theorem mem_live {its : List ByteArray} {h : ByteArray → Option Nat} (hw : Wfh its h) (s : ByteArray) : s ∈ live its h ↔ (h s).isSome = true := by
  constructor
  · intro hs
    obtain ⟨i, _, h2⟩ := live_mem hs
    simp [h2]
  · intro hs
    obtain ⟨i, hi⟩ := Option.isSome_iff_exists.1 hs
    exact List.mem_of_getElem? (live_at (hw s i hi) hi)

/-- A string is alive at one place only. -/
theorem live_nodup_at {its : List ByteArray} {h : ByteArray → Option Nat} {p : Nat} {s : ByteArray} (hs : its[p]? = some s) (hh : h s = some p) {j : Nat} (hj : (live its h)[j]? = some s) : j = posn its h p := by
  -- by splitting at p
  have hp := (List.getElem?_eq_some_iff.1 hs).1
  have e1 : its = its.take p ++ (s :: its.drop (p + 1)) := by
    conv => lhs; rw [← List.take_append_drop p its]
    rw [List.drop_eq_getElem_cons hp]
    congr 2
    exact (List.getElem?_eq_some_iff.1 hs).2
  have hlen : (its.take p).length = p := by simp; omega
  have e2 : live its h = live (its.take p) h ++ (s :: liveFrom h (p + 1) (its.drop (p + 1))) := by
    unfold live
    conv => lhs; rw [e1]
    rw [liveFrom_append, hlen, Nat.zero_add]
    simp [liveFrom, hh]
  rw [e2] at hj
  unfold posn
  by_cases h1 : j < (live (its.take p) h).length
  · rw [List.getElem?_append_left h1] at hj
    obtain ⟨i, hi1, hi2⟩ := live_mem (List.mem_of_getElem? hj)
    rw [hh] at hi2
    cases hi2
    have := (List.getElem?_eq_some_iff.1 hi1).1
    omega
  · rw [List.getElem?_append_right (by omega)] at hj
    rcases Nat.eq_zero_or_pos (j - (live (its.take p) h).length) with h0 | h0
    · omega
    · obtain ⟨k, hk⟩ : ∃ k, j - (live (its.take p) h).length = k + 1 := ⟨j - (live (its.take p) h).length - 1, by omega⟩
      rw [hk, List.getElem?_cons_succ] at hj
      obtain ⟨i, _, hi2⟩ := liveFrom_mem (p + 1) _ s (List.mem_of_getElem? hj)
      rw [hh] at hi2
      simp at hi2
      omega

/-! ### adding -/
theorem live_add {its : List ByteArray} {h : ByteArray → Option Nat} {s : ByteArray} (hs : h s = none) : live (its ++ [s]) (fun t => if t = s then some its.length else h t) = live its h ++ [s] := by
  unfold live
  rw [liveFrom_append, Nat.zero_add]
  have e1 : liveFrom (fun t => if t = s then some its.length else h t) 0 its = liveFrom h 0 its := by
    refine liveFrom_congr 0 its (fun i x hx => ?_)
    have hi := (List.getElem?_eq_some_iff.1 hx).1
    by_cases e : x = s
    · subst e
      simp only [if_true, hs, Nat.zero_add]
      constructor
      · intro c; injection c; omega
      · intro c; cases c
    · simp only [if_neg e]
  rw [e1]
  simp [liveFrom]

theorem wfh_add {its : List ByteArray} {h : ByteArray → Option Nat} (hw : Wfh its h) (s : ByteArray) : Wfh (its ++ [s]) (fun t => if t = s then some its.length else h t) := by
  intro t i ht
  by_cases e : t = s
  · subst e
    simp at ht
    subst ht
    simp
  · simp only [if_neg e] at ht
    have := hw t i ht
    rw [List.getElem?_append_left (List.getElem?_eq_some_iff.1 this).1]
    exact this

/-! ### removing -/
def without (h : ByteArray → Option Nat) (s : ByteArray) : ByteArray → Option Nat := fun t => if t = s then none else h t

theorem liveFrom_without (h : ByteArray → Option Nat) (s : ByteArray) : ∀ (n : Nat) (l : List ByteArray), liveFrom (without h s) n l = (liveFrom h n l).filter (fun t => decide (t ≠ s))
  | n, [] => rfl
  | n, x :: r => by
    simp only [liveFrom, liveFrom_without h s (n + 1) r]
    by_cases e : x = s
    · subst e
      have : without h x x = none := by simp [without]
      rw [this]
      simp only [reduceCtorEq, if_false]
      split <;> simp
    · have : without h s x = h x := by simp [without, e]
      rw [this]
      split <;> simp [e]

theorem live_without (its : List ByteArray) (h : ByteArray → Option Nat) (s : ByteArray) : live its (without h s) = (live its h).filter (fun t => decide (t ≠ s)) := liveFrom_without h s 0 its

theorem wfh_without {its : List ByteArray} {h : ByteArray → Option Nat} (hw : Wfh its h) (s : ByteArray) : Wfh its (without h s) := by
  intro t i ht
  unfold without at ht
  by_cases e : t = s
  · simp [e] at ht
  · simp only [if_neg e] at ht; exact hw t i ht

/-- Removing a held string takes just one of the living away. -/
theorem live_without_len {its : List ByteArray} {h : ByteArray → Option Nat} (hw : Wfh its h) {s : ByteArray} {p : Nat} (hs : h s = some p) : (live its (without h s)).length + 1 = (live its h).length := by
  have hat := hw s p hs
  have hp := (List.getElem?_eq_some_iff.1 hat).1
  have e1 : its = its.take p ++ (s :: its.drop (p + 1)) := by
    conv => lhs; rw [← List.take_append_drop p its]
    rw [List.drop_eq_getElem_cons hp]
    congr 2
    exact (List.getElem?_eq_some_iff.1 hat).2
  have hlen : (its.take p).length = p := by simp; omega
  have split_ : ∀ h' : ByteArray → Option Nat, live its h' = liveFrom h' 0 (its.take p) ++ liveFrom h' p (s :: its.drop (p + 1)) := by
    intro h'
    unfold live
    conv => lhs; rw [e1]
    rw [liveFrom_append, hlen, Nat.zero_add]
  have c1 : liveFrom (without h s) 0 (its.take p) = liveFrom h 0 (its.take p) := by
    refine liveFrom_congr 0 _ (fun i x hx => ?_)
    unfold without
    by_cases e : x = s
    · subst e
      simp only [if_true, hs, Nat.zero_add]
      have := (List.getElem?_eq_some_iff.1 hx).1
      constructor
      · intro c; cases c
      · intro c; injection c; omega
    · simp only [if_neg e]
  have c2 : liveFrom (without h s) (p + 1) (its.drop (p + 1)) = liveFrom h (p + 1) (its.drop (p + 1)) := by
    refine liveFrom_congr _ _ (fun i x hx => ?_)
    unfold without
    by_cases e : x = s
    · subst e
      simp only [if_true, hs]
      constructor
      · intro c; cases c
      · intro c; injection c; omega
    · simp only [if_neg e]
  rw [split_ h, split_ (without h s), c1]
  simp only [liveFrom, c2, hs, if_true]
  have : without h s s = none := by simp [without]
  rw [this]
  simp
  omega

theorem without_none {h : ByteArray → Option Nat} {s : ByteArray} (hs : h s = none) : without h s = h := by
  funext t
  unfold without
  by_cases e : t = s
  · subst e; simp [hs]
  · simp [e]

/-! ### compacting -/
/-- Where the held strings stand when i of them have been gone over. -/
def midway (its : List ByteArray) (h : ByteArray → Option Nat) (i : Nat) : ByteArray → Option Nat := fun s => (h s).map fun p => if p < i then posn its h p else p

theorem midway_zero (its : List ByteArray) (h : ByteArray → Option Nat) : midway its h 0 = h := by
  funext s
  unfold midway
  cases h s <;> simp

theorem midway_at {its : List ByteArray} {h : ByteArray → Option Nat} {i : Nat} {x : ByteArray} (hx : its[i]? = some x) (hw : Wfh its h) : midway its h i x = some i ↔ h x = some i := by
  unfold midway
  cases hh : h x with
  | none => simp
  | some p =>
    simp only [Option.map_some, Option.some.injEq]
    by_cases hp : p < i
    · rw [if_pos hp]
      have := live_take_le its h p
      unfold posn
      constructor <;> intro <;> omega
    · rw [if_neg hp]

theorem midway_succ_live {its : List ByteArray} {h : ByteArray → Option Nat} {i : Nat} {x : ByteArray} (hx : its[i]? = some x) (hw : Wfh its h) (hh : h x = some i) : midway its h (i + 1) = fun t => if t = x then some (live (its.take i) h).length else midway its h i t := by
  funext t
  by_cases e : t = x
  · subst e
    unfold midway
    rw [hh]
    simp [posn]
  · rw [if_neg e]
    unfold midway
    cases ht : h t with
    | none => rfl
    | some p =>
      simp only [Option.map_some, Option.some.injEq]
      have hne : p ≠ i := fun c => by
        subst c
        have := hw t p ht
        rw [hx] at this
        exact e (Option.some.inj this).symm
      by_cases hp : p < i
      · rw [if_pos hp, if_pos (by omega)]
      · rw [if_neg hp, if_neg (by omega)]

theorem midway_succ_dead {its : List ByteArray} {h : ByteArray → Option Nat} {i : Nat} {x : ByteArray} (hx : its[i]? = some x) (hw : Wfh its h) (hh : h x ≠ some i) : midway its h (i + 1) = midway its h i := by
  funext t
  unfold midway
  cases ht : h t with
  | none => rfl
  | some p =>
    simp only [Option.map_some, Option.some.injEq]
    have hne : p ≠ i := fun c => by
      subst c
      have := hw t p ht
      rw [hx] at this
      have e := (Option.some.inj this)
      subst e
      exact hh ht
    by_cases hp : p < i
    · rw [if_pos hp, if_pos (by omega)]
    · rw [if_neg hp, if_neg (by omega)]

/-- The index behind compacting. -/
def packed (its : List ByteArray) (h : ByteArray → Option Nat) : ByteArray → Option Nat := fun s => (h s).map (posn its h)

theorem midway_end {its : List ByteArray} {h : ByteArray → Option Nat} (hw : Wfh its h) : midway its h its.length = packed its h := by
  funext s
  unfold midway packed
  cases hs : h s with
  | none => rfl
  | some p =>
    have := (List.getElem?_eq_some_iff.1 (hw s p hs)).1
    simp [this]

theorem packed_wfh {its : List ByteArray} {h : ByteArray → Option Nat} (hw : Wfh its h) : Wfh (live its h) (packed its h) := by
  intro s j hj
  unfold packed at hj
  cases hs : h s with
  | none => simp [hs] at hj
  | some p =>
    simp [hs] at hj
    subst hj
    exact live_at (hw s p hs) hs

theorem packed_live {its : List ByteArray} {h : ByteArray → Option Nat} (hw : Wfh its h) : live (live its h) (packed its h) = live its h := by
  have all : ∀ (l : List ByteArray) (n : Nat) (h' : ByteArray → Option Nat), (∀ i x, l[i]? = some x → h' x = some (n + i)) → liveFrom h' n l = l := by
    intro l
    induction l with
    | nil => intro n h' _; rfl
    | cons x r ih =>
      intro n h' hc
      simp only [liveFrom]
      rw [if_pos (by simpa using hc 0 x rfl), ih (n + 1) h' (fun i y hy => by
        have := hc (i + 1) y (by simpa using hy)
        rwa [show n + (i + 1) = n + 1 + i by omega] at this)]
  refine all (live its h) 0 (packed its h) (fun j s hj => ?_)
  obtain ⟨p, h1, h2⟩ := live_mem (List.mem_of_getElem? hj)
  have := live_nodup_at h1 h2 hj
  unfold packed
  rw [h2, Nat.zero_add, this]
  rfl

theorem packed_isSome (its : List ByteArray) (h : ByteArray → Option Nat) (s : ByteArray) : (packed its h s).isSome = (h s).isSome := by
  unfold packed; cases h s <;> rfl
theorem midway_isSome (its : List ByteArray) (h : ByteArray → Option Nat) (i : Nat) (s : ByteArray) : (midway its h i s).isSome = (h s).isSome := by
  unfold midway; cases h s <;> rfl

end Go.Proofs.Ybulkdkiu
