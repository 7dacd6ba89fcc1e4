/-
  pushBack, pushFront and remove on a list in memory: one contract each.
-/
import Derived.Test.YbulkdkigDll
import Derived.Test.YbulkdkigPush
import Derived.Test.YbulkdkigRemove
namespace Go.Proofs.Ybulkdkig
open Go.RowKit
set_option linter.unusedVariables false
set_option linter.unusedSimpArgs false

theorem last_none {l : List Nat} (h : l[l.length - 1]? = none) : l = [] := by
  rw [List.getElem?_eq_none_iff] at h
  exact List.eq_nil_of_length_eq_zero (by omega)

theorem last_ne {l : List Nat} {T : Nat} (h : l[l.length - 1]? = some T) : l ≠ [] := by
  intro e; subst e; simp at h

theorem pushBack_any {w : World} {Q X : Nat} {l : List Nat} {n : Int} {p x : Value} (D : Dll w Q l n) (hX : X ∉ l) (hXQ : X ≠ Q) (hXn : w.heap[X]? = some (node p x)) :
    Calls Yba.prog 4 #[.pointer (some ⟨Q, 0, none⟩), .pointer (some ⟨X, 0, none⟩)] w fun e w' =>
      e = .returned (.tuple #[]) ∧ Dll w' Q (l ++ [X]) (wrap64 (n + 1)) ∧ Ch (fun k => k = Q ∨ k = X ∨ k ∈ l) w w' := by
  have hQ := D.q
  cases hT : l[l.length - 1]? with
  | none =>
    obtain rfl := last_none hT
    have hQ1 : w.heap[Q]? = some (queue (.pointer none) (.pointer none) n) := hQ
    refine (pushBack_none Q X _ p x n w hQ1 hXn (fun e => hXQ e.symm) hXQ).mono ?_
    rintro e w' ⟨rfl, rfl⟩
    have t := pushBack_none_turn Q X _ p x n w hQ1 hXn (fun e => hXQ e.symm) hXQ
    generalize ((((w.setCell ⟨X, 4, none⟩ _).setCell ⟨X, 5, none⟩ _).setCell ⟨Q, 1, none⟩ _).setCell ⟨Q, 2, none⟩ _).setCell ⟨Q, 3, none⟩ _ = w' at t
    refine ⟨rfl, dll_back D hX hXQ (t.new (Q, queue (.pointer (some ⟨X, 0, none⟩)) (.pointer (some ⟨X, 0, none⟩)) (wrap64 (n + 1))) (by simp)) (t.new (X, node (.pointer none) (.pointer none)) (by simp)) (fun T h => by simp at h) (fun b h1 h2 _ => t.old b ?_), t.ch ?_⟩
    · simp [h1, h2]
    · simp
  | some T =>
    have hTl : T ∈ l := List.mem_of_getElem? hT
    have hTX : ¬ T = X := fun e => hX (e ▸ hTl)
    have hTQ : ¬ T = Q := fun e => D.notin (e ▸ hTl)
    have hTn := D.at_ _ T hT
    rw [hT] at hQ
    refine (pushBack_some Q X T _ p x _ _ n w hQ hXn hTn (fun e => hXQ e.symm) hXQ (fun e => hTQ e.symm) hTQ (fun e => hTX e.symm) hTX).mono ?_
    rintro e w' ⟨rfl, rfl⟩
    have t := pushBack_some_turn Q X T _ p x _ _ n w hQ hXn hTn (fun e => hXQ e.symm) hXQ (fun e => hTQ e.symm) hTQ (fun e => hTX e.symm) hTX
    generalize ((((w.setCell ⟨X, 4, none⟩ _).setCell ⟨X, 5, none⟩ _).setCell ⟨T, 5, none⟩ _).setCell ⟨Q, 2, none⟩ _).setCell ⟨Q, 3, none⟩ _ = w' at t
    have e0 : (l ++ [X])[0]? = l[0]? := by
      rw [List.getElem?_append_left]
      exact List.length_pos_iff.2 (last_ne hT)
    refine ⟨rfl, dll_back D hX hXQ ?_ ?_ ?_ (fun b h1 h2 h3 => t.old b ?_), t.ch ?_⟩
    · rw [e0]; exact t.new (Q, queue (pt l[0]?) (.pointer (some ⟨X, 0, none⟩)) (wrap64 (n + 1))) (by simp)
    · rw [hT]; exact t.new (X, node (.pointer (some ⟨T, 0, none⟩)) (.pointer none)) (by simp)
    · intro T' h
      rw [hT] at h; cases h
      exact t.new (T, node _ (.pointer (some ⟨X, 0, none⟩))) (by simp)
    · rw [hT] at h3
      have : ¬ b = T := fun e => h3 (by rw [e])
      simp [h1, h2, this]
    · simp [hTl]

theorem pushFront_any {w : World} {Q X : Nat} {l : List Nat} {n : Int} {p x : Value} (D : Dll w Q l n) (hX : X ∉ l) (hXQ : X ≠ Q) (hXn : w.heap[X]? = some (node p x)) :
    Calls Yba.prog 5 #[.pointer (some ⟨Q, 0, none⟩), .pointer (some ⟨X, 0, none⟩)] w fun e w' =>
      e = .returned (.tuple #[]) ∧ Dll w' Q (X :: l) (wrap64 (n + 1)) ∧ Ch (fun k => k = Q ∨ k = X ∨ k ∈ l) w w' := by
  have hQ := D.q
  cases hT : l[0]? with
  | none =>
    obtain rfl : l = [] := by
      cases l with
      | nil => rfl
      | cons a r => simp at hT
    have hQ1 : w.heap[Q]? = some (queue (.pointer none) (.pointer none) n) := hQ
    refine (pushFront_none Q X _ p x n w hQ1 hXn (fun e => hXQ e.symm) hXQ).mono ?_
    rintro e w' ⟨rfl, rfl⟩
    have t := pushFront_none_turn Q X _ p x n w hQ1 hXn (fun e => hXQ e.symm) hXQ
    generalize ((((w.setCell ⟨X, 4, none⟩ _).setCell ⟨X, 5, none⟩ _).setCell ⟨Q, 2, none⟩ _).setCell ⟨Q, 1, none⟩ _).setCell ⟨Q, 3, none⟩ _ = w' at t
    refine ⟨rfl, dll_front D hX hXQ (t.new (Q, queue (.pointer (some ⟨X, 0, none⟩)) (.pointer (some ⟨X, 0, none⟩)) (wrap64 (n + 1))) (by simp)) (t.new (X, node (.pointer none) (.pointer none)) (by simp)) (fun T h => by simp at h) (fun b h1 h2 _ => t.old b ?_), t.ch ?_⟩
    · simp [h1, h2]
    · simp
  | some T =>
    have hTl : T ∈ l := List.mem_of_getElem? hT
    have hTX : ¬ T = X := fun e => hX (e ▸ hTl)
    have hTQ : ¬ T = Q := fun e => D.notin (e ▸ hTl)
    have hTn := D.at_ _ T hT
    rw [hT] at hQ
    refine (pushFront_some Q X T _ p x _ _ n w hQ hXn hTn (fun e => hXQ e.symm) hXQ (fun e => hTQ e.symm) hTQ (fun e => hTX e.symm) hTX).mono ?_
    rintro e w' ⟨rfl, rfl⟩
    have t := pushFront_some_turn Q X T _ p x _ _ n w hQ hXn hTn (fun e => hXQ e.symm) hXQ (fun e => hTQ e.symm) hTQ (fun e => hTX e.symm) hTX
    generalize ((((w.setCell ⟨X, 4, none⟩ _).setCell ⟨X, 5, none⟩ _).setCell ⟨T, 4, none⟩ _).setCell ⟨Q, 1, none⟩ _).setCell ⟨Q, 3, none⟩ _ = w' at t
    have e0 : (X :: l)[(X :: l).length - 1]? = l[l.length - 1]? := by
      have : 0 < l.length := List.length_pos_iff.2 (fun e => by subst e; simp at hT)
      rw [List.length_cons, show l.length + 1 - 1 = (l.length - 1) + 1 by omega, List.getElem?_cons_succ]
    refine ⟨rfl, dll_front D hX hXQ ?_ ?_ ?_ (fun b h1 h2 h3 => t.old b ?_), t.ch ?_⟩
    · rw [e0]; exact t.new (Q, queue (.pointer (some ⟨X, 0, none⟩)) (pt l[l.length - 1]?) (wrap64 (n + 1))) (by simp)
    · rw [hT]; exact t.new (X, node (.pointer none) (.pointer (some ⟨T, 0, none⟩))) (by simp)
    · intro T' h
      rw [hT] at h; cases h
      exact t.new (T, node (.pointer (some ⟨X, 0, none⟩)) _) (by simp)
    · rw [hT] at h3
      have : ¬ b = T := fun e => h3 (by rw [e])
      simp [h1, h2, this]
    · simp [hTl]

theorem erase_len {l : List Nat} {i W : Nat} (hi : l[i]? = some W) : i < l.length ∧ (l.eraseIdx i).length = l.length - 1 := by
  have h := (List.getElem?_eq_some_iff.1 hi).1
  exact ⟨h, by rw [List.length_eraseIdx]; simp [h]⟩

theorem erase_head {l : List Nat} {i : Nat} : (l.eraseIdx i)[0]? = if i = 0 then l[1]? else l[0]? := by
  rw [List.getElem?_eraseIdx]
  by_cases h : i = 0
  · simp [h]
  · rw [if_pos (by omega), if_neg h]

theorem erase_last {l : List Nat} {i W : Nat} (hi : l[i]? = some W) : (l.eraseIdx i)[(l.eraseIdx i).length - 1]? = if l[i + 1]? = none then before l i else l[l.length - 1]? := by
  obtain ⟨h1, h2⟩ := erase_len hi
  rw [h2, List.getElem?_eraseIdx]
  by_cases hl : i + 1 = l.length
  · have : l[i + 1]? = none := by rw [List.getElem?_eq_none_iff]; omega
    rw [if_pos this]
    unfold before
    by_cases h0 : i = 0
    · rw [if_pos h0, if_neg (by omega), List.getElem?_eq_none_iff]; omega
    · rw [if_neg h0, if_pos (by omega)]
      congr 1; omega
  · have : ¬ l[i + 1]? = none := by rw [List.getElem?_eq_none_iff]; omega
    rw [if_neg this, if_neg (by omega)]
    congr 1; omega

theorem remove_any {w : World} {Q W i : Nat} {l : List Nat} {n : Int} (D : Dll w Q l n) (hi : l[i]? = some W) :
    Calls Yba.prog 6 #[.pointer (some ⟨Q, 0, none⟩), .pointer (some ⟨W, 0, none⟩)] w fun e w' =>
      e = .returned (.bool true) ∧ Dll w' Q (l.eraseIdx i) (wrap64 (n - 1)) ∧ Ch (fun k => k = Q ∨ k ∈ l) w w' := by
  have hQ := D.q
  have hW := D.at_ i W hi
  have hWl : W ∈ l := List.mem_of_getElem? hi
  have nQW : ¬ Q = W := fun e => D.notin (e ▸ hWl)
  have nWQ : ¬ W = Q := fun e => nQW e.symm
  cases hP : before l i with
  | none =>
    have hi0 : i = 0 := by
      unfold before at hP
      by_cases h0 : i = 0
      · exact h0
      · rw [if_neg h0, List.getElem?_eq_none_iff] at hP
        have := (erase_len hi).1; omega
    have hhead : l[0]? = some W := by rw [← hi0]; exact hi
    rw [hhead] at hQ
    rw [hP] at hW
    cases hN : l[i + 1]? with
    | none =>
      rw [hN] at hW
      refine (remove_nn Q W _ n w hQ hW nQW nWQ).mono ?_
      rintro e w' ⟨rfl, rfl⟩
      have t := remove_nn_turn Q W _ n w hQ hW nQW nWQ
      generalize ((((w.setCell ⟨Q, 1, none⟩ _).setCell ⟨Q, 2, none⟩ _).setCell ⟨W, 4, none⟩ _).setCell ⟨W, 5, none⟩ _).setCell ⟨Q, 3, none⟩ _ = w' at t
      refine ⟨rfl, dll_erase D hi ?_ (fun P h => ?_) (fun N h => ?_) (fun b h1 h2 _ _ => t.old b ?_), t.ch ?_⟩
      · rw [erase_last hi, erase_head, if_pos hN, if_pos hi0, hP, show l[1]? = none by rw [← hN, hi0]]
        exact t.new (Q, queue (.pointer none) (.pointer none) (wrap64 (n - 1))) (by simp)
      · rw [hP] at h; cases h
      · rw [hN] at h; cases h
      · simp [h1, h2]
      · simp [hWl]
    | some N =>
      have hNl : N ∈ l := List.mem_of_getElem? hN
      have nQN : ¬ Q = N := fun e => D.notin (e ▸ hNl)
      have nWN : ¬ W = N := fun e => by have := inj D.nodup hi (e ▸ hN); omega
      have hNn := D.at_ _ N hN
      rw [hN] at hW
      refine (remove_ns Q W N _ _ _ n w hQ hW hNn nQW nWQ nQN (fun e => nQN e.symm) nWN (fun e => nWN e.symm)).mono ?_
      rintro e w' ⟨rfl, rfl⟩
      have t := (remove_ns_turn Q W N _ _ _ n w hQ hW hNn nQW nWQ nQN (fun e => nQN e.symm) nWN (fun e => nWN e.symm)).drew
      generalize (((((w.setCell ⟨Q, 1, none⟩ _).setCell ⟨N, 4, none⟩ _).setCell ⟨W, 4, none⟩ _).setCell ⟨W, 5, none⟩ _).setCell ⟨Q, 3, none⟩ _).drew = w' at t
      refine ⟨rfl, dll_erase D hi ?_ (fun P h => ?_) (fun N' h => ?_) (fun b h1 h2 _ h4 => t.old b ?_), t.ch ?_⟩
      · have hnn : ¬ l[i + 1]? = none := by rw [hN]; simp
        rw [erase_last hi, if_neg hnn, erase_head, if_pos hi0, show l[1]? = some N by rw [← hN, hi0]]
        exact t.new (Q, queue (.pointer (some ⟨N, 0, none⟩)) _ (wrap64 (n - 1))) (by simp)
      · rw [hP] at h; cases h
      · rw [hN] at h; cases h
        rw [hP]
        exact t.new (N, node (.pointer none) _) (by simp)
      · rw [hN] at h4
        have : ¬ b = N := fun e => h4 (by rw [e])
        simp [h1, h2, this]
      · simp [hWl, hNl]
  | some P =>
    have hi0 : ¬ i = 0 := by
      intro h0
      unfold before at hP
      rw [if_pos h0] at hP; cases hP
    have hP2 : l[i - 1]? = some P := by
      unfold before at hP
      rwa [if_neg hi0] at hP
    have hPl : P ∈ l := List.mem_of_getElem? hP2
    have nQP : ¬ Q = P := fun e => D.notin (e ▸ hPl)
    have nWP : ¬ W = P := fun e => by have := inj D.nodup hi (e ▸ hP2); omega
    have hPn := D.at_ _ P hP2
    rw [hP] at hW
    cases hN : l[i + 1]? with
    | none =>
      rw [hN] at hW
      refine (remove_sn Q W P _ _ _ _ n w hQ hW hPn nQW nWQ nQP (fun e => nQP e.symm) nWP (fun e => nWP e.symm)).mono ?_
      rintro e w' ⟨rfl, rfl⟩
      have t := (remove_sn_turn Q W P _ _ _ _ n w hQ hW hPn nQW nWQ nQP (fun e => nQP e.symm) nWP (fun e => nWP e.symm)).drew
      generalize (((((w.setCell ⟨P, 5, none⟩ _).setCell ⟨Q, 2, none⟩ _).setCell ⟨W, 4, none⟩ _).setCell ⟨W, 5, none⟩ _).setCell ⟨Q, 3, none⟩ _).drew = w' at t
      refine ⟨rfl, dll_erase D hi ?_ (fun P' h => ?_) (fun N' h => ?_) (fun b h1 h2 h3 _ => t.old b ?_), t.ch ?_⟩
      · rw [erase_last hi, erase_head, if_pos hN, if_neg hi0, hP]
        exact t.new (Q, queue _ (.pointer (some ⟨P, 0, none⟩)) (wrap64 (n - 1))) (by simp)
      · rw [hP] at h; cases h
        rw [hN]
        exact t.new (P, node _ (.pointer none)) (by simp)
      · rw [hN] at h; cases h
      · rw [hP] at h3
        have : ¬ b = P := fun e => h3 (by rw [e])
        simp [h1, h2, this]
      · simp [hWl, hPl]
    | some N =>
      have hNl : N ∈ l := List.mem_of_getElem? hN
      have nQN : ¬ Q = N := fun e => D.notin (e ▸ hNl)
      have nWN : ¬ W = N := fun e => by have := inj D.nodup hi (e ▸ hN); omega
      have nPN : ¬ P = N := fun e => by have := inj D.nodup hP2 (e ▸ hN); omega
      have hNn := D.at_ _ N hN
      rw [hN] at hW
      refine (remove_ss Q W P N _ _ _ _ _ _ n w hQ hW hPn hNn nQW nWQ nQP (fun e => nQP e.symm) nQN (fun e => nQN e.symm) nWP (fun e => nWP e.symm) nWN (fun e => nWN e.symm) nPN (fun e => nPN e.symm)).mono ?_
      rintro e w' ⟨rfl, rfl⟩
      have t := (remove_ss_turn Q W P N _ _ _ _ _ _ n w hQ hW hPn hNn nQW nWQ nQP (fun e => nQP e.symm) nQN (fun e => nQN e.symm) nWP (fun e => nWP e.symm) nWN (fun e => nWN e.symm) nPN (fun e => nPN e.symm)).drew.drew
      generalize (((((w.setCell ⟨P, 5, none⟩ _).setCell ⟨N, 4, none⟩ _).setCell ⟨W, 4, none⟩ _).setCell ⟨W, 5, none⟩ _).setCell ⟨Q, 3, none⟩ _).drew.drew = w' at t
      refine ⟨rfl, dll_erase D hi ?_ (fun P' h => ?_) (fun N' h => ?_) (fun b h1 h2 h3 h4 => t.old b ?_), t.ch ?_⟩
      · have hnn : ¬ l[i + 1]? = none := by rw [hN]; simp
        rw [erase_last hi, if_neg hnn, erase_head, if_neg hi0]
        exact t.new (Q, queue _ _ (wrap64 (n - 1))) (by simp)
      · rw [hP] at h; cases h
        rw [hN]
        exact t.new (P, node _ (.pointer (some ⟨N, 0, none⟩))) (by simp)
      · rw [hN] at h; cases h
        rw [hP]
        exact t.new (N, node (.pointer (some ⟨P, 0, none⟩)) _) (by simp)
      · rw [hP] at h3
        rw [hN] at h4
        have n3 : ¬ b = P := fun e => h3 (by rw [e])
        have n4 : ¬ b = N := fun e => h4 (by rw [e])
        simp [h1, h2, n3, n4]
      · simp [hWl, hPl, hNl]

end Go.Proofs.Ybulkdkig
