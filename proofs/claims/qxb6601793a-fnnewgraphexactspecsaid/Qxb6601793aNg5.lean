import Derived.Test.Qxb6601793aNg4
import Derived.Lib.SlicesCompact
import Derived.Lib.RowBridge
namespace Go.Proofs.Qxb6601793a
open Go.RowKit Go.Deep Scc

theorem ints_at (l : List Nat) (j : Nat) (hj : j < l.length) : (l.map Int.ofNat).toArray[j]! = ((l.getD j 0 : Nat) : Int) := by
  simp [List.getD, hj]

/-- Of an ascending list the compacted one: strictly ascending, the same members. -/
theorem compactUpTo_sorted (l : List Nat) (hs : l.Pairwise (· ≤ ·)) : ∀ k, k ≤ l.length → ∃ l' : List Nat, Lib.compactUpTo (l.map Int.ofNat).toArray k = l'.map Int.ofNat ∧ l'.Pairwise (· < ·) ∧ (∀ y, y ∈ l' ↔ y ∈ l.take k) ∧ (∀ y ∈ l', ∀ j, k ≤ j → j < l.length → y ≤ l.getD j 0)
  | 0, _ => ⟨[], by simp [Lib.compactUpTo], by simp, by simp, by simp⟩
  | k + 1, hk => by
    obtain ⟨l', h1, h2, h3, h4⟩ := compactUpTo_sorted l hs k (by omega)
    rw [Lib.compactUpTo_succ, h1]
    have hmono : ∀ i j, i ≤ j → j < l.length → l.getD i 0 ≤ l.getD j 0 := by
      intro i j hij hj
      have hi : i < l.length := by omega
      simp only [List.getD, List.getElem?_eq_getElem hi, List.getElem?_eq_getElem hj, Option.getD_some]
      by_cases e : i = j
      · subst e; exact Nat.le_refl _
      · exact List.pairwise_iff_getElem.1 hs i j hi hj (by omega)
    by_cases hkeep : Lib.keeps (l.map Int.ofNat).toArray k = true
    · rw [if_pos hkeep]
      refine ⟨l' ++ [l.getD k 0], by rw [ints_at l k (by omega)]; simp, ?_, fun y => ?_, fun y hy j hj hjl => ?_⟩
      · rw [List.pairwise_append]
        refine ⟨h2, by simp, fun y hy z hz => ?_⟩
        simp at hz
        subst hz
        have hle := h4 y hy k (Nat.le_refl _) (by omega)
        rcases Nat.lt_or_ge y (l.getD k 0) with h5 | h5
        · simpa [List.getD] using h5
        · exfalso
          have hy2 := (h3 y).1 hy
          by_cases hk0 : k = 0
          · subst hk0; simp at hy2
          · simp only [Lib.keeps, decide_eq_true_eq, hk0, false_or] at hkeep
            rw [ints_at l k (by omega), ints_at l (k - 1) (by omega)] at hkeep
            obtain ⟨i, hi, e⟩ := List.getElem_of_mem hy2
            have hik : i < k := by have : i < (l.take k).length := hi; simp at this; omega
            have e2 : l.getD i 0 = y := by
              rw [List.getElem_take] at e
              simp [List.getD, List.getElem?_eq_getElem (show i < l.length by omega), e]
            have a1 := hmono i (k - 1) (by omega) (by omega)
            have a2 := hmono (k - 1) k (by omega) (by omega)
            omega
      · rw [take_succ_getD (by omega), List.mem_append, List.mem_append, h3]
      · rcases List.mem_append.1 hy with hy | hy
        · exact h4 y hy j (by omega) hjl
        · simp only [List.mem_singleton] at hy
          subst hy
          exact hmono k j (by omega) hjl
    · rw [if_neg hkeep]
      refine ⟨l', by simp, h2, fun y => ?_, fun y hy j hj hjl => h4 y hy j (by omega) hjl⟩
      rw [take_succ_getD (by omega), List.mem_append, h3]
      constructor
      · exact .inl
      · rintro (h5 | h5)
        · exact h5
        · simp only [List.mem_singleton] at h5
          subst h5
          have hk0 : k ≠ 0 := fun e => hkeep (by subst e; exact Lib.keeps_lt_one _ 0 (by omega))
          simp only [Lib.keeps, decide_eq_true_eq, hk0, false_or, ne_eq, Decidable.not_not] at hkeep
          rw [ints_at l k (by omega), ints_at l (k - 1) (by omega)] at hkeep
          have e1 : l.getD k 0 = l.getD (k - 1) 0 := by omega
          rw [e1]
          have h6 : l.take k = l.take (k - 1) ++ [l.getD (k - 1) 0] := by
            have := take_succ_getD (l := l) (k := k - 1) (by omega)
            rwa [show k - 1 + 1 = k by omega] at this
          rw [h6]
          simp

end Go.Proofs.Qxb6601793a
