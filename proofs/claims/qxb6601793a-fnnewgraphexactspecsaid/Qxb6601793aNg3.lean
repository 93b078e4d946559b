import Derived.Test.Qxb6601793aNg2
namespace Go.Proofs.Qxb6601793a
open Go.RowKit Go.Deep Scc

/-- Of the first k nudges one goes from name u to name v. -/
def Ed (S : Nat → Nat → List UInt8) (N : List (List UInt8)) (k u v : Nat) : Prop := ∃ i, i < k ∧ S i 0 ≠ S i 1 ∧ N.getD u [] = S i 0 ∧ N.getD v [] = S i 1

structure NM (S : Nat → Nat → List UInt8) (N : List (List UInt8)) (m k : Nat) (L : Nat → List Nat) : Prop where
  len : ∀ x, (L x).length ≤ k
  lt : ∀ x, ∀ y ∈ L x, y < m
  mo : ∀ u v, u < m → v < m → (v ∈ L u ↔ Ed S N k u v)
  mi : ∀ u v, u < m → v < m → (u ∈ L (m + v) ↔ Ed S N k u v)

theorem NM.start (S : Nat → Nat → List UInt8) (N : List (List UInt8)) (m : Nat) : NM S N m 0 (fun _ => []) :=
  ⟨fun _ => by simp, fun _ y h => by simp at h, fun u v _ _ => ⟨fun h => by simp at h, fun ⟨i, h, _⟩ => by omega⟩, fun u v _ _ => ⟨fun h => by simp at h, fun ⟨i, h, _⟩ => by omega⟩⟩

theorem Ed.skip {S : Nat → Nat → List UInt8} {N : List (List UInt8)} {k u v : Nat} (h : S k 0 = S k 1) : Ed S N (k + 1) u v ↔ Ed S N k u v := by
  constructor
  · rintro ⟨i, hi, h1, h2, h3⟩
    by_cases e : i = k
    · subst e; exact absurd h h1
    · exact ⟨i, by omega, h1, h2, h3⟩
  · rintro ⟨i, hi, h1⟩
    exact ⟨i, by omega, h1⟩

theorem NM.skip {S : Nat → Nat → List UInt8} {N : List (List UInt8)} {m k : Nat} {L : Nat → List Nat} (h : NM S N m k L) (he : S k 0 = S k 1) : NM S N m (k + 1) L :=
  ⟨fun x => by have := h.len x; omega, h.lt, fun u v hu hv => (h.mo u v hu hv).trans (Ed.skip he).symm, fun u v hu hv => (h.mi u v hu hv).trans (Ed.skip he).symm⟩

theorem names_inj {N : List (List UInt8)} (hN : N.Nodup) {i j : Nat} (hi : i < N.length) (hj : j < N.length) (e : N.getD i [] = N.getD j []) : i = j := by
  simp only [List.getD, List.getElem?_eq_getElem hi, List.getElem?_eq_getElem hj, Option.getD_some] at e
  exact (List.getElem_inj hN).1 e

theorem names_at {N : List (List UInt8)} {s : List UInt8} (h : s ∈ N) : ∃ i, i < N.length ∧ N.getD i [] = s := by
  obtain ⟨i, hi, e⟩ := List.getElem_of_mem h
  exact ⟨i, hi, by simp [List.getD, List.getElem?_eq_getElem hi, e]⟩

theorem Ed.add {S : Nat → Nat → List UInt8} {N : List (List UInt8)} {k a c : Nat} (hN : N.Nodup) (ha : a < N.length) (hc : c < N.length) (h : S k 0 ≠ S k 1) (ea : N.getD a [] = S k 0) (ec : N.getD c [] = S k 1) {u v : Nat} (hu : u < N.length) (hv : v < N.length) :
    Ed S N (k + 1) u v ↔ Ed S N k u v ∨ (u = a ∧ v = c) := by
  constructor
  · rintro ⟨i, hi, h1, h2, h3⟩
    by_cases e : i = k
    · subst e
      exact .inr ⟨names_inj hN hu ha (h2.trans ea.symm), names_inj hN hv hc (h3.trans ec.symm)⟩
    · exact .inl ⟨i, by omega, h1, h2, h3⟩
  · rintro (⟨i, hi, h1⟩ | ⟨rfl, rfl⟩)
    · exact ⟨i, by omega, h1⟩
    · exact ⟨k, by omega, h, ea, ec⟩

theorem NM.add {S : Nat → Nat → List UInt8} {N : List (List UInt8)} {m k a c : Nat} {L : Nat → List Nat} (h : NM S N m k L) (hm : N.length = m) (hN : N.Nodup) (ha : a < m) (hc : c < m) (hne : S k 0 ≠ S k 1) (ea : N.getD a [] = S k 0) (ec : N.getD c [] = S k 1) :
    NM S N m (k + 1) (upd (upd L a (L a ++ [c])) (m + c) (L (m + c) ++ [a])) := by
  subst hm
  refine ⟨?_, ?_, ?_, ?_⟩
  · intro x
    have h1 := h.len x
    have h2 := h.len a
    have h3 := h.len (N.length + c)
    simp only [upd]
    split
    · simp; omega
    · split
      · simp; omega
      · omega
  · intro x y
    simp only [upd]
    split
    · intro hy
      rcases List.mem_append.1 hy with hy | hy
      · exact h.lt _ y hy
      · simp at hy; omega
    · split
      · intro hy
        rcases List.mem_append.1 hy with hy | hy
        · exact h.lt _ y hy
        · simp at hy; omega
      · exact h.lt x y
  · intro u v hu hv
    rw [upd_other _ _ _ _ (by omega), Ed.add hN ha hc hne ea ec hu hv]
    by_cases e : u = a
    · subst e
      rw [upd_same, List.mem_append, h.mo _ _ hu hv]
      simp
    · rw [upd_other _ _ _ _ e, h.mo _ _ hu hv]
      simp [e]
  · intro u v hu hv
    rw [Ed.add hN ha hc hne ea ec hu hv]
    by_cases e : v = c
    · subst e
      rw [upd_same, List.mem_append, h.mi _ _ hu hv]
      simp
    · rw [upd_other _ _ _ _ (by omega), upd_other _ _ _ _ (by omega), h.mi _ _ hu hv]
      simp [e]

end Go.Proofs.Qxb6601793a
