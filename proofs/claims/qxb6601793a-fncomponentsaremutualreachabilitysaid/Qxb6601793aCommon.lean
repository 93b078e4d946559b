import Derived.Test.Qxb6601793aLaw0
namespace Go.Proofs.Qxb6601793a
open Go.RowKit Go.Deep Scc

/-- What a law leaves: true; nothing that was there has turned. -/
def LawPost (W : World) (e : Ending) (w' : World) : Prop := e = .returned (.bool true) ∧ Below W.heap.size W w'

/-- The graph that the rows give. -/
def adjOf (n : Nat) (rows : Nat → List Int) : Nat → List Nat := fun i => if i < n then (rows i).map Int.toNat else []

theorem adjOf_mat {K : Nat → Prop} {w : World} {v : Value} {n : Nat} {rows : Nat → List Int} (h : MatZ w K v n rows) (hr : ∀ i, i < n → ∀ x ∈ rows i, 0 ≤ x ∧ x < (n : Int)) : Mat w K v n (adjOf n rows) :=
  (h.nats (fun i hi x hx => (hr i hi x hx).1)).congr (fun i hi => by simp [adjOf, hi])
theorem adjOf_lt {n : Nat} {rows : Nat → List Int} (hr : ∀ i, i < n → ∀ x ∈ rows i, 0 ≤ x ∧ x < (n : Int)) : ∀ v y, y ∈ adjOf n rows v → v < n ∧ y < n := by
  intro v y hy
  by_cases hv : v < n
  · simp only [adjOf, if_pos hv, List.mem_map] at hy
    obtain ⟨x, hx, rfl⟩ := hy
    have := hr v hv x hx
    exact ⟨hv, by omega⟩
  · simp [adjOf, hv] at hy
theorem adjOf_len {n m : Nat} {rows : Nat → List Int} (hr : ∀ i, i < n → (rows i).length ≤ m) (v : Nat) (hv : v < n) : (adjOf n rows v).length ≤ m := by simp [adjOf, hv, hr v hv]

theorem addr_add (b o j : Nat) : (⟨b, o, none⟩ : Addr).add j = ⟨b, o + j, none⟩ := by
  simp only [Addr.add]
  split
  · rename_i h; subst h; rfl
  · rfl

theorem Try.size9 : (Try.prog.info? 9).map (·.size) = some 1 := by kernel_rfl

end Go.Proofs.Qxb6601793a
