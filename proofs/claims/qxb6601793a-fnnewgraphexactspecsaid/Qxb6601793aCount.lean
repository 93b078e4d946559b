import Derived.Test.Qxb6601793aScc
/-! Plain: the components' lists hold as many nodes as lie in some component. -/
namespace Go.Proofs.Qxb6601793a
namespace Scc

theorem sumTo_add (n : Nat) (f g : Nat → Nat) : sumTo n (fun i => f i + g i) = sumTo n f + sumTo n g := by
  induction n with
  | zero => rfl
  | succ m ih => simp only [sumTo, ih]; omega

theorem sumTo_zero (n : Nat) : sumTo n (fun _ => 0) = 0 := by
  induction n with
  | zero => rfl
  | succ m ih => simp only [sumTo, ih]

theorem sumTo_swap (m n : Nat) (f : Nat → Nat → Nat) : sumTo m (fun i => sumTo n (f i)) = sumTo n (fun v => sumTo m (fun i => f i v)) := by
  induction m with
  | zero => simp only [sumTo]; rw [sumTo_zero]
  | succ k ih => simp only [sumTo]; rw [ih, ← sumTo_add]

/-- One among m numbers is hit just once. -/
theorem sumTo_hit (m : Nat) (c : Int) (h : c < m) : sumTo m (fun i => if c = (i : Int) then 1 else 0) = if 0 ≤ c then 1 else 0 := by
  induction m with
  | zero =>
    simp only [sumTo]
    rw [if_neg (by omega)]
  | succ k ih =>
    simp only [sumTo]
    by_cases e : c = (k : Int)
    · rw [if_pos e]
      have : sumTo k (fun i => if c = (i : Int) then 1 else 0) = sumTo k (fun _ => 0) := sumTo_congr _ _ _ (fun i hi => by rw [if_neg (by omega)])
      rw [this, sumTo_zero, if_pos (by omega)]
    · rw [if_neg e, ih (by omega), Nat.add_zero]

theorem sumTo_mem (n : Nat) : ∀ l : List Nat, l.Nodup → (∀ v ∈ l, v < n) → l.length = sumTo n (fun v => if v ∈ l then 1 else 0)
  | [], _, _ => by simp [sumTo_zero]
  | a :: t, hn, hl => by
    have h1 := sumTo_mem n t (List.nodup_cons.1 hn).2 (fun v hv => hl v (List.mem_cons_of_mem _ hv))
    have ha := (List.nodup_cons.1 hn).1
    have h2 := sumTo_upd n (fun v => if v ∈ a :: t then 1 else 0) (fun v => if v ∈ t then 1 else 0) a (hl a (List.mem_cons_self ..)) (fun j hj => by simp [hj])
    simp only [List.mem_cons_self, if_true, if_neg ha] at h2
    simp only [List.length_cons]
    omega

theorem CInv.sums {n : Nat} {adj : Nat → List Nat} {comp : Nat → Int} {members : List (List Nat)} (h : CInv adj (fun v => v < n) comp members) :
    sumTo members.length (fun i => (members.getD i []).length) = sumTo n (fun v => if 0 ≤ comp v then 1 else 0) := by
  have h1 : ∀ i, i < members.length → (members.getD i []).length = sumTo n (fun v => if comp v = (i : Int) then 1 else 0) := by
    intro i hi
    obtain ⟨_, h2, h3⟩ := h.mem2 i members[i] (List.getElem?_eq_getElem hi)
    have e : members.getD i [] = members[i] := by simp [List.getD, List.getElem?_eq_getElem hi]
    rw [e, sumTo_mem n _ (h2.imp_of_mem (fun _ _ hab e => by subst e; omega)) (fun v hv => ((h3 v).1 hv).1)]
    refine sumTo_congr _ _ _ (fun v hv => ?_)
    by_cases hc : comp v = (i : Int)
    · rw [if_pos ((h3 v).2 ⟨hv, hc⟩), if_pos hc]
    · rw [if_neg (fun hm => hc ((h3 v).1 hm).2), if_neg hc]
  rw [sumTo_congr _ _ _ h1, sumTo_swap]
  exact sumTo_congr _ _ _ (fun v hv => sumTo_hit _ _ (h.compIn v hv).2)

theorem CInv.member {n : Nat} {adj : Nat → List Nat} {comp : Nat → Int} {members : List (List Nat)} (h : CInv adj (fun v => v < n) comp members) {i : Nat} (hi : i < members.length) :
    2 ≤ (members.getD i []).length ∧ (members.getD i []).Pairwise (· < ·) ∧ ∀ u, u ∈ members.getD i [] ↔ u < n ∧ comp u = i := by
  have e : members.getD i [] = members[i] := by simp [List.getD, List.getElem?_eq_getElem hi]
  rw [e]
  exact h.mem2 i members[i] (List.getElem?_eq_getElem hi)

/-- Sums grow. -/
theorem sumTo_le_mul (n : Nat) (f : Nat → Nat) (m : Nat) (h : ∀ i, i < n → f i ≤ m) : sumTo n f ≤ n * m := by
  induction n with
  | zero => simp [sumTo]
  | succ k ih =>
    have h1 := ih (fun i hi => h i (by omega))
    have h2 := h k (by omega)
    simp only [sumTo]
    rw [Nat.add_mul, Nat.one_mul]
    omega

theorem sumTo_mono (n : Nat) (f : Nat → Nat) {k : Nat} (h : k ≤ n) : sumTo k f ≤ sumTo n f := by
  induction n with
  | zero => have : k = 0 := by omega
            subst this; exact Nat.le_refl _
  | succ m ih =>
    by_cases e : k = m + 1
    · subst e; exact Nat.le_refl _
    · have := ih (by omega); simp only [sumTo]; omega

/-- Consecutive elements of a strictly ascending list. -/
theorem asc_getD {l : List Nat} (h : l.Pairwise (· < ·)) {i j : Nat} (hij : i < j) (hj : j < l.length) : l.getD i 0 < l.getD j 0 := by
  have hi : i < l.length := by omega
  simp only [List.getD, List.getElem?_eq_getElem hi, List.getElem?_eq_getElem hj, Option.getD_some]
  exact List.pairwise_iff_getElem.1 h i j hi hj hij

/-- Two strictly ascending lists of the same numbers are one. -/
theorem asc_ext : ∀ {l m : List Nat}, l.Pairwise (· < ·) → m.Pairwise (· < ·) → (∀ x, x ∈ l ↔ x ∈ m) → l = m
  | [], [], _, _, _ => rfl
  | [], b :: m, _, _, h => absurd ((h b).2 (List.mem_cons_self ..)) (by simp)
  | a :: l, [], _, _, h => absurd ((h a).1 (List.mem_cons_self ..)) (by simp)
  | a :: l, b :: m, hl, hm, h => by
    have h1 := List.pairwise_cons.1 hl
    have h2 := List.pairwise_cons.1 hm
    have e : a = b := by
      have ha := (h a).1 (List.mem_cons_self ..)
      have hb := (h b).2 (List.mem_cons_self ..)
      rcases List.mem_cons.1 ha with e | ha
      · exact e
      · rcases List.mem_cons.1 hb with e | hb
        · exact e.symm
        · have := h1.1 b hb; have := h2.1 a ha; omega
    subst e
    rw [asc_ext h1.2 h2.2 (fun x => ?_)]
    constructor
    · intro hx
      have := (h x).1 (List.mem_cons_of_mem _ hx)
      rcases List.mem_cons.1 this with e | e
      · subst e; have := h1.1 _ hx; omega
      · exact e
    · intro hx
      have := (h x).2 (List.mem_cons_of_mem _ hx)
      rcases List.mem_cons.1 this with e | e
      · subst e; have := h2.1 _ hx; omega
      · exact e

end Scc
end Go.Proofs.Qxb6601793a
