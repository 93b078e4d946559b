/-! Plain facts on reachability, sums and breadth-first search: no Go in sight. -/
namespace Go.Proofs.Qxb6601793a
namespace Scc

/-- b lies in every set that holds a and that E does not lead out of. -/
def Rch (E : Nat → Nat → Prop) (a b : Nat) : Prop := ∀ S : Nat → Prop, (∀ x y, S x → E x y → S y) → S a → S b

theorem Rch.refl {E : Nat → Nat → Prop} (a : Nat) : Rch E a a := fun _ _ h => h
theorem Rch.trans {E : Nat → Nat → Prop} {a b c : Nat} (h : Rch E a b) (k : Rch E b c) : Rch E a c := fun S hS ha => k S hS (h S hS ha)
theorem Rch.edge {E : Nat → Nat → Prop} {a b : Nat} (h : E a b) : Rch E a b := fun _ hS ha => hS _ _ ha h
theorem Rch.turn {E : Nat → Nat → Prop} {a b : Nat} (h : Rch E a b) : Rch (fun x y => E y x) b a :=
  h (fun x => Rch (fun x y => E y x) x a) (fun _ _ hx e => (Rch.edge (E := fun x y => E y x) e).trans hx) (Rch.refl _)
theorem Rch.mono {E F : Nat → Nat → Prop} {a b : Nat} (h : Rch E a b) (hm : ∀ x y, E x y → F x y) : Rch F a b :=
  fun S hS ha => h S (fun x y hx e => hS x y hx (hm x y e)) ha

def Mutu (E : Nat → Nat → Prop) (a b : Nat) : Prop := Rch E a b ∧ Rch E b a
theorem Mutu.symm {E : Nat → Nat → Prop} {a b : Nat} (h : Mutu E a b) : Mutu E b a := ⟨h.2, h.1⟩
theorem Mutu.trans {E : Nat → Nat → Prop} {a b c : Nat} (h : Mutu E a b) (k : Mutu E b c) : Mutu E a c := ⟨h.1.trans k.1, k.2.trans h.2⟩

/-- The edges of the graph whose successors are 'adj'. -/
def Edg (adj : Nat → List Nat) (x y : Nat) : Prop := y ∈ adj x

def upd {α : Type} (f : Nat → α) (i : Nat) (v : α) : Nat → α := fun j => if j = i then v else f j
theorem upd_same {α : Type} (f : Nat → α) (i : Nat) (v : α) : upd f i v i = v := by simp [upd]
theorem upd_other {α : Type} (f : Nat → α) (i j : Nat) (v : α) (h : j ≠ i) : upd f i v j = f j := by simp [upd, h]

def sumTo (n : Nat) (f : Nat → Nat) : Nat := match n with
  | 0 => 0
  | m + 1 => sumTo m f + f m

theorem sumTo_congr (n : Nat) (f g : Nat → Nat) (h : ∀ i, i < n → f i = g i) : sumTo n f = sumTo n g := by
  induction n with
  | zero => rfl
  | succ m ih => simp only [sumTo]; rw [ih (fun i hi => h i (by omega)), h m (by omega)]

/-- One place of the sum is turned. -/
theorem sumTo_upd (n : Nat) (f g : Nat → Nat) (i : Nat) (hi : i < n) (h : ∀ j, j ≠ i → f j = g j) : sumTo n f + g i = sumTo n g + f i := by
  induction n with
  | zero => omega
  | succ m ih =>
    simp only [sumTo]
    by_cases e : i = m
    · subst e
      rw [sumTo_congr i f g (fun j hj => h j (by omega))]; omega
    · have := ih (by omega)
      have := h m (by omega)
      omega

theorem sumTo_le (n : Nat) (f : Nat → Nat) (i : Nat) (hi : i < n) : f i ≤ sumTo n f := by
  induction n with
  | zero => omega
  | succ m ih =>
    simp only [sumTo]
    by_cases e : i = m
    · subst e; omega
    · have := ih (by omega); omega

/-- No more than n different numbers lie below n. -/
theorem nodup_length : ∀ (n : Nat) (l : List Nat), l.Nodup → (∀ x ∈ l, x < n) → l.length ≤ n
  | 0, [], _, _ => Nat.le_refl _
  | 0, x :: _, _, h => absurd (h x (List.mem_cons_self ..)) (by omega)
  | n + 1, l, hn, h => by
    have h1 := nodup_length n (l.erase n) (hn.erase n) (fun x hx => by
      have h2 := (List.Nodup.mem_erase_iff hn).1 hx
      have := h x h2.2
      have := h2.1
      omega)
    have h2 := List.length_erase (a := n) (l := l)
    split at h2 <;> omega

theorem mem_take_of_getD {l : List Nat} {k : Nat} (hk : k < l.length) : l.getD k 0 ∈ l := by
  simp [List.getD, List.getElem?_eq_getElem hk]

theorem take_succ_getD {l : List Nat} {k : Nat} (hk : k < l.length) : l.take (k + 1) = l.take k ++ [l.getD k 0] := by
  rw [List.take_succ_eq_append_getElem hk]; simp [List.getD, List.getElem?_eq_getElem hk]

/-! ### Breadth-first search -/

structure BInv (n : Nat) (adj : Nat → List Nat) (s : Nat) (seen : Nat → Bool) (q : List Nat) : Prop where
  nodup : q.Nodup
  lt : ∀ x ∈ q, x < n
  reach : ∀ x ∈ q, Rch (Edg adj) s x
  seenq : ∀ x, x < n → (seen x = true ↔ x ∈ q)
  start : s ∈ q

theorem BInv.begin {n : Nat} {adj : Nat → List Nat} {s : Nat} (hs : s < n) : BInv n adj s (upd (fun _ => false) s true) [s] :=
  ⟨by simp, by simpa using hs, by simp [Rch.refl], fun x _ => by by_cases e : x = s <;> simp [upd, e], by simp⟩

theorem BInv.push {n : Nat} {adj : Nat → List Nat} {s : Nat} {seen : Nat → Bool} {q : List Nat} (h : BInv n adj s seen q) {x y : Nat} (hx : x ∈ q) (hy : y ∈ adj x) (hyn : y < n) (hn : seen y = false) :
    BInv n adj s (upd seen y true) (q ++ [y]) := by
  have hyq : y ∉ q := fun e => by have := (h.seenq y hyn).2 e; rw [hn] at this; exact absurd this (by simp)
  refine ⟨?_, ?_, ?_, ?_, by simp [h.start]⟩
  · rw [List.nodup_append]
    exact ⟨h.nodup, by simp, fun a ha b hb => by simp at hb; subst hb; exact fun e => hyq (e ▸ ha)⟩
  · intro z hz
    rcases List.mem_append.1 hz with h1 | h1
    · exact h.lt z h1
    · simp at h1; subst h1; exact hyn
  · intro z hz
    rcases List.mem_append.1 hz with h1 | h1
    · exact h.reach z h1
    · simp at h1; subst h1; exact (h.reach x hx).trans (Rch.edge hy)
  · intro z hz
    by_cases e : z = y
    · subst e; simp [upd]
    · rw [upd_other _ _ _ _ e, h.seenq z hz]; simp [e]

theorem BInv.len {n : Nat} {adj : Nat → List Nat} {s : Nat} {seen : Nat → Bool} {q : List Nat} (h : BInv n adj s seen q) : q.length ≤ n := nodup_length n q h.nodup h.lt

theorem BInv.room {n : Nat} {adj : Nat → List Nat} {s : Nat} {seen : Nat → Bool} {q : List Nat} (h : BInv n adj s seen q) {x y : Nat} (hx : x ∈ q) (hy : y ∈ adj x) (hyn : y < n) (hn : seen y = false) : q.length < n := by
  have := (h.push hx hy hyn hn).len
  simp at this; omega

theorem BInv.done {n : Nat} {adj : Nat → List Nat} {s : Nat} {seen : Nat → Bool} {q : List Nat} (h : BInv n adj s seen q) (hadj : ∀ v, v < n → ∀ y ∈ adj v, y < n) (hc : ∀ x ∈ q, ∀ y ∈ adj x, seen y = true) (i : Nat) (hi : i < n) :
    seen i = true ↔ Rch (Edg adj) s i := by
  rw [h.seenq i hi]
  refine ⟨h.reach i, fun hr => ?_⟩
  exact hr (fun x => x ∈ q) (fun x y hx e => (h.seenq y (hadj x (h.lt x hx) y e)).1 (hc x hx y e)) h.start

end Scc
end Go.Proofs.Qxb6601793a
