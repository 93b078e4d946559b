import Derived.Test.Qxb6601793aNg5
namespace Go.Proofs.Qxb6601793a
open Go.RowKit Go.Deep Scc

/-- slices.Sort of a row of the call's own, nil or not. -/
theorem sort_row (base : Nat) (v : Value) (l : List Nat) (w : World) (h : w.ownsRow base 3 1 v l.length (nodesV l)) (hl : l.length ≤ 1099511627776) :
    Calls Try.prog 35 #[v] w fun e w' => e = .returned (.tuple #[]) ∧ ∃ l' : List Nat, l'.Perm l ∧ l'.Pairwise (· ≤ ·) ∧ w'.ownsRow base 3 1 v l'.length (nodesV l') ∧ Kept (fun b => v.ownBlock = some b) w w' := by
  rcases h.2 with ⟨rfl, h0⟩ | ⟨g, cap, cur, rfl, hr⟩
  · refine (Try.slices_Sort_int_none none 0 w).mono ?_
    rintro e w' ⟨rfl, rfl⟩
    exact ⟨rfl, l, List.Perm.refl _, by rw [List.eq_nil_of_length_eq_zero h0]; simp, h, Kept.refl _ _⟩
  · refine (sort_nodes base g cap l w h hl).mono ?_
    rintro e w' ⟨rfl, l', h1, h2, h3, h4⟩
    exact ⟨rfl, l', h1, h2, by rw [h1.length_eq]; exact h3, (Kept.refl _ w).grown h4 (fun b e _ => e)⟩

/-- slices.Compact of an ascending row of the call's own, nil or not. -/
theorem compact_row (base : Nat) (v : Value) (l : List Nat) (w : World) (h : w.ownsRow base 3 1 v l.length (nodesV l)) (hl : l.length ≤ 1099511627776) (hs : l.Pairwise (· ≤ ·)) :
    Calls Try.prog 36 #[v] w.drew fun e w1 => ∃ uo ul uc, e = .returned (.slice uo ul uc) ∧ (∃ l' : List Nat, l'.Pairwise (· < ·) ∧ (∀ y, y ∈ l' ↔ y ∈ l) ∧ l'.length ≤ l.length ∧ w1.ownsRow base 3 1 (.slice uo ul uc) l'.length (nodesV l') ∧ (∀ b, (Value.slice uo ul uc).ownBlock = some b → v.ownBlock = some b)) ∧ Kept (fun b => v.ownBlock = some b) w w1 := by
  rcases h.2 with ⟨rfl, h0⟩ | ⟨g, cap, cur, rfl, hb, hg, h1, h2, h3, h4⟩
  · refine (Try.slices_Compact_int_empty none 0 w.drew).mono ?_
    rintro e w' ⟨rfl, rfl⟩
    exact ⟨none, 0, 0, rfl, ⟨l, by rw [List.eq_nil_of_length_eq_zero h0]; simp, fun _ => Iff.rfl, Nat.le_refl _, h, fun _ e => e⟩, (Kept.refl _ w).drew⟩
  · have hlen : (l.map Int.ofNat).length = l.length := by simp
    have hH : Go.Sort.Holds (Value.int .i64) w.drew g 0 (l.map Int.ofNat).toArray := holds_of_blockI (w := w.drew) hg (by rw [hlen]; rw [Nat.mul_one] at h4; rw [h4, nodesV_ints])
    have hc := Try.slices_Compact_int g 0 cap (l.map Int.ofNat) w.drew hH (by rw [hlen]; omega) (by rw [hlen]; omega)
    rw [hlen] at hc
    refine hc.mono ?_
    rintro e w' ⟨rfl, q, rfl⟩
    obtain ⟨l', e1, e2, e3, _⟩ := compactUpTo_sorted l hs l.length (Nat.le_refl _)
    have hlc : Lib.compact (l.map Int.ofNat) = l'.map Int.ofNat := by unfold Lib.compact; rw [hlen]; exact e1
    have hle : l'.length ≤ l.length := by
      have := Lib.compact_length_le (l.map Int.ofNat)
      rw [hlc] at this
      simpa using this
    rw [hlc]
    have e4 : (l'.map Int.ofNat).length = l'.length := by simp
    rw [e4]
    refine ⟨_, _, _, rfl, ⟨l', e2, fun y => by rw [e3, List.take_length], hle, ?_, fun b e => e⟩, ?_⟩
    · have h5 := ownsRow_sortedI (w := w.drew) (base := base) (g := g) (cap := cap) (n := q) (e := 3) (os := #[]) (cur := cur) (ss := l.map Int.ofNat) (ts := l'.map Int.ofNat ++ List.replicate (l.length - l'.length) 0) (by simp; omega) hb hg (by rw [hlen]; exact h1) h2 h3
      rw [hlen] at h5
      have h6 := owns_take h5 hle
      simp only [Go.Sort.grow_empty] at h6
      rw [nodesV_ints]
      have e5 : ((l'.map Int.ofNat ++ List.replicate (l.length - l'.length) 0).map (Value.int .i64)).take (l'.length * 1) = (l'.map Int.ofNat).map (Value.int .i64) := by
        rw [← List.map_take, Nat.mul_one, ← e4, List.take_left]
      rw [e5] at h6
      exact h6
    · have h7 := grownBy_sortedI (w := w.drew) (g := g) (n := q) (os := #[]) (l'.map Int.ofNat ++ List.replicate (l.length - l'.length) 0).toArray
      simp only [Go.Sort.grow_empty] at h7
      exact ((Kept.refl _ w).drew).grown h7 (fun b e _ => e)

/-- Row x may hold another list of the same members. -/
theorem NM.change {S : Nat → Nat → List UInt8} {N : List (List UInt8)} {m k : Nat} {L : Nat → List Nat} (h : NM S N m k L) {x : Nat} {l' : List Nat} (hm : ∀ y, y ∈ l' ↔ y ∈ L x) (hl : l'.length ≤ k) : NM S N m k (upd L x l') := by
  have hmem : ∀ z y, y ∈ upd L x l' z ↔ y ∈ L z := by
    intro z y
    by_cases e : z = x
    · subst e; rw [upd_same]; exact hm y
    · rw [upd_other _ _ _ _ e]
  refine ⟨fun z => ?_, fun z y hy => h.lt z y ((hmem z y).1 hy), fun u v hu hv => (hmem u v).trans (h.mo u v hu hv), fun u v hu hv => (hmem _ u).trans (h.mi u v hu hv)⟩
  by_cases e : z = x
  · subst e; rw [upd_same]; exact hl
  · rw [upd_other _ _ _ _ e]; exact h.len z

/-- The first a rows of out and the first b rows of in are strictly ascending; F holds the first sums. -/
structure As (m a b k : Nat) (L : Nat → List Nat) (F : Nat → Nat) : Prop where
  ao : ∀ x, x < a → (L x).Pairwise (· < ·)
  ai : ∀ x, x < b → (L (m + x)).Pairwise (· < ·)
  fs : ∀ i, i ≤ k → F i = sumTo i (fun x => (L x).length)

theorem As.start (m : Nat) (L : Nat → List Nat) : As m 0 0 0 L (fun _ => 0) := ⟨fun x h => by omega, fun x h => by omega, fun i h => by rw [show i = 0 by omega]; rfl⟩

/-- A row behind them all changes. -/
theorem As.change {m a b k : Nat} {L : Nat → List Nat} {F : Nat → Nat} (h : As m a b k L F) {x : Nat} (l' : List Nat) (hk : k ≤ a) (hx : a ≤ x ∧ (x < m ∨ m + b ≤ x)) : As m a b k (upd L x l') F := by
  refine ⟨fun z hz => ?_, fun z hz => ?_, fun i hi => ?_⟩
  · rw [upd_other _ _ _ _ (by omega)]; exact h.ao z hz
  · rw [upd_other _ _ _ _ (by omega)]; exact h.ai z hz
  · rw [h.fs i hi]
    exact sumTo_congr i _ _ (fun z hz => by show _ = (upd L x l' z).length; rw [upd_other _ _ _ _ (by omega)])

theorem As.out {m b k : Nat} {L : Nat → List Nat} {F : Nat → Nat} (h : As m k b k L F) {l' : List Nat} (hk : k < m) (hl : l'.Pairwise (· < ·)) : As m (k + 1) b k (upd L k l') F := by
  have h1 := h.change (x := k) l' (Nat.le_refl _) ⟨Nat.le_refl _, .inl hk⟩
  refine ⟨fun z hz => ?_, h1.ai, h1.fs⟩
  by_cases e : z = k
  · subst e; rw [upd_same]; exact hl
  · exact h1.ao z (by omega)

theorem As.inn {m a k : Nat} {L : Nat → List Nat} {F : Nat → Nat} (h : As m a k k L F) {l' : List Nat} (ha : a ≤ m) (hk : k ≤ a) (hl : l'.Pairwise (· < ·)) : As m a (k + 1) k (upd L (m + k) l') F := by
  have h1 := h.change (x := m + k) l' hk ⟨by omega, .inr (by omega)⟩
  refine ⟨h1.ao, fun z hz => ?_, h1.fs⟩
  by_cases e : z = k
  · subst e; rw [upd_same]; exact hl
  · exact h1.ai z (by omega)

theorem As.next {m a b k : Nat} {L : Nat → List Nat} {F : Nat → Nat} (h : As m a b k L F) : As m a b (k + 1) L (upd F (k + 1) (F k + (L k).length)) := by
  refine ⟨h.ao, h.ai, fun i hi => ?_⟩
  by_cases e : i = k + 1
  · subst e; rw [upd_same, h.fs k (Nat.le_refl _)]; rfl
  · rw [upd_other _ _ _ _ e]; exact h.fs i (by omega)

end Go.Proofs.Qxb6601793a
