import Derived.Test.Qxb6601793aNg0
import Derived.Test.Qxb6601793aLib
import Derived.Sort.OwnSorted
namespace Go.Proofs.Qxb6601793a
open Go.RowKit Go.Deep Scc

/-- The names in order. -/
def sortS (l : List (List UInt8)) : List (List UInt8) := l.mergeSort fun x y => decide (x ≤ y)

theorem sortS_perm (l : List (List UInt8)) : (sortS l).Perm l := List.mergeSort_perm _ _

theorem sortS_le (l : List (List UInt8)) : (sortS l).Pairwise (· ≤ ·) := by
  have h := List.pairwise_mergeSort (le := fun x y : List UInt8 => decide (x ≤ y)) (fun a b c h1 h2 => by simp at *; exact List.le_trans h1 h2) (fun a b => by simp; exact List.le_total a b) l
  exact h.imp_of_mem (fun _ _ h => by simpa using h)

theorem sortS_lt {l : List (List UInt8)} (hn : l.Nodup) : (sortS l).Pairwise (· < ·) := by
  have h1 := sortS_le l
  have h2 : (sortS l).Nodup := (sortS_perm l).nodup_iff.2 hn
  have h3 := h1.and h2
  exact h3.imp_of_mem (fun _ _ h => by
    rcases List.le_iff_lt_or_eq.1 h.1 with h4 | h4
    · exact h4
    · exact absurd h4 h.2)

/-- slices.Sort of the names, nil or not. -/
theorem sort_names (base : Nat) (vn : Value) (l : List (List UInt8)) (w : World) (h : w.ownsRow base 9 1 vn l.length (l.map encStr)) (hl : l.length ≤ 1099511627776) :
    Calls Try.prog 34 #[vn] w fun e w' => e = .returned (.tuple #[]) ∧ w'.ownsRow base 9 1 vn (sortS l).length ((sortS l).map encStr) ∧ w.grownBy w' vn.ownBlock := by
  have hlen : (sortS l).length = l.length := (sortS_perm l).length_eq
  rcases h.2 with ⟨rfl, h0⟩ | ⟨g, cap, cur, rfl, hb, hg, h1, h2, h3, h4⟩
  · refine (Try.slices_Sort_string_none none 0 w).mono ?_
    rintro e w' ⟨rfl, rfl⟩
    have e0 : l = [] := List.eq_nil_of_length_eq_zero h0
    subst e0
    have e1 : sortS [] = [] := by simp [sortS]
    rw [e1]
    exact ⟨rfl, World.ownsRow_nil _ _ _ _, World.grownBy.refl _ _⟩
  · have hH : Go.Sort.Holds encStr w g 0 l.toArray := holds_of_block hg (by rw [Nat.mul_one] at h4; exact h4)
    refine (Try.slices_Sort_string g 0 cap l w hH (lt_of_block hg) (by omega)).mono ?_
    rintro e w' ⟨rfl, nn, os, rfl⟩
    refine ⟨rfl, ?_, grownBy_sorted _⟩
    rw [hlen]
    exact ownsRow_sorted (ts := sortS l) hlen hb hg h1 h2 h3

/-- The graph's four cells. -/
def gc (vn : Value) (bo bi m : Nat) (vf : Value) : Nat → Value
  | 0 => vn
  | 1 => .slice (some ⟨bo, 0, none⟩) m m
  | 2 => .slice (some ⟨bi, 0, none⟩) m m
  | _ => vf

/-- The graph in the making: the names, the map, the graph's block s + 2, the tables of the rows bo and bi, and 2 * m rows: out, then in. -/
structure NS (w0 : World) (N : List (List UInt8)) (vn : Value) (mp : List UInt8 → Option Int) (c s bo bi m : Nat) (vf : Value) (L : Nat → List Nat) (f : Nat → Value) (wx : World) : Prop where
  blocks : (bo = s ∧ bi = s + 1) ∨ (bo = s + 1 ∧ bi = s)
  base : w0.heap.size + 1 ≤ s
  below : Below w0.heap.size w0 wx
  own : wx.ownsRow (w0.heap.size + 1) 9 1 vn N.length (N.map encStr)
  nlt : ∀ b, vn.ownBlock = some b → b < s
  map : MapIs wx w0.heap.size c mp
  g : wx.rowIs (s + 2) 56 4 (gc vn bo bi m vf)
  out : wx.rowIs bo 26 m f
  inn : wx.rowIs bi 26 m (fun i => f (m + i))
  rows : ∀ x, x < m + m → wx.ownsRow (s + 3) 3 1 (f x) (L x).length (nodesV (L x))
  apart : ∀ x y b, x < m + m → y < m + m → x ≠ y → (f x).ownBlock = some b → (f y).ownBlock ≠ some b

section
variable {w0 : World} {N : List (List UInt8)} {vn : Value} {mp : List UInt8 → Option Int} {c s bo bi m : Nat} {vf : Value} {L : Nat → List Nat} {f : Nat → Value} {wx : World}

/-- Whatever leaves all these blocks alone. -/
theorem NS.kept {S : Nat → Prop} {w1 : World} (h : NS w0 N vn mp c s bo bi m vf L f wx) (k : Kept S wx w1) (hs : ∀ b, b < wx.heap.size → S b → s + 3 ≤ b ∧ ∀ x, x < m + m → (f x).ownBlock ≠ some b) : NS w0 N vn mp c s bo bi m vf L f w1 := by
  have hg := h.g.lt
  have hlow : ∀ b, b < s + 3 → ¬ S b := fun b hb hS => by have := (hs b (by omega) hS).1; omega
  have hB := h.blocks
  have h1 := h.base
  refine ⟨h.blocks, h.base, h.below.trans (k.below (by omega) (fun b hS => ?_)), owns_kept h.own k (fun b e => hlow b (by have := h.nlt b e; omega)), h.nlt, h.map.kept k (hlow _ (by omega)), k.row h.g (hlow _ (by omega)), k.row h.out (hlow _ (by omega)), k.row h.inn (hlow _ (by omega)),
    fun x hx => owns_kept (h.rows x hx) k (fun b e hS => (hs b ((h.rows x hx).lt b e).2 hS).2 x hx e), h.apart⟩
  by_cases hb : b < s + 3
  · exact absurd hS (hlow b hb)
  · omega

theorem NS.drew (h : NS w0 N vn mp c s bo bi m vf L f wx) : NS w0 N vn mp c s bo bi m vf L f wx.drew := h.kept ((Kept.refl (fun _ => False) wx).drew) (fun _ _ h => h.elim)
theorem NS.drewN (h : NS w0 N vn mp c s bo bi m vf L f wx) (k : Nat) : NS w0 N vn mp c s bo bi m vf L f (wx.drewN k) := h.kept ((Kept.refl (fun _ => False) wx).drewN k) (fun _ _ h => h.elim)
theorem NS.alloc (h : NS w0 N vn mp c s bo bi m vf L f wx) (o : Obj) : NS w0 N vn mp c s bo bi m vf L f (wx.alloc o) := h.kept ((Kept.refl (fun _ => False) wx).alloc o) (fun _ _ h => h.elim)

/-- Row x holds another list. -/
theorem NS.same {w1 : World} (h : NS w0 N vn mp c s bo bi m vf L f wx) {x : Nat} (hx : x < m + m) (l' : List Nat) (k : Kept (fun b => (f x).ownBlock = some b) wx w1) (ho : w1.ownsRow (s + 3) 3 1 (f x) l'.length (nodesV l')) : NS w0 N vn mp c s bo bi m vf (upd L x l') f w1 := by
  have hg := h.g.lt
  have hlow : ∀ b, b < s + 3 → ¬ (f x).ownBlock = some b := fun b hb e => by have := ((h.rows x hx).lt b e).1; omega
  have hB := h.blocks
  have h1 := h.base
  refine ⟨h.blocks, h.base, h.below.trans (k.below (by omega) (fun b hS => ?_)), owns_kept h.own k (fun b e => hlow b (by have := h.nlt b e; omega)), h.nlt, h.map.kept k (hlow _ (by omega)), k.row h.g (hlow _ (by omega)), k.row h.out (hlow _ (by omega)), k.row h.inn (hlow _ (by omega)), ?_, h.apart⟩
  · by_cases hb : b < s + 3
    · exact absurd hS (hlow b hb)
    · omega
  · intro y hy
    by_cases e : y = x
    · subst e; rw [upd_same]; exact ho
    · rw [upd_other _ _ _ _ e]
      exact owns_kept (h.rows y hy) k (fun b e1 e2 => h.apart y x b hy hx e e1 e2)

/-- Row x is stored anew, in its own block or in a new one. -/
theorem NS.put {w1 : World} (h : NS w0 N vn mp c s bo bi m vf L f wx) {x : Nat} (hx : x < m + m) (l' : List Nat) (v' : Value) (k : Kept (fun b => (f x).ownBlock = some b) wx w1) (ho : w1.ownsRow (s + 3) 3 1 v' l'.length (nodesV l'))
    (hv : ∀ b, v'.ownBlock = some b → (f x).ownBlock = some b ∨ wx.heap.size ≤ b) {t j : Nat} (ht : (t = bo ∧ x = j ∧ j < m) ∨ (t = bi ∧ x = m + j ∧ j < m)) :
    NS w0 N vn mp c s bo bi m vf (upd L x l') (upd f x v') (w1.setCell ⟨t, j, none⟩ v') := by
  have hg := h.g.lt
  have hlow : ∀ b, b < s + 3 → ¬ (f x).ownBlock = some b := fun b hb e => by have := ((h.rows x hx).lt b e).1; omega
  have hB := h.blocks
  have h1 := h.base
  have k2 : Kept (fun b => (f x).ownBlock = some b ∨ b = t) wx (w1.setCell ⟨t, j, none⟩ v') := (k.mono (fun b _ e => .inl e)).setCell (fun _ => .inr rfl) _
  have htlt : t < s + 2 := by omega
  have hlow2 : ∀ b, b < s + 3 → b ≠ t → ¬ ((f x).ownBlock = some b ∨ b = t) := fun b hb hne e => e.elim (hlow b hb) hne
  refine ⟨h.blocks, h.base, h.below.trans (k2.below (by omega) (fun b hS => ?_)), owns_kept h.own k2 (fun b e => hlow2 b (by have := h.nlt b e; omega) (by have := h.nlt b e; omega)), h.nlt, h.map.kept k2 (hlow2 _ (by omega) (by omega)), k2.row h.g (hlow2 _ (by omega) (by omega)), ?_, ?_, ?_, ?_⟩
  · rcases hS with hS | hS
    · by_cases hb : b < s + 3
      · exact absurd hS (hlow b hb)
      · omega
    · omega
  · rcases ht with ⟨rfl, rfl, hj⟩ | ⟨rfl, rfl, hj⟩
    · refine ((k.row h.out (hlow _ (by omega))).set x v').congr (fun i hi => ?_)
      simp only [upd]
    · refine (k2.row h.out (hlow2 _ (by omega) (by omega))).congr (fun i hi => ?_)
      rw [upd_other _ _ _ _ (by omega)]
  · rcases ht with ⟨rfl, rfl, hj⟩ | ⟨rfl, rfl, hj⟩
    · refine (k2.row h.inn (hlow2 _ (by omega) (by omega))).congr (fun i hi => ?_)
      rw [upd_other _ _ _ _ (by omega)]
    · refine ((k.row h.inn (hlow _ (by omega))).set j v').congr (fun i hi => ?_)
      simp only [upd, Nat.add_left_cancel_iff]
  · intro y hy
    by_cases e : y = x
    · subst e
      rw [upd_same, upd_same]
      exact ownsRow_setCell_other ho (fun e1 => by have := (ho.lt _ e1).1; simp at this; omega) _
    · rw [upd_other _ _ _ _ e, upd_other _ _ _ _ e]
      exact owns_kept (h.rows y hy) k2 (fun b e1 e2 => e2.elim (fun e2 => h.apart y x b hy hx e e1 e2) (fun e2 => by have := ((h.rows y hy).lt b e1).1; omega))
  · have key : ∀ y b, y < m + m → y ≠ x → (f y).ownBlock = some b → v'.ownBlock ≠ some b := by
      intro y b hy hne e1 e2
      rcases hv b e2 with e3 | e3
      · exact h.apart y x b hy hx hne e1 e3
      · have := ((h.rows y hy).lt b e1).2; omega
    intro y z b hy hz hne e1
    by_cases ey : y = x
    · subst ey
      rw [upd_same] at e1
      rw [upd_other _ _ _ _ (fun e => hne e.symm)]
      intro e2
      exact key z b hz (fun e => hne e.symm) e2 e1
    · rw [upd_other _ _ _ _ ey] at e1
      by_cases ez : z = x
      · subst ez
        rw [upd_same]
        exact key y b hy ey e1
      · rw [upd_other _ _ _ _ ez]
        exact h.apart y z b hy hz hne e1

end

end Go.Proofs.Qxb6601793a
