import Derived.Test.Qxb6601793aNudge
import Derived.Test.Qxb6601793aMap
import Derived.Test.Qxb6601793aGraph
namespace Go.Proofs.Qxb6601793a
open Go.RowKit Go.Deep Scc

/-- The names gathered so far: of k nudges both ends, of the next one j of them. -/
structure NG1 (w0 : World) (S : Nat → Nat → List UInt8) (k j : Nat) (vn : Value) (N0 : List (List UInt8)) (wx : World) : Prop where
  below : Below w0.heap.size w0 wx
  own : wx.ownsRow (w0.heap.size + 1) 9 1 vn N0.length (N0.map encStr)
  map : MapIs wx w0.heap.size N0.length (fun s => if s ∈ N0 then some 0 else none)
  nodup : N0.Nodup
  mem : ∀ s, s ∈ N0 ↔ (∃ i, i < k ∧ (s = S i 0 ∨ s = S i 1)) ∨ (1 ≤ j ∧ s = S k 0) ∨ (2 ≤ j ∧ s = S k 1)
  len : N0.length ≤ 2 * k + j

theorem NG1.start (w : World) (S : Nat → Nat → List UInt8) : NG1 w S 0 0 (.slice none 0 0) [] (w.alloc (.map #[] 0)) :=
  ⟨(Below.refl _ _).alloc (Nat.le_refl _) _, World.ownsRow_nil _ _ _ _, (MapIs.made w).congr (fun s => by simp), by simp, fun s => by simp, by simp⟩

theorem NG1.alloc {w0 : World} {S : Nat → Nat → List UInt8} {k j : Nat} {vn : Value} {N0 : List (List UInt8)} {wx : World} (h : NG1 w0 S k j vn N0 wx) (o : Obj) : NG1 w0 S k j vn N0 (wx.alloc o) :=
  ⟨h.below.alloc h.below.size o, h.own.alloc o, h.map.alloc o, h.nodup, h.mem, h.len⟩

theorem NG1.next {w0 : World} {S : Nat → Nat → List UInt8} {k : Nat} {vn : Value} {N0 : List (List UInt8)} {wx : World} (h : NG1 w0 S k 2 vn N0 wx) : NG1 w0 S (k + 1) 0 vn N0 wx := by
  refine ⟨h.below, h.own, h.map, h.nodup, fun s => ?_, by have := h.len; omega⟩
  rw [h.mem]
  constructor
  · rintro (⟨i, hi, hs⟩ | ⟨_, hs⟩ | ⟨_, hs⟩)
    · exact .inl ⟨i, by omega, hs⟩
    · exact .inl ⟨k, by omega, .inl hs⟩
    · exact .inl ⟨k, by omega, .inr hs⟩
  · rintro (⟨i, hi, hs⟩ | ⟨h1, _⟩ | ⟨h1, _⟩)
    · by_cases e : i = k
      · subst e
        rcases hs with hs | hs
        · exact .inr (.inl ⟨by omega, hs⟩)
        · exact .inr (.inr ⟨by omega, hs⟩)
      · exact .inl ⟨i, by omega, hs⟩
    · omega
    · omega

/-- What one end more makes of the set. -/
theorem ng_mem {S : Nat → Nat → List UInt8} {k j : Nat} (hj : j < 2) {N0 : List (List UInt8)} (h : ∀ s, s ∈ N0 ↔ (∃ i, i < k ∧ (s = S i 0 ∨ s = S i 1)) ∨ (1 ≤ j ∧ s = S k 0) ∨ (2 ≤ j ∧ s = S k 1)) (s : List UInt8) :
    (s ∈ N0 ∨ s = S k j) ↔ (∃ i, i < k ∧ (s = S i 0 ∨ s = S i 1)) ∨ (1 ≤ j + 1 ∧ s = S k 0) ∨ (2 ≤ j + 1 ∧ s = S k 1) := by
  rw [h]
  have hj2 : j = 0 ∨ j = 1 := by omega
  rcases hj2 with rfl | rfl
  · constructor
    · rintro ((h1 | ⟨h1, _⟩ | ⟨h1, _⟩) | h1)
      · exact .inl h1
      · omega
      · omega
      · exact .inr (.inl ⟨by omega, h1⟩)
    · rintro (h1 | ⟨_, h1⟩ | ⟨h1, _⟩)
      · exact .inl (.inl h1)
      · exact .inr h1
      · omega
  · constructor
    · rintro ((h1 | ⟨_, h1⟩ | ⟨h1, _⟩) | h1)
      · exact .inl h1
      · exact .inr (.inl ⟨by omega, h1⟩)
      · omega
      · exact .inr (.inr ⟨by omega, h1⟩)
    · rintro (h1 | ⟨_, h1⟩ | ⟨_, h1⟩)
      · exact .inl (.inl h1)
      · exact .inl (.inr (.inl ⟨by omega, h1⟩))
      · exact .inr h1

theorem NG1.skip {w0 : World} {S : Nat → Nat → List UInt8} {k j : Nat} {vn : Value} {N0 : List (List UInt8)} {wx : World} (h : NG1 w0 S k j vn N0 wx) (hj : j < 2) (hs : S k j ∈ N0) : NG1 w0 S k (j + 1) vn N0 wx := by
  refine ⟨h.below, h.own, h.map, h.nodup, fun s => ?_, by have := h.len; omega⟩
  rw [← ng_mem hj h.mem s]
  exact ⟨.inl, fun h => h.elim id (fun e => by rw [e]; exact hs)⟩

/-- A name more: the map's store, then the append. -/
theorem NG1.add {w0 : World} {S : Nat → Nat → List UInt8} {k j : Nat} {vn : Value} {N0 : List (List UInt8)} {wx w1 w2 : World} (h : NG1 w0 S k j vn N0 wx) (hj : j < 2) (hs : S k j ∉ N0)
    (hm : MapIs w1 w0.heap.size (N0.length + 1) (fun t => if t = S k j then some 0 else if t ∈ N0 then some 0 else none)) (hg1 : wx.grownBy w1 (some w0.heap.size)) (o : Obj) (hg2 : (w1.alloc o).grownBy w2 vn.ownBlock) {g cap : Nat}
    (ho : w2.ownsRow (w0.heap.size + 1) 9 1 (.slice (some ⟨g, 0, none⟩) (N0.length + 1) cap) (N0.length + 1) (N0.map encStr ++ [encStr (S k j)])) :
    NG1 w0 S k (j + 1) (.slice (some ⟨g, 0, none⟩) (N0.length + 1) cap) (N0 ++ [S k j]) w2 := by
  have hvn := h.own.lt
  have k1 : Kept (fun b => b = w0.heap.size) wx w1 := (Kept.refl _ wx).grown hg1 (fun b e _ => by injection e with e; exact e.symm)
  have k2 : Kept (fun b => vn.ownBlock = some b) w1 w2 := ((Kept.refl _ w1).alloc o).grown hg2 (fun b e _ => e)
  have hlt : w0.heap.size < wx.heap.size := h.map.lt
  refine ⟨?_, ?_, ?_, ?_, ?_, ?_⟩
  · exact (h.below.trans (k1.below (by omega) (fun b e => by omega))).trans (k2.below (by have := k1.size; omega) (fun b e => by have := (hvn b e).1; omega))
  · simpa using ho
  · have h3 := hm.kept k2 (fun e => by have := (hvn _ e).1; omega)
    have e1 : (N0 ++ [S k j]).length = N0.length + 1 := by simp
    rw [e1]
    refine h3.congr (fun t => ?_)
    by_cases e : t = S k j
    · simp [e]
    · simp [e]
  · rw [List.nodup_append]
    exact ⟨h.nodup, by simp, fun a ha b hb e => by simp at hb; subst hb; subst e; exact hs ha⟩
  · intro s
    rw [← ng_mem hj h.mem s]
    simp
  · have := h.len
    simp; omega

end Go.Proofs.Qxb6601793a
