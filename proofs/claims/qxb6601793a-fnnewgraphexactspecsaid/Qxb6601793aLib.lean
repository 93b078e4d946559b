import Derived.Test.Qxb6601793aShelf
import Derived.Test.Qxb6601793aEnter
import Derived.Sort.OwnSortedInts
namespace Go.Proofs.Qxb6601793a
open Go.RowKit Go.Deep Scc

theorem nodesV_ints (l : List Nat) : nodesV l = (l.map Int.ofNat).map (Value.int .i64) := by simp [nodesV]

/-- The sort of numbers, as a list of nodes. -/
theorem sort_nats (l : List Nat) : ∃ l' : List Nat, ((l.map Int.ofNat).mergeSort fun x y => decide (x ≤ y)) = l'.map Int.ofNat ∧ l'.Perm l ∧ l'.Pairwise (· ≤ ·) := by
  refine ⟨((l.map Int.ofNat).mergeSort fun x y => decide (x ≤ y)).map Int.toNat, ?_, ?_, ?_⟩
  · rw [List.map_map]
    refine (List.map_id' _).symm.trans ?_
    apply List.map_congr_left
    intro x hx
    have h1 : x ∈ l.map Int.ofNat := (List.mergeSort_perm _ _).mem_iff.1 hx
    obtain ⟨y, _, rfl⟩ := List.mem_map.1 h1
    simp
  · have h1 := (List.mergeSort_perm (l.map Int.ofNat) (fun x y => decide (x ≤ y))).map Int.toNat
    rw [List.map_map] at h1
    have h2 : l.map (Int.toNat ∘ Int.ofNat) = l := by
      conv => rhs; rw [← List.map_id l]
      apply List.map_congr_left
      intro x _
      simp
    rwa [h2] at h1
  · have h1 := List.pairwise_mergeSort (le := fun x y : Int => decide (x ≤ y)) (fun a b c h1 h2 => by simp at *; omega) (fun a b => by simp; omega) (l.map Int.ofNat)
    rw [List.pairwise_map]
    exact h1.imp_of_mem (fun _ _ h => by simp at h; omega)

theorem sort_nodes (base g cap : Nat) (l : List Nat) (w : World) (h : w.ownsRow base 3 1 (.slice (some ⟨g, 0, none⟩) l.length cap) l.length (nodesV l)) (hl : l.length ≤ 1099511627776) :
    Calls Try.prog 35 #[.slice (some ⟨g, 0, none⟩) l.length cap] w fun e w' => e = .returned (.tuple #[]) ∧ ∃ l' : List Nat, l'.Perm l ∧ l'.Pairwise (· ≤ ·) ∧
      w'.ownsRow base 3 1 (.slice (some ⟨g, 0, none⟩) l.length cap) l.length (nodesV l') ∧ w.grownBy w' (some g) := by
  rcases h.2 with ⟨h0, _⟩ | ⟨g', cap', cur, hv, hb, hg, h1, h2, h3, h4⟩
  · simp at h0
  simp only [Value.slice.injEq, Option.some.injEq, Addr.mk.injEq] at hv
  obtain ⟨⟨rfl, _⟩, _, rfl⟩ := hv
  obtain ⟨l', e1, e2, e3⟩ := sort_nats l
  have hlen : (l.map Int.ofNat).length = l.length := by simp
  have hH : Go.Sort.Holds (Value.int .i64) w g 0 (l.map Int.ofNat).toArray := holds_of_blockI hg (by rw [hlen]; rw [Nat.mul_one] at h4; rw [h4, nodesV_ints])
  have hc := Try.slices_Sort_int g 0 cap (l.map Int.ofNat) w hH (lt_of_block hg) (by rw [hlen]; omega)
  rw [hlen] at hc
  refine hc.mono ?_
  rintro e w' ⟨rfl, nn, os, rfl⟩
  refine ⟨rfl, l', e2, e3, ?_, grownBy_sortedI _⟩
  rw [e1]
  have h5 := ownsRow_sortedI (w := w) (base := base) (g := g) (cap := cap) (n := nn) (e := 3) (os := os) (cur := cur) (ss := l.map Int.ofNat) (ts := l'.map Int.ofNat) (by simp [e2.length_eq]) hb hg (by rw [hlen]; exact h1) h2 h3
  rw [hlen] at h5
  rw [nodesV_ints]
  exact h5

theorem clone_nodes (b off c : Nat) (l : List Nat) (w : World) (hl : l.length ≤ 1099511627776) (hc : ∀ j, j < l.length → w.cell? ⟨b, off + j, none⟩ = some (.int .i64 ((l.getD j 0 : Nat) : Int))) :
    Calls Try.prog 38 #[.slice (some ⟨b, off, none⟩) l.length c] w fun e w' => ∃ v', e = .returned v' ∧ w'.ownsRow w.heap.size 3 1 v' l.length (nodesV l) ∧ v' ≠ .slice none 0 0 ∧ Below w.heap.size w w' := by
  have h := Try.slices_Clone_int b off l.length c (l.map Int.ofNat) w (by simp) (by omega) (fun j hj => by
    have hj' : j < l.length := by simpa using hj
    rw [hc j hj']
    simp [List.getD, List.getElem?_eq_getElem hj'])
  refine h.mono ?_
  rintro e w' ⟨v', rfl, h1, h2, h3⟩
  refine ⟨v', rfl, ?_, h2, h3⟩
  rw [List.take_of_length_le (by simp)] at h1
  rw [nodesV_ints]; exact h1

end Go.Proofs.Qxb6601793a
