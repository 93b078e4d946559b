import Derived.Test.Qxb6601793aOwn
import Derived.Test.Qxb6601793aScc
namespace Go.Proofs.Qxb6601793a
open Go.RowKit Go.Deep Scc

/-- A list of nodes as cells. -/
def nodesV (l : List Nat) : List Value := l.map fun x : Nat => Value.int .i64 (x : Int)

/-- What 'reach' works on: the rows order, low, onStack behind their boxes, the stack in its box, the count. N: the first block of the call's own. -/
structure TW (N n : Nat) (ord low : Nat → Nat) (on : Nat → Bool) (vs : Value) (l : List Nat) (r : Nat) (w : World) : Prop where
  rO : w.rowIs (N + 1) 3 n (fun i => .int .i64 (ord i : Int))
  bO : w.heap[N + 2]? = some (.cells #[.slice (some ⟨N + 1, 0, none⟩) n n] 26 (0, 0))
  rL : w.rowIs (N + 3) 3 n (fun i => .int .i64 (low i : Int))
  bL : w.heap[N + 4]? = some (.cells #[.slice (some ⟨N + 3, 0, none⟩) n n] 26 (0, 0))
  rN : w.rowIs (N + 5) 4 n (fun i => .bool (on i))
  bN : w.heap[N + 6]? = some (.cells #[.slice (some ⟨N + 5, 0, none⟩) n n] 32 (0, 0))
  bS : w.heap[N + 7]? = some (.cells #[vs] 26 (0, 0))
  own : w.ownsRow (N + 9) 3 1 vs l.length (nodesV l)
  bR : w.heap[N + 8]? = some (.cells #[.int .i64 (r : Int)] 3 (0, 0))

set_option maxHeartbeats 1000000 in
set_option maxRecDepth 100000 in
theorem enter_any (N n v r : Nat) (ord low : Nat → Nat) (on : Nat → Bool) (vs : Value) (l : List Nat) (w : World) (hv : v < n) (hr : r ≤ 1099511627776) (hl : l.length ≤ 1099511627776)
    (H : TW N n ord low on vs l r w) :
    Calls Try.prog 37 #[.int .i64 (v : Int), .pointer (some ⟨N + 8, 0, none⟩), .pointer (some ⟨N + 2, 0, none⟩), .pointer (some ⟨N + 4, 0, none⟩), .pointer (some ⟨N + 7, 0, none⟩), .pointer (some ⟨N + 6, 0, none⟩)] w fun e w' =>
      e = .returned (.tuple #[]) ∧ ∃ g cap, TW N n (upd ord v (r + 1)) (upd low v (r + 1)) (upd on v true) (.slice (some ⟨g, 0, none⟩) (l.length + 1) cap) (l ++ [v]) (r + 1) w' ∧
        Kept (fun b => b = N + 1 ∨ b = N + 3 ∨ b = N + 5 ∨ b = N + 7 ∨ b = N + 8 ∨ vs.ownBlock = some b) w w' ∧ (vs.ownBlock = some g ∨ w.heap.size ≤ g) := by
  obtain ⟨i0, hi, hz0, hz1, hz2⟩ := info_parts Try.info3
  have hvz : (v : Int) < (n : Int) := by omega
  have cR := cell_of_one H.bR
  have fR := free_of_one H.bR
  have cO := cell_of_one H.bO
  have cL := cell_of_one H.bL
  have cS := cell_of_one H.bS
  have rO1 := H.rO.cell hv
  have rO2 := H.rO.frozen v
  have rL1 := H.rL.cell hv
  have rL2 := H.rL.frozen v
  have hvs : ∀ b, vs.ownBlock = some b → N + 9 ≤ b ∧ b < w.heap.size := H.own.lt
  have hN : N + 8 < w.heap.size := lt_of_block H.bR
  -- the world ahead of the append
  obtain ⟨W, hW⟩ : ∃ W, W = ((((w.setCell ⟨N + 8, 0, none⟩ (.int .i64 ((r : Int) + 1))).setCell ⟨N + 1, v, none⟩ (.int .i64 ((r : Int) + 1))).setCell ⟨N + 3, v, none⟩ (.int .i64 ((r : Int) + 1))).alloc (.cells #[.int .i64 (v : Int)] 3)).drew := ⟨_, rfl⟩
  have kW : Kept (fun b => b = N + 1 ∨ b = N + 3 ∨ b = N + 5 ∨ b = N + 7 ∨ b = N + 8 ∨ vs.ownBlock = some b) w W := by
    rw [hW]
    exact (((((Kept.refl _ _).setCell (fun _ => by simp) _).setCell (fun _ => by simp) _).setCell (fun _ => by simp) _).alloc _).drew
  have sW : W.heap.size = w.heap.size + 1 := by rw [hW]; simp
  have oW : W.ownsRow (N + 9) 3 1 vs l.length (nodesV l) := by
    rw [hW]
    refine owns_drew (World.ownsRow.alloc ?_ _)
    refine ownsRow_setCell_other (ownsRow_setCell_other (ownsRow_setCell_other H.own ?_ _) ?_ _) ?_ _ <;> (intro e; have h9 := (hvs _ e).1; simp at h9)
  have nW : ∀ j u, [Value.int .i64 (v : Int)][j]? = some u → W.cell? ((⟨w.heap.size, 0, none⟩ : Addr).add j) = some u := by
    intro j u hj
    have h9 := cell_one_new (((w.setCell ⟨N + 8, 0, none⟩ (.int .i64 ((r : Int) + 1))).setCell ⟨N + 1, v, none⟩ (.int .i64 ((r : Int) + 1))).setCell ⟨N + 3, v, none⟩ (.int .i64 ((r : Int) + 1))) (.int .i64 (v : Int)) 3 j u hj
    have h8 : (((w.setCell ⟨N + 8, 0, none⟩ (.int .i64 ((r : Int) + 1))).setCell ⟨N + 1, v, none⟩ (.int .i64 ((r : Int) + 1))).setCell ⟨N + 3, v, none⟩ (.int .i64 ((r : Int) + 1))).heap.size = w.heap.size := by simp
    rw [h8] at h9
    rw [hW]
    exact h9
  have rOW : W.rowIs (N + 1) 3 n (fun i => .int .i64 ((upd ord v (r + 1) i : Nat) : Int)) := by
    rw [hW]
    refine ((((H.rO.setOther (by simp) _).set v _).setOther (by simp) _).alloc _).drew.congr (fun i _ => ?_)
    simp only [upd]; split <;> simp
  have rLW : W.rowIs (N + 3) 3 n (fun i => .int .i64 ((upd low v (r + 1) i : Nat) : Int)) := by
    rw [hW]
    refine ((((H.rL.setOther (by simp) _).setOther (by simp) _).set v _).alloc _).drew.congr (fun i _ => ?_)
    simp only [upd]; split <;> simp
  have rNW : W.rowIs (N + 5) 4 n (fun i => .bool (on i)) := by
    rw [hW]
    exact ((((H.rN.setOther (by simp) _).setOther (by simp) _).setOther (by simp) _).alloc _).drew
  have bRW : W.heap[N + 8]? = some (.cells #[.int .i64 ((r : Int) + 1)] 3 (0, 0)) := by
    rw [hW]
    show (World.alloc _ _).heap[N + 8]? = _
    rw [Below.heap_alloc _ _ _ (by simp; omega), Below.heap_setCell _ _ _ _ (by simp), Below.heap_setCell _ _ _ _ (by simp)]
    exact one_setCell H.bR
  have after : Hid (∀ w1, W.grownBy w1 vs.ownBlock → Kept (fun b => b = N + 1 ∨ b = N + 3 ∨ b = N + 5 ∨ b = N + 7 ∨ b = N + 8 ∨ vs.ownBlock = some b) w w1 ∧ w1.heap[N + 7]? = some (.cells #[vs] 26 (0, 0)) ∧ w1.cell? ⟨N + 7, 0, none⟩ = some vs ∧ w1.frozen? ⟨N + 7, 0, none⟩ = false ∧ w1.cell? ⟨N + 6, 0, none⟩ = some (.slice (some ⟨N + 5, 0, none⟩) n n) ∧
      w1.cell? ⟨N + 5, v, none⟩ = some (.bool (on v)) ∧ w1.frozen? ⟨N + 5, v, none⟩ = false ∧ ∀ k, k < N + 9 → w1.heap[k]? = W.heap[k]?) := by
    intro w1 hg
    have hb : ∀ k, k < N + 9 → w1.heap[k]? = W.heap[k]? := fun k hk => hg.block k (by omega) (fun e => by have := (hvs k e.symm).1; omega)
    have b7 : w1.heap[N + 7]? = some (.cells #[vs] 26 (0, 0)) := by
      rw [hb _ (by omega), hW]
      show (World.alloc _ _).heap[N + 7]? = _
      rw [Below.heap_alloc _ _ _ (by simp; omega), Below.heap_setCell _ _ _ _ (by simp), Below.heap_setCell _ _ _ _ (by simp), Below.heap_setCell _ _ _ _ (by simp)]
      exact H.bS
    have b6 : w1.heap[N + 6]? = some (.cells #[.slice (some ⟨N + 5, 0, none⟩) n n] 32 (0, 0)) := by
      rw [hb _ (by omega), kW.block _ (by omega) (by rintro (h | h | h | h | h | h) <;> first | omega | (have := (hvs _ h).1; omega))]
      exact H.bN
    have r5 := rNW.of_block (hb (N + 5) (by omega))
    exact ⟨kW.grown hg (fun k e _ => by simp [e]), b7, cell_of_one b7, free_of_one b7, cell_of_one b6, r5.cell hv, r5.frozen v, hb⟩
  have HW : Hid (W = ((((w.setCell ⟨N + 8, 0, none⟩ (.int .i64 ((r : Int) + 1))).setCell ⟨N + 1, v, none⟩ (.int .i64 ((r : Int) + 1))).setCell ⟨N + 3, v, none⟩ (.int .i64 ((r : Int) + 1))).alloc (.cells #[.int .i64 (v : Int)] 3)).drew) := hW
  clear hW
  go_enter Try.func37, Try.ntmps37
  go_wp2
  go_region
  go_wp2_with (at_builtin; rw [← HW.out]; refine wpList_append_where _ rfl (.tmp 17) (.tmp 19) 26 rfl (N + 9) 3 i0 (.int .i64 0) 1 8 Try.underlying26 hi hz0 hz1 hz2 rfl (by decide) vs l.length (nodesV l) rfl oW ⟨w.heap.size, 0, none⟩ 1 1 [.int .i64 (v : Int)] rfl rfl nW (by simp [Value.oneCell']) (by decide) (by unfold maxLen; omega) (by omega) (by omega) ?_; intro g cap w1 hown hgrow hwhere; obtain ⟨k1, b7, c7, f7, c6, c5, f5, hb1⟩ := after.out w1 hgrow)
  go_end0
  refine ⟨rfl, g, cap, ⟨?_, ?_, ?_, ?_, ?_, ?_, ?_, ?_, ?_⟩, (k1.setCell (fun _ => by simp) _).setCell (fun _ => by simp) _, ?_⟩
  · exact ((rOW.of_block (hb1 _ (by omega))).setOther (by simp) _).setOther (by simp) _
  · rw [Below.heap_setCell _ _ _ _ (by simp), Below.heap_setCell _ _ _ _ (by simp), k1.block _ (by omega) (by rintro (h | h | h | h | h | h) <;> first | omega | (have := (hvs _ h).1; omega))]
    exact H.bO
  · exact ((rLW.of_block (hb1 _ (by omega))).setOther (by simp) _).setOther (by simp) _
  · rw [Below.heap_setCell _ _ _ _ (by simp), Below.heap_setCell _ _ _ _ (by simp), k1.block _ (by omega) (by rintro (h | h | h | h | h | h) <;> first | omega | (have := (hvs _ h).1; omega))]
    exact H.bL
  · refine (((rNW.of_block (hb1 _ (by omega))).setOther (by simp) _).set v _).congr (fun i _ => ?_)
    simp only [upd]; split <;> rfl
  · rw [Below.heap_setCell _ _ _ _ (by simp), Below.heap_setCell _ _ _ _ (by simp), k1.block _ (by omega) (by rintro (h | h | h | h | h | h) <;> first | omega | (have := (hvs _ h).1; omega))]
    exact H.bN
  · rw [Below.heap_setCell _ _ _ _ (by simp)]
    exact one_setCell b7
  · have h9 : (l ++ [v]).length = l.length + 1 := by simp
    have h8 : nodesV (l ++ [v]) = nodesV l ++ [.int .i64 (v : Int)] := by simp [nodesV]
    rw [h9, h8]
    have hg9 : N + 9 ≤ g := (hown.lt g rfl).1
    exact ownsRow_setCell_other (ownsRow_setCell_other hown (by simp [Value.ownBlock]; omega) _) (by simp [Value.ownBlock]; omega) _
  · rw [Below.heap_setCell _ _ _ _ (by simp), Below.heap_setCell _ _ _ _ (by simp), hb1 _ (by omega), bRW]
    rfl
  · rcases hwhere with h | h
    · exact .inl h
    · exact .inr (by omega)

end Go.Proofs.Qxb6601793a
