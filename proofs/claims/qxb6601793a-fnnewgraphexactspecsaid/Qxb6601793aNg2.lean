import Derived.Test.Qxb6601793aNg1
namespace Go.Proofs.Qxb6601793a
open Go.RowKit Go.Deep Scc

/-- The names in order; the map numbers the first k of them. -/
structure NG3 (w0 : World) (N : List (List UInt8)) (vn : Value) (mp : List UInt8 → Option Int) (k : Nat) (wx : World) : Prop where
  below : Below w0.heap.size w0 wx
  own : wx.ownsRow (w0.heap.size + 1) 9 1 vn N.length (N.map encStr)
  map : MapIs wx w0.heap.size (N.length + k) mp
  idx : ∀ i, i < k → mp (N.getD i []) = some (i : Int)

theorem NG3.start {w0 : World} {S : Nat → Nat → List UInt8} {n j : Nat} {vn : Value} {N0 : List (List UInt8)} {wx w2 : World} (h : NG1 w0 S n j vn N0 wx) (ho : w2.ownsRow (w0.heap.size + 1) 9 1 vn (sortS N0).length ((sortS N0).map encStr)) (hg : wx.grownBy w2 vn.ownBlock) :
    NG3 w0 (sortS N0) vn (fun s => if s ∈ N0 then some 0 else none) 0 w2 := by
  have k1 : Kept (fun b => vn.ownBlock = some b) wx w2 := (Kept.refl _ wx).grown hg (fun b e _ => e)
  refine ⟨h.below.trans (k1.below h.below.size (fun b e => by have := (h.own.lt b e).1; omega)), ho, ?_, fun i hi => by omega⟩
  have h1 := h.map.kept k1 (fun e => by have := (h.own.lt _ e).1; omega)
  rw [(sortS_perm N0).length_eq]
  exact h1

theorem NG3.step {w0 : World} {N : List (List UInt8)} {vn : Value} {mp : List UInt8 → Option Int} {k : Nat} {wx w1 : World} (h : NG3 w0 N vn mp k wx) (hk : k < N.length) (hN : N.Nodup)
    (hm : MapIs w1 w0.heap.size (N.length + k + 1) (fun t => if t = N.getD k [] then some (k : Int) else mp t)) (hg : wx.grownBy w1 (some w0.heap.size)) :
    NG3 w0 N vn (fun t => if t = N.getD k [] then some (k : Int) else mp t) (k + 1) w1 := by
  have k1 : Kept (fun b => b = w0.heap.size) wx w1 := (Kept.refl _ wx).grown hg (fun b e _ => by injection e with e; exact e.symm)
  refine ⟨h.below.trans (k1.below h.below.size (fun b e => by omega)), owns_kept h.own k1 (fun b e e2 => by have := (h.own.lt b e).1; omega), hm, fun i hi => ?_⟩
  by_cases e : i = k
  · subst e; simp
  · have hne : N.getD i [] ≠ N.getD k [] := by
      intro e2
      have hi2 : i < N.length := by omega
      simp only [List.getD, List.getElem?_eq_getElem hi2, List.getElem?_eq_getElem hk, Option.getD_some] at e2
      exact e ((List.getElem_inj hN).1 e2)
    simp only [hne, if_false]
    exact h.idx i (by omega)

/-- The graph's block and the two tables, just made. -/
theorem NG3.graph {w0 : World} {N : List (List UInt8)} {vn : Value} {mp : List UInt8 → Option Int} {wx : World} (h : NG3 w0 N vn mp N.length wx) (bo bi m : Nat) (hb : (bo = wx.heap.size ∧ bi = wx.heap.size + 1) ∨ (bo = wx.heap.size + 1 ∧ bi = wx.heap.size)) :
    NS w0 N vn mp (N.length + N.length) wx.heap.size bo bi m (.slice none 0 0) (fun _ => []) (fun _ => .slice none 0 0)
      (((wx.alloc (.cells (madeCells #[.slice none 0 0] m) 26)).alloc (.cells (madeCells #[.slice none 0 0] m) 26)).alloc (.cells #[vn, .slice (some ⟨bo, 0, none⟩) m m, .slice (some ⟨bi, 0, none⟩) m m, .slice none 0 0] 56)) := by
  have k1 := (((Kept.refl (fun _ => False) wx).alloc (.cells (madeCells #[.slice none 0 0] m) 26)).alloc (.cells (madeCells #[.slice none 0 0] m) 26)).alloc (.cells #[vn, .slice (some ⟨bo, 0, none⟩) m m, .slice (some ⟨bi, 0, none⟩) m m, .slice none 0 0] 56)
  have r1 := ((World.rowIs_made wx (.slice none 0 0) m 26).alloc (.cells (madeCells #[.slice none 0 0] m) 26)).alloc (.cells #[vn, .slice (some ⟨bo, 0, none⟩) m m, .slice (some ⟨bi, 0, none⟩) m m, .slice none 0 0] 56)
  have r2 := (World.rowIs_made (wx.alloc (.cells (madeCells #[.slice none 0 0] m) 26)) (.slice none 0 0) m 26).alloc (.cells #[vn, .slice (some ⟨bo, 0, none⟩) m m, .slice (some ⟨bi, 0, none⟩) m m, .slice none 0 0] 56)
  have r3 := World.rowIs_alloc ((wx.alloc (.cells (madeCells #[.slice none 0 0] m) 26)).alloc (.cells (madeCells #[.slice none 0 0] m) 26)) #[vn, .slice (some ⟨bo, 0, none⟩) m m, .slice (some ⟨bi, 0, none⟩) m m, .slice none 0 0] 56 (gc vn bo bi m (.slice none 0 0)) (fun i hi => by
    have hi4 : i < 4 := hi
    have : i = 0 ∨ i = 1 ∨ i = 2 ∨ i = 3 := by omega
    rcases this with rfl | rfl | rfl | rfl <;> rfl)
  have e2 : (wx.alloc (.cells (madeCells #[.slice none 0 0] m) 26)).heap.size = wx.heap.size + 1 := by simp
  have e3 : ((wx.alloc (.cells (madeCells #[.slice none 0 0] m) 26)).alloc (.cells (madeCells #[.slice none 0 0] m) 26)).heap.size = wx.heap.size + 2 := by simp
  rw [e2] at r2
  rw [e3] at r3
  refine ⟨hb, h.map.lt, h.below.trans (k1.below h.below.size (fun _ e => e.elim)), owns_kept h.own k1 (fun _ _ e => e), fun b e => (h.own.lt b e).2, h.map.kept k1 (fun e => e), r3, ?_, ?_, fun x _ => World.ownsRow_nil _ _ _ _, fun x y b _ _ _ e => by simp [Value.ownBlock] at e⟩
  · rcases hb with ⟨rfl, rfl⟩ | ⟨rfl, rfl⟩
    · exact r1
    · exact r2
  · rcases hb with ⟨rfl, rfl⟩ | ⟨rfl, rfl⟩
    · exact r2
    · exact r1

theorem NG1.names {w0 : World} {S : Nat → Nat → List UInt8} {n : Nat} {vn : Value} {N0 : List (List UInt8)} {wx : World} (h : NG1 w0 S n 0 vn N0 wx) : (sortS N0).Pairwise (· < ·) ∧ ∀ s, s ∈ sortS N0 ↔ ∃ i, i < n ∧ (s = S i 0 ∨ s = S i 1) := by
  refine ⟨sortS_lt h.nodup, fun s => ?_⟩
  rw [(sortS_perm N0).mem_iff, h.mem]
  constructor
  · rintro (h1 | ⟨h1, _⟩ | ⟨h1, _⟩)
    · exact h1
    · omega
    · omega
  · exact .inl

theorem names_nodup {N : List (List UInt8)} (h : N.Pairwise (· < ·)) : N.Nodup := h.imp_of_mem (fun _ _ h e => by subst e; exact List.lt_irrefl _ h)

theorem names_short {S : Nat → Nat → List UInt8} {n : Nat} {N : List (List UInt8)} (hS : ∀ i q, (S i q).length ≤ 9223372036854775807) (h : ∀ s, s ∈ N ↔ ∃ i, i < n ∧ (s = S i 0 ∨ s = S i 1)) (i : Nat) : (N.getD i []).length ≤ 9223372036854775807 := by
  by_cases hi : i < N.length
  · have h1 : N.getD i [] ∈ N := by
      simp only [List.getD, List.getElem?_eq_getElem hi, Option.getD_some]
      exact List.getElem_mem hi
    obtain ⟨j, _, e | e⟩ := (h _).1 h1 <;> rw [e] <;> exact hS _ _
  · simp [List.getD, List.getElem?_eq_none (Nat.le_of_not_lt hi)]

theorem wf_nat {k : Nat} (h : k ≤ 1099511627776) : (Lit.int .i64 (k : Int)).wf = true := by
  simp only [Lit.wf, Bool.and_eq_true, decide_eq_true_eq]
  have h1 : IntKind.i64.min = -9223372036854775808 := by decide
  have h2 : IntKind.i64.max = 9223372036854775807 := by decide
  rw [h1, h2]
  omega

theorem name_cell {w : World} {base g cap n : Nat} {N : List (List UInt8)} (h : w.ownsRow base 9 1 (.slice (some ⟨g, 0, none⟩) n cap) N.length (N.map encStr)) {i : Nat} (hi : i < N.length) : w.cell? ⟨g, i, none⟩ = some (.string ⟨(N.getD i []).toArray⟩) := by
  obtain ⟨ao, cap', hv⟩ := owns_slice h
  simp only [Value.slice.injEq] at hv
  obtain ⟨rfl, rfl, rfl⟩ := hv
  rw [h.cellAt i (by omega)]
  simp [List.getD, List.getElem?_eq_getElem hi, encStr]

end Go.Proofs.Qxb6601793a
