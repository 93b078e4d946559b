import Derived.Test.Qxb6601793aReg2
namespace Go.Proofs.Qxb6601793a
open Go.RowKit Go.Deep Scc

/-- The graph with its row of first edges, in block bf. -/
structure NF (w0 : World) (N : List (List UInt8)) (vn : Value) (mp : List UInt8 → Option Int) (c s bo bi m bf : Nat) (L : Nat → List Nat) (f : Nat → Value) (F : Nat → Nat) (wx : World) : Prop where
  ns : NS w0 N vn mp c s bo bi m (.slice (some ⟨bf, 0, none⟩) (m + 1) (m + 1)) L f wx
  high : s + 3 ≤ bf
  far : ∀ x, x < m + m → (f x).ownBlock ≠ some bf
  first : wx.rowIs bf 3 (m + 1) (fun i => .int .i64 (F i : Int))

theorem NF.start {w0 : World} {N : List (List UInt8)} {vn : Value} {mp : List UInt8 → Option Int} {c s bo bi m : Nat} {L : Nat → List Nat} {f : Nat → Value} {wx : World} (h : NS w0 N vn mp c s bo bi m (.slice none 0 0) L f wx) :
    NF w0 N vn mp c s bo bi m wx.heap.size L f (fun _ => 0) ((wx.alloc (.cells (madeCells #[.int .i64 0] (m + 1)) 3)).setCell ⟨s + 2, 3, none⟩ (.slice (some ⟨wx.heap.size, 0, none⟩) (m + 1) (m + 1))) := by
  have h1 := h.alloc (.cells (madeCells #[.int .i64 0] (m + 1)) 3)
  have hg := h.g.lt
  have k1 := (Kept.refl (fun b => b = s + 2) (wx.alloc (.cells (madeCells #[.int .i64 0] (m + 1)) 3))).setCell (p := ⟨s + 2, 3, none⟩) (fun _ => rfl) (.slice (some ⟨wx.heap.size, 0, none⟩) (m + 1) (m + 1))
  have hB := h.blocks
  have hbs := h.base
  have hr := World.rowIs_made wx (.int .i64 0) (m + 1) 3
  refine ⟨⟨h.blocks, h.base, h1.below.trans (k1.below (by simp; omega) (fun b e => by omega)), owns_kept h1.own k1 (fun b e e2 => by have := h.nlt b e; omega), h.nlt, h1.map.kept k1 (by omega), ?_, k1.row h1.out (by omega), k1.row h1.inn (by omega), fun x hx => owns_kept (h1.rows x hx) k1 (fun b e e2 => by have := ((h1.rows x hx).lt b e).1; omega), h.apart⟩, by omega, fun x hx e => by have := ((h.rows x hx).lt _ e).2; omega, (k1.row hr (by omega)).congr (fun i _ => rfl)⟩
  refine (h1.g.set 3 _).congr (fun i hi => ?_)
  have : i = 0 ∨ i = 1 ∨ i = 2 ∨ i = 3 := by omega
  rcases this with rfl | rfl | rfl | rfl <;> rfl

section
variable {w0 : World} {N : List (List UInt8)} {vn : Value} {mp : List UInt8 → Option Int} {c s bo bi m bf : Nat} {L : Nat → List Nat} {f : Nat → Value} {F : Nat → Nat} {wx w1 : World}

theorem NF.same (h : NF w0 N vn mp c s bo bi m bf L f F wx) {x : Nat} (hx : x < m + m) (l' : List Nat) (k : Kept (fun b => (f x).ownBlock = some b) wx w1) (ho : w1.ownsRow (s + 3) 3 1 (f x) l'.length (nodesV l')) : NF w0 N vn mp c s bo bi m bf (upd L x l') f F w1 :=
  ⟨h.ns.same hx l' k ho, h.high, h.far, k.row h.first (h.far x hx)⟩

theorem NF.put (h : NF w0 N vn mp c s bo bi m bf L f F wx) {x : Nat} (hx : x < m + m) (l' : List Nat) (v' : Value) (k : Kept (fun b => (f x).ownBlock = some b) wx w1) (ho : w1.ownsRow (s + 3) 3 1 v' l'.length (nodesV l'))
    (hv : ∀ b, v'.ownBlock = some b → (f x).ownBlock = some b) {t j : Nat} (ht : (t = bo ∧ x = j ∧ j < m) ∨ (t = bi ∧ x = m + j ∧ j < m)) :
    NF w0 N vn mp c s bo bi m bf (upd L x l') (upd f x v') F (w1.setCell ⟨t, j, none⟩ v') := by
  have hB := h.ns.blocks
  have hh := h.high
  refine ⟨h.ns.put hx l' v' k ho (fun b e => .inl (hv b e)) ht, h.high, fun y hy => ?_, (k.row h.first (h.far x hx)).setOther (by show bf ≠ t; omega) _⟩
  by_cases e : y = x
  · subst e; rw [upd_same]; exact fun e1 => h.far y hx (hv _ e1)
  · rw [upd_other _ _ _ _ e]; exact h.far y hy

theorem NF.next (h : NF w0 N vn mp c s bo bi m bf L f F wx) (i y : Nat) : NF w0 N vn mp c s bo bi m bf L f (upd F i y) (wx.setCell ⟨bf, i, none⟩ (.int .i64 (y : Int))) := by
  have k1 := (Kept.refl (fun b => b = bf) wx).setCell (p := ⟨bf, i, none⟩) (fun _ => rfl) (.int .i64 (y : Int))
  refine ⟨h.ns.kept k1 (fun b _ e => by subst e; exact ⟨h.high, h.far⟩), h.high, h.far, (h.first.set i _).congr (fun j _ => ?_)⟩
  simp only [upd]
  split <;> rfl

theorem NF.drew (h : NF w0 N vn mp c s bo bi m bf L f F wx) : NF w0 N vn mp c s bo bi m bf L f F wx.drew := ⟨h.ns.drew, h.high, h.far, h.first⟩
theorem NF.drewN (h : NF w0 N vn mp c s bo bi m bf L f F wx) (k : Nat) : NF w0 N vn mp c s bo bi m bf L f F (wx.drewN k) := ⟨h.ns.drewN k, h.high, h.far, h.first⟩
end

end Go.Proofs.Qxb6601793a
