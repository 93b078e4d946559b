import Derived.Test.Qxb6601793aNg3
import Derived.Test.Qxb6601793aLast
import Derived.Deep.AppendLies
namespace Go.Proofs.Qxb6601793a
open Go.RowKit Go.Deep Scc

theorem wp_of_run {P : Program} {o : Oper} {a : Act} {w : World} {K : Act → World → Prop} {Q : Exit → Act → World → Prop} {v : Value} {w' : World} (h : (execOp a.eval o).run P w = .ok (.value v) w') (hk : K (a.put o.dst v) w') : o.wp P a w K Q := by
  unfold Oper.wp
  rw [h]
  exact hk

theorem wp_of_skip {P : Program} {o : Oper} {a : Act} {w : World} {K : Act → World → Prop} {Q : Exit → Act → World → Prop} {w' : World} (h : (execOp a.eval o).run P w = .ok .skip w') (hk : K (a.put o.dst undef) w') : o.wp P a w K Q := by
  unfold Oper.wp
  rw [h]
  exact hk

theorem tmps_at {a : Act} {i : Nat} {v : Value} (h : a.tmps[i]? = some v) (hi : i < a.tmps.size) : a.tmps[i] = v := by
  obtain ⟨h1, h2⟩ := Array.getElem?_eq_some_iff.1 h
  exact h2

set_option maxHeartbeats 4000000 in
set_option maxRecDepth 100000 in
theorem reg27 (Q : Exit → Act → World → Prop) (a : Act) (W : World) (s t m x y : Nat) (fx : Value) (Lx : List Nat) (hsz : a.tmps.size = 205)
    (g13 : a.tmps[13]? = some (.pointer (some ⟨s + 2, 0, none⟩))) (gx : a.tmps[16]? = some (.int .i64 (x : Int))) (gy : a.tmps[17]? = some (.int .i64 (y : Int))) (hQ : ∀ c a d v w, Q (.panic c) (a.put (some d) v) w → Q (.panic c) a w)
    (hgl : s + 2 < W.heap.size) (htl : t < s + 2) (hxm : x < m) (hl : Lx.length ≤ 65536)
    (hcg : W.cell? ⟨s + 2, 1, none⟩ = some (.slice (some ⟨t, 0, none⟩) m m)) (hct : W.cell? ⟨t, x, none⟩ = some fx) (hfz : W.frozen? ⟨t, x, none⟩ = false) (hox : W.ownsRow (s + 3) 3 1 fx Lx.length (nodesV Lx))
    (hK : ∀ g cap w1, w1.ownsRow (s + 3) 3 1 (.slice (some ⟨g, 0, none⟩) (Lx.length + 1) cap) (Lx.length + 1) (nodesV Lx ++ [.int .i64 (y : Int)]) → (W.drew.alloc (.cells #[.int .i64 (y : Int)] 3)).grownBy w1 fx.ownBlock → (fx.ownBlock = some g ∨ g = W.heap.size + 1) →
      Q .normal (((((((((((((((((a.put (some 91) (.pointer (some ⟨s + 2, 0, none⟩))).put (some 92) (.pointer (some ⟨s + 2, 0, none⟩))).put (some 93) (.pointer (some ⟨s + 2, 1, none⟩))).put (some 94) (.slice (some ⟨t, 0, none⟩) m m)).put (some 95) (.int .i64 (x : Int))).put (some 96) (.pointer (some ⟨s + 2, 0, none⟩))).put (some 97) (.pointer (some ⟨s + 2, 0, none⟩))).put (some 98) (.pointer (some ⟨s + 2, 1, none⟩))).put (some 99) (.slice (some ⟨t, 0, none⟩) m m)).put (some 100) (.int .i64 (x : Int))).put (some 101) (.pointer (some ⟨t, x, none⟩))).put (some 102) (fx)).put (some 103) (.int .i64 (y : Int))).put (some 104) (.slice (some ⟨W.heap.size, 0, none⟩) 1 1)).put (some 105) (.slice (some ⟨g, 0, none⟩) (Lx.length + 1) cap)).put (some 106) (.pointer (some ⟨t, x, none⟩))).put none undef) (w1.setCell ⟨t, x, none⟩ (.slice (some ⟨g, 0, none⟩) (Lx.length + 1) cap))) :
    (Code.region 27 #[{ dst := some 91, op := Op.move (Operand.tmp 13), type := 53, pos := "cycles.go:41", after := #[], guard := none }, { dst := some 92, op := Op.nilCheck (Operand.tmp 91), type := 0, pos := "cycles.go:41", after := #[{ on := 0, ground := Ground.data }], guard := none }, { dst := some 93, op := Op.fieldAddr 56 (Operand.tmp 92) 1, type := 0, pos := "cycles.go:41", after := #[{ on := 1, ground := Ground.data }], guard := none }, { dst := some 94, op := Op.load 25 (Operand.tmp 93), type := 25, pos := "cycles.go:41", after := #[{ on := 2, ground := Ground.data }], guard := none }, { dst := some 95, op := Op.move (Operand.tmp 16), type := 3, pos := "cycles.go:41", after := #[], guard := none }, { dst := some 96, op := Op.move (Operand.tmp 13), type := 53, pos := "cycles.go:41", after := #[], guard := none }, { dst := some 97, op := Op.nilCheck (Operand.tmp 96), type := 0, pos := "cycles.go:41", after := #[{ on := 5, ground := Ground.data }], guard := none }, { dst := some 98, op := Op.fieldAddr 56 (Operand.tmp 97) 1, type := 0, pos := "cycles.go:41", after := #[{ on := 6, ground := Ground.data }], guard := none }, { dst := some 99, op := Op.load 25 (Operand.tmp 98), type := 25, pos := "cycles.go:41", after := #[{ on := 7, ground := Ground.data }], guard := none }, { dst := some 100, op := Op.move (Operand.tmp 16), type := 3, pos := "cycles.go:41", after := #[], guard := none }, { dst := some 101, op := Op.indexAddr 25 (Operand.tmp 99) (Operand.tmp 100), type := 0, pos := "cycles.go:41", after := #[{ on := 8, ground := Ground.data }, { on := 9, ground := Ground.data }], guard := none }, { dst := some 102, op := Op.load 26 (Operand.tmp 101), type := 26, pos := "cycles.go:41", after := #[{ on := 10, ground := Ground.data }], guard := none }, { dst := some 103, op := Op.move (Operand.tmp 17), type := 3, pos := "cycles.go:41", after := #[], guard := none }, { dst := some 104, op := Op.buildSlice 26 1 #[(0, Operand.tmp 103)], type := 26, pos := "cycles.go:41", after := #[{ on := 12, ground := Ground.data }], guard := none }, { dst := some 105, op := Op.call { callee := Callee.builtin Builtin.append, args := #[Operand.tmp 102, Operand.tmp 104], argTypes := #[26, 26] }, type := 26, pos := "cycles.go:41", after := #[{ on := 11, ground := Ground.data }, { on := 13, ground := Ground.data }], guard := none }, { dst := some 106, op := Op.indexAddr 25 (Operand.tmp 94) (Operand.tmp 95), type := 0, pos := "cycles.go:41", after := #[{ on := 3, ground := Ground.data }, { on := 4, ground := Ground.data }, { on := 0, ground := Ground.phase }, { on := 1, ground := Ground.phase }, { on := 2, ground := Ground.phase }, { on := 3, ground := Ground.phase }, { on := 4, ground := Ground.phase }, { on := 5, ground := Ground.phase }, { on := 6, ground := Ground.phase }, { on := 7, ground := Ground.phase }, { on := 8, ground := Ground.phase }, { on := 9, ground := Ground.phase }, { on := 10, ground := Ground.phase }, { on := 11, ground := Ground.phase }, { on := 12, ground := Ground.phase }, { on := 13, ground := Ground.phase }, { on := 14, ground := Ground.phase }], guard := none }, { dst := none, op := Op.store 26 (Operand.tmp 106) (Operand.tmp 105), type := 0, pos := "cycles.go:41", after := #[{ on := 15, ground := Ground.data }, { on := 14, ground := Ground.data }, { on := 14, ground := Ground.chain }, { on := 0, ground := Ground.phase }, { on := 1, ground := Ground.phase }, { on := 2, ground := Ground.phase }, { on := 3, ground := Ground.phase }, { on := 4, ground := Ground.phase }, { on := 5, ground := Ground.phase }, { on := 6, ground := Ground.phase }, { on := 7, ground := Ground.phase }, { on := 8, ground := Ground.phase }, { on := 9, ground := Ground.phase }, { on := 10, ground := Ground.phase }, { on := 11, ground := Ground.phase }, { on := 12, ground := Ground.phase }, { on := 13, ground := Ground.phase }, { on := 14, ground := Ground.phase }], guard := none }] true).wp Try.prog Q a W := by
  obtain ⟨i3, hi3, hz30, hz31, hz32⟩ := info_parts Try.info3
  have hmax : maxLen = 9223372036854775807 := rfl
  have h13 := tmps_at g13 (by omega)
  have hx := tmps_at gx (by omega)
  have hy := tmps_at gy (by omega)
  have hxz1 : (0 : Int) ≤ (x : Int) := by omega
  have hxz2 : (x : Int) < (m : Int) := by omega
  refine wp_region_F (by kernel_rfl) (fun w' => w'.cell? ⟨s + 2, 1, none⟩ = some (.slice (some ⟨t, 0, none⟩) m m) ∧ w'.cell? ⟨t, x, none⟩ = some fx ∧ w'.frozen? ⟨t, x, none⟩ = false) 16 17 rfl ?_
  have hS0 : W.drew.cell? ⟨s + 2, 1, none⟩ = some (.slice (some ⟨t, 0, none⟩) m m) ∧ W.drew.cell? ⟨t, x, none⟩ = some fx ∧ W.drew.frozen? ⟨t, x, none⟩ = false := ⟨hcg, hct, hfz⟩
  refine wpAnyF_take (fuel := 16) (i := 0) (oi := { dst := some 91, op := Op.move (Operand.tmp 13), type := 53, pos := "cycles.go:41", after := #[], guard := none }) (v := .pointer (some ⟨s + 2, 0, none⟩)) rfl (by kernel_rfl) (by kernel_rfl) (by kernel_rfl) (by kernel_rfl) (fun _ _ _ h => hQ _ _ _ _ _ h) hS0 rfl ?_ ?_
  · clear hcg hct hfz hS0 hK hox hQ
    intro w' hSw
    obtain ⟨hs1, hs2, hs3⟩ := hSw
    go_simp
  dsimp only
  refine wpAnyF_take (fuel := 15) (i := 1) (oi := { dst := some 92, op := Op.nilCheck (Operand.tmp 91), type := 0, pos := "cycles.go:41", after := #[{ on := 0, ground := Ground.data }], guard := none }) (v := .pointer (some ⟨s + 2, 0, none⟩)) rfl (by kernel_rfl) (by kernel_rfl) (by kernel_rfl) (by kernel_rfl) (fun _ _ _ h => hQ _ _ _ _ _ h) hS0 rfl ?_ ?_
  · clear hcg hct hfz hS0 hK hox hQ
    intro w' hSw
    obtain ⟨hs1, hs2, hs3⟩ := hSw
    go_simp
  dsimp only
  refine wpAnyF_take (fuel := 14) (i := 2) (oi := { dst := some 93, op := Op.fieldAddr 56 (Operand.tmp 92) 1, type := 0, pos := "cycles.go:41", after := #[{ on := 1, ground := Ground.data }], guard := none }) (v := .pointer (some ⟨s + 2, 1, none⟩)) rfl (by kernel_rfl) (by kernel_rfl) (by kernel_rfl) (by kernel_rfl) (fun _ _ _ h => hQ _ _ _ _ _ h) hS0 rfl ?_ ?_
  · clear hcg hct hfz hS0 hK hox hQ
    intro w' hSw
    obtain ⟨hs1, hs2, hs3⟩ := hSw
    go_simp
  dsimp only
  refine wpAnyF_take (fuel := 13) (i := 3) (oi := { dst := some 94, op := Op.load 25 (Operand.tmp 93), type := 25, pos := "cycles.go:41", after := #[{ on := 2, ground := Ground.data }], guard := none }) (v := .slice (some ⟨t, 0, none⟩) m m) rfl (by kernel_rfl) (by kernel_rfl) (by kernel_rfl) (by kernel_rfl) (fun _ _ _ h => hQ _ _ _ _ _ h) hS0 rfl ?_ ?_
  · clear hcg hct hfz hS0 hK hox hQ
    intro w' hSw
    obtain ⟨hs1, hs2, hs3⟩ := hSw
    go_simp
  dsimp only
  refine wpAnyF_take (fuel := 12) (i := 4) (oi := { dst := some 95, op := Op.move (Operand.tmp 16), type := 3, pos := "cycles.go:41", after := #[], guard := none }) (v := .int .i64 (x : Int)) rfl (by kernel_rfl) (by kernel_rfl) (by kernel_rfl) (by kernel_rfl) (fun _ _ _ h => hQ _ _ _ _ _ h) hS0 rfl ?_ ?_
  · clear hcg hct hfz hS0 hK hox hQ
    intro w' hSw
    obtain ⟨hs1, hs2, hs3⟩ := hSw
    go_simp
  dsimp only
  refine wpAnyF_take (fuel := 11) (i := 5) (oi := { dst := some 96, op := Op.move (Operand.tmp 13), type := 53, pos := "cycles.go:41", after := #[], guard := none }) (v := .pointer (some ⟨s + 2, 0, none⟩)) rfl (by kernel_rfl) (by kernel_rfl) (by kernel_rfl) (by kernel_rfl) (fun _ _ _ h => hQ _ _ _ _ _ h) hS0 rfl ?_ ?_
  · clear hcg hct hfz hS0 hK hox hQ
    intro w' hSw
    obtain ⟨hs1, hs2, hs3⟩ := hSw
    go_simp
  dsimp only
  refine wpAnyF_take (fuel := 10) (i := 6) (oi := { dst := some 97, op := Op.nilCheck (Operand.tmp 96), type := 0, pos := "cycles.go:41", after := #[{ on := 5, ground := Ground.data }], guard := none }) (v := .pointer (some ⟨s + 2, 0, none⟩)) rfl (by kernel_rfl) (by kernel_rfl) (by kernel_rfl) (by kernel_rfl) (fun _ _ _ h => hQ _ _ _ _ _ h) hS0 rfl ?_ ?_
  · clear hcg hct hfz hS0 hK hox hQ
    intro w' hSw
    obtain ⟨hs1, hs2, hs3⟩ := hSw
    go_simp
  dsimp only
  refine wpAnyF_take (fuel := 9) (i := 7) (oi := { dst := some 98, op := Op.fieldAddr 56 (Operand.tmp 97) 1, type := 0, pos := "cycles.go:41", after := #[{ on := 6, ground := Ground.data }], guard := none }) (v := .pointer (some ⟨s + 2, 1, none⟩)) rfl (by kernel_rfl) (by kernel_rfl) (by kernel_rfl) (by kernel_rfl) (fun _ _ _ h => hQ _ _ _ _ _ h) hS0 rfl ?_ ?_
  · clear hcg hct hfz hS0 hK hox hQ
    intro w' hSw
    obtain ⟨hs1, hs2, hs3⟩ := hSw
    go_simp
  dsimp only
  refine wpAnyF_take (fuel := 8) (i := 8) (oi := { dst := some 99, op := Op.load 25 (Operand.tmp 98), type := 25, pos := "cycles.go:41", after := #[{ on := 7, ground := Ground.data }], guard := none }) (v := .slice (some ⟨t, 0, none⟩) m m) rfl (by kernel_rfl) (by kernel_rfl) (by kernel_rfl) (by kernel_rfl) (fun _ _ _ h => hQ _ _ _ _ _ h) hS0 rfl ?_ ?_
  · clear hcg hct hfz hS0 hK hox hQ
    intro w' hSw
    obtain ⟨hs1, hs2, hs3⟩ := hSw
    go_simp
  dsimp only
  refine wpAnyF_take (fuel := 7) (i := 9) (oi := { dst := some 100, op := Op.move (Operand.tmp 16), type := 3, pos := "cycles.go:41", after := #[], guard := none }) (v := .int .i64 (x : Int)) rfl (by kernel_rfl) (by kernel_rfl) (by kernel_rfl) (by kernel_rfl) (fun _ _ _ h => hQ _ _ _ _ _ h) hS0 rfl ?_ ?_
  · clear hcg hct hfz hS0 hK hox hQ
    intro w' hSw
    obtain ⟨hs1, hs2, hs3⟩ := hSw
    go_simp
  dsimp only
  refine wpAnyF_take (fuel := 6) (i := 10) (oi := { dst := some 101, op := Op.indexAddr 25 (Operand.tmp 99) (Operand.tmp 100), type := 0, pos := "cycles.go:41", after := #[{ on := 8, ground := Ground.data }, { on := 9, ground := Ground.data }], guard := none }) (v := .pointer (some ⟨t, x, none⟩)) rfl (by kernel_rfl) (by kernel_rfl) (by kernel_rfl) (by kernel_rfl) (fun _ _ _ h => hQ _ _ _ _ _ h) hS0 rfl ?_ ?_
  · clear hcg hct hfz hS0 hK hox hQ
    intro w' hSw
    obtain ⟨hs1, hs2, hs3⟩ := hSw
    go_simp
  dsimp only
  refine wpAnyF_take (fuel := 5) (i := 11) (oi := { dst := some 102, op := Op.load 26 (Operand.tmp 101), type := 26, pos := "cycles.go:41", after := #[{ on := 10, ground := Ground.data }], guard := none }) (v := fx) rfl (by kernel_rfl) (by kernel_rfl) (by kernel_rfl) (by kernel_rfl) (fun _ _ _ h => hQ _ _ _ _ _ h) hS0 rfl ?_ ?_
  · clear hcg hct hfz hS0 hK hox hQ
    intro w' hSw
    obtain ⟨hs1, hs2, hs3⟩ := hSw
    go_simp
  dsimp only
  refine wpAnyF_take (fuel := 4) (i := 12) (oi := { dst := some 103, op := Op.move (Operand.tmp 17), type := 3, pos := "cycles.go:41", after := #[], guard := none }) (v := .int .i64 (y : Int)) rfl (by kernel_rfl) (by kernel_rfl) (by kernel_rfl) (by kernel_rfl) (fun _ _ _ h => hQ _ _ _ _ _ h) hS0 rfl ?_ ?_
  · clear hcg hct hfz hS0 hK hox hQ
    intro w' hSw
    obtain ⟨hs1, hs2, hs3⟩ := hSw
    go_simp
  dsimp only
  refine wpAnyF_one (fuel := 3) (i := 13) (o := { dst := some 104, op := Op.buildSlice 26 1 #[(0, Operand.tmp 103)], type := 26, pos := "cycles.go:41", after := #[{ on := 12, ground := Ground.data }], guard := none }) (by kernel_rfl) rfl rfl ?_
  intro K1 hK1
  refine wp_of_run (v := .slice (some ⟨W.heap.size, 0, none⟩) 1 1) (w' := W.drew.alloc (.cells #[.int .i64 (y : Int)] 3)) ?_ (hK1.out _ _ (.inr ?_) ?_)
  · clear hcg hct hfz hS0 hK hox hQ hK1
    go_simp
  · have k1 := ((Kept.refl (fun _ => False) W).drew).alloc (.cells #[.int .i64 (y : Int)] 3)
    exact ⟨(k1.cell (p := ⟨s + 2, 1, none⟩) hgl (fun h => h)).trans hcg, (k1.cell (p := ⟨t, x, none⟩) (by simp; omega) (fun h => h)).trans hct, (k1.frozen (p := ⟨t, x, none⟩) (by simp; omega) (fun h => h)).trans hfz⟩
  clear hK1 K1
  dsimp only
  refine wpAnyF_one (fuel := 2) (i := 14) (o := { dst := some 105, op := Op.call { callee := Callee.builtin Builtin.append, args := #[Operand.tmp 102, Operand.tmp 104], argTypes := #[26, 26] }, type := 26, pos := "cycles.go:41", after := #[{ on := 11, ground := Ground.data }, { on := 13, ground := Ground.data }], guard := none }) (by kernel_rfl) rfl rfl ?_
  intro K2 hK2
  refine wp_append_lies _ (.tmp 102) (.tmp 104) 26 rfl (s + 3) 3 i3 (.int .i64 0) 1 8 Try.underlying26 hi3 hz30 hz31 hz32 rfl (by decide) fx Lx.length (nodesV Lx) ?_ (World.ownsRow.alloc (w := W.drew) hox _) ⟨W.heap.size, 0, none⟩ 1 1 [.int .i64 (y : Int)] ?_ rfl (cell_one_new W.drew _ _) (by simp [Value.oneCell']) (by decide) (by omega) (by omega) (by simp; omega) (W.heap.size + 1) (by simp) ?_
  · clear hcg hct hfz hS0 hK hox hQ hK2
    go_simp
  · clear hcg hct hfz hS0 hK hox hQ hK2
    go_simp
  intro g cap w1 hown1 hgrow1 hat1 hlt1
  have hS1 : w1.cell? ⟨s + 2, 1, none⟩ = some (.slice (some ⟨t, 0, none⟩) m m) ∧ w1.cell? ⟨t, x, none⟩ = some fx ∧ w1.frozen? ⟨t, x, none⟩ = false := by
    have k1 : Kept (fun b => fx.ownBlock = some b) W w1 := (((Kept.refl _ W).drew).alloc _).grown hgrow1 (fun b e _ => e)
    have hnot : ∀ b, b < s + 3 → ¬ fx.ownBlock = some b := fun b hb e => by have := (hox.lt b e).1; omega
    exact ⟨(k1.cell (p := ⟨s + 2, 1, none⟩) hgl (hnot _ (by simp))).trans hcg, (k1.cell (p := ⟨t, x, none⟩) (by simp; omega) (hnot _ (by simp; omega))).trans hct, (k1.frozen (p := ⟨t, x, none⟩) (by simp; omega) (hnot _ (by simp; omega))).trans hfz⟩
  refine hK2.out _ _ (.inr hS1) ?_
  clear hK2 K2
  dsimp only
  have hK' := hK g cap w1 hown1 hgrow1 hat1
  obtain ⟨A, hA⟩ : ∃ A : Act, A = (((((((((((((((a.put (some 91) (.pointer (some ⟨s + 2, 0, none⟩))).put (some 92) (.pointer (some ⟨s + 2, 0, none⟩))).put (some 93) (.pointer (some ⟨s + 2, 1, none⟩))).put (some 94) (.slice (some ⟨t, 0, none⟩) m m)).put (some 95) (.int .i64 (x : Int))).put (some 96) (.pointer (some ⟨s + 2, 0, none⟩))).put (some 97) (.pointer (some ⟨s + 2, 0, none⟩))).put (some 98) (.pointer (some ⟨s + 2, 1, none⟩))).put (some 99) (.slice (some ⟨t, 0, none⟩) m m)).put (some 100) (.int .i64 (x : Int))).put (some 101) (.pointer (some ⟨t, x, none⟩))).put (some 102) (fx)).put (some 103) (.int .i64 (y : Int))).put (some 104) (.slice (some ⟨W.heap.size, 0, none⟩) 1 1)).put (some 105) (.slice (some ⟨g, 0, none⟩) (Lx.length + 1) cap)) := ⟨_, rfl⟩
  have q1 : A.tmps.size = 205 := by rw [hA]; simp [Act.put, hsz]
  have q2 : A.tmps[94]? = some (.slice (some ⟨t, 0, none⟩) m m) := by rw [hA]; simp [Act.put, hsz]
  have q3 : A.tmps[95]? = some (.int .i64 (x : Int)) := by rw [hA]; simp [Act.put, hsz]
  have q4 : A.tmps[105]? = some (.slice (some ⟨g, 0, none⟩) (Lx.length + 1) cap) := by rw [hA]; simp [Act.put, hsz]
  rw [← hA] at hK' ⊢
  clear hA hK h13 hx hy g13 gx gy hsz
  have p2 := tmps_at q2 (by omega)
  have p3 := tmps_at q3 (by omega)
  have p4 := tmps_at q4 (by omega)
  refine wpAnyF_take (fuel := 1) (i := 15) (oi := { dst := some 106, op := Op.indexAddr 25 (Operand.tmp 94) (Operand.tmp 95), type := 0, pos := "cycles.go:41", after := #[{ on := 3, ground := Ground.data }, { on := 4, ground := Ground.data }, { on := 0, ground := Ground.phase }, { on := 1, ground := Ground.phase }, { on := 2, ground := Ground.phase }, { on := 3, ground := Ground.phase }, { on := 4, ground := Ground.phase }, { on := 5, ground := Ground.phase }, { on := 6, ground := Ground.phase }, { on := 7, ground := Ground.phase }, { on := 8, ground := Ground.phase }, { on := 9, ground := Ground.phase }, { on := 10, ground := Ground.phase }, { on := 11, ground := Ground.phase }, { on := 12, ground := Ground.phase }, { on := 13, ground := Ground.phase }, { on := 14, ground := Ground.phase }], guard := none }) (v := .pointer (some ⟨t, x, none⟩)) rfl (by kernel_rfl) (by kernel_rfl) (by kernel_rfl) (by kernel_rfl) (fun _ _ _ h => hQ _ _ _ _ _ h) hS1 rfl ?_ ?_
  · clear hcg hct hfz hS0 hK' hox hQ hS1 hown1 hgrow1 hat1 hlt1
    intro w' hSw
    obtain ⟨hs1, hs2, hs3⟩ := hSw
    go_simp
  dsimp only
  refine wpAnyF_last (fuel := 0) (o := { dst := none, op := Op.store 26 (Operand.tmp 106) (Operand.tmp 105), type := 0, pos := "cycles.go:41", after := #[{ on := 15, ground := Ground.data }, { on := 14, ground := Ground.data }, { on := 14, ground := Ground.chain }, { on := 0, ground := Ground.phase }, { on := 1, ground := Ground.phase }, { on := 2, ground := Ground.phase }, { on := 3, ground := Ground.phase }, { on := 4, ground := Ground.phase }, { on := 5, ground := Ground.phase }, { on := 6, ground := Ground.phase }, { on := 7, ground := Ground.phase }, { on := 8, ground := Ground.phase }, { on := 9, ground := Ground.phase }, { on := 10, ground := Ground.phase }, { on := 11, ground := Ground.phase }, { on := 12, ground := Ground.phase }, { on := 13, ground := Ground.phase }, { on := 14, ground := Ground.phase }], guard := none }) (by kernel_rfl) rfl rfl (by kernel_rfl) ?_
  refine wp_of_skip (w' := w1.setCell ⟨t, x, none⟩ (.slice (some ⟨g, 0, none⟩) (Lx.length + 1) cap)) ?_ ?_
  · clear hcg hct hfz hS0 hK' hox hQ hown1 hgrow1 hat1 hlt1
    obtain ⟨hs1, hs2, hs3⟩ := hS1
    go_simp
  exact hK'

set_option maxHeartbeats 4000000 in
set_option maxRecDepth 100000 in
theorem reg28 (Q : Exit → Act → World → Prop) (a : Act) (W : World) (s t m x y : Nat) (fx : Value) (Lx : List Nat) (hsz : a.tmps.size = 205)
    (g13 : a.tmps[13]? = some (.pointer (some ⟨s + 2, 0, none⟩))) (gx : a.tmps[17]? = some (.int .i64 (x : Int))) (gy : a.tmps[16]? = some (.int .i64 (y : Int))) (hQ : ∀ c a d v w, Q (.panic c) (a.put (some d) v) w → Q (.panic c) a w)
    (hgl : s + 2 < W.heap.size) (htl : t < s + 2) (hxm : x < m) (hl : Lx.length ≤ 65536)
    (hcg : W.cell? ⟨s + 2, 2, none⟩ = some (.slice (some ⟨t, 0, none⟩) m m)) (hct : W.cell? ⟨t, x, none⟩ = some fx) (hfz : W.frozen? ⟨t, x, none⟩ = false) (hox : W.ownsRow (s + 3) 3 1 fx Lx.length (nodesV Lx))
    (hK : ∀ g cap w1, w1.ownsRow (s + 3) 3 1 (.slice (some ⟨g, 0, none⟩) (Lx.length + 1) cap) (Lx.length + 1) (nodesV Lx ++ [.int .i64 (y : Int)]) → (W.drew.alloc (.cells #[.int .i64 (y : Int)] 3)).grownBy w1 fx.ownBlock → (fx.ownBlock = some g ∨ g = W.heap.size + 1) →
      Q .normal (((((((((((((((((a.put (some 107) (.pointer (some ⟨s + 2, 0, none⟩))).put (some 108) (.pointer (some ⟨s + 2, 0, none⟩))).put (some 109) (.pointer (some ⟨s + 2, 2, none⟩))).put (some 110) (.slice (some ⟨t, 0, none⟩) m m)).put (some 111) (.int .i64 (x : Int))).put (some 112) (.pointer (some ⟨s + 2, 0, none⟩))).put (some 113) (.pointer (some ⟨s + 2, 0, none⟩))).put (some 114) (.pointer (some ⟨s + 2, 2, none⟩))).put (some 115) (.slice (some ⟨t, 0, none⟩) m m)).put (some 116) (.int .i64 (x : Int))).put (some 117) (.pointer (some ⟨t, x, none⟩))).put (some 118) (fx)).put (some 119) (.int .i64 (y : Int))).put (some 120) (.slice (some ⟨W.heap.size, 0, none⟩) 1 1)).put (some 121) (.slice (some ⟨g, 0, none⟩) (Lx.length + 1) cap)).put (some 122) (.pointer (some ⟨t, x, none⟩))).put none undef) (w1.setCell ⟨t, x, none⟩ (.slice (some ⟨g, 0, none⟩) (Lx.length + 1) cap))) :
    (Code.region 28 #[{ dst := some 107, op := Op.move (Operand.tmp 13), type := 53, pos := "cycles.go:42", after := #[], guard := none }, { dst := some 108, op := Op.nilCheck (Operand.tmp 107), type := 0, pos := "cycles.go:42", after := #[{ on := 0, ground := Ground.data }], guard := none }, { dst := some 109, op := Op.fieldAddr 56 (Operand.tmp 108) 2, type := 0, pos := "cycles.go:42", after := #[{ on := 1, ground := Ground.data }], guard := none }, { dst := some 110, op := Op.load 25 (Operand.tmp 109), type := 25, pos := "cycles.go:42", after := #[{ on := 2, ground := Ground.data }], guard := none }, { dst := some 111, op := Op.move (Operand.tmp 17), type := 3, pos := "cycles.go:42", after := #[], guard := none }, { dst := some 112, op := Op.move (Operand.tmp 13), type := 53, pos := "cycles.go:42", after := #[], guard := none }, { dst := some 113, op := Op.nilCheck (Operand.tmp 112), type := 0, pos := "cycles.go:42", after := #[{ on := 5, ground := Ground.data }], guard := none }, { dst := some 114, op := Op.fieldAddr 56 (Operand.tmp 113) 2, type := 0, pos := "cycles.go:42", after := #[{ on := 6, ground := Ground.data }], guard := none }, { dst := some 115, op := Op.load 25 (Operand.tmp 114), type := 25, pos := "cycles.go:42", after := #[{ on := 7, ground := Ground.data }], guard := none }, { dst := some 116, op := Op.move (Operand.tmp 17), type := 3, pos := "cycles.go:42", after := #[], guard := none }, { dst := some 117, op := Op.indexAddr 25 (Operand.tmp 115) (Operand.tmp 116), type := 0, pos := "cycles.go:42", after := #[{ on := 8, ground := Ground.data }, { on := 9, ground := Ground.data }], guard := none }, { dst := some 118, op := Op.load 26 (Operand.tmp 117), type := 26, pos := "cycles.go:42", after := #[{ on := 10, ground := Ground.data }], guard := none }, { dst := some 119, op := Op.move (Operand.tmp 16), type := 3, pos := "cycles.go:42", after := #[], guard := none }, { dst := some 120, op := Op.buildSlice 26 1 #[(0, Operand.tmp 119)], type := 26, pos := "cycles.go:42", after := #[{ on := 12, ground := Ground.data }], guard := none }, { dst := some 121, op := Op.call { callee := Callee.builtin Builtin.append, args := #[Operand.tmp 118, Operand.tmp 120], argTypes := #[26, 26] }, type := 26, pos := "cycles.go:42", after := #[{ on := 11, ground := Ground.data }, { on := 13, ground := Ground.data }], guard := none }, { dst := some 122, op := Op.indexAddr 25 (Operand.tmp 110) (Operand.tmp 111), type := 0, pos := "cycles.go:42", after := #[{ on := 3, ground := Ground.data }, { on := 4, ground := Ground.data }, { on := 0, ground := Ground.phase }, { on := 1, ground := Ground.phase }, { on := 2, ground := Ground.phase }, { on := 3, ground := Ground.phase }, { on := 4, ground := Ground.phase }, { on := 5, ground := Ground.phase }, { on := 6, ground := Ground.phase }, { on := 7, ground := Ground.phase }, { on := 8, ground := Ground.phase }, { on := 9, ground := Ground.phase }, { on := 10, ground := Ground.phase }, { on := 11, ground := Ground.phase }, { on := 12, ground := Ground.phase }, { on := 13, ground := Ground.phase }, { on := 14, ground := Ground.phase }], guard := none }, { dst := none, op := Op.store 26 (Operand.tmp 122) (Operand.tmp 121), type := 0, pos := "cycles.go:42", after := #[{ on := 15, ground := Ground.data }, { on := 14, ground := Ground.data }, { on := 14, ground := Ground.chain }, { on := 0, ground := Ground.phase }, { on := 1, ground := Ground.phase }, { on := 2, ground := Ground.phase }, { on := 3, ground := Ground.phase }, { on := 4, ground := Ground.phase }, { on := 5, ground := Ground.phase }, { on := 6, ground := Ground.phase }, { on := 7, ground := Ground.phase }, { on := 8, ground := Ground.phase }, { on := 9, ground := Ground.phase }, { on := 10, ground := Ground.phase }, { on := 11, ground := Ground.phase }, { on := 12, ground := Ground.phase }, { on := 13, ground := Ground.phase }, { on := 14, ground := Ground.phase }], guard := none }] true).wp Try.prog Q a W := by
  obtain ⟨i3, hi3, hz30, hz31, hz32⟩ := info_parts Try.info3
  have hmax : maxLen = 9223372036854775807 := rfl
  have h13 := tmps_at g13 (by omega)
  have hx := tmps_at gx (by omega)
  have hy := tmps_at gy (by omega)
  have hxz1 : (0 : Int) ≤ (x : Int) := by omega
  have hxz2 : (x : Int) < (m : Int) := by omega
  refine wp_region_F (by kernel_rfl) (fun w' => w'.cell? ⟨s + 2, 2, none⟩ = some (.slice (some ⟨t, 0, none⟩) m m) ∧ w'.cell? ⟨t, x, none⟩ = some fx ∧ w'.frozen? ⟨t, x, none⟩ = false) 16 17 rfl ?_
  have hS0 : W.drew.cell? ⟨s + 2, 2, none⟩ = some (.slice (some ⟨t, 0, none⟩) m m) ∧ W.drew.cell? ⟨t, x, none⟩ = some fx ∧ W.drew.frozen? ⟨t, x, none⟩ = false := ⟨hcg, hct, hfz⟩
  refine wpAnyF_take (fuel := 16) (i := 0) (oi := { dst := some 107, op := Op.move (Operand.tmp 13), type := 53, pos := "cycles.go:42", after := #[], guard := none }) (v := .pointer (some ⟨s + 2, 0, none⟩)) rfl (by kernel_rfl) (by kernel_rfl) (by kernel_rfl) (by kernel_rfl) (fun _ _ _ h => hQ _ _ _ _ _ h) hS0 rfl ?_ ?_
  · clear hcg hct hfz hS0 hK hox hQ
    intro w' hSw
    obtain ⟨hs1, hs2, hs3⟩ := hSw
    go_simp
  dsimp only
  refine wpAnyF_take (fuel := 15) (i := 1) (oi := { dst := some 108, op := Op.nilCheck (Operand.tmp 107), type := 0, pos := "cycles.go:42", after := #[{ on := 0, ground := Ground.data }], guard := none }) (v := .pointer (some ⟨s + 2, 0, none⟩)) rfl (by kernel_rfl) (by kernel_rfl) (by kernel_rfl) (by kernel_rfl) (fun _ _ _ h => hQ _ _ _ _ _ h) hS0 rfl ?_ ?_
  · clear hcg hct hfz hS0 hK hox hQ
    intro w' hSw
    obtain ⟨hs1, hs2, hs3⟩ := hSw
    go_simp
  dsimp only
  refine wpAnyF_take (fuel := 14) (i := 2) (oi := { dst := some 109, op := Op.fieldAddr 56 (Operand.tmp 108) 2, type := 0, pos := "cycles.go:42", after := #[{ on := 1, ground := Ground.data }], guard := none }) (v := .pointer (some ⟨s + 2, 2, none⟩)) rfl (by kernel_rfl) (by kernel_rfl) (by kernel_rfl) (by kernel_rfl) (fun _ _ _ h => hQ _ _ _ _ _ h) hS0 rfl ?_ ?_
  · clear hcg hct hfz hS0 hK hox hQ
    intro w' hSw
    obtain ⟨hs1, hs2, hs3⟩ := hSw
    go_simp
  dsimp only
  refine wpAnyF_take (fuel := 13) (i := 3) (oi := { dst := some 110, op := Op.load 25 (Operand.tmp 109), type := 25, pos := "cycles.go:42", after := #[{ on := 2, ground := Ground.data }], guard := none }) (v := .slice (some ⟨t, 0, none⟩) m m) rfl (by kernel_rfl) (by kernel_rfl) (by kernel_rfl) (by kernel_rfl) (fun _ _ _ h => hQ _ _ _ _ _ h) hS0 rfl ?_ ?_
  · clear hcg hct hfz hS0 hK hox hQ
    intro w' hSw
    obtain ⟨hs1, hs2, hs3⟩ := hSw
    go_simp
  dsimp only
  refine wpAnyF_take (fuel := 12) (i := 4) (oi := { dst := some 111, op := Op.move (Operand.tmp 17), type := 3, pos := "cycles.go:42", after := #[], guard := none }) (v := .int .i64 (x : Int)) rfl (by kernel_rfl) (by kernel_rfl) (by kernel_rfl) (by kernel_rfl) (fun _ _ _ h => hQ _ _ _ _ _ h) hS0 rfl ?_ ?_
  · clear hcg hct hfz hS0 hK hox hQ
    intro w' hSw
    obtain ⟨hs1, hs2, hs3⟩ := hSw
    go_simp
  dsimp only
  refine wpAnyF_take (fuel := 11) (i := 5) (oi := { dst := some 112, op := Op.move (Operand.tmp 13), type := 53, pos := "cycles.go:42", after := #[], guard := none }) (v := .pointer (some ⟨s + 2, 0, none⟩)) rfl (by kernel_rfl) (by kernel_rfl) (by kernel_rfl) (by kernel_rfl) (fun _ _ _ h => hQ _ _ _ _ _ h) hS0 rfl ?_ ?_
  · clear hcg hct hfz hS0 hK hox hQ
    intro w' hSw
    obtain ⟨hs1, hs2, hs3⟩ := hSw
    go_simp
  dsimp only
  refine wpAnyF_take (fuel := 10) (i := 6) (oi := { dst := some 113, op := Op.nilCheck (Operand.tmp 112), type := 0, pos := "cycles.go:42", after := #[{ on := 5, ground := Ground.data }], guard := none }) (v := .pointer (some ⟨s + 2, 0, none⟩)) rfl (by kernel_rfl) (by kernel_rfl) (by kernel_rfl) (by kernel_rfl) (fun _ _ _ h => hQ _ _ _ _ _ h) hS0 rfl ?_ ?_
  · clear hcg hct hfz hS0 hK hox hQ
    intro w' hSw
    obtain ⟨hs1, hs2, hs3⟩ := hSw
    go_simp
  dsimp only
  refine wpAnyF_take (fuel := 9) (i := 7) (oi := { dst := some 114, op := Op.fieldAddr 56 (Operand.tmp 113) 2, type := 0, pos := "cycles.go:42", after := #[{ on := 6, ground := Ground.data }], guard := none }) (v := .pointer (some ⟨s + 2, 2, none⟩)) rfl (by kernel_rfl) (by kernel_rfl) (by kernel_rfl) (by kernel_rfl) (fun _ _ _ h => hQ _ _ _ _ _ h) hS0 rfl ?_ ?_
  · clear hcg hct hfz hS0 hK hox hQ
    intro w' hSw
    obtain ⟨hs1, hs2, hs3⟩ := hSw
    go_simp
  dsimp only
  refine wpAnyF_take (fuel := 8) (i := 8) (oi := { dst := some 115, op := Op.load 25 (Operand.tmp 114), type := 25, pos := "cycles.go:42", after := #[{ on := 7, ground := Ground.data }], guard := none }) (v := .slice (some ⟨t, 0, none⟩) m m) rfl (by kernel_rfl) (by kernel_rfl) (by kernel_rfl) (by kernel_rfl) (fun _ _ _ h => hQ _ _ _ _ _ h) hS0 rfl ?_ ?_
  · clear hcg hct hfz hS0 hK hox hQ
    intro w' hSw
    obtain ⟨hs1, hs2, hs3⟩ := hSw
    go_simp
  dsimp only
  refine wpAnyF_take (fuel := 7) (i := 9) (oi := { dst := some 116, op := Op.move (Operand.tmp 17), type := 3, pos := "cycles.go:42", after := #[], guard := none }) (v := .int .i64 (x : Int)) rfl (by kernel_rfl) (by kernel_rfl) (by kernel_rfl) (by kernel_rfl) (fun _ _ _ h => hQ _ _ _ _ _ h) hS0 rfl ?_ ?_
  · clear hcg hct hfz hS0 hK hox hQ
    intro w' hSw
    obtain ⟨hs1, hs2, hs3⟩ := hSw
    go_simp
  dsimp only
  refine wpAnyF_take (fuel := 6) (i := 10) (oi := { dst := some 117, op := Op.indexAddr 25 (Operand.tmp 115) (Operand.tmp 116), type := 0, pos := "cycles.go:42", after := #[{ on := 8, ground := Ground.data }, { on := 9, ground := Ground.data }], guard := none }) (v := .pointer (some ⟨t, x, none⟩)) rfl (by kernel_rfl) (by kernel_rfl) (by kernel_rfl) (by kernel_rfl) (fun _ _ _ h => hQ _ _ _ _ _ h) hS0 rfl ?_ ?_
  · clear hcg hct hfz hS0 hK hox hQ
    intro w' hSw
    obtain ⟨hs1, hs2, hs3⟩ := hSw
    go_simp
  dsimp only
  refine wpAnyF_take (fuel := 5) (i := 11) (oi := { dst := some 118, op := Op.load 26 (Operand.tmp 117), type := 26, pos := "cycles.go:42", after := #[{ on := 10, ground := Ground.data }], guard := none }) (v := fx) rfl (by kernel_rfl) (by kernel_rfl) (by kernel_rfl) (by kernel_rfl) (fun _ _ _ h => hQ _ _ _ _ _ h) hS0 rfl ?_ ?_
  · clear hcg hct hfz hS0 hK hox hQ
    intro w' hSw
    obtain ⟨hs1, hs2, hs3⟩ := hSw
    go_simp
  dsimp only
  refine wpAnyF_take (fuel := 4) (i := 12) (oi := { dst := some 119, op := Op.move (Operand.tmp 16), type := 3, pos := "cycles.go:42", after := #[], guard := none }) (v := .int .i64 (y : Int)) rfl (by kernel_rfl) (by kernel_rfl) (by kernel_rfl) (by kernel_rfl) (fun _ _ _ h => hQ _ _ _ _ _ h) hS0 rfl ?_ ?_
  · clear hcg hct hfz hS0 hK hox hQ
    intro w' hSw
    obtain ⟨hs1, hs2, hs3⟩ := hSw
    go_simp
  dsimp only
  refine wpAnyF_one (fuel := 3) (i := 13) (o := { dst := some 120, op := Op.buildSlice 26 1 #[(0, Operand.tmp 119)], type := 26, pos := "cycles.go:42", after := #[{ on := 12, ground := Ground.data }], guard := none }) (by kernel_rfl) rfl rfl ?_
  intro K1 hK1
  refine wp_of_run (v := .slice (some ⟨W.heap.size, 0, none⟩) 1 1) (w' := W.drew.alloc (.cells #[.int .i64 (y : Int)] 3)) ?_ (hK1.out _ _ (.inr ?_) ?_)
  · clear hcg hct hfz hS0 hK hox hQ hK1
    go_simp
  · have k1 := ((Kept.refl (fun _ => False) W).drew).alloc (.cells #[.int .i64 (y : Int)] 3)
    exact ⟨(k1.cell (p := ⟨s + 2, 2, none⟩) hgl (fun h => h)).trans hcg, (k1.cell (p := ⟨t, x, none⟩) (by simp; omega) (fun h => h)).trans hct, (k1.frozen (p := ⟨t, x, none⟩) (by simp; omega) (fun h => h)).trans hfz⟩
  clear hK1 K1
  dsimp only
  refine wpAnyF_one (fuel := 2) (i := 14) (o := { dst := some 121, op := Op.call { callee := Callee.builtin Builtin.append, args := #[Operand.tmp 118, Operand.tmp 120], argTypes := #[26, 26] }, type := 26, pos := "cycles.go:42", after := #[{ on := 11, ground := Ground.data }, { on := 13, ground := Ground.data }], guard := none }) (by kernel_rfl) rfl rfl ?_
  intro K2 hK2
  refine wp_append_lies _ (.tmp 118) (.tmp 120) 26 rfl (s + 3) 3 i3 (.int .i64 0) 1 8 Try.underlying26 hi3 hz30 hz31 hz32 rfl (by decide) fx Lx.length (nodesV Lx) ?_ (World.ownsRow.alloc (w := W.drew) hox _) ⟨W.heap.size, 0, none⟩ 1 1 [.int .i64 (y : Int)] ?_ rfl (cell_one_new W.drew _ _) (by simp [Value.oneCell']) (by decide) (by omega) (by omega) (by simp; omega) (W.heap.size + 1) (by simp) ?_
  · clear hcg hct hfz hS0 hK hox hQ hK2
    go_simp
  · clear hcg hct hfz hS0 hK hox hQ hK2
    go_simp
  intro g cap w1 hown1 hgrow1 hat1 hlt1
  have hS1 : w1.cell? ⟨s + 2, 2, none⟩ = some (.slice (some ⟨t, 0, none⟩) m m) ∧ w1.cell? ⟨t, x, none⟩ = some fx ∧ w1.frozen? ⟨t, x, none⟩ = false := by
    have k1 : Kept (fun b => fx.ownBlock = some b) W w1 := (((Kept.refl _ W).drew).alloc _).grown hgrow1 (fun b e _ => e)
    have hnot : ∀ b, b < s + 3 → ¬ fx.ownBlock = some b := fun b hb e => by have := (hox.lt b e).1; omega
    exact ⟨(k1.cell (p := ⟨s + 2, 2, none⟩) hgl (hnot _ (by simp))).trans hcg, (k1.cell (p := ⟨t, x, none⟩) (by simp; omega) (hnot _ (by simp; omega))).trans hct, (k1.frozen (p := ⟨t, x, none⟩) (by simp; omega) (hnot _ (by simp; omega))).trans hfz⟩
  refine hK2.out _ _ (.inr hS1) ?_
  clear hK2 K2
  dsimp only
  have hK' := hK g cap w1 hown1 hgrow1 hat1
  obtain ⟨A, hA⟩ : ∃ A : Act, A = (((((((((((((((a.put (some 107) (.pointer (some ⟨s + 2, 0, none⟩))).put (some 108) (.pointer (some ⟨s + 2, 0, none⟩))).put (some 109) (.pointer (some ⟨s + 2, 2, none⟩))).put (some 110) (.slice (some ⟨t, 0, none⟩) m m)).put (some 111) (.int .i64 (x : Int))).put (some 112) (.pointer (some ⟨s + 2, 0, none⟩))).put (some 113) (.pointer (some ⟨s + 2, 0, none⟩))).put (some 114) (.pointer (some ⟨s + 2, 2, none⟩))).put (some 115) (.slice (some ⟨t, 0, none⟩) m m)).put (some 116) (.int .i64 (x : Int))).put (some 117) (.pointer (some ⟨t, x, none⟩))).put (some 118) (fx)).put (some 119) (.int .i64 (y : Int))).put (some 120) (.slice (some ⟨W.heap.size, 0, none⟩) 1 1)).put (some 121) (.slice (some ⟨g, 0, none⟩) (Lx.length + 1) cap)) := ⟨_, rfl⟩
  have q1 : A.tmps.size = 205 := by rw [hA]; simp [Act.put, hsz]
  have q2 : A.tmps[110]? = some (.slice (some ⟨t, 0, none⟩) m m) := by rw [hA]; simp [Act.put, hsz]
  have q3 : A.tmps[111]? = some (.int .i64 (x : Int)) := by rw [hA]; simp [Act.put, hsz]
  have q4 : A.tmps[121]? = some (.slice (some ⟨g, 0, none⟩) (Lx.length + 1) cap) := by rw [hA]; simp [Act.put, hsz]
  rw [← hA] at hK' ⊢
  clear hA hK h13 hx hy g13 gx gy hsz
  have p2 := tmps_at q2 (by omega)
  have p3 := tmps_at q3 (by omega)
  have p4 := tmps_at q4 (by omega)
  refine wpAnyF_take (fuel := 1) (i := 15) (oi := { dst := some 122, op := Op.indexAddr 25 (Operand.tmp 110) (Operand.tmp 111), type := 0, pos := "cycles.go:42", after := #[{ on := 3, ground := Ground.data }, { on := 4, ground := Ground.data }, { on := 0, ground := Ground.phase }, { on := 1, ground := Ground.phase }, { on := 2, ground := Ground.phase }, { on := 3, ground := Ground.phase }, { on := 4, ground := Ground.phase }, { on := 5, ground := Ground.phase }, { on := 6, ground := Ground.phase }, { on := 7, ground := Ground.phase }, { on := 8, ground := Ground.phase }, { on := 9, ground := Ground.phase }, { on := 10, ground := Ground.phase }, { on := 11, ground := Ground.phase }, { on := 12, ground := Ground.phase }, { on := 13, ground := Ground.phase }, { on := 14, ground := Ground.phase }], guard := none }) (v := .pointer (some ⟨t, x, none⟩)) rfl (by kernel_rfl) (by kernel_rfl) (by kernel_rfl) (by kernel_rfl) (fun _ _ _ h => hQ _ _ _ _ _ h) hS1 rfl ?_ ?_
  · clear hcg hct hfz hS0 hK' hox hQ hS1 hown1 hgrow1 hat1 hlt1
    intro w' hSw
    obtain ⟨hs1, hs2, hs3⟩ := hSw
    go_simp
  dsimp only
  refine wpAnyF_last (fuel := 0) (o := { dst := none, op := Op.store 26 (Operand.tmp 122) (Operand.tmp 121), type := 0, pos := "cycles.go:42", after := #[{ on := 15, ground := Ground.data }, { on := 14, ground := Ground.data }, { on := 14, ground := Ground.chain }, { on := 0, ground := Ground.phase }, { on := 1, ground := Ground.phase }, { on := 2, ground := Ground.phase }, { on := 3, ground := Ground.phase }, { on := 4, ground := Ground.phase }, { on := 5, ground := Ground.phase }, { on := 6, ground := Ground.phase }, { on := 7, ground := Ground.phase }, { on := 8, ground := Ground.phase }, { on := 9, ground := Ground.phase }, { on := 10, ground := Ground.phase }, { on := 11, ground := Ground.phase }, { on := 12, ground := Ground.phase }, { on := 13, ground := Ground.phase }, { on := 14, ground := Ground.phase }], guard := none }) (by kernel_rfl) rfl rfl (by kernel_rfl) ?_
  refine wp_of_skip (w' := w1.setCell ⟨t, x, none⟩ (.slice (some ⟨g, 0, none⟩) (Lx.length + 1) cap)) ?_ ?_
  · clear hcg hct hfz hS0 hK' hox hQ hown1 hgrow1 hat1 hlt1
    obtain ⟨hs1, hs2, hs3⟩ := hS1
    go_simp
  exact hK'

end Go.Proofs.Qxb6601793a
