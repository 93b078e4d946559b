import Derived.Test.Qxb6601793aReg
namespace Go.Proofs.Qxb6601793a
open Go.RowKit Go.Deep Scc

theorem wp_of_call {P : Program} {o : Oper} {a : Act} {w : World} {K : Act → World → Prop} {Q : Exit → Act → World → Prop} {f : FuncId} {args : Array Value} {w' : World} (h : (execOp a.eval o).run P w = .ok (.enter f args) w')
    (hc : Calls P f args w' fun e w'' => ∃ u, e = .returned u ∧ K (a.put o.dst u) w'') : o.wp P a w K Q := by
  unfold Oper.wp
  rw [h]
  refine Calls.mono hc ?_
  rintro e w'' ⟨u, rfl, hk⟩
  exact hk

set_option maxHeartbeats 4000000 in
set_option maxRecDepth 100000 in
theorem reg35 (Q : Exit → Act → World → Prop) (a : Act) (W : World) (s t m x : Nat) (fx : Value) (R : Value → World → Prop) (hsz : a.tmps.size = 205)
    (g13 : a.tmps[13]? = some (.pointer (some ⟨s + 2, 0, none⟩))) (gx : a.tmps[18]? = some (.int .i64 (x : Int))) (hQ : ∀ c a d v w, Q (.panic c) (a.put (some d) v) w → Q (.panic c) a w)
    (hgl : s + 2 < W.heap.size) (htl : t < s + 2) (hxm : x < m) (hnot : ∀ b, b < s + 3 → ¬ fx.ownBlock = some b)
    (hcg : W.cell? ⟨s + 2, 1, none⟩ = some (.slice (some ⟨t, 0, none⟩) m m)) (hct : W.cell? ⟨t, x, none⟩ = some fx) (hfz : W.frozen? ⟨t, x, none⟩ = false)
    (hC : Calls Try.prog 36 #[fx] W.drew fun e w1 => ∃ uo ul uc, e = .returned (.slice uo ul uc) ∧ R (.slice uo ul uc) w1 ∧ Kept (fun b => fx.ownBlock = some b) W w1)
    (hK : ∀ uo ul uc w1, R (.slice uo ul uc) w1 → Kept (fun b => fx.ownBlock = some b) W w1 → Q .normal (((((((((((((((a.put (some 144) (.pointer (some ⟨s + 2, 0, none⟩))).put (some 145) (.pointer (some ⟨s + 2, 0, none⟩))).put (some 146) (.pointer (some ⟨s + 2, 1, none⟩))).put (some 147) (.slice (some ⟨t, 0, none⟩) m m)).put (some 148) (.int .i64 (x : Int))).put (some 149) (.pointer (some ⟨s + 2, 0, none⟩))).put (some 150) (.pointer (some ⟨s + 2, 0, none⟩))).put (some 151) (.pointer (some ⟨s + 2, 1, none⟩))).put (some 152) (.slice (some ⟨t, 0, none⟩) m m)).put (some 153) (.int .i64 (x : Int))).put (some 154) (.pointer (some ⟨t, x, none⟩))).put (some 155) (fx)).put (some 156) (.slice uo ul uc)).put (some 157) (.pointer (some ⟨t, x, none⟩))).put none undef) (w1.setCell ⟨t, x, none⟩ (.slice uo ul uc))) :
    (Code.region 35 #[{ dst := some 144, op := Op.move (Operand.tmp 13), type := 53, pos := "cycles.go:48", after := #[], guard := none }, { dst := some 145, op := Op.nilCheck (Operand.tmp 144), type := 0, pos := "cycles.go:48", after := #[{ on := 0, ground := Ground.data }], guard := none }, { dst := some 146, op := Op.fieldAddr 56 (Operand.tmp 145) 1, type := 0, pos := "cycles.go:48", after := #[{ on := 1, ground := Ground.data }], guard := none }, { dst := some 147, op := Op.load 25 (Operand.tmp 146), type := 25, pos := "cycles.go:48", after := #[{ on := 2, ground := Ground.data }], guard := none }, { dst := some 148, op := Op.move (Operand.tmp 18), type := 3, pos := "cycles.go:48", after := #[], guard := none }, { dst := some 149, op := Op.move (Operand.tmp 13), type := 53, pos := "cycles.go:48", after := #[], guard := none }, { dst := some 150, op := Op.nilCheck (Operand.tmp 149), type := 0, pos := "cycles.go:48", after := #[{ on := 5, ground := Ground.data }], guard := none }, { dst := some 151, op := Op.fieldAddr 56 (Operand.tmp 150) 1, type := 0, pos := "cycles.go:48", after := #[{ on := 6, ground := Ground.data }], guard := none }, { dst := some 152, op := Op.load 25 (Operand.tmp 151), type := 25, pos := "cycles.go:48", after := #[{ on := 7, ground := Ground.data }], guard := none }, { dst := some 153, op := Op.move (Operand.tmp 18), type := 3, pos := "cycles.go:48", after := #[], guard := none }, { dst := some 154, op := Op.indexAddr 25 (Operand.tmp 152) (Operand.tmp 153), type := 0, pos := "cycles.go:48", after := #[{ on := 8, ground := Ground.data }, { on := 9, ground := Ground.data }], guard := none }, { dst := some 155, op := Op.load 26 (Operand.tmp 154), type := 26, pos := "cycles.go:48", after := #[{ on := 10, ground := Ground.data }], guard := none }, { dst := some 156, op := Op.call { callee := Callee.value (Operand.func 36), args := #[Operand.tmp 155], argTypes := #[26] }, type := 26, pos := "cycles.go:48", after := #[{ on := 11, ground := Ground.data }], guard := none }, { dst := some 157, op := Op.indexAddr 25 (Operand.tmp 147) (Operand.tmp 148), type := 0, pos := "cycles.go:48", after := #[{ on := 3, ground := Ground.data }, { on := 4, ground := Ground.data }, { on := 0, ground := Ground.phase }, { on := 1, ground := Ground.phase }, { on := 2, ground := Ground.phase }, { on := 3, ground := Ground.phase }, { on := 4, ground := Ground.phase }, { on := 5, ground := Ground.phase }, { on := 6, ground := Ground.phase }, { on := 7, ground := Ground.phase }, { on := 8, ground := Ground.phase }, { on := 9, ground := Ground.phase }, { on := 10, ground := Ground.phase }, { on := 11, ground := Ground.phase }, { on := 12, ground := Ground.phase }], guard := none }, { dst := none, op := Op.store 26 (Operand.tmp 157) (Operand.tmp 156), type := 0, pos := "cycles.go:48", after := #[{ on := 13, ground := Ground.data }, { on := 12, ground := Ground.data }, { on := 12, ground := Ground.chain }, { on := 0, ground := Ground.phase }, { on := 1, ground := Ground.phase }, { on := 2, ground := Ground.phase }, { on := 3, ground := Ground.phase }, { on := 4, ground := Ground.phase }, { on := 5, ground := Ground.phase }, { on := 6, ground := Ground.phase }, { on := 7, ground := Ground.phase }, { on := 8, ground := Ground.phase }, { on := 9, ground := Ground.phase }, { on := 10, ground := Ground.phase }, { on := 11, ground := Ground.phase }, { on := 12, ground := Ground.phase }], guard := none }] true).wp Try.prog Q a W := by
  have HC : Hid (Calls Try.prog 36 #[fx] W.drew fun e w1 => ∃ uo ul uc, e = .returned (.slice uo ul uc) ∧ R (.slice uo ul uc) w1 ∧ Kept (fun b => fx.ownBlock = some b) W w1) := hC
  clear hC
  have h13 := tmps_at g13 (by omega)
  have hx := tmps_at gx (by omega)
  have hxz1 : (0 : Int) ≤ (x : Int) := by omega
  have hxz2 : (x : Int) < (m : Int) := by omega
  refine wp_region_F (by kernel_rfl) (fun w' => w'.cell? ⟨s + 2, 1, none⟩ = some (.slice (some ⟨t, 0, none⟩) m m) ∧ w'.cell? ⟨t, x, none⟩ = some fx ∧ w'.frozen? ⟨t, x, none⟩ = false) 14 15 rfl ?_
  have hS0 : W.drew.cell? ⟨s + 2, 1, none⟩ = some (.slice (some ⟨t, 0, none⟩) m m) ∧ W.drew.cell? ⟨t, x, none⟩ = some fx ∧ W.drew.frozen? ⟨t, x, none⟩ = false := ⟨hcg, hct, hfz⟩
  refine wpAnyF_take (fuel := 14) (i := 0) (oi := { dst := some 144, op := Op.move (Operand.tmp 13), type := 53, pos := "cycles.go:48", after := #[], guard := none }) (v := .pointer (some ⟨s + 2, 0, none⟩)) rfl (by kernel_rfl) (by kernel_rfl) (by kernel_rfl) (by kernel_rfl) (fun _ _ _ h => hQ _ _ _ _ _ h) hS0 rfl ?_ ?_
  · clear hcg hct hfz hS0 hK hQ HC hnot
    intro w' hSw
    obtain ⟨hs1, hs2, hs3⟩ := hSw
    go_simp
  dsimp only
  refine wpAnyF_take (fuel := 13) (i := 1) (oi := { dst := some 145, op := Op.nilCheck (Operand.tmp 144), type := 0, pos := "cycles.go:48", after := #[{ on := 0, ground := Ground.data }], guard := none }) (v := .pointer (some ⟨s + 2, 0, none⟩)) rfl (by kernel_rfl) (by kernel_rfl) (by kernel_rfl) (by kernel_rfl) (fun _ _ _ h => hQ _ _ _ _ _ h) hS0 rfl ?_ ?_
  · clear hcg hct hfz hS0 hK hQ HC hnot
    intro w' hSw
    obtain ⟨hs1, hs2, hs3⟩ := hSw
    go_simp
  dsimp only
  refine wpAnyF_take (fuel := 12) (i := 2) (oi := { dst := some 146, op := Op.fieldAddr 56 (Operand.tmp 145) 1, type := 0, pos := "cycles.go:48", after := #[{ on := 1, ground := Ground.data }], guard := none }) (v := .pointer (some ⟨s + 2, 1, none⟩)) rfl (by kernel_rfl) (by kernel_rfl) (by kernel_rfl) (by kernel_rfl) (fun _ _ _ h => hQ _ _ _ _ _ h) hS0 rfl ?_ ?_
  · clear hcg hct hfz hS0 hK hQ HC hnot
    intro w' hSw
    obtain ⟨hs1, hs2, hs3⟩ := hSw
    go_simp
  dsimp only
  refine wpAnyF_take (fuel := 11) (i := 3) (oi := { dst := some 147, op := Op.load 25 (Operand.tmp 146), type := 25, pos := "cycles.go:48", after := #[{ on := 2, ground := Ground.data }], guard := none }) (v := .slice (some ⟨t, 0, none⟩) m m) rfl (by kernel_rfl) (by kernel_rfl) (by kernel_rfl) (by kernel_rfl) (fun _ _ _ h => hQ _ _ _ _ _ h) hS0 rfl ?_ ?_
  · clear hcg hct hfz hS0 hK hQ HC hnot
    intro w' hSw
    obtain ⟨hs1, hs2, hs3⟩ := hSw
    go_simp
  dsimp only
  refine wpAnyF_take (fuel := 10) (i := 4) (oi := { dst := some 148, op := Op.move (Operand.tmp 18), type := 3, pos := "cycles.go:48", after := #[], guard := none }) (v := .int .i64 (x : Int)) rfl (by kernel_rfl) (by kernel_rfl) (by kernel_rfl) (by kernel_rfl) (fun _ _ _ h => hQ _ _ _ _ _ h) hS0 rfl ?_ ?_
  · clear hcg hct hfz hS0 hK hQ HC hnot
    intro w' hSw
    obtain ⟨hs1, hs2, hs3⟩ := hSw
    go_simp
  dsimp only
  refine wpAnyF_take (fuel := 9) (i := 5) (oi := { dst := some 149, op := Op.move (Operand.tmp 13), type := 53, pos := "cycles.go:48", after := #[], guard := none }) (v := .pointer (some ⟨s + 2, 0, none⟩)) rfl (by kernel_rfl) (by kernel_rfl) (by kernel_rfl) (by kernel_rfl) (fun _ _ _ h => hQ _ _ _ _ _ h) hS0 rfl ?_ ?_
  · clear hcg hct hfz hS0 hK hQ HC hnot
    intro w' hSw
    obtain ⟨hs1, hs2, hs3⟩ := hSw
    go_simp
  dsimp only
  refine wpAnyF_take (fuel := 8) (i := 6) (oi := { dst := some 150, op := Op.nilCheck (Operand.tmp 149), type := 0, pos := "cycles.go:48", after := #[{ on := 5, ground := Ground.data }], guard := none }) (v := .pointer (some ⟨s + 2, 0, none⟩)) rfl (by kernel_rfl) (by kernel_rfl) (by kernel_rfl) (by kernel_rfl) (fun _ _ _ h => hQ _ _ _ _ _ h) hS0 rfl ?_ ?_
  · clear hcg hct hfz hS0 hK hQ HC hnot
    intro w' hSw
    obtain ⟨hs1, hs2, hs3⟩ := hSw
    go_simp
  dsimp only
  refine wpAnyF_take (fuel := 7) (i := 7) (oi := { dst := some 151, op := Op.fieldAddr 56 (Operand.tmp 150) 1, type := 0, pos := "cycles.go:48", after := #[{ on := 6, ground := Ground.data }], guard := none }) (v := .pointer (some ⟨s + 2, 1, none⟩)) rfl (by kernel_rfl) (by kernel_rfl) (by kernel_rfl) (by kernel_rfl) (fun _ _ _ h => hQ _ _ _ _ _ h) hS0 rfl ?_ ?_
  · clear hcg hct hfz hS0 hK hQ HC hnot
    intro w' hSw
    obtain ⟨hs1, hs2, hs3⟩ := hSw
    go_simp
  dsimp only
  refine wpAnyF_take (fuel := 6) (i := 8) (oi := { dst := some 152, op := Op.load 25 (Operand.tmp 151), type := 25, pos := "cycles.go:48", after := #[{ on := 7, ground := Ground.data }], guard := none }) (v := .slice (some ⟨t, 0, none⟩) m m) rfl (by kernel_rfl) (by kernel_rfl) (by kernel_rfl) (by kernel_rfl) (fun _ _ _ h => hQ _ _ _ _ _ h) hS0 rfl ?_ ?_
  · clear hcg hct hfz hS0 hK hQ HC hnot
    intro w' hSw
    obtain ⟨hs1, hs2, hs3⟩ := hSw
    go_simp
  dsimp only
  refine wpAnyF_take (fuel := 5) (i := 9) (oi := { dst := some 153, op := Op.move (Operand.tmp 18), type := 3, pos := "cycles.go:48", after := #[], guard := none }) (v := .int .i64 (x : Int)) rfl (by kernel_rfl) (by kernel_rfl) (by kernel_rfl) (by kernel_rfl) (fun _ _ _ h => hQ _ _ _ _ _ h) hS0 rfl ?_ ?_
  · clear hcg hct hfz hS0 hK hQ HC hnot
    intro w' hSw
    obtain ⟨hs1, hs2, hs3⟩ := hSw
    go_simp
  dsimp only
  refine wpAnyF_take (fuel := 4) (i := 10) (oi := { dst := some 154, op := Op.indexAddr 25 (Operand.tmp 152) (Operand.tmp 153), type := 0, pos := "cycles.go:48", after := #[{ on := 8, ground := Ground.data }, { on := 9, ground := Ground.data }], guard := none }) (v := .pointer (some ⟨t, x, none⟩)) rfl (by kernel_rfl) (by kernel_rfl) (by kernel_rfl) (by kernel_rfl) (fun _ _ _ h => hQ _ _ _ _ _ h) hS0 rfl ?_ ?_
  · clear hcg hct hfz hS0 hK hQ HC hnot
    intro w' hSw
    obtain ⟨hs1, hs2, hs3⟩ := hSw
    go_simp
  dsimp only
  refine wpAnyF_take (fuel := 3) (i := 11) (oi := { dst := some 155, op := Op.load 26 (Operand.tmp 154), type := 26, pos := "cycles.go:48", after := #[{ on := 10, ground := Ground.data }], guard := none }) (v := fx) rfl (by kernel_rfl) (by kernel_rfl) (by kernel_rfl) (by kernel_rfl) (fun _ _ _ h => hQ _ _ _ _ _ h) hS0 rfl ?_ ?_
  · clear hcg hct hfz hS0 hK hQ HC hnot
    intro w' hSw
    obtain ⟨hs1, hs2, hs3⟩ := hSw
    go_simp
  dsimp only
  refine wpAnyF_one (fuel := 2) (i := 12) (o := { dst := some 156, op := Op.call { callee := Callee.value (Operand.func 36), args := #[Operand.tmp 155], argTypes := #[26] }, type := 26, pos := "cycles.go:48", after := #[{ on := 11, ground := Ground.data }], guard := none }) (by kernel_rfl) rfl rfl ?_
  intro K2 hK2
  refine wp_of_call (f := 36) (args := #[fx]) (w' := W.drew) ?_ ?_
  · clear hcg hct hfz hS0 hK hQ HC hnot hK2
    go_simp
  refine HC.out.mono ?_
  rintro e w1 ⟨uo, ul, uc, rfl, hR, k1⟩
  refine ⟨.slice uo ul uc, rfl, ?_⟩
  have hS1 : w1.cell? ⟨s + 2, 1, none⟩ = some (.slice (some ⟨t, 0, none⟩) m m) ∧ w1.cell? ⟨t, x, none⟩ = some fx ∧ w1.frozen? ⟨t, x, none⟩ = false :=
    ⟨(k1.cell (p := ⟨s + 2, 1, none⟩) hgl (hnot _ (by simp))).trans hcg, (k1.cell (p := ⟨t, x, none⟩) (by simp; omega) (hnot _ (by simp; omega))).trans hct, (k1.frozen (p := ⟨t, x, none⟩) (by simp; omega) (hnot _ (by simp; omega))).trans hfz⟩
  refine hK2.out _ _ (.inr hS1) ?_
  clear hK2 K2
  dsimp only
  have hK' := hK uo ul uc w1 hR k1
  obtain ⟨A, hA⟩ : ∃ A : Act, A = (((((((((((((a.put (some 144) (.pointer (some ⟨s + 2, 0, none⟩))).put (some 145) (.pointer (some ⟨s + 2, 0, none⟩))).put (some 146) (.pointer (some ⟨s + 2, 1, none⟩))).put (some 147) (.slice (some ⟨t, 0, none⟩) m m)).put (some 148) (.int .i64 (x : Int))).put (some 149) (.pointer (some ⟨s + 2, 0, none⟩))).put (some 150) (.pointer (some ⟨s + 2, 0, none⟩))).put (some 151) (.pointer (some ⟨s + 2, 1, none⟩))).put (some 152) (.slice (some ⟨t, 0, none⟩) m m)).put (some 153) (.int .i64 (x : Int))).put (some 154) (.pointer (some ⟨t, x, none⟩))).put (some 155) (fx)).put (some 156) (.slice uo ul uc)) := ⟨_, rfl⟩
  have q1 : A.tmps.size = 205 := by rw [hA]; simp [Act.put, hsz]
  have q2 : A.tmps[147]? = some (.slice (some ⟨t, 0, none⟩) m m) := by rw [hA]; simp [Act.put, hsz]
  have q3 : A.tmps[148]? = some (.int .i64 (x : Int)) := by rw [hA]; simp [Act.put, hsz]
  have q4 : A.tmps[156]? = some (.slice uo ul uc) := by rw [hA]; simp [Act.put, hsz]
  rw [← hA] at hK' ⊢
  clear hA hK h13 hx g13 gx hsz
  have p2 := tmps_at q2 (by omega)
  have p3 := tmps_at q3 (by omega)
  have p4 := tmps_at q4 (by omega)
  refine wpAnyF_take (fuel := 1) (i := 13) (oi := { dst := some 157, op := Op.indexAddr 25 (Operand.tmp 147) (Operand.tmp 148), type := 0, pos := "cycles.go:48", after := #[{ on := 3, ground := Ground.data }, { on := 4, ground := Ground.data }, { on := 0, ground := Ground.phase }, { on := 1, ground := Ground.phase }, { on := 2, ground := Ground.phase }, { on := 3, ground := Ground.phase }, { on := 4, ground := Ground.phase }, { on := 5, ground := Ground.phase }, { on := 6, ground := Ground.phase }, { on := 7, ground := Ground.phase }, { on := 8, ground := Ground.phase }, { on := 9, ground := Ground.phase }, { on := 10, ground := Ground.phase }, { on := 11, ground := Ground.phase }, { on := 12, ground := Ground.phase }], guard := none }) (v := .pointer (some ⟨t, x, none⟩)) rfl (by kernel_rfl) (by kernel_rfl) (by kernel_rfl) (by kernel_rfl) (fun _ _ _ h => hQ _ _ _ _ _ h) hS1 rfl ?_ ?_
  · clear hcg hct hfz hS0 hK' hQ HC hnot hS1 hR k1
    intro w' hSw
    obtain ⟨hs1, hs2, hs3⟩ := hSw
    go_simp
  dsimp only
  refine wpAnyF_last (fuel := 0) (o := { dst := none, op := Op.store 26 (Operand.tmp 157) (Operand.tmp 156), type := 0, pos := "cycles.go:48", after := #[{ on := 13, ground := Ground.data }, { on := 12, ground := Ground.data }, { on := 12, ground := Ground.chain }, { on := 0, ground := Ground.phase }, { on := 1, ground := Ground.phase }, { on := 2, ground := Ground.phase }, { on := 3, ground := Ground.phase }, { on := 4, ground := Ground.phase }, { on := 5, ground := Ground.phase }, { on := 6, ground := Ground.phase }, { on := 7, ground := Ground.phase }, { on := 8, ground := Ground.phase }, { on := 9, ground := Ground.phase }, { on := 10, ground := Ground.phase }, { on := 11, ground := Ground.phase }, { on := 12, ground := Ground.phase }], guard := none }) (by kernel_rfl) rfl rfl (by kernel_rfl) ?_
  refine wp_of_skip (w' := w1.setCell ⟨t, x, none⟩ (.slice uo ul uc)) ?_ ?_
  · clear hcg hct hfz hS0 hK' hQ HC hnot hR k1
    obtain ⟨hs1, hs2, hs3⟩ := hS1
    go_simp
  exact hK'

set_option maxHeartbeats 4000000 in
set_option maxRecDepth 100000 in
theorem reg37 (Q : Exit → Act → World → Prop) (a : Act) (W : World) (s t m x : Nat) (fx : Value) (R : Value → World → Prop) (hsz : a.tmps.size = 205)
    (g13 : a.tmps[13]? = some (.pointer (some ⟨s + 2, 0, none⟩))) (gx : a.tmps[18]? = some (.int .i64 (x : Int))) (hQ : ∀ c a d v w, Q (.panic c) (a.put (some d) v) w → Q (.panic c) a w)
    (hgl : s + 2 < W.heap.size) (htl : t < s + 2) (hxm : x < m) (hnot : ∀ b, b < s + 3 → ¬ fx.ownBlock = some b)
    (hcg : W.cell? ⟨s + 2, 2, none⟩ = some (.slice (some ⟨t, 0, none⟩) m m)) (hct : W.cell? ⟨t, x, none⟩ = some fx) (hfz : W.frozen? ⟨t, x, none⟩ = false)
    (hC : Calls Try.prog 36 #[fx] W.drew fun e w1 => ∃ uo ul uc, e = .returned (.slice uo ul uc) ∧ R (.slice uo ul uc) w1 ∧ Kept (fun b => fx.ownBlock = some b) W w1)
    (hK : ∀ uo ul uc w1, R (.slice uo ul uc) w1 → Kept (fun b => fx.ownBlock = some b) W w1 → Q .normal (((((((((((((((a.put (some 166) (.pointer (some ⟨s + 2, 0, none⟩))).put (some 167) (.pointer (some ⟨s + 2, 0, none⟩))).put (some 168) (.pointer (some ⟨s + 2, 2, none⟩))).put (some 169) (.slice (some ⟨t, 0, none⟩) m m)).put (some 170) (.int .i64 (x : Int))).put (some 171) (.pointer (some ⟨s + 2, 0, none⟩))).put (some 172) (.pointer (some ⟨s + 2, 0, none⟩))).put (some 173) (.pointer (some ⟨s + 2, 2, none⟩))).put (some 174) (.slice (some ⟨t, 0, none⟩) m m)).put (some 175) (.int .i64 (x : Int))).put (some 176) (.pointer (some ⟨t, x, none⟩))).put (some 177) (fx)).put (some 178) (.slice uo ul uc)).put (some 179) (.pointer (some ⟨t, x, none⟩))).put none undef) (w1.setCell ⟨t, x, none⟩ (.slice uo ul uc))) :
    (Code.region 37 #[{ dst := some 166, op := Op.move (Operand.tmp 13), type := 53, pos := "cycles.go:50", after := #[], guard := none }, { dst := some 167, op := Op.nilCheck (Operand.tmp 166), type := 0, pos := "cycles.go:50", after := #[{ on := 0, ground := Ground.data }], guard := none }, { dst := some 168, op := Op.fieldAddr 56 (Operand.tmp 167) 2, type := 0, pos := "cycles.go:50", after := #[{ on := 1, ground := Ground.data }], guard := none }, { dst := some 169, op := Op.load 25 (Operand.tmp 168), type := 25, pos := "cycles.go:50", after := #[{ on := 2, ground := Ground.data }], guard := none }, { dst := some 170, op := Op.move (Operand.tmp 18), type := 3, pos := "cycles.go:50", after := #[], guard := none }, { dst := some 171, op := Op.move (Operand.tmp 13), type := 53, pos := "cycles.go:50", after := #[], guard := none }, { dst := some 172, op := Op.nilCheck (Operand.tmp 171), type := 0, pos := "cycles.go:50", after := #[{ on := 5, ground := Ground.data }], guard := none }, { dst := some 173, op := Op.fieldAddr 56 (Operand.tmp 172) 2, type := 0, pos := "cycles.go:50", after := #[{ on := 6, ground := Ground.data }], guard := none }, { dst := some 174, op := Op.load 25 (Operand.tmp 173), type := 25, pos := "cycles.go:50", after := #[{ on := 7, ground := Ground.data }], guard := none }, { dst := some 175, op := Op.move (Operand.tmp 18), type := 3, pos := "cycles.go:50", after := #[], guard := none }, { dst := some 176, op := Op.indexAddr 25 (Operand.tmp 174) (Operand.tmp 175), type := 0, pos := "cycles.go:50", after := #[{ on := 8, ground := Ground.data }, { on := 9, ground := Ground.data }], guard := none }, { dst := some 177, op := Op.load 26 (Operand.tmp 176), type := 26, pos := "cycles.go:50", after := #[{ on := 10, ground := Ground.data }], guard := none }, { dst := some 178, op := Op.call { callee := Callee.value (Operand.func 36), args := #[Operand.tmp 177], argTypes := #[26] }, type := 26, pos := "cycles.go:50", after := #[{ on := 11, ground := Ground.data }], guard := none }, { dst := some 179, op := Op.indexAddr 25 (Operand.tmp 169) (Operand.tmp 170), type := 0, pos := "cycles.go:50", after := #[{ on := 3, ground := Ground.data }, { on := 4, ground := Ground.data }, { on := 0, ground := Ground.phase }, { on := 1, ground := Ground.phase }, { on := 2, ground := Ground.phase }, { on := 3, ground := Ground.phase }, { on := 4, ground := Ground.phase }, { on := 5, ground := Ground.phase }, { on := 6, ground := Ground.phase }, { on := 7, ground := Ground.phase }, { on := 8, ground := Ground.phase }, { on := 9, ground := Ground.phase }, { on := 10, ground := Ground.phase }, { on := 11, ground := Ground.phase }, { on := 12, ground := Ground.phase }], guard := none }, { dst := none, op := Op.store 26 (Operand.tmp 179) (Operand.tmp 178), type := 0, pos := "cycles.go:50", after := #[{ on := 13, ground := Ground.data }, { on := 12, ground := Ground.data }, { on := 12, ground := Ground.chain }, { on := 0, ground := Ground.phase }, { on := 1, ground := Ground.phase }, { on := 2, ground := Ground.phase }, { on := 3, ground := Ground.phase }, { on := 4, ground := Ground.phase }, { on := 5, ground := Ground.phase }, { on := 6, ground := Ground.phase }, { on := 7, ground := Ground.phase }, { on := 8, ground := Ground.phase }, { on := 9, ground := Ground.phase }, { on := 10, ground := Ground.phase }, { on := 11, ground := Ground.phase }, { on := 12, ground := Ground.phase }], guard := none }] true).wp Try.prog Q a W := by
  have HC : Hid (Calls Try.prog 36 #[fx] W.drew fun e w1 => ∃ uo ul uc, e = .returned (.slice uo ul uc) ∧ R (.slice uo ul uc) w1 ∧ Kept (fun b => fx.ownBlock = some b) W w1) := hC
  clear hC
  have h13 := tmps_at g13 (by omega)
  have hx := tmps_at gx (by omega)
  have hxz1 : (0 : Int) ≤ (x : Int) := by omega
  have hxz2 : (x : Int) < (m : Int) := by omega
  refine wp_region_F (by kernel_rfl) (fun w' => w'.cell? ⟨s + 2, 2, none⟩ = some (.slice (some ⟨t, 0, none⟩) m m) ∧ w'.cell? ⟨t, x, none⟩ = some fx ∧ w'.frozen? ⟨t, x, none⟩ = false) 14 15 rfl ?_
  have hS0 : W.drew.cell? ⟨s + 2, 2, none⟩ = some (.slice (some ⟨t, 0, none⟩) m m) ∧ W.drew.cell? ⟨t, x, none⟩ = some fx ∧ W.drew.frozen? ⟨t, x, none⟩ = false := ⟨hcg, hct, hfz⟩
  refine wpAnyF_take (fuel := 14) (i := 0) (oi := { dst := some 166, op := Op.move (Operand.tmp 13), type := 53, pos := "cycles.go:50", after := #[], guard := none }) (v := .pointer (some ⟨s + 2, 0, none⟩)) rfl (by kernel_rfl) (by kernel_rfl) (by kernel_rfl) (by kernel_rfl) (fun _ _ _ h => hQ _ _ _ _ _ h) hS0 rfl ?_ ?_
  · clear hcg hct hfz hS0 hK hQ HC hnot
    intro w' hSw
    obtain ⟨hs1, hs2, hs3⟩ := hSw
    go_simp
  dsimp only
  refine wpAnyF_take (fuel := 13) (i := 1) (oi := { dst := some 167, op := Op.nilCheck (Operand.tmp 166), type := 0, pos := "cycles.go:50", after := #[{ on := 0, ground := Ground.data }], guard := none }) (v := .pointer (some ⟨s + 2, 0, none⟩)) rfl (by kernel_rfl) (by kernel_rfl) (by kernel_rfl) (by kernel_rfl) (fun _ _ _ h => hQ _ _ _ _ _ h) hS0 rfl ?_ ?_
  · clear hcg hct hfz hS0 hK hQ HC hnot
    intro w' hSw
    obtain ⟨hs1, hs2, hs3⟩ := hSw
    go_simp
  dsimp only
  refine wpAnyF_take (fuel := 12) (i := 2) (oi := { dst := some 168, op := Op.fieldAddr 56 (Operand.tmp 167) 2, type := 0, pos := "cycles.go:50", after := #[{ on := 1, ground := Ground.data }], guard := none }) (v := .pointer (some ⟨s + 2, 2, none⟩)) rfl (by kernel_rfl) (by kernel_rfl) (by kernel_rfl) (by kernel_rfl) (fun _ _ _ h => hQ _ _ _ _ _ h) hS0 rfl ?_ ?_
  · clear hcg hct hfz hS0 hK hQ HC hnot
    intro w' hSw
    obtain ⟨hs1, hs2, hs3⟩ := hSw
    go_simp
  dsimp only
  refine wpAnyF_take (fuel := 11) (i := 3) (oi := { dst := some 169, op := Op.load 25 (Operand.tmp 168), type := 25, pos := "cycles.go:50", after := #[{ on := 2, ground := Ground.data }], guard := none }) (v := .slice (some ⟨t, 0, none⟩) m m) rfl (by kernel_rfl) (by kernel_rfl) (by kernel_rfl) (by kernel_rfl) (fun _ _ _ h => hQ _ _ _ _ _ h) hS0 rfl ?_ ?_
  · clear hcg hct hfz hS0 hK hQ HC hnot
    intro w' hSw
    obtain ⟨hs1, hs2, hs3⟩ := hSw
    go_simp
  dsimp only
  refine wpAnyF_take (fuel := 10) (i := 4) (oi := { dst := some 170, op := Op.move (Operand.tmp 18), type := 3, pos := "cycles.go:50", after := #[], guard := none }) (v := .int .i64 (x : Int)) rfl (by kernel_rfl) (by kernel_rfl) (by kernel_rfl) (by kernel_rfl) (fun _ _ _ h => hQ _ _ _ _ _ h) hS0 rfl ?_ ?_
  · clear hcg hct hfz hS0 hK hQ HC hnot
    intro w' hSw
    obtain ⟨hs1, hs2, hs3⟩ := hSw
    go_simp
  dsimp only
  refine wpAnyF_take (fuel := 9) (i := 5) (oi := { dst := some 171, op := Op.move (Operand.tmp 13), type := 53, pos := "cycles.go:50", after := #[], guard := none }) (v := .pointer (some ⟨s + 2, 0, none⟩)) rfl (by kernel_rfl) (by kernel_rfl) (by kernel_rfl) (by kernel_rfl) (fun _ _ _ h => hQ _ _ _ _ _ h) hS0 rfl ?_ ?_
  · clear hcg hct hfz hS0 hK hQ HC hnot
    intro w' hSw
    obtain ⟨hs1, hs2, hs3⟩ := hSw
    go_simp
  dsimp only
  refine wpAnyF_take (fuel := 8) (i := 6) (oi := { dst := some 172, op := Op.nilCheck (Operand.tmp 171), type := 0, pos := "cycles.go:50", after := #[{ on := 5, ground := Ground.data }], guard := none }) (v := .pointer (some ⟨s + 2, 0, none⟩)) rfl (by kernel_rfl) (by kernel_rfl) (by kernel_rfl) (by kernel_rfl) (fun _ _ _ h => hQ _ _ _ _ _ h) hS0 rfl ?_ ?_
  · clear hcg hct hfz hS0 hK hQ HC hnot
    intro w' hSw
    obtain ⟨hs1, hs2, hs3⟩ := hSw
    go_simp
  dsimp only
  refine wpAnyF_take (fuel := 7) (i := 7) (oi := { dst := some 173, op := Op.fieldAddr 56 (Operand.tmp 172) 2, type := 0, pos := "cycles.go:50", after := #[{ on := 6, ground := Ground.data }], guard := none }) (v := .pointer (some ⟨s + 2, 2, none⟩)) rfl (by kernel_rfl) (by kernel_rfl) (by kernel_rfl) (by kernel_rfl) (fun _ _ _ h => hQ _ _ _ _ _ h) hS0 rfl ?_ ?_
  · clear hcg hct hfz hS0 hK hQ HC hnot
    intro w' hSw
    obtain ⟨hs1, hs2, hs3⟩ := hSw
    go_simp
  dsimp only
  refine wpAnyF_take (fuel := 6) (i := 8) (oi := { dst := some 174, op := Op.load 25 (Operand.tmp 173), type := 25, pos := "cycles.go:50", after := #[{ on := 7, ground := Ground.data }], guard := none }) (v := .slice (some ⟨t, 0, none⟩) m m) rfl (by kernel_rfl) (by kernel_rfl) (by kernel_rfl) (by kernel_rfl) (fun _ _ _ h => hQ _ _ _ _ _ h) hS0 rfl ?_ ?_
  · clear hcg hct hfz hS0 hK hQ HC hnot
    intro w' hSw
    obtain ⟨hs1, hs2, hs3⟩ := hSw
    go_simp
  dsimp only
  refine wpAnyF_take (fuel := 5) (i := 9) (oi := { dst := some 175, op := Op.move (Operand.tmp 18), type := 3, pos := "cycles.go:50", after := #[], guard := none }) (v := .int .i64 (x : Int)) rfl (by kernel_rfl) (by kernel_rfl) (by kernel_rfl) (by kernel_rfl) (fun _ _ _ h => hQ _ _ _ _ _ h) hS0 rfl ?_ ?_
  · clear hcg hct hfz hS0 hK hQ HC hnot
    intro w' hSw
    obtain ⟨hs1, hs2, hs3⟩ := hSw
    go_simp
  dsimp only
  refine wpAnyF_take (fuel := 4) (i := 10) (oi := { dst := some 176, op := Op.indexAddr 25 (Operand.tmp 174) (Operand.tmp 175), type := 0, pos := "cycles.go:50", after := #[{ on := 8, ground := Ground.data }, { on := 9, ground := Ground.data }], guard := none }) (v := .pointer (some ⟨t, x, none⟩)) rfl (by kernel_rfl) (by kernel_rfl) (by kernel_rfl) (by kernel_rfl) (fun _ _ _ h => hQ _ _ _ _ _ h) hS0 rfl ?_ ?_
  · clear hcg hct hfz hS0 hK hQ HC hnot
    intro w' hSw
    obtain ⟨hs1, hs2, hs3⟩ := hSw
    go_simp
  dsimp only
  refine wpAnyF_take (fuel := 3) (i := 11) (oi := { dst := some 177, op := Op.load 26 (Operand.tmp 176), type := 26, pos := "cycles.go:50", after := #[{ on := 10, ground := Ground.data }], guard := none }) (v := fx) rfl (by kernel_rfl) (by kernel_rfl) (by kernel_rfl) (by kernel_rfl) (fun _ _ _ h => hQ _ _ _ _ _ h) hS0 rfl ?_ ?_
  · clear hcg hct hfz hS0 hK hQ HC hnot
    intro w' hSw
    obtain ⟨hs1, hs2, hs3⟩ := hSw
    go_simp
  dsimp only
  refine wpAnyF_one (fuel := 2) (i := 12) (o := { dst := some 178, op := Op.call { callee := Callee.value (Operand.func 36), args := #[Operand.tmp 177], argTypes := #[26] }, type := 26, pos := "cycles.go:50", after := #[{ on := 11, ground := Ground.data }], guard := none }) (by kernel_rfl) rfl rfl ?_
  intro K2 hK2
  refine wp_of_call (f := 36) (args := #[fx]) (w' := W.drew) ?_ ?_
  · clear hcg hct hfz hS0 hK hQ HC hnot hK2
    go_simp
  refine HC.out.mono ?_
  rintro e w1 ⟨uo, ul, uc, rfl, hR, k1⟩
  refine ⟨.slice uo ul uc, rfl, ?_⟩
  have hS1 : w1.cell? ⟨s + 2, 2, none⟩ = some (.slice (some ⟨t, 0, none⟩) m m) ∧ w1.cell? ⟨t, x, none⟩ = some fx ∧ w1.frozen? ⟨t, x, none⟩ = false :=
    ⟨(k1.cell (p := ⟨s + 2, 2, none⟩) hgl (hnot _ (by simp))).trans hcg, (k1.cell (p := ⟨t, x, none⟩) (by simp; omega) (hnot _ (by simp; omega))).trans hct, (k1.frozen (p := ⟨t, x, none⟩) (by simp; omega) (hnot _ (by simp; omega))).trans hfz⟩
  refine hK2.out _ _ (.inr hS1) ?_
  clear hK2 K2
  dsimp only
  have hK' := hK uo ul uc w1 hR k1
  obtain ⟨A, hA⟩ : ∃ A : Act, A = (((((((((((((a.put (some 166) (.pointer (some ⟨s + 2, 0, none⟩))).put (some 167) (.pointer (some ⟨s + 2, 0, none⟩))).put (some 168) (.pointer (some ⟨s + 2, 2, none⟩))).put (some 169) (.slice (some ⟨t, 0, none⟩) m m)).put (some 170) (.int .i64 (x : Int))).put (some 171) (.pointer (some ⟨s + 2, 0, none⟩))).put (some 172) (.pointer (some ⟨s + 2, 0, none⟩))).put (some 173) (.pointer (some ⟨s + 2, 2, none⟩))).put (some 174) (.slice (some ⟨t, 0, none⟩) m m)).put (some 175) (.int .i64 (x : Int))).put (some 176) (.pointer (some ⟨t, x, none⟩))).put (some 177) (fx)).put (some 178) (.slice uo ul uc)) := ⟨_, rfl⟩
  have q1 : A.tmps.size = 205 := by rw [hA]; simp [Act.put, hsz]
  have q2 : A.tmps[169]? = some (.slice (some ⟨t, 0, none⟩) m m) := by rw [hA]; simp [Act.put, hsz]
  have q3 : A.tmps[170]? = some (.int .i64 (x : Int)) := by rw [hA]; simp [Act.put, hsz]
  have q4 : A.tmps[178]? = some (.slice uo ul uc) := by rw [hA]; simp [Act.put, hsz]
  rw [← hA] at hK' ⊢
  clear hA hK h13 hx g13 gx hsz
  have p2 := tmps_at q2 (by omega)
  have p3 := tmps_at q3 (by omega)
  have p4 := tmps_at q4 (by omega)
  refine wpAnyF_take (fuel := 1) (i := 13) (oi := { dst := some 179, op := Op.indexAddr 25 (Operand.tmp 169) (Operand.tmp 170), type := 0, pos := "cycles.go:50", after := #[{ on := 3, ground := Ground.data }, { on := 4, ground := Ground.data }, { on := 0, ground := Ground.phase }, { on := 1, ground := Ground.phase }, { on := 2, ground := Ground.phase }, { on := 3, ground := Ground.phase }, { on := 4, ground := Ground.phase }, { on := 5, ground := Ground.phase }, { on := 6, ground := Ground.phase }, { on := 7, ground := Ground.phase }, { on := 8, ground := Ground.phase }, { on := 9, ground := Ground.phase }, { on := 10, ground := Ground.phase }, { on := 11, ground := Ground.phase }, { on := 12, ground := Ground.phase }], guard := none }) (v := .pointer (some ⟨t, x, none⟩)) rfl (by kernel_rfl) (by kernel_rfl) (by kernel_rfl) (by kernel_rfl) (fun _ _ _ h => hQ _ _ _ _ _ h) hS1 rfl ?_ ?_
  · clear hcg hct hfz hS0 hK' hQ HC hnot hS1 hR k1
    intro w' hSw
    obtain ⟨hs1, hs2, hs3⟩ := hSw
    go_simp
  dsimp only
  refine wpAnyF_last (fuel := 0) (o := { dst := none, op := Op.store 26 (Operand.tmp 179) (Operand.tmp 178), type := 0, pos := "cycles.go:50", after := #[{ on := 13, ground := Ground.data }, { on := 12, ground := Ground.data }, { on := 12, ground := Ground.chain }, { on := 0, ground := Ground.phase }, { on := 1, ground := Ground.phase }, { on := 2, ground := Ground.phase }, { on := 3, ground := Ground.phase }, { on := 4, ground := Ground.phase }, { on := 5, ground := Ground.phase }, { on := 6, ground := Ground.phase }, { on := 7, ground := Ground.phase }, { on := 8, ground := Ground.phase }, { on := 9, ground := Ground.phase }, { on := 10, ground := Ground.phase }, { on := 11, ground := Ground.phase }, { on := 12, ground := Ground.phase }], guard := none }) (by kernel_rfl) rfl rfl (by kernel_rfl) ?_
  refine wp_of_skip (w' := w1.setCell ⟨t, x, none⟩ (.slice uo ul uc)) ?_ ?_
  · clear hcg hct hfz hS0 hK' hQ HC hnot hR k1
    obtain ⟨hs1, hs2, hs3⟩ := hS1
    go_simp
  exact hK'

end Go.Proofs.Qxb6601793a
