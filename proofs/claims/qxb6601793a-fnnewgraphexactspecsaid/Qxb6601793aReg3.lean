import Derived.Test.Qxb6601793aReg2
namespace Go.Proofs.Qxb6601793a
open Go.RowKit Go.Deep Scc

set_option maxHeartbeats 4000000 in
set_option maxRecDepth 100000 in
theorem reg38 (Q : Exit → Act → World → Prop) (a : Act) (W : World) (s t bf m x y fl fc : Nat) (fo : Option Addr) (z : Value) (hsz : a.tmps.size = 205)
    (g13 : a.tmps[13]? = some (.pointer (some ⟨s + 2, 0, none⟩))) (g18 : a.tmps[18]? = some (.int .i64 (x : Int))) (hQ : ∀ c a d v w, Q (.panic c) (a.put (some d) v) w → Q (.panic c) a w)
    (hxm : x < m) (hm : m ≤ 65536) (hy : y ≤ 1099511627776) (hfl : fl ≤ 1099511627776)
    (c1 : W.cell? ⟨s + 2, 3, none⟩ = some (.slice (some ⟨bf, 0, none⟩) (m + 1) (m + 1))) (c2 : W.cell? ⟨s + 2, 1, none⟩ = some (.slice (some ⟨t, 0, none⟩) m m)) (c3 : W.cell? ⟨bf, x, none⟩ = some (.int .i64 (y : Int))) (c4 : W.cell? ⟨t, x, none⟩ = some (.slice fo fl fc)) (c5 : W.cell? ⟨bf, x + 1, none⟩ = some z) (c6 : W.frozen? ⟨bf, x + 1, none⟩ = false)
    (hK : Q .normal ((((((((((((((((((((((((a.put (some 180) (.pointer (some ⟨s + 2, 0, none⟩))).put (some 181) (.pointer (some ⟨s + 2, 0, none⟩))).put (some 182) (.pointer (some ⟨s + 2, 3, none⟩))).put (some 183) (.slice (some ⟨bf, 0, none⟩) (m + 1) (m + 1))).put (some 184) (.int .i64 (x : Int))).put (some 185) (.int .i64 ((x : Int) + 1))).put (some 186) (.pointer (some ⟨s + 2, 0, none⟩))).put (some 187) (.pointer (some ⟨s + 2, 0, none⟩))).put (some 188) (.pointer (some ⟨s + 2, 3, none⟩))).put (some 189) (.slice (some ⟨bf, 0, none⟩) (m + 1) (m + 1))).put (some 190) (.int .i64 (x : Int))).put (some 191) (.pointer (some ⟨bf, x, none⟩))).put (some 192) (.int .i64 (y : Int))).put (some 193) (.pointer (some ⟨s + 2, 0, none⟩))).put (some 194) (.pointer (some ⟨s + 2, 0, none⟩))).put (some 195) (.pointer (some ⟨s + 2, 1, none⟩))).put (some 196) (.slice (some ⟨t, 0, none⟩) m m)).put (some 197) (.int .i64 (x : Int))).put (some 198) (.pointer (some ⟨t, x, none⟩))).put (some 199) (.slice fo fl fc)).put (some 200) (.int .i64 (fl : Int))).put (some 201) (.int .i64 ((y : Int) + (fl : Int)))).put (some 202) (.pointer (some ⟨bf, x + 1, none⟩))).put none undef) (W.drew.setCell ⟨bf, x + 1, none⟩ (.int .i64 ((y : Int) + (fl : Int))))) :
    (Code.region 38 #[{ dst := some 180, op := Op.move (Operand.tmp 13), type := 53, pos := "cycles.go:51", after := #[], guard := none }, { dst := some 181, op := Op.nilCheck (Operand.tmp 180), type := 0, pos := "cycles.go:51", after := #[{ on := 0, ground := Ground.data }], guard := none }, { dst := some 182, op := Op.fieldAddr 56 (Operand.tmp 181) 3, type := 0, pos := "cycles.go:51", after := #[{ on := 1, ground := Ground.data }], guard := none }, { dst := some 183, op := Op.load 26 (Operand.tmp 182), type := 26, pos := "cycles.go:51", after := #[{ on := 2, ground := Ground.data }], guard := none }, { dst := some 184, op := Op.move (Operand.tmp 18), type := 3, pos := "cycles.go:51", after := #[], guard := none }, { dst := some 185, op := Op.binOp BinOp.add 3 (Operand.tmp 184) (Operand.const (Value.int IntKind.i64 1)) 3, type := 3, pos := "cycles.go:51", after := #[{ on := 4, ground := Ground.data }], guard := none }, { dst := some 186, op := Op.move (Operand.tmp 13), type := 53, pos := "cycles.go:51", after := #[], guard := none }, { dst := some 187, op := Op.nilCheck (Operand.tmp 186), type := 0, pos := "cycles.go:51", after := #[{ on := 6, ground := Ground.data }], guard := none }, { dst := some 188, op := Op.fieldAddr 56 (Operand.tmp 187) 3, type := 0, pos := "cycles.go:51", after := #[{ on := 7, ground := Ground.data }], guard := none }, { dst := some 189, op := Op.load 26 (Operand.tmp 188), type := 26, pos := "cycles.go:51", after := #[{ on := 8, ground := Ground.data }], guard := none }, { dst := some 190, op := Op.move (Operand.tmp 18), type := 3, pos := "cycles.go:51", after := #[], guard := none }, { dst := some 191, op := Op.indexAddr 26 (Operand.tmp 189) (Operand.tmp 190), type := 0, pos := "cycles.go:51", after := #[{ on := 9, ground := Ground.data }, { on := 10, ground := Ground.data }], guard := none }, { dst := some 192, op := Op.load 3 (Operand.tmp 191), type := 3, pos := "cycles.go:51", after := #[{ on := 11, ground := Ground.data }], guard := none }, { dst := some 193, op := Op.move (Operand.tmp 13), type := 53, pos := "cycles.go:51", after := #[], guard := none }, { dst := some 194, op := Op.nilCheck (Operand.tmp 193), type := 0, pos := "cycles.go:51", after := #[{ on := 13, ground := Ground.data }], guard := none }, { dst := some 195, op := Op.fieldAddr 56 (Operand.tmp 194) 1, type := 0, pos := "cycles.go:51", after := #[{ on := 14, ground := Ground.data }], guard := none }, { dst := some 196, op := Op.load 25 (Operand.tmp 195), type := 25, pos := "cycles.go:51", after := #[{ on := 15, ground := Ground.data }], guard := none }, { dst := some 197, op := Op.move (Operand.tmp 18), type := 3, pos := "cycles.go:51", after := #[], guard := none }, { dst := some 198, op := Op.indexAddr 25 (Operand.tmp 196) (Operand.tmp 197), type := 0, pos := "cycles.go:51", after := #[{ on := 16, ground := Ground.data }, { on := 17, ground := Ground.data }], guard := none }, { dst := some 199, op := Op.load 26 (Operand.tmp 198), type := 26, pos := "cycles.go:51", after := #[{ on := 18, ground := Ground.data }], guard := none }, { dst := some 200, op := Op.call { callee := Callee.builtin Builtin.len, args := #[Operand.tmp 199], argTypes := #[26] }, type := 3, pos := "cycles.go:51", after := #[{ on := 19, ground := Ground.data }], guard := none }, { dst := some 201, op := Op.binOp BinOp.add 3 (Operand.tmp 192) (Operand.tmp 200) 3, type := 3, pos := "cycles.go:51", after := #[{ on := 12, ground := Ground.data }, { on := 20, ground := Ground.data }], guard := none }, { dst := some 202, op := Op.indexAddr 26 (Operand.tmp 183) (Operand.tmp 185), type := 0, pos := "cycles.go:51", after := #[{ on := 3, ground := Ground.data }, { on := 5, ground := Ground.data }, { on := 0, ground := Ground.phase }, { on := 1, ground := Ground.phase }, { on := 2, ground := Ground.phase }, { on := 3, ground := Ground.phase }, { on := 4, ground := Ground.phase }, { on := 5, ground := Ground.phase }, { on := 6, ground := Ground.phase }, { on := 7, ground := Ground.phase }, { on := 8, ground := Ground.phase }, { on := 9, ground := Ground.phase }, { on := 10, ground := Ground.phase }, { on := 11, ground := Ground.phase }, { on := 12, ground := Ground.phase }, { on := 13, ground := Ground.phase }, { on := 14, ground := Ground.phase }, { on := 15, ground := Ground.phase }, { on := 16, ground := Ground.phase }, { on := 17, ground := Ground.phase }, { on := 18, ground := Ground.phase }, { on := 19, ground := Ground.phase }, { on := 20, ground := Ground.phase }, { on := 21, ground := Ground.phase }], guard := none }, { dst := none, op := Op.store 3 (Operand.tmp 202) (Operand.tmp 201), type := 0, pos := "cycles.go:51", after := #[{ on := 22, ground := Ground.data }, { on := 21, ground := Ground.data }, { on := 0, ground := Ground.phase }, { on := 1, ground := Ground.phase }, { on := 2, ground := Ground.phase }, { on := 3, ground := Ground.phase }, { on := 4, ground := Ground.phase }, { on := 5, ground := Ground.phase }, { on := 6, ground := Ground.phase }, { on := 7, ground := Ground.phase }, { on := 8, ground := Ground.phase }, { on := 9, ground := Ground.phase }, { on := 10, ground := Ground.phase }, { on := 11, ground := Ground.phase }, { on := 12, ground := Ground.phase }, { on := 13, ground := Ground.phase }, { on := 14, ground := Ground.phase }, { on := 15, ground := Ground.phase }, { on := 16, ground := Ground.phase }, { on := 17, ground := Ground.phase }, { on := 18, ground := Ground.phase }, { on := 19, ground := Ground.phase }, { on := 20, ground := Ground.phase }, { on := 21, ground := Ground.phase }], guard := none }] true).wp Try.prog Q a W := by
  have h13 := tmps_at g13 (by omega)
  have h18 := tmps_at g18 (by omega)
  have hwr1 : IntKind.i64.wrap ((x : Int) + 1) = (x : Int) + 1 := IntWalk.i64_in _ (by omega)
  have hwr2 : IntKind.i64.wrap ((y : Int) + (fl : Int)) = (y : Int) + (fl : Int) := IntWalk.i64_in _ (by omega)
  have hxz1 : (0 : Int) ≤ (x : Int) := by omega
  have hxz2 : (x : Int) < (m : Int) := by omega
  have hxz3 : (0 : Int) ≤ (x : Int) + 1 := by omega
  have hxz4 : (x : Int) < (m : Int) + 1 := by omega
  refine wp_region_F (by kernel_rfl) (fun w' => w'.cell? ⟨s + 2, 3, none⟩ = some (.slice (some ⟨bf, 0, none⟩) (m + 1) (m + 1)) ∧ w'.cell? ⟨s + 2, 1, none⟩ = some (.slice (some ⟨t, 0, none⟩) m m) ∧ w'.cell? ⟨bf, x, none⟩ = some (.int .i64 (y : Int)) ∧ w'.cell? ⟨t, x, none⟩ = some (.slice fo fl fc) ∧ w'.cell? ⟨bf, x + 1, none⟩ = some z ∧ w'.frozen? ⟨bf, x + 1, none⟩ = false) 23 24 rfl ?_
  have hS0 : W.drew.cell? ⟨s + 2, 3, none⟩ = some (.slice (some ⟨bf, 0, none⟩) (m + 1) (m + 1)) ∧ W.drew.cell? ⟨s + 2, 1, none⟩ = some (.slice (some ⟨t, 0, none⟩) m m) ∧ W.drew.cell? ⟨bf, x, none⟩ = some (.int .i64 (y : Int)) ∧ W.drew.cell? ⟨t, x, none⟩ = some (.slice fo fl fc) ∧ W.drew.cell? ⟨bf, x + 1, none⟩ = some z ∧ W.drew.frozen? ⟨bf, x + 1, none⟩ = false := ⟨c1, c2, c3, c4, c5, c6⟩
  clear c1 c2 c3 c4 c5 c6
  refine wpAnyF_take (fuel := 23) (i := 0) (oi := { dst := some 180, op := Op.move (Operand.tmp 13), type := 53, pos := "cycles.go:51", after := #[], guard := none }) (v := .pointer (some ⟨s + 2, 0, none⟩)) rfl (by kernel_rfl) (by kernel_rfl) (by kernel_rfl) (by kernel_rfl) (fun _ _ _ h => hQ _ _ _ _ _ h) hS0 rfl ?_ ?_
  · clear hS0 hK hQ
    intro w' hSw
    obtain ⟨hs1, hs2, hs3, hs4, hs5, hs6⟩ := hSw
    go_simp
  dsimp only
  refine wpAnyF_take (fuel := 22) (i := 1) (oi := { dst := some 181, op := Op.nilCheck (Operand.tmp 180), type := 0, pos := "cycles.go:51", after := #[{ on := 0, ground := Ground.data }], guard := none }) (v := .pointer (some ⟨s + 2, 0, none⟩)) rfl (by kernel_rfl) (by kernel_rfl) (by kernel_rfl) (by kernel_rfl) (fun _ _ _ h => hQ _ _ _ _ _ h) hS0 rfl ?_ ?_
  · clear hS0 hK hQ
    intro w' hSw
    obtain ⟨hs1, hs2, hs3, hs4, hs5, hs6⟩ := hSw
    go_simp
  dsimp only
  refine wpAnyF_take (fuel := 21) (i := 2) (oi := { dst := some 182, op := Op.fieldAddr 56 (Operand.tmp 181) 3, type := 0, pos := "cycles.go:51", after := #[{ on := 1, ground := Ground.data }], guard := none }) (v := .pointer (some ⟨s + 2, 3, none⟩)) rfl (by kernel_rfl) (by kernel_rfl) (by kernel_rfl) (by kernel_rfl) (fun _ _ _ h => hQ _ _ _ _ _ h) hS0 rfl ?_ ?_
  · clear hS0 hK hQ
    intro w' hSw
    obtain ⟨hs1, hs2, hs3, hs4, hs5, hs6⟩ := hSw
    go_simp
  dsimp only
  refine wpAnyF_take (fuel := 20) (i := 3) (oi := { dst := some 183, op := Op.load 26 (Operand.tmp 182), type := 26, pos := "cycles.go:51", after := #[{ on := 2, ground := Ground.data }], guard := none }) (v := .slice (some ⟨bf, 0, none⟩) (m + 1) (m + 1)) rfl (by kernel_rfl) (by kernel_rfl) (by kernel_rfl) (by kernel_rfl) (fun _ _ _ h => hQ _ _ _ _ _ h) hS0 rfl ?_ ?_
  · clear hS0 hK hQ
    intro w' hSw
    obtain ⟨hs1, hs2, hs3, hs4, hs5, hs6⟩ := hSw
    go_simp
  dsimp only
  refine wpAnyF_take (fuel := 19) (i := 4) (oi := { dst := some 184, op := Op.move (Operand.tmp 18), type := 3, pos := "cycles.go:51", after := #[], guard := none }) (v := .int .i64 (x : Int)) rfl (by kernel_rfl) (by kernel_rfl) (by kernel_rfl) (by kernel_rfl) (fun _ _ _ h => hQ _ _ _ _ _ h) hS0 rfl ?_ ?_
  · clear hS0 hK hQ
    intro w' hSw
    obtain ⟨hs1, hs2, hs3, hs4, hs5, hs6⟩ := hSw
    go_simp
  dsimp only
  refine wpAnyF_take (fuel := 18) (i := 5) (oi := { dst := some 185, op := Op.binOp BinOp.add 3 (Operand.tmp 184) (Operand.const (Value.int IntKind.i64 1)) 3, type := 3, pos := "cycles.go:51", after := #[{ on := 4, ground := Ground.data }], guard := none }) (v := .int .i64 ((x : Int) + 1)) rfl (by kernel_rfl) (by kernel_rfl) (by kernel_rfl) (by kernel_rfl) (fun _ _ _ h => hQ _ _ _ _ _ h) hS0 rfl ?_ ?_
  · clear hS0 hK hQ
    intro w' hSw
    obtain ⟨hs1, hs2, hs3, hs4, hs5, hs6⟩ := hSw
    go_simp
  dsimp only
  obtain ⟨A0, hA⟩ : ∃ A : Act, A = ((((((a.put (some 180) (.pointer (some ⟨s + 2, 0, none⟩))).put (some 181) (.pointer (some ⟨s + 2, 0, none⟩))).put (some 182) (.pointer (some ⟨s + 2, 3, none⟩))).put (some 183) (.slice (some ⟨bf, 0, none⟩) (m + 1) (m + 1))).put (some 184) (.int .i64 (x : Int))).put (some 185) (.int .i64 ((x : Int) + 1))) := ⟨_, rfl⟩
  have sz0 : A0.tmps.size = 205 := by rw [hA]; simp [Act.put, hsz]
  have q0_13 : A0.tmps[13]? = some (.pointer (some ⟨s + 2, 0, none⟩)) := by rw [hA]; simp [Act.put, hsz, h13]
  have q0_18 : A0.tmps[18]? = some (.int .i64 (x : Int)) := by rw [hA]; simp [Act.put, hsz, h18]
  have q0_183 : A0.tmps[183]? = some (.slice (some ⟨bf, 0, none⟩) (m + 1) (m + 1)) := by rw [hA]; simp [Act.put, hsz]
  have q0_185 : A0.tmps[185]? = some (.int .i64 ((x : Int) + 1)) := by rw [hA]; simp [Act.put, hsz]
  rw [← hA] at hK ⊢
  clear hA g13 g18 h13 h18
  clear hsz
  have pq0_13 := tmps_at q0_13 (by omega)
  have pq0_18 := tmps_at q0_18 (by omega)
  have pq0_183 := tmps_at q0_183 (by omega)
  have pq0_185 := tmps_at q0_185 (by omega)
  refine wpAnyF_take (fuel := 17) (i := 6) (oi := { dst := some 186, op := Op.move (Operand.tmp 13), type := 53, pos := "cycles.go:51", after := #[], guard := none }) (v := .pointer (some ⟨s + 2, 0, none⟩)) rfl (by kernel_rfl) (by kernel_rfl) (by kernel_rfl) (by kernel_rfl) (fun _ _ _ h => hQ _ _ _ _ _ h) hS0 rfl ?_ ?_
  · clear hS0 hK hQ
    intro w' hSw
    obtain ⟨hs1, hs2, hs3, hs4, hs5, hs6⟩ := hSw
    go_simp
  dsimp only
  refine wpAnyF_take (fuel := 16) (i := 7) (oi := { dst := some 187, op := Op.nilCheck (Operand.tmp 186), type := 0, pos := "cycles.go:51", after := #[{ on := 6, ground := Ground.data }], guard := none }) (v := .pointer (some ⟨s + 2, 0, none⟩)) rfl (by kernel_rfl) (by kernel_rfl) (by kernel_rfl) (by kernel_rfl) (fun _ _ _ h => hQ _ _ _ _ _ h) hS0 rfl ?_ ?_
  · clear hS0 hK hQ
    intro w' hSw
    obtain ⟨hs1, hs2, hs3, hs4, hs5, hs6⟩ := hSw
    go_simp
  dsimp only
  refine wpAnyF_take (fuel := 15) (i := 8) (oi := { dst := some 188, op := Op.fieldAddr 56 (Operand.tmp 187) 3, type := 0, pos := "cycles.go:51", after := #[{ on := 7, ground := Ground.data }], guard := none }) (v := .pointer (some ⟨s + 2, 3, none⟩)) rfl (by kernel_rfl) (by kernel_rfl) (by kernel_rfl) (by kernel_rfl) (fun _ _ _ h => hQ _ _ _ _ _ h) hS0 rfl ?_ ?_
  · clear hS0 hK hQ
    intro w' hSw
    obtain ⟨hs1, hs2, hs3, hs4, hs5, hs6⟩ := hSw
    go_simp
  dsimp only
  refine wpAnyF_take (fuel := 14) (i := 9) (oi := { dst := some 189, op := Op.load 26 (Operand.tmp 188), type := 26, pos := "cycles.go:51", after := #[{ on := 8, ground := Ground.data }], guard := none }) (v := .slice (some ⟨bf, 0, none⟩) (m + 1) (m + 1)) rfl (by kernel_rfl) (by kernel_rfl) (by kernel_rfl) (by kernel_rfl) (fun _ _ _ h => hQ _ _ _ _ _ h) hS0 rfl ?_ ?_
  · clear hS0 hK hQ
    intro w' hSw
    obtain ⟨hs1, hs2, hs3, hs4, hs5, hs6⟩ := hSw
    go_simp
  dsimp only
  refine wpAnyF_take (fuel := 13) (i := 10) (oi := { dst := some 190, op := Op.move (Operand.tmp 18), type := 3, pos := "cycles.go:51", after := #[], guard := none }) (v := .int .i64 (x : Int)) rfl (by kernel_rfl) (by kernel_rfl) (by kernel_rfl) (by kernel_rfl) (fun _ _ _ h => hQ _ _ _ _ _ h) hS0 rfl ?_ ?_
  · clear hS0 hK hQ
    intro w' hSw
    obtain ⟨hs1, hs2, hs3, hs4, hs5, hs6⟩ := hSw
    go_simp
  dsimp only
  obtain ⟨A1, hA⟩ : ∃ A : Act, A = (((((A0.put (some 186) (.pointer (some ⟨s + 2, 0, none⟩))).put (some 187) (.pointer (some ⟨s + 2, 0, none⟩))).put (some 188) (.pointer (some ⟨s + 2, 3, none⟩))).put (some 189) (.slice (some ⟨bf, 0, none⟩) (m + 1) (m + 1))).put (some 190) (.int .i64 (x : Int))) := ⟨_, rfl⟩
  have sz1 : A1.tmps.size = 205 := by rw [hA]; simp [Act.put, sz0]
  have q1_13 : A1.tmps[13]? = some (.pointer (some ⟨s + 2, 0, none⟩)) := by rw [hA]; simp [Act.put, sz0, pq0_13]
  have q1_18 : A1.tmps[18]? = some (.int .i64 (x : Int)) := by rw [hA]; simp [Act.put, sz0, pq0_18]
  have q1_183 : A1.tmps[183]? = some (.slice (some ⟨bf, 0, none⟩) (m + 1) (m + 1)) := by rw [hA]; simp [Act.put, sz0, pq0_183]
  have q1_185 : A1.tmps[185]? = some (.int .i64 ((x : Int) + 1)) := by rw [hA]; simp [Act.put, sz0, pq0_185]
  have q1_189 : A1.tmps[189]? = some (.slice (some ⟨bf, 0, none⟩) (m + 1) (m + 1)) := by rw [hA]; simp [Act.put, sz0]
  have q1_190 : A1.tmps[190]? = some (.int .i64 (x : Int)) := by rw [hA]; simp [Act.put, sz0]
  rw [← hA] at hK ⊢
  clear hA q0_13 q0_18 q0_183 q0_185 pq0_13 pq0_18 pq0_183 pq0_185
  clear sz0
  have pq1_13 := tmps_at q1_13 (by omega)
  have pq1_18 := tmps_at q1_18 (by omega)
  have pq1_183 := tmps_at q1_183 (by omega)
  have pq1_185 := tmps_at q1_185 (by omega)
  have pq1_189 := tmps_at q1_189 (by omega)
  have pq1_190 := tmps_at q1_190 (by omega)
  refine wpAnyF_take (fuel := 12) (i := 11) (oi := { dst := some 191, op := Op.indexAddr 26 (Operand.tmp 189) (Operand.tmp 190), type := 0, pos := "cycles.go:51", after := #[{ on := 9, ground := Ground.data }, { on := 10, ground := Ground.data }], guard := none }) (v := .pointer (some ⟨bf, x, none⟩)) rfl (by kernel_rfl) (by kernel_rfl) (by kernel_rfl) (by kernel_rfl) (fun _ _ _ h => hQ _ _ _ _ _ h) hS0 rfl ?_ ?_
  · clear hS0 hK hQ
    intro w' hSw
    obtain ⟨hs1, hs2, hs3, hs4, hs5, hs6⟩ := hSw
    go_simp
  dsimp only
  refine wpAnyF_take (fuel := 11) (i := 12) (oi := { dst := some 192, op := Op.load 3 (Operand.tmp 191), type := 3, pos := "cycles.go:51", after := #[{ on := 11, ground := Ground.data }], guard := none }) (v := .int .i64 (y : Int)) rfl (by kernel_rfl) (by kernel_rfl) (by kernel_rfl) (by kernel_rfl) (fun _ _ _ h => hQ _ _ _ _ _ h) hS0 rfl ?_ ?_
  · clear hS0 hK hQ
    intro w' hSw
    obtain ⟨hs1, hs2, hs3, hs4, hs5, hs6⟩ := hSw
    go_simp
  dsimp only
  refine wpAnyF_take (fuel := 10) (i := 13) (oi := { dst := some 193, op := Op.move (Operand.tmp 13), type := 53, pos := "cycles.go:51", after := #[], guard := none }) (v := .pointer (some ⟨s + 2, 0, none⟩)) rfl (by kernel_rfl) (by kernel_rfl) (by kernel_rfl) (by kernel_rfl) (fun _ _ _ h => hQ _ _ _ _ _ h) hS0 rfl ?_ ?_
  · clear hS0 hK hQ
    intro w' hSw
    obtain ⟨hs1, hs2, hs3, hs4, hs5, hs6⟩ := hSw
    go_simp
  dsimp only
  refine wpAnyF_take (fuel := 9) (i := 14) (oi := { dst := some 194, op := Op.nilCheck (Operand.tmp 193), type := 0, pos := "cycles.go:51", after := #[{ on := 13, ground := Ground.data }], guard := none }) (v := .pointer (some ⟨s + 2, 0, none⟩)) rfl (by kernel_rfl) (by kernel_rfl) (by kernel_rfl) (by kernel_rfl) (fun _ _ _ h => hQ _ _ _ _ _ h) hS0 rfl ?_ ?_
  · clear hS0 hK hQ
    intro w' hSw
    obtain ⟨hs1, hs2, hs3, hs4, hs5, hs6⟩ := hSw
    go_simp
  dsimp only
  refine wpAnyF_take (fuel := 8) (i := 15) (oi := { dst := some 195, op := Op.fieldAddr 56 (Operand.tmp 194) 1, type := 0, pos := "cycles.go:51", after := #[{ on := 14, ground := Ground.data }], guard := none }) (v := .pointer (some ⟨s + 2, 1, none⟩)) rfl (by kernel_rfl) (by kernel_rfl) (by kernel_rfl) (by kernel_rfl) (fun _ _ _ h => hQ _ _ _ _ _ h) hS0 rfl ?_ ?_
  · clear hS0 hK hQ
    intro w' hSw
    obtain ⟨hs1, hs2, hs3, hs4, hs5, hs6⟩ := hSw
    go_simp
  dsimp only
  obtain ⟨A2, hA⟩ : ∃ A : Act, A = (((((A1.put (some 191) (.pointer (some ⟨bf, x, none⟩))).put (some 192) (.int .i64 (y : Int))).put (some 193) (.pointer (some ⟨s + 2, 0, none⟩))).put (some 194) (.pointer (some ⟨s + 2, 0, none⟩))).put (some 195) (.pointer (some ⟨s + 2, 1, none⟩))) := ⟨_, rfl⟩
  have sz2 : A2.tmps.size = 205 := by rw [hA]; simp [Act.put, sz1]
  have q2_18 : A2.tmps[18]? = some (.int .i64 (x : Int)) := by rw [hA]; simp [Act.put, sz1, pq1_18]
  have q2_183 : A2.tmps[183]? = some (.slice (some ⟨bf, 0, none⟩) (m + 1) (m + 1)) := by rw [hA]; simp [Act.put, sz1, pq1_183]
  have q2_185 : A2.tmps[185]? = some (.int .i64 ((x : Int) + 1)) := by rw [hA]; simp [Act.put, sz1, pq1_185]
  have q2_192 : A2.tmps[192]? = some (.int .i64 (y : Int)) := by rw [hA]; simp [Act.put, sz1]
  have q2_195 : A2.tmps[195]? = some (.pointer (some ⟨s + 2, 1, none⟩)) := by rw [hA]; simp [Act.put, sz1]
  rw [← hA] at hK ⊢
  clear hA q1_13 q1_18 q1_183 q1_185 q1_189 q1_190 pq1_13 pq1_18 pq1_183 pq1_185 pq1_189 pq1_190
  clear sz1
  have pq2_18 := tmps_at q2_18 (by omega)
  have pq2_183 := tmps_at q2_183 (by omega)
  have pq2_185 := tmps_at q2_185 (by omega)
  have pq2_192 := tmps_at q2_192 (by omega)
  have pq2_195 := tmps_at q2_195 (by omega)
  refine wpAnyF_take (fuel := 7) (i := 16) (oi := { dst := some 196, op := Op.load 25 (Operand.tmp 195), type := 25, pos := "cycles.go:51", after := #[{ on := 15, ground := Ground.data }], guard := none }) (v := .slice (some ⟨t, 0, none⟩) m m) rfl (by kernel_rfl) (by kernel_rfl) (by kernel_rfl) (by kernel_rfl) (fun _ _ _ h => hQ _ _ _ _ _ h) hS0 rfl ?_ ?_
  · clear hS0 hK hQ
    intro w' hSw
    obtain ⟨hs1, hs2, hs3, hs4, hs5, hs6⟩ := hSw
    go_simp
  dsimp only
  refine wpAnyF_take (fuel := 6) (i := 17) (oi := { dst := some 197, op := Op.move (Operand.tmp 18), type := 3, pos := "cycles.go:51", after := #[], guard := none }) (v := .int .i64 (x : Int)) rfl (by kernel_rfl) (by kernel_rfl) (by kernel_rfl) (by kernel_rfl) (fun _ _ _ h => hQ _ _ _ _ _ h) hS0 rfl ?_ ?_
  · clear hS0 hK hQ
    intro w' hSw
    obtain ⟨hs1, hs2, hs3, hs4, hs5, hs6⟩ := hSw
    go_simp
  dsimp only
  refine wpAnyF_take (fuel := 5) (i := 18) (oi := { dst := some 198, op := Op.indexAddr 25 (Operand.tmp 196) (Operand.tmp 197), type := 0, pos := "cycles.go:51", after := #[{ on := 16, ground := Ground.data }, { on := 17, ground := Ground.data }], guard := none }) (v := .pointer (some ⟨t, x, none⟩)) rfl (by kernel_rfl) (by kernel_rfl) (by kernel_rfl) (by kernel_rfl) (fun _ _ _ h => hQ _ _ _ _ _ h) hS0 rfl ?_ ?_
  · clear hS0 hK hQ
    intro w' hSw
    obtain ⟨hs1, hs2, hs3, hs4, hs5, hs6⟩ := hSw
    go_simp
  dsimp only
  refine wpAnyF_take (fuel := 4) (i := 19) (oi := { dst := some 199, op := Op.load 26 (Operand.tmp 198), type := 26, pos := "cycles.go:51", after := #[{ on := 18, ground := Ground.data }], guard := none }) (v := .slice fo fl fc) rfl (by kernel_rfl) (by kernel_rfl) (by kernel_rfl) (by kernel_rfl) (fun _ _ _ h => hQ _ _ _ _ _ h) hS0 rfl ?_ ?_
  · clear hS0 hK hQ
    intro w' hSw
    obtain ⟨hs1, hs2, hs3, hs4, hs5, hs6⟩ := hSw
    go_simp
  dsimp only
  obtain ⟨A3, hA⟩ : ∃ A : Act, A = ((((A2.put (some 196) (.slice (some ⟨t, 0, none⟩) m m)).put (some 197) (.int .i64 (x : Int))).put (some 198) (.pointer (some ⟨t, x, none⟩))).put (some 199) (.slice fo fl fc)) := ⟨_, rfl⟩
  have sz3 : A3.tmps.size = 205 := by rw [hA]; simp [Act.put, sz2]
  have q3_183 : A3.tmps[183]? = some (.slice (some ⟨bf, 0, none⟩) (m + 1) (m + 1)) := by rw [hA]; simp [Act.put, sz2, pq2_183]
  have q3_185 : A3.tmps[185]? = some (.int .i64 ((x : Int) + 1)) := by rw [hA]; simp [Act.put, sz2, pq2_185]
  have q3_192 : A3.tmps[192]? = some (.int .i64 (y : Int)) := by rw [hA]; simp [Act.put, sz2, pq2_192]
  have q3_199 : A3.tmps[199]? = some (.slice fo fl fc) := by rw [hA]; simp [Act.put, sz2]
  rw [← hA] at hK ⊢
  clear hA q2_18 q2_183 q2_185 q2_192 q2_195 pq2_18 pq2_183 pq2_185 pq2_192 pq2_195
  clear sz2
  have pq3_183 := tmps_at q3_183 (by omega)
  have pq3_185 := tmps_at q3_185 (by omega)
  have pq3_192 := tmps_at q3_192 (by omega)
  have pq3_199 := tmps_at q3_199 (by omega)
  refine wpAnyF_take (fuel := 3) (i := 20) (oi := { dst := some 200, op := Op.call { callee := Callee.builtin Builtin.len, args := #[Operand.tmp 199], argTypes := #[26] }, type := 3, pos := "cycles.go:51", after := #[{ on := 19, ground := Ground.data }], guard := none }) (v := .int .i64 (fl : Int)) rfl (by kernel_rfl) (by kernel_rfl) (by kernel_rfl) (by kernel_rfl) (fun _ _ _ h => hQ _ _ _ _ _ h) hS0 rfl ?_ ?_
  · clear hS0 hK hQ
    intro w' hSw
    obtain ⟨hs1, hs2, hs3, hs4, hs5, hs6⟩ := hSw
    go_simp
  dsimp only
  refine wpAnyF_take (fuel := 2) (i := 21) (oi := { dst := some 201, op := Op.binOp BinOp.add 3 (Operand.tmp 192) (Operand.tmp 200) 3, type := 3, pos := "cycles.go:51", after := #[{ on := 12, ground := Ground.data }, { on := 20, ground := Ground.data }], guard := none }) (v := .int .i64 ((y : Int) + (fl : Int))) rfl (by kernel_rfl) (by kernel_rfl) (by kernel_rfl) (by kernel_rfl) (fun _ _ _ h => hQ _ _ _ _ _ h) hS0 rfl ?_ ?_
  · clear hS0 hK hQ
    intro w' hSw
    obtain ⟨hs1, hs2, hs3, hs4, hs5, hs6⟩ := hSw
    go_simp
  dsimp only
  obtain ⟨A4, hA⟩ : ∃ A : Act, A = ((A3.put (some 200) (.int .i64 (fl : Int))).put (some 201) (.int .i64 ((y : Int) + (fl : Int)))) := ⟨_, rfl⟩
  have sz4 : A4.tmps.size = 205 := by rw [hA]; simp [Act.put, sz3]
  have q4_183 : A4.tmps[183]? = some (.slice (some ⟨bf, 0, none⟩) (m + 1) (m + 1)) := by rw [hA]; simp [Act.put, sz3, pq3_183]
  have q4_185 : A4.tmps[185]? = some (.int .i64 ((x : Int) + 1)) := by rw [hA]; simp [Act.put, sz3, pq3_185]
  have q4_201 : A4.tmps[201]? = some (.int .i64 ((y : Int) + (fl : Int))) := by rw [hA]; simp [Act.put, sz3]
  rw [← hA] at hK ⊢
  clear hA q3_183 q3_185 q3_192 q3_199 pq3_183 pq3_185 pq3_192 pq3_199
  clear sz3
  have pq4_183 := tmps_at q4_183 (by omega)
  have pq4_185 := tmps_at q4_185 (by omega)
  have pq4_201 := tmps_at q4_201 (by omega)
  refine wpAnyF_take (fuel := 1) (i := 22) (oi := { dst := some 202, op := Op.indexAddr 26 (Operand.tmp 183) (Operand.tmp 185), type := 0, pos := "cycles.go:51", after := #[{ on := 3, ground := Ground.data }, { on := 5, ground := Ground.data }, { on := 0, ground := Ground.phase }, { on := 1, ground := Ground.phase }, { on := 2, ground := Ground.phase }, { on := 3, ground := Ground.phase }, { on := 4, ground := Ground.phase }, { on := 5, ground := Ground.phase }, { on := 6, ground := Ground.phase }, { on := 7, ground := Ground.phase }, { on := 8, ground := Ground.phase }, { on := 9, ground := Ground.phase }, { on := 10, ground := Ground.phase }, { on := 11, ground := Ground.phase }, { on := 12, ground := Ground.phase }, { on := 13, ground := Ground.phase }, { on := 14, ground := Ground.phase }, { on := 15, ground := Ground.phase }, { on := 16, ground := Ground.phase }, { on := 17, ground := Ground.phase }, { on := 18, ground := Ground.phase }, { on := 19, ground := Ground.phase }, { on := 20, ground := Ground.phase }, { on := 21, ground := Ground.phase }], guard := none }) (v := .pointer (some ⟨bf, x + 1, none⟩)) rfl (by kernel_rfl) (by kernel_rfl) (by kernel_rfl) (by kernel_rfl) (fun _ _ _ h => hQ _ _ _ _ _ h) hS0 rfl ?_ ?_
  · clear hS0 hK hQ
    intro w' hSw
    obtain ⟨hs1, hs2, hs3, hs4, hs5, hs6⟩ := hSw
    go_simp
  dsimp only
  refine wpAnyF_last (fuel := 0) (o := { dst := none, op := Op.store 3 (Operand.tmp 202) (Operand.tmp 201), type := 0, pos := "cycles.go:51", after := #[{ on := 22, ground := Ground.data }, { on := 21, ground := Ground.data }, { on := 0, ground := Ground.phase }, { on := 1, ground := Ground.phase }, { on := 2, ground := Ground.phase }, { on := 3, ground := Ground.phase }, { on := 4, ground := Ground.phase }, { on := 5, ground := Ground.phase }, { on := 6, ground := Ground.phase }, { on := 7, ground := Ground.phase }, { on := 8, ground := Ground.phase }, { on := 9, ground := Ground.phase }, { on := 10, ground := Ground.phase }, { on := 11, ground := Ground.phase }, { on := 12, ground := Ground.phase }, { on := 13, ground := Ground.phase }, { on := 14, ground := Ground.phase }, { on := 15, ground := Ground.phase }, { on := 16, ground := Ground.phase }, { on := 17, ground := Ground.phase }, { on := 18, ground := Ground.phase }, { on := 19, ground := Ground.phase }, { on := 20, ground := Ground.phase }, { on := 21, ground := Ground.phase }], guard := none }) (by kernel_rfl) rfl rfl (by kernel_rfl) ?_
  refine wp_of_skip (w' := W.drew.setCell ⟨bf, x + 1, none⟩ (.int .i64 ((y : Int) + (fl : Int)))) ?_ ?_
  · clear hK hQ
    obtain ⟨hs1, hs2, hs3, hs4, hs5, hs6⟩ := hS0
    go_simp
  exact hK

end Go.Proofs.Qxb6601793a
