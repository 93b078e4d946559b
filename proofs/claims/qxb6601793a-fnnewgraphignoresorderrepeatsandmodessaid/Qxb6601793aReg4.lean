import Derived.Test.Qxb6601793aReg
namespace Go.Proofs.Qxb6601793a
open Go.RowKit Go.Deep Scc

set_option maxHeartbeats 4000000 in
set_option maxRecDepth 100000 in
theorem reg10 (Q : Exit → Act → World → Prop) (a : Act) (W : World) (base bb o n c x k : Nat) (s0 s1 : ByteArray) (fx : Value) (xs : List Value) (hsz : a.tmps.size = 101)
    (g0 : a.tmps[0]? = some (.slice (some ⟨bb, o, none⟩) n c)) (g4 : a.tmps[4]? = some fx) (g5 : a.tmps[5]? = some (.int .i64 (x : Int))) (hQ : ∀ c a d v w, Q (.panic c) (a.put (some d) v) w → Q (.panic c) a w)
    (hbb : bb < base) (hbase : base ≤ W.heap.size) (hxn : x < n) (hk : k ≤ 65536)
    (c0 : W.cell? ⟨bb, o + x * 4, none⟩ = some (.string s0)) (c1 : W.cell? ⟨bb, o + x * 4 + 1, none⟩ = some (.string s1)) (hox : W.ownsRow base 37 4 fx k xs)
    (hK : ∀ g cap w1, w1.ownsRow base 37 4 (.slice (some ⟨g, 0, none⟩) (k + 1) cap) (k + 1) (xs ++ [.string s0, .string s1, .string ⟨#[]⟩, .string ⟨#[]⟩]) → (W.drew.alloc (.cells #[.string s0, .string s1, .string ⟨#[]⟩, .string ⟨#[]⟩] 37)).grownBy w1 fx.ownBlock →
      Q .normal (((((((((((((((a.put (some 33) (fx)).put (some 34) (.slice (some ⟨bb, o, none⟩) n c)).put (some 35) (.int .i64 (x : Int))).put (some 36) (.pointer (some ⟨bb, o + x * 4, none⟩))).put (some 37) (.pointer (some ⟨bb, o + x * 4, none⟩))).put (some 38) (.string s0)).put (some 39) (.slice (some ⟨bb, o, none⟩) n c)).put (some 40) (.int .i64 (x : Int))).put (some 41) (.pointer (some ⟨bb, o + x * 4, none⟩))).put (some 42) (.pointer (some ⟨bb, o + x * 4 + 1, none⟩))).put (some 43) (.string s1)).put (some 44) (.agg #[.string s0, .string s1, .string ⟨#[]⟩, .string ⟨#[]⟩])).put (some 45) (.slice (some ⟨W.heap.size, 0, none⟩) 1 1)).put (some 46) (.slice (some ⟨g, 0, none⟩) (k + 1) cap)).put (some 4) (.slice (some ⟨g, 0, none⟩) (k + 1) cap)) w1) :
    (Code.region 10 #[{ dst := some 33, op := Op.move (Operand.tmp 4), type := 29, pos := "laws_pkg_nudgegraph_b1.go:237", after := #[], guard := none }, { dst := some 34, op := Op.move (Operand.tmp 0), type := 22, pos := "laws_pkg_nudgegraph_b1.go:237", after := #[], guard := none }, { dst := some 35, op := Op.move (Operand.tmp 5), type := 3, pos := "laws_pkg_nudgegraph_b1.go:237", after := #[], guard := none }, { dst := some 36, op := Op.indexAddr 22 (Operand.tmp 34) (Operand.tmp 35), type := 0, pos := "laws_pkg_nudgegraph_b1.go:237", after := #[{ on := 1, ground := Ground.data }, { on := 2, ground := Ground.data }], guard := none }, { dst := some 37, op := Op.fieldAddr 35 (Operand.tmp 36) 0, type := 0, pos := "laws_pkg_nudgegraph_b1.go:237", after := #[{ on := 3, ground := Ground.data }], guard := none }, { dst := some 38, op := Op.load 9 (Operand.tmp 37), type := 9, pos := "laws_pkg_nudgegraph_b1.go:237", after := #[{ on := 4, ground := Ground.data }], guard := none }, { dst := some 39, op := Op.move (Operand.tmp 0), type := 22, pos := "laws_pkg_nudgegraph_b1.go:237", after := #[], guard := none }, { dst := some 40, op := Op.move (Operand.tmp 5), type := 3, pos := "laws_pkg_nudgegraph_b1.go:237", after := #[], guard := none }, { dst := some 41, op := Op.indexAddr 22 (Operand.tmp 39) (Operand.tmp 40), type := 0, pos := "laws_pkg_nudgegraph_b1.go:237", after := #[{ on := 6, ground := Ground.data }, { on := 7, ground := Ground.data }], guard := none }, { dst := some 42, op := Op.fieldAddr 35 (Operand.tmp 41) 1, type := 0, pos := "laws_pkg_nudgegraph_b1.go:237", after := #[{ on := 8, ground := Ground.data }], guard := none }, { dst := some 43, op := Op.load 9 (Operand.tmp 42), type := 9, pos := "laws_pkg_nudgegraph_b1.go:237", after := #[{ on := 9, ground := Ground.data }], guard := none }, { dst := some 44, op := Op.build 37 #[(0, Operand.tmp 38), (1, Operand.tmp 43)], type := 37, pos := "laws_pkg_nudgegraph_b1.go:237", after := #[{ on := 5, ground := Ground.data }, { on := 10, ground := Ground.data }], guard := none }, { dst := some 45, op := Op.buildSlice 29 1 #[(0, Operand.tmp 44)], type := 29, pos := "laws_pkg_nudgegraph_b1.go:237", after := #[{ on := 11, ground := Ground.data }], guard := none }, { dst := some 46, op := Op.call { callee := Callee.builtin Builtin.append, args := #[Operand.tmp 33, Operand.tmp 45], argTypes := #[29, 29] }, type := 29, pos := "laws_pkg_nudgegraph_b1.go:237", after := #[{ on := 0, ground := Ground.data }, { on := 12, ground := Ground.data }], guard := none }, { dst := some 4, op := Op.assign (Operand.tmp 46), type := 29, pos := "laws_pkg_nudgegraph_b1.go:237", after := #[{ on := 13, ground := Ground.data }, { on := 13, ground := Ground.chain }, { on := 0, ground := Ground.phase }, { on := 1, ground := Ground.phase }, { on := 2, ground := Ground.phase }, { on := 3, ground := Ground.phase }, { on := 4, ground := Ground.phase }, { on := 5, ground := Ground.phase }, { on := 6, ground := Ground.phase }, { on := 7, ground := Ground.phase }, { on := 8, ground := Ground.phase }, { on := 9, ground := Ground.phase }, { on := 10, ground := Ground.phase }, { on := 11, ground := Ground.phase }, { on := 12, ground := Ground.phase }, { on := 13, ground := Ground.phase }], guard := none }] true).wp Try.prog Q a W := by
  obtain ⟨i37, hi37, hz370, hz371, hz372⟩ := info_parts Try.info37
  have hmax : maxLen = 9223372036854775807 := rfl
  have h0 := tmps_at g0 (by omega)
  have h4 := tmps_at g4 (by omega)
  have h5 := tmps_at g5 (by omega)
  have hxz1 : (0 : Int) ≤ (x : Int) := by omega
  have hxz2 : (x : Int) < (n : Int) := by omega
  refine wp_region_F (by kernel_rfl) (fun w' => w'.cell? ⟨bb, o + x * 4, none⟩ = some (.string s0) ∧ w'.cell? ⟨bb, o + x * 4 + 1, none⟩ = some (.string s1)) 14 15 rfl ?_
  have hS0 : W.drew.cell? ⟨bb, o + x * 4, none⟩ = some (.string s0) ∧ W.drew.cell? ⟨bb, o + x * 4 + 1, none⟩ = some (.string s1) := ⟨c0, c1⟩
  refine wpAnyF_take (fuel := 14) (i := 0) (oi := { dst := some 33, op := Op.move (Operand.tmp 4), type := 29, pos := "laws_pkg_nudgegraph_b1.go:237", after := #[], guard := none }) (v := fx) rfl (by kernel_rfl) (by kernel_rfl) (by kernel_rfl) (by kernel_rfl) (fun _ _ _ h => hQ _ _ _ _ _ h) hS0 rfl ?_ ?_
  · clear c0 c1 hS0 hK hox hQ
    intro w' hSw
    obtain ⟨hs1, hs2⟩ := hSw
    go_simp
  dsimp only
  refine wpAnyF_take (fuel := 13) (i := 1) (oi := { dst := some 34, op := Op.move (Operand.tmp 0), type := 22, pos := "laws_pkg_nudgegraph_b1.go:237", after := #[], guard := none }) (v := .slice (some ⟨bb, o, none⟩) n c) rfl (by kernel_rfl) (by kernel_rfl) (by kernel_rfl) (by kernel_rfl) (fun _ _ _ h => hQ _ _ _ _ _ h) hS0 rfl ?_ ?_
  · clear c0 c1 hS0 hK hox hQ
    intro w' hSw
    obtain ⟨hs1, hs2⟩ := hSw
    go_simp
  dsimp only
  refine wpAnyF_take (fuel := 12) (i := 2) (oi := { dst := some 35, op := Op.move (Operand.tmp 5), type := 3, pos := "laws_pkg_nudgegraph_b1.go:237", after := #[], guard := none }) (v := .int .i64 (x : Int)) rfl (by kernel_rfl) (by kernel_rfl) (by kernel_rfl) (by kernel_rfl) (fun _ _ _ h => hQ _ _ _ _ _ h) hS0 rfl ?_ ?_
  · clear c0 c1 hS0 hK hox hQ
    intro w' hSw
    obtain ⟨hs1, hs2⟩ := hSw
    go_simp
  dsimp only
  refine wpAnyF_take (fuel := 11) (i := 3) (oi := { dst := some 36, op := Op.indexAddr 22 (Operand.tmp 34) (Operand.tmp 35), type := 0, pos := "laws_pkg_nudgegraph_b1.go:237", after := #[{ on := 1, ground := Ground.data }, { on := 2, ground := Ground.data }], guard := none }) (v := .pointer (some ⟨bb, o + x * 4, none⟩)) rfl (by kernel_rfl) (by kernel_rfl) (by kernel_rfl) (by kernel_rfl) (fun _ _ _ h => hQ _ _ _ _ _ h) hS0 rfl ?_ ?_
  · clear c0 c1 hS0 hK hox hQ
    intro w' hSw
    obtain ⟨hs1, hs2⟩ := hSw
    go_simp
  dsimp only
  refine wpAnyF_take (fuel := 10) (i := 4) (oi := { dst := some 37, op := Op.fieldAddr 35 (Operand.tmp 36) 0, type := 0, pos := "laws_pkg_nudgegraph_b1.go:237", after := #[{ on := 3, ground := Ground.data }], guard := none }) (v := .pointer (some ⟨bb, o + x * 4, none⟩)) rfl (by kernel_rfl) (by kernel_rfl) (by kernel_rfl) (by kernel_rfl) (fun _ _ _ h => hQ _ _ _ _ _ h) hS0 rfl ?_ ?_
  · clear c0 c1 hS0 hK hox hQ
    intro w' hSw
    obtain ⟨hs1, hs2⟩ := hSw
    go_simp
  dsimp only
  refine wpAnyF_take (fuel := 9) (i := 5) (oi := { dst := some 38, op := Op.load 9 (Operand.tmp 37), type := 9, pos := "laws_pkg_nudgegraph_b1.go:237", after := #[{ on := 4, ground := Ground.data }], guard := none }) (v := .string s0) rfl (by kernel_rfl) (by kernel_rfl) (by kernel_rfl) (by kernel_rfl) (fun _ _ _ h => hQ _ _ _ _ _ h) hS0 rfl ?_ ?_
  · clear c0 c1 hS0 hK hox hQ
    intro w' hSw
    obtain ⟨hs1, hs2⟩ := hSw
    go_simp
  dsimp only
  refine wpAnyF_take (fuel := 8) (i := 6) (oi := { dst := some 39, op := Op.move (Operand.tmp 0), type := 22, pos := "laws_pkg_nudgegraph_b1.go:237", after := #[], guard := none }) (v := .slice (some ⟨bb, o, none⟩) n c) rfl (by kernel_rfl) (by kernel_rfl) (by kernel_rfl) (by kernel_rfl) (fun _ _ _ h => hQ _ _ _ _ _ h) hS0 rfl ?_ ?_
  · clear c0 c1 hS0 hK hox hQ
    intro w' hSw
    obtain ⟨hs1, hs2⟩ := hSw
    go_simp
  dsimp only
  refine wpAnyF_take (fuel := 7) (i := 7) (oi := { dst := some 40, op := Op.move (Operand.tmp 5), type := 3, pos := "laws_pkg_nudgegraph_b1.go:237", after := #[], guard := none }) (v := .int .i64 (x : Int)) rfl (by kernel_rfl) (by kernel_rfl) (by kernel_rfl) (by kernel_rfl) (fun _ _ _ h => hQ _ _ _ _ _ h) hS0 rfl ?_ ?_
  · clear c0 c1 hS0 hK hox hQ
    intro w' hSw
    obtain ⟨hs1, hs2⟩ := hSw
    go_simp
  dsimp only
  refine wpAnyF_take (fuel := 6) (i := 8) (oi := { dst := some 41, op := Op.indexAddr 22 (Operand.tmp 39) (Operand.tmp 40), type := 0, pos := "laws_pkg_nudgegraph_b1.go:237", after := #[{ on := 6, ground := Ground.data }, { on := 7, ground := Ground.data }], guard := none }) (v := .pointer (some ⟨bb, o + x * 4, none⟩)) rfl (by kernel_rfl) (by kernel_rfl) (by kernel_rfl) (by kernel_rfl) (fun _ _ _ h => hQ _ _ _ _ _ h) hS0 rfl ?_ ?_
  · clear c0 c1 hS0 hK hox hQ
    intro w' hSw
    obtain ⟨hs1, hs2⟩ := hSw
    go_simp
  dsimp only
  refine wpAnyF_take (fuel := 5) (i := 9) (oi := { dst := some 42, op := Op.fieldAddr 35 (Operand.tmp 41) 1, type := 0, pos := "laws_pkg_nudgegraph_b1.go:237", after := #[{ on := 8, ground := Ground.data }], guard := none }) (v := .pointer (some ⟨bb, o + x * 4 + 1, none⟩)) rfl (by kernel_rfl) (by kernel_rfl) (by kernel_rfl) (by kernel_rfl) (fun _ _ _ h => hQ _ _ _ _ _ h) hS0 rfl ?_ ?_
  · clear c0 c1 hS0 hK hox hQ
    intro w' hSw
    obtain ⟨hs1, hs2⟩ := hSw
    go_simp
  dsimp only
  refine wpAnyF_take (fuel := 4) (i := 10) (oi := { dst := some 43, op := Op.load 9 (Operand.tmp 42), type := 9, pos := "laws_pkg_nudgegraph_b1.go:237", after := #[{ on := 9, ground := Ground.data }], guard := none }) (v := .string s1) rfl (by kernel_rfl) (by kernel_rfl) (by kernel_rfl) (by kernel_rfl) (fun _ _ _ h => hQ _ _ _ _ _ h) hS0 rfl ?_ ?_
  · clear c0 c1 hS0 hK hox hQ
    intro w' hSw
    obtain ⟨hs1, hs2⟩ := hSw
    go_simp
  dsimp only
  refine wpAnyF_take (fuel := 3) (i := 11) (oi := { dst := some 44, op := Op.build 37 #[(0, Operand.tmp 38), (1, Operand.tmp 43)], type := 37, pos := "laws_pkg_nudgegraph_b1.go:237", after := #[{ on := 5, ground := Ground.data }, { on := 10, ground := Ground.data }], guard := none }) (v := .agg #[.string s0, .string s1, .string ⟨#[]⟩, .string ⟨#[]⟩]) rfl (by kernel_rfl) (by kernel_rfl) (by kernel_rfl) (by kernel_rfl) (fun _ _ _ h => hQ _ _ _ _ _ h) hS0 rfl ?_ ?_
  · clear c0 c1 hS0 hK hox hQ
    intro w' hSw
    obtain ⟨hs1, hs2⟩ := hSw
    go_simp
  dsimp only
  refine wpAnyF_one (fuel := 2) (i := 12) (o := { dst := some 45, op := Op.buildSlice 29 1 #[(0, Operand.tmp 44)], type := 29, pos := "laws_pkg_nudgegraph_b1.go:237", after := #[{ on := 11, ground := Ground.data }], guard := none }) (by kernel_rfl) rfl rfl ?_
  intro K1 hK1
  refine wp_of_run (v := .slice (some ⟨W.heap.size, 0, none⟩) 1 1) (w' := W.drew.alloc (.cells #[.string s0, .string s1, .string ⟨#[]⟩, .string ⟨#[]⟩] 37)) ?_ (hK1.out _ _ (.inr ?_) ?_)
  · clear c0 c1 hS0 hK hox hQ hK1
    go_simp
  · have k1 := ((Kept.refl (fun _ => False) W).drew).alloc (.cells #[.string s0, .string s1, .string ⟨#[]⟩, .string ⟨#[]⟩] 37)
    exact ⟨(k1.cell (p := ⟨bb, o + x * 4, none⟩) (by simp; omega) (fun h => h)).trans c0, (k1.cell (p := ⟨bb, o + x * 4 + 1, none⟩) (by simp; omega) (fun h => h)).trans c1⟩
  clear hK1 K1
  dsimp only
  refine wpAnyF_one (fuel := 1) (i := 13) (o := { dst := some 46, op := Op.call { callee := Callee.builtin Builtin.append, args := #[Operand.tmp 33, Operand.tmp 45], argTypes := #[29, 29] }, type := 29, pos := "laws_pkg_nudgegraph_b1.go:237", after := #[{ on := 0, ground := Ground.data }, { on := 12, ground := Ground.data }], guard := none }) (by kernel_rfl) rfl rfl ?_
  intro K2 hK2
  refine wp_append_lies _ (.tmp 33) (.tmp 45) 29 rfl base 37 i37 (.agg #[.string ⟨#[]⟩, .string ⟨#[]⟩, .string ⟨#[]⟩, .string ⟨#[]⟩]) 4 64 Try.underlying29 hi37 hz370 hz371 hz372 rfl (by decide) fx k xs ?_ (World.ownsRow.alloc (w := W.drew) hox _) ⟨W.heap.size, 0, none⟩ 1 1 [.string s0, .string s1, .string ⟨#[]⟩, .string ⟨#[]⟩] ?_ rfl (World.news_of_block (heap_alloc_new W.drew _)) (by simp [Value.oneCell']) (by decide) (by omega) (by omega) (by simp; omega) (W.heap.size + 1) (by simp) ?_
  · clear c0 c1 hS0 hK hox hQ hK2
    go_simp
  · clear c0 c1 hS0 hK hox hQ hK2
    go_simp
  intro g cap w1 hown1 hgrow1 hat1 hlt1
  have hS1 : w1.cell? ⟨bb, o + x * 4, none⟩ = some (.string s0) ∧ w1.cell? ⟨bb, o + x * 4 + 1, none⟩ = some (.string s1) := by
    have k1 : Kept (fun b => fx.ownBlock = some b) W w1 := (((Kept.refl _ W).drew).alloc _).grown hgrow1 (fun b e _ => e)
    have hnot : ¬ fx.ownBlock = some bb := fun e => by have := (hox.lt bb e).1; omega
    exact ⟨(k1.cell (p := ⟨bb, o + x * 4, none⟩) (by simp; omega) hnot).trans c0, (k1.cell (p := ⟨bb, o + x * 4 + 1, none⟩) (by simp; omega) hnot).trans c1⟩
  refine hK2.out _ _ (.inr hS1) ?_
  clear hK2 K2 hat1 hlt1
  dsimp only
  have hK' := hK g cap w1 hown1 hgrow1
  obtain ⟨A, hA⟩ : ∃ A : Act, A = ((((((((((((((a.put (some 33) (fx)).put (some 34) (.slice (some ⟨bb, o, none⟩) n c)).put (some 35) (.int .i64 (x : Int))).put (some 36) (.pointer (some ⟨bb, o + x * 4, none⟩))).put (some 37) (.pointer (some ⟨bb, o + x * 4, none⟩))).put (some 38) (.string s0)).put (some 39) (.slice (some ⟨bb, o, none⟩) n c)).put (some 40) (.int .i64 (x : Int))).put (some 41) (.pointer (some ⟨bb, o + x * 4, none⟩))).put (some 42) (.pointer (some ⟨bb, o + x * 4 + 1, none⟩))).put (some 43) (.string s1)).put (some 44) (.agg #[.string s0, .string s1, .string ⟨#[]⟩, .string ⟨#[]⟩])).put (some 45) (.slice (some ⟨W.heap.size, 0, none⟩) 1 1)).put (some 46) (.slice (some ⟨g, 0, none⟩) (k + 1) cap)) := ⟨_, rfl⟩
  have q1 : A.tmps.size = 101 := by rw [hA]; simp [Act.put, hsz]
  have q4 : A.tmps[46]? = some (.slice (some ⟨g, 0, none⟩) (k + 1) cap) := by rw [hA]; simp [Act.put, hsz]
  rw [← hA] at hK' ⊢
  clear hA hK h0 h4 h5 g0 g4 g5 hsz
  have p4 := tmps_at q4 (by omega)
  refine wpAnyF_last (fuel := 0) (o := { dst := some 4, op := Op.assign (Operand.tmp 46), type := 29, pos := "laws_pkg_nudgegraph_b1.go:237", after := #[{ on := 13, ground := Ground.data }, { on := 13, ground := Ground.chain }, { on := 0, ground := Ground.phase }, { on := 1, ground := Ground.phase }, { on := 2, ground := Ground.phase }, { on := 3, ground := Ground.phase }, { on := 4, ground := Ground.phase }, { on := 5, ground := Ground.phase }, { on := 6, ground := Ground.phase }, { on := 7, ground := Ground.phase }, { on := 8, ground := Ground.phase }, { on := 9, ground := Ground.phase }, { on := 10, ground := Ground.phase }, { on := 11, ground := Ground.phase }, { on := 12, ground := Ground.phase }, { on := 13, ground := Ground.phase }], guard := none }) (by kernel_rfl) rfl rfl (by kernel_rfl) ?_
  refine wp_of_run (v := .slice (some ⟨g, 0, none⟩) (k + 1) cap) (w' := w1) ?_ ?_
  · clear c0 c1 hS0 hK' hox hQ hown1 hgrow1 hS1
    go_simp
  exact hK'

end Go.Proofs.Qxb6601793a
