import Derived.Test.Qxb6601793aBase
namespace Go.Proofs.Qxb6601793a
open Go.RowKit

/-! ### Append of one element to a slice of the call's own: which block it lies in behind -/
section
variable {P : Program}

/-- Behind an append the slice begins in its own block or in the new one. -/
theorem run_append_where (w : World) (base : Nat) (t ty e : TypeId) (i : TypeInfo) (z : Value) (size bytes : Nat) (ht : P.underlying t = some (.slice e)) (hi : P.info? e = some i) (hz : i.zero = some z)
    (hsize : i.size = size) (hby : i.bytes = bytes) (hzs : z.cells.size = size) (hsz : 0 < size) (v : Value) (n : Nat) (xs : List Value) (hown : w.ownsRow base e size v n xs)
    (a : Addr) (m c : Nat) (news : List Value) (hl : news.length = m * size) (hnews : ∀ j u, news[j]? = some u → w.cell? (a.add j) = some u) (h1 : ∀ u ∈ news, u.oneCell' = true) (hm : 0 < m)
    (h63 : n + m ≤ maxLen) (hbytes : (n + m) * bytes ≤ 140737488355328) (hbase : base ≤ w.heap.size) :
    ∃ g cap w', (Builtin.append_ #[t, t] ty #[v, .slice (some a) m c]).run P w = .ok (.slice (some ⟨g, 0, none⟩) (n + m) cap) w' ∧
      w'.ownsRow base e size (.slice (some ⟨g, 0, none⟩) (n + m) cap) (n + m) (xs ++ news) ∧ w.grownBy w' v.ownBlock ∧ (v.ownBlock = some g ∨ g = w.heap.size) := by
  obtain ⟨v', w', hr, h2, h3, _⟩ := run_append_own (P := P) w base t ty e i z size bytes ht hi hz hsize hby hzs hsz v n xs hown a m c news hl hnews h1 h63 hbytes hbase
  have hmax : maxLen = 9223372036854775807 := rfl
  rcases h2.2 with ⟨_, h0⟩ | ⟨g, cap, cur, rfl, _⟩
  · omega
  refine ⟨g, cap, w', hr, h2, h3, ?_⟩
  rcases hown.2 with ⟨rfl, rfl⟩ | ⟨g0, cap0, cur0, rfl, _, hg0, hnc, _, hcs, _⟩
  · have e2 := run_append_nil (P := P) w t ty e i z ht hi hz a m c news (by rw [hsize]; exact hl) hnews hm (by omega) (by rw [hby]; simp only [Nat.zero_add] at hbytes; omega)
    rw [hr] at e2
    injection e2 with e3 _
    injection e3 with e4 _ _
    injection e4 with e5
    injection e5 with e6
    exact .inr e6
  · by_cases hroom : n + m ≤ cap0
    · have hfit : n * i.size + news.length ≤ cur0.size := by rw [hl, hcs, hsize, ← Nat.add_mul]; exact Nat.mul_le_mul_right _ hroom
      have e2 := run_append_room (P := P) w t ty e i ht hi g0 n cap0 cur0 hg0 a m c news (by rw [hsize]; exact hl) hnews h1 hroom hfit
      rw [hr] at e2
      injection e2 with e3 _
      injection e3 with e4 _ _
      injection e4 with e5
      injection e5 with e6
      exact .inl (by rw [e6]; rfl)
    · have e2 := run_append_grow (P := P) w t ty e i z ht hi hz ⟨g0, 0, none⟩ n cap0 xs (by rw [hsize]; exact hown.1) (hown.cells (g := g0) rfl) a m c news (by rw [hsize]; exact hl) hnews (by omega) (by omega)
        (growslice_fits (by omega) (by rw [hby]; exact hbytes))
      rw [hr] at e2
      injection e2 with e3 _
      injection e3 with e4 _ _
      injection e4 with e5
      injection e5 with e6
      exact .inr e6

theorem wp_append_where (w : World) {o : Oper} {a : Act} {K : Act → World → Prop} {Q : Exit → Act → World → Prop} (s x : Operand) (t : TypeId)
    (ho : o.op = .call { callee := .builtin .append, args := #[s, x], argTypes := #[t, t] })
    (base : Nat) (e : TypeId) (i : TypeInfo) (z : Value) (size bytes : Nat) (ht : P.underlying t = some (.slice e)) (hi : P.info? e = some i) (hz : i.zero = some z)
    (hsize : i.size = size) (hby : i.bytes = bytes) (hzs : z.cells.size = size) (hsz : 0 < size) (v : Value) (n : Nat) (xs : List Value) (hs : a.eval s = v) (hown : w.ownsRow base e size v n xs)
    (ad : Addr) (m c : Nat) (news : List Value) (hx : a.eval x = .slice (some ad) m c) (hl : news.length = m * size) (hnews : ∀ j u, news[j]? = some u → w.cell? (ad.add j) = some u) (h1 : ∀ u ∈ news, u.oneCell' = true) (hm : 0 < m)
    (h63 : n + m ≤ maxLen) (hbytes : (n + m) * bytes ≤ 140737488355328) (hbase : base ≤ w.heap.size)
    (h : ∀ g cap w', w'.ownsRow base e size (.slice (some ⟨g, 0, none⟩) (n + m) cap) (n + m) (xs ++ news) → w.grownBy w' v.ownBlock → (v.ownBlock = some g ∨ g = w.heap.size) → K (a.put o.dst (.slice (some ⟨g, 0, none⟩) (n + m) cap)) w') :
    o.wp P a w K Q := by
  obtain ⟨g, cap, w', hr, h2, h3, h4⟩ := run_append_where (P := P) w base t o.type e i z size bytes ht hi hz hsize hby hzs hsz v n xs hown ad m c news hl hnews h1 hm h63 hbytes hbase
  unfold Oper.wp execOp
  simp only [ho, resolve, invoke, builtin, Sem.run_bind, Sem.run_pure, Result.andThen_ok, List.map_toArray, List.map_cons, List.map_nil, hs, hx, hr]
  exact h g cap w' h2 h3 h4

/-- The law for the walk. -/
theorem wpList_append_where (w : World) {ops : Array Oper} {rest : List Oper} {o : Oper} {a : Act} {Q : Exit → Act → World → Prop} (hgd : o.guard = none) (s x : Operand) (t : TypeId)
    (ho : o.op = .call { callee := .builtin .append, args := #[s, x], argTypes := #[t, t] })
    (base : Nat) (e : TypeId) (i : TypeInfo) (z : Value) (size bytes : Nat) (ht : P.underlying t = some (.slice e)) (hi : P.info? e = some i) (hz : i.zero = some z)
    (hsize : i.size = size) (hby : i.bytes = bytes) (hzs : z.cells.size = size) (hsz : 0 < size) (v : Value) (n : Nat) (xs : List Value) (hs : a.eval s = v) (hown : w.ownsRow base e size v n xs)
    (ad : Addr) (m c : Nat) (news : List Value) (hx : a.eval x = .slice (some ad) m c) (hl : news.length = m * size) (hnews : ∀ j u, news[j]? = some u → w.cell? (ad.add j) = some u) (h1 : ∀ u ∈ news, u.oneCell' = true) (hm : 0 < m)
    (h63 : n + m ≤ maxLen) (hbytes : (n + m) * bytes ≤ 140737488355328) (hbase : base ≤ w.heap.size)
    (h : ∀ g cap w', w'.ownsRow base e size (.slice (some ⟨g, 0, none⟩) (n + m) cap) (n + m) (xs ++ news) → w.grownBy w' v.ownBlock → (v.ownBlock = some g ∨ g = w.heap.size) → wpList P ops Q rest (a.put o.dst (.slice (some ⟨g, 0, none⟩) (n + m) cap)) w') :
    wpList P ops Q (o :: rest) a w :=
  wpList_plain hgd fun _ hK => wp_append_where w s x t ho base e i z size bytes ht hi hz hsize hby hzs hsz v n xs hs hown ad m c news hx hl hnews h1 hm h63 hbytes hbase fun g cap w' h2 h3 h4 => hK _ _ (h g cap w' h2 h3 h4)
end

/-! ### Rows of the call's own -/

theorem owns_kept {S : Nat → Prop} {w w' : World} {base : Nat} {e : TypeId} {size : Nat} {v : Value} {n : Nat} {xs : List Value} (h : w.ownsRow base e size v n xs) (k : Kept S w w') (hs : ∀ b, v.ownBlock = some b → ¬ S b) : w'.ownsRow base e size v n xs := by
  refine ⟨h.1, ?_⟩
  rcases h.2 with h2 | ⟨g, cap, cur, rfl, hb, hg, r⟩
  · exact .inl h2
  · exact .inr ⟨g, cap, cur, rfl, hb, by rw [k.block g (lt_of_block hg) (hs g rfl)]; exact hg, r⟩

theorem owns_drew {w : World} {base : Nat} {e : TypeId} {size : Nat} {v : Value} {n : Nat} {xs : List Value} (h : w.ownsRow base e size v n xs) : w.drew.ownsRow base e size v n xs := h

theorem owns_lower {w : World} {base base' : Nat} {e : TypeId} {size : Nat} {v : Value} {n : Nat} {xs : List Value} (h : w.ownsRow base e size v n xs) (hb : base' ≤ base) : w.ownsRow base' e size v n xs := by
  refine ⟨h.1, ?_⟩
  rcases h.2 with h2 | ⟨g, cap, cur, rfl, hb', r⟩
  · exact .inl h2
  · exact .inr ⟨g, cap, cur, rfl, by omega, r⟩

/-- The slice cut to its first m elements. -/
theorem owns_take {w : World} {base : Nat} {e : TypeId} {size g n cap m : Nat} {xs : List Value} (h : w.ownsRow base e size (.slice (some ⟨g, 0, none⟩) n cap) n xs) (hm : m ≤ n) :
    w.ownsRow base e size (.slice (some ⟨g, 0, none⟩) m cap) m (xs.take (m * size)) := by
  have hle : m * size ≤ n * size := Nat.mul_le_mul_right _ hm
  refine ⟨by rw [List.length_take, h.1]; omega, ?_⟩
  rcases h.2 with ⟨h2, _⟩ | ⟨g', cap', cur, hv, hb, hg, h3, h4, h5, h6⟩
  · simp at h2
  · simp only [Value.slice.injEq, Option.some.injEq, Addr.mk.injEq] at hv
    obtain ⟨⟨rfl, _⟩, _, rfl⟩ := hv
    exact .inr ⟨g, cap, cur, rfl, hb, hg, by omega, h4, h5, by rw [← h6, List.take_take, Nat.min_eq_left hle]⟩

/-- An owned slice that is not empty lies at the head of a block. -/
theorem owns_shape {w : World} {base : Nat} {e : TypeId} {size : Nat} {v : Value} {n : Nat} {xs : List Value} (h : w.ownsRow base e size v n xs) (hn : 0 < n) : ∃ g cap, v = .slice (some ⟨g, 0, none⟩) n cap ∧ base ≤ g ∧ n ≤ cap ∧ cap ≤ maxLen ∧ g < w.heap.size := by
  rcases h.2 with ⟨_, h2⟩ | ⟨g, cap, cur, hv, hb, hg, h3, h4, _⟩
  · omega
  · exact ⟨g, cap, hv, hb, h3, h4, lt_of_block hg⟩

theorem owns_slice {w : World} {base : Nat} {e : TypeId} {size : Nat} {v : Value} {n : Nat} {xs : List Value} (h : w.ownsRow base e size v n xs) : ∃ ao cap, v = .slice ao n cap := by
  rcases h.2 with ⟨h2, rfl⟩ | ⟨g, cap, cur, hv, _⟩
  · exact ⟨none, 0, h2⟩
  · exact ⟨_, cap, hv⟩

/-- Two owned rows of different element types lie in different blocks. -/
theorem owns_apart {w : World} {base base' : Nat} {e e' : TypeId} {size size' : Nat} {v v' : Value} {n n' : Nat} {xs xs' : List Value} (h : w.ownsRow base e size v n xs) (h' : w.ownsRow base' e' size' v' n' xs') (hne : e ≠ e') {b : Nat} (hb : v.ownBlock = some b) :
    v'.ownBlock ≠ some b := by
  rcases h.2 with ⟨rfl, _⟩ | ⟨g, cap, cur, rfl, _, hg, _⟩
  · simp [Value.ownBlock] at hb
  · rcases h'.2 with ⟨rfl, _⟩ | ⟨g', cap', cur', rfl, _, hg', _⟩
    · simp [Value.ownBlock]
    · simp only [Value.ownBlock, Option.some.injEq] at hb ⊢
      intro hh
      injection hh with hh
      subst hh; subst hb
      rw [hg] at hg'
      simp at hg'
      exact hne hg'.2

/-- As a slice wherever it lies. -/
theorem owns_sl {w : World} {base : Nat} {e : TypeId} {v : Value} {n : Nat} {xs : List Value} (h : w.ownsRow base e 1 v n xs) (f : Nat → Value) (hf : ∀ j, j < n → xs[j]? = some (f j)) : Sl w (fun b => v.ownBlock = some b) v n f := by
  obtain ⟨ao, cap, rfl⟩ := owns_slice h
  refine ⟨ao, cap, rfl, fun j hj => ?_⟩
  obtain ⟨g, cap', hv, hb, _, _, hlt⟩ := owns_shape h (by omega)
  simp only [Value.slice.injEq] at hv
  obtain ⟨rfl, _, rfl⟩ := hv
  exact ⟨g, 0, rfl, rfl, hlt, by rw [Nat.zero_add, h.cellAt j (by omega)]; exact hf j hj⟩

theorem Try.info3 : (Try.prog.info? 3).map (fun i => (i.zero, i.size, i.bytes)) = some (some (.int .i64 0), 1, 8) := by kernel_rfl
theorem Try.info4 : (Try.prog.info? 4).map (fun i => (i.zero, i.size, i.bytes)) = some (some (.bool false), 1, 1) := by kernel_rfl
theorem Try.info9 : (Try.prog.info? 9).map (fun i => (i.zero, i.size, i.bytes)) = some (some (.string ⟨#[]⟩), 1, 16) := by kernel_rfl
theorem Try.info26 : (Try.prog.info? 26).map (fun i => (i.zero, i.size, i.bytes)) = some (some (.slice none 0 0), 1, 24) := by kernel_rfl
theorem Try.info74 : (Try.prog.info? 74).map (fun i => (i.zero, i.size, i.bytes)) = some (some (.agg #[.int .i64 0, .int .i64 0]), 2, 16) := by kernel_rfl

end Go.Proofs.Qxb6601793a
