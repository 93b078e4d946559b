import Derived.Test.Qxb6601793aLib
namespace Go.Proofs.Qxb6601793a
open Go.RowKit Go.Deep Scc

/-- The path of the search as cells: the lowest frame first, a node and a count each. -/
def framesV (fs : List Fr) : List Value := fs.reverse.flatMap fun f => [.int .i64 (f.p : Int), .int .i64 (f.k : Int)]

theorem framesV_cons (f : Fr) (fs : List Fr) : framesV (f :: fs) = framesV fs ++ [.int .i64 (f.p : Int), .int .i64 (f.k : Int)] := by simp [framesV]
theorem framesV_length : ∀ fs : List Fr, (framesV fs).length = fs.length * 2
  | [] => rfl
  | f :: fs => by rw [framesV_cons, List.length_append, framesV_length fs]; simp; omega
theorem framesV_p (f : Fr) (fs : List Fr) : (framesV (f :: fs))[fs.length * 2]? = some (.int .i64 (f.p : Int)) := by
  rw [framesV_cons, List.getElem?_append_right (by rw [framesV_length]; omega), framesV_length]; simp
theorem framesV_k (f : Fr) (fs : List Fr) : (framesV (f :: fs))[fs.length * 2 + 1]? = some (.int .i64 (f.k : Int)) := by
  rw [framesV_cons, List.getElem?_append_right (by rw [framesV_length]; omega), framesV_length]
  rw [show fs.length * 2 + 1 - fs.length * 2 = 1 by omega]; rfl
theorem framesV_set (p k k' : Nat) (bl : List Nat) (fs : List Fr) : (framesV (⟨p, k, bl⟩ :: fs)).set (fs.length * 2 + 1) (.int .i64 (k' : Int)) = framesV (⟨p, k', bl⟩ :: fs) := by
  rw [framesV_cons, framesV_cons, List.set_append_right _ _ (by rw [framesV_length]; omega), framesV_length]
  rw [show fs.length * 2 + 1 - fs.length * 2 = 1 by omega]; rfl
theorem framesV_take (f : Fr) (fs : List Fr) : (framesV (f :: fs)).take (fs.length * 2) = framesV fs := by
  rw [framesV_cons, ← framesV_length fs, List.take_left]

theorem TW.kept {S : Nat → Prop} {N n : Nat} {ord low : Nat → Nat} {on : Nat → Bool} {vs : Value} {l : List Nat} {r : Nat} {w w' : World} (h : TW N n ord low on vs l r w) (k : Kept S w w') (hs : ∀ b, b < w.heap.size → S b → N + 9 ≤ b ∧ vs.ownBlock ≠ some b) :
    TW N n ord low on vs l r w' := by
  have hN := lt_of_block h.bR
  have hb : ∀ b, b < N + 9 → w'.heap[b]? = w.heap[b]? := fun b hb => k.block b (by omega) (fun e => by have := (hs b (by omega) e).1; omega)
  exact ⟨h.rO.of_block (hb _ (by omega)), (hb _ (by omega)).trans h.bO, h.rL.of_block (hb _ (by omega)), (hb _ (by omega)).trans h.bL, h.rN.of_block (hb _ (by omega)), (hb _ (by omega)).trans h.bN, (hb _ (by omega)).trans h.bS,
    owns_kept h.own k (fun b e hS => (hs b (h.own.lt b e).2 hS).2 e), (hb _ (by omega)).trans h.bR⟩

/-- What the search has in memory, but for its path: the components so far, what 'reach' works on, the members. N: the heap's size when the call began. -/
structure CG (w0 : World) (n : Nat) (ord low : Nat → Nat) (on : Nat → Bool) (l : List Nat) (r : Nat) (comp : Nat → Int) (members : List (List Nat)) (vs vm : Value) (rs : List Value) (w : World) : Prop where
  below : Below w0.heap.size w0 w
  rC : w.rowIs w0.heap.size 3 n (fun i => .int .i64 (comp i))
  tw : TW w0.heap.size n ord low on vs l r w
  ownM : w.ownsRow (w0.heap.size + 9) 26 1 vm members.length rs
  rows : ∀ (i : Nat) (l : List Nat), members[i]? = some l → ∃ r, rs[i]? = some r ∧ w.ownsRow (w0.heap.size + 9) 3 1 r l.length (nodesV l) ∧ ∀ b, r.ownBlock = some b → vs.ownBlock ≠ some b

abbrev CW (w0 : World) (n : Nat) (s : TS) (vs vm : Value) (rs : List Value) (w : World) : Prop := CG w0 n s.order s.low (fun i => decide (i ∈ stk s.frs)) (stk s.frs).reverse s.reached s.comp s.members vs vm rs w

section
variable {w0 : World} {n : Nat} {ord low : Nat → Nat} {on : Nat → Bool} {l : List Nat} {r : Nat} {comp : Nat → Int} {members : List (List Nat)} {vs vm : Value} {rs : List Value} {w w' : World}

theorem CG.rs_len (h : CG w0 n ord low on l r comp members vs vm rs w) : rs.length = members.length := by have := h.ownM.1; omega

/-- A step that writes to no block that the search has, but for its path's. -/
theorem CG.kept {S : Nat → Prop} (h : CG w0 n ord low on l r comp members vs vm rs w) (k : Kept S w w')
    (hs : ∀ b, b < w.heap.size → S b → w0.heap.size + 9 ≤ b ∧ vs.ownBlock ≠ some b ∧ vm.ownBlock ≠ some b ∧ ∀ r ∈ rs, r.ownBlock ≠ some b) : CG w0 n ord low on l r comp members vs vm rs w' := by
  have hN := lt_of_block h.tw.bR
  have hb : ∀ b, b < w0.heap.size + 9 → w'.heap[b]? = w.heap[b]? := fun b hb => k.block b (by omega) (fun e => by have := (hs b (by omega) e).1; omega)
  refine ⟨h.below.trans ⟨k.os, k.tape, k.output, k.size, fun b hb' => hb b (by omega)⟩, h.rC.of_block (hb _ (by omega)), h.tw.kept k (fun b hb' e => ⟨(hs b hb' e).1, (hs b hb' e).2.1⟩),
    owns_kept h.ownM k (fun b e hS => (hs b (h.ownM.lt b e).2 hS).2.2.1 e), fun i l hl => ?_⟩
  obtain ⟨r, hr, ho, ha⟩ := h.rows i l hl
  exact ⟨r, hr, owns_kept ho k (fun b e hS => (hs b (ho.lt b e).2 hS).2.2.2 r (List.mem_of_getElem? hr) e), ha⟩

/-- The block of the path is none of the others' (another element type). -/
theorem CG.apart (h : CG w0 n ord low on l r comp members vs vm rs w) {base : Nat} {size : Nat} {v : Value} {m : Nat} {xs : List Value} (ho : w.ownsRow base 74 size v m xs) (hb : w0.heap.size + 9 ≤ base) {b : Nat} (e : v.ownBlock = some b) :
    w0.heap.size + 9 ≤ b ∧ vs.ownBlock ≠ some b ∧ vm.ownBlock ≠ some b ∧ ∀ r ∈ rs, r.ownBlock ≠ some b := by
  refine ⟨by have := (ho.lt b e).1; omega, owns_apart ho h.tw.own (by decide) e, owns_apart ho h.ownM (by decide) e, fun r hr => ?_⟩
  obtain ⟨i, hi, rfl⟩ := List.getElem_of_mem hr
  have hl := h.rs_len
  obtain ⟨r', hr', ho', _⟩ := h.rows i members[i] (List.getElem?_eq_getElem (by omega))
  rw [List.getElem?_eq_getElem hi] at hr'
  injection hr' with hr'
  rw [hr']
  exact owns_apart ho ho' (by decide) e

theorem CG.drew (h : CG w0 n ord low on l r comp members vs vm rs w) : CG w0 n ord low on l r comp members vs vm rs w.drew := h.kept ((Kept.refl (fun _ => False) w).drew) (fun _ _ h => h.elim)
theorem CG.drewN (h : CG w0 n ord low on l r comp members vs vm rs w) (k : Nat) : CG w0 n ord low on l r comp members vs vm rs (w.drewN k) := h.kept ((Kept.refl (fun _ => False) w).drewN k) (fun _ _ h => h.elim)
end

section
variable {w0 : World} {n : Nat} {ord low : Nat → Nat} {on : Nat → Bool} {l : List Nat} {r : Nat} {comp : Nat → Int} {members : List (List Nat)} {vs vm : Value} {rs : List Value} {w w' : World}

theorem CG.congr {on' : Nat → Bool} {comp' : Nat → Int} (h : CG w0 n ord low on l r comp members vs vm rs w) (h1 : on = on') (h2 : comp = comp') : CG w0 n ord low on' l r comp' members vs vm rs w := by rw [← h1, ← h2]; exact h

/-- A store into 'comp'. -/
theorem CG.comp1 (h : CG w0 n ord low on l r comp members vs vm rs w) (x : Nat) (c : Int) : CG w0 n ord low on l r (upd comp x c) members vs vm rs (w.setCell ⟨w0.heap.size, x, none⟩ (.int .i64 c)) := by
  have hk : Kept (fun b => b = w0.heap.size) w (w.setCell ⟨w0.heap.size, x, none⟩ (.int .i64 c)) := Kept.setCell (S := fun b => b = w0.heap.size) (Kept.refl _ _) (fun _ => rfl) _
  refine ⟨h.below.setCell (Nat.le_refl _) _, (h.rC.set x _).congr (fun i _ => by simp only [upd]; split <;> rfl), ?_, owns_kept h.ownM hk (fun b e e2 => by have := (h.ownM.lt b e).1; omega), fun i l hl => ?_⟩
  · have hb : ∀ b, b ≠ w0.heap.size → (w.setCell ⟨w0.heap.size, x, none⟩ (.int .i64 c)).heap[b]? = w.heap[b]? := fun b hb => Below.heap_setCell _ _ _ _ hb
    exact ⟨h.tw.rO.of_block (hb _ (by omega)), (hb _ (by omega)).trans h.tw.bO, h.tw.rL.of_block (hb _ (by omega)), (hb _ (by omega)).trans h.tw.bL, h.tw.rN.of_block (hb _ (by omega)), (hb _ (by omega)).trans h.tw.bN, (hb _ (by omega)).trans h.tw.bS,
      owns_kept h.tw.own hk (fun b e e2 => by have := (h.tw.own.lt b e).1; omega), (hb _ (by omega)).trans h.tw.bR⟩
  · obtain ⟨r', hr, ho, ha⟩ := h.rows i l hl
    exact ⟨r', hr, owns_kept ho hk (fun b e e2 => by have := (ho.lt b e).1; omega), ha⟩

/-- A store into 'onStack'. -/
theorem CG.on1 (h : CG w0 n ord low on l r comp members vs vm rs w) (x : Nat) (c : Bool) : CG w0 n ord low (upd on x c) l r comp members vs vm rs (w.setCell ⟨w0.heap.size + 5, x, none⟩ (.bool c)) := by
  have hk : Kept (fun b => b = w0.heap.size + 5) w (w.setCell ⟨w0.heap.size + 5, x, none⟩ (.bool c)) := Kept.setCell (S := fun b => b = w0.heap.size + 5) (Kept.refl _ _) (fun _ => rfl) _
  have hb : ∀ b, b ≠ w0.heap.size + 5 → (w.setCell ⟨w0.heap.size + 5, x, none⟩ (.bool c)).heap[b]? = w.heap[b]? := fun b hb => Below.heap_setCell _ _ _ _ hb
  refine ⟨h.below.setCell (by simp) _, h.rC.of_block (hb _ (by omega)), ?_, owns_kept h.ownM hk (fun b e e2 => by have := (h.ownM.lt b e).1; omega), fun i l hl => ?_⟩
  · exact ⟨h.tw.rO.of_block (hb _ (by omega)), (hb _ (by omega)).trans h.tw.bO, h.tw.rL.of_block (hb _ (by omega)), (hb _ (by omega)).trans h.tw.bL, (h.tw.rN.set x _).congr (fun i _ => by simp only [upd]; split <;> rfl), (hb _ (by omega)).trans h.tw.bN, (hb _ (by omega)).trans h.tw.bS,
      owns_kept h.tw.own hk (fun b e e2 => by have := (h.tw.own.lt b e).1; omega), (hb _ (by omega)).trans h.tw.bR⟩
  · obtain ⟨r', hr, ho, ha⟩ := h.rows i l hl
    exact ⟨r', hr, owns_kept ho hk (fun b e e2 => by have := (ho.lt b e).1; omega), ha⟩

/-- The stack is cut. -/
theorem CG.popStack {R B : List Nat} {gs m c cs : Nat} (h : CG w0 n ord low on (R ++ B) r comp members (.slice (some ⟨gs, 0, none⟩) (m + c) cs) vm rs w) (hm : m = R.length) (hc : c = B.length) :
    CG w0 n ord low on R r comp members (.slice (some ⟨gs, 0, none⟩) m cs) vm rs (w.setCell ⟨w0.heap.size + 7, 0, none⟩ (.slice (some ⟨gs, 0, none⟩) m cs)) := by
  have hk : Kept (fun b => b = w0.heap.size + 7) w (w.setCell ⟨w0.heap.size + 7, 0, none⟩ (.slice (some ⟨gs, 0, none⟩) m cs)) := Kept.setCell (S := fun b => b = w0.heap.size + 7) (Kept.refl _ _) (fun _ => rfl) _
  have hb : ∀ b, b ≠ w0.heap.size + 7 → (w.setCell ⟨w0.heap.size + 7, 0, none⟩ (.slice (some ⟨gs, 0, none⟩) m cs)).heap[b]? = w.heap[b]? := fun b hb => Below.heap_setCell _ _ _ _ hb
  have ho := h.tw.own
  have hle : (R ++ B).length = m + c := by rw [List.length_append, hm, hc]
  rw [hle] at ho
  have ht := owns_take ho (m := m) (by omega)
  have ht' : w.ownsRow (w0.heap.size + 9) 3 1 (.slice (some ⟨gs, 0, none⟩) m cs) R.length (nodesV R) := by
    rw [← hm]
    have e : (nodesV (R ++ B)).take (m * 1) = nodesV R := by
      have e1 : nodesV (R ++ B) = nodesV R ++ nodesV B := by simp [nodesV]
      have e2 : m * 1 = (nodesV R).length := by simp [nodesV, hm]
      rw [e1, e2, List.take_left]
    rw [e] at ht
    exact ht
  refine ⟨h.below.setCell (by simp) _, h.rC.of_block (hb _ (by omega)), ?_, owns_kept h.ownM hk (fun b e e2 => by have := (h.ownM.lt b e).1; omega), fun i l hl => ?_⟩
  · exact ⟨h.tw.rO.of_block (hb _ (by omega)), (hb _ (by omega)).trans h.tw.bO, h.tw.rL.of_block (hb _ (by omega)), (hb _ (by omega)).trans h.tw.bL, h.tw.rN.of_block (hb _ (by omega)), (hb _ (by omega)).trans h.tw.bN, one_setCell h.tw.bS,
      owns_kept ht' hk (fun b e e2 => by have := (ht'.lt b e).1; omega), (hb _ (by omega)).trans h.tw.bR⟩
  · obtain ⟨r', hr, hor, ha⟩ := h.rows i l hl
    exact ⟨r', hr, owns_kept hor hk (fun b e e2 => by have := (hor.lt b e).1; omega), ha⟩

/-- A member more. -/
theorem CG.addMember (h : CG w0 n ord low on l r comp members vs vm rs w) (o : Obj) {vn vm' : Value} {l' : List Nat} (hn : w.ownsRow (w0.heap.size + 9) 3 1 vn l'.length (nodesV l')) (hd : ∀ b, vn.ownBlock = some b → vs.ownBlock ≠ some b)
    (hg : (w.alloc o).grownBy w' vm.ownBlock) (hm : w'.ownsRow (w0.heap.size + 9) 26 1 vm' (members.length + 1) (rs ++ [vn])) :
    CG w0 n ord low on l r comp (members ++ [l']) vs vm' (rs ++ [vn]) w' := by
  have hN := lt_of_block h.tw.bR
  have hk : Kept (fun b => vm.ownBlock = some b) w w' := ((Kept.refl _ w).alloc o).grown hg (fun b e _ => e)
  have hvm : ∀ b, vm.ownBlock = some b → w0.heap.size + 9 ≤ b := fun b e => (h.ownM.lt b e).1
  have hb : ∀ b, b < w0.heap.size + 9 → w'.heap[b]? = w.heap[b]? := fun b hb => hk.block b (by omega) (fun e => by have := hvm b e; omega)
  have hl := h.rs_len
  refine ⟨h.below.trans ⟨hk.os, hk.tape, hk.output, hk.size, fun b hb' => hb b (by omega)⟩, h.rC.of_block (hb _ (by omega)), h.tw.kept hk (fun b _ e => ⟨hvm b e, owns_apart h.ownM h.tw.own (by decide) e⟩), by simpa using hm, fun i li hli => ?_⟩
  by_cases hi : i < members.length
  · rw [List.getElem?_append_left hi] at hli
    obtain ⟨r', hr, ho, ha⟩ := h.rows i li hli
    exact ⟨r', by rw [List.getElem?_append_left (by omega)]; exact hr, owns_kept ho hk (fun b e e2 => owns_apart ho h.ownM (by decide) e e2), ha⟩
  · rw [List.getElem?_append_right (by omega)] at hli
    have hi0 : i = members.length := by
      rcases Nat.eq_zero_or_pos (i - members.length) with h0 | h0
      · omega
      · rw [List.getElem?_eq_none (by simp; omega)] at hli; simp at hli
    subst hi0
    simp at hli
    subst hli
    exact ⟨vn, by rw [List.getElem?_append_right (by omega), hl]; simp, owns_kept hn hk (fun b e e2 => owns_apart hn h.ownM (by decide) e e2), hd⟩
end

/-- Which nodes are on the stack while the component's first j nodes have been taken off. -/
def onMid (st N0 : List Nat) (j : Nat) : Nat → Bool := fun i => decide (i ∈ st) && !decide (i ∈ N0.take j)
/-- The components while the first j nodes of a list have been given c. -/
def compMid (comp : Nat → Int) (c : Int) (N0 : List Nat) (j : Nat) : Nat → Int := fun i => if i ∈ N0.take j then c else comp i

theorem onMid_zero (st N0 : List Nat) : onMid st N0 0 = fun i => decide (i ∈ st) := by funext i; simp [onMid]
theorem onMid_succ (st N0 : List Nat) {j : Nat} (h : j < N0.length) : onMid st N0 (j + 1) = upd (onMid st N0 j) (N0.getD j 0) false := by
  funext i
  simp only [onMid, upd, take_succ_getD h, List.mem_append, List.mem_singleton]
  generalize N0.getD j 0 = x
  by_cases e : i = x <;> simp [e]
theorem compMid_zero (comp : Nat → Int) (c : Int) (N0 : List Nat) : compMid comp c N0 0 = comp := by funext i; simp [compMid]
theorem compMid_succ (comp : Nat → Int) (c : Int) (N0 : List Nat) {j : Nat} (h : j < N0.length) : compMid comp c N0 (j + 1) = upd (compMid comp c N0 j) (N0.getD j 0) c := by
  funext i
  simp only [compMid, upd, take_succ_getD h, List.mem_append, List.mem_singleton]
  generalize N0.getD j 0 = x
  by_cases e : i = x <;> simp [e]
theorem onMid_full {bl S : List Nat} {v : Nat} (h : (bl ++ v :: S).Nodup) : onMid (bl ++ v :: S) (v :: bl.reverse) (v :: bl.reverse).length = fun i => decide (i ∈ S) := by
  funext i
  simp only [onMid, List.take_length]
  have h1 := List.nodup_append.1 h
  by_cases hb : i ∈ bl
  · have : i ∉ S := fun e => h1.2.2 i hb i (List.mem_cons_of_mem _ e) rfl
    simp [hb, this]
  · by_cases hv : i = v
    · have : v ∉ S := (List.nodup_cons.1 h1.2.1).1
      simp [hv, this]
    · simp [hb, hv]

theorem mem_N0 {bl : List Nat} {v u : Nat} : u ∈ v :: bl.reverse ↔ u ∈ bl ++ [v] := by simp [or_comm]

theorem compMid_one {bl : List Nat} {v c : Nat} {N0 : List Nat} (comp : Nat → Int) (cc : Int) (hN0 : N0 = v :: bl.reverse) (hc : c = N0.length) (u : Nat) : compMid comp cc N0 c u = if u ∈ bl ++ [v] then cc else comp u := by
  have h : u ∈ N0 ↔ u ∈ bl ++ [v] := by rw [hN0]; exact mem_N0
  simp only [compMid, hc, List.take_length, h]

theorem compMid_two {bl : List Nat} {v c : Nat} {N0 l' : List Nat} (comp : Nat → Int) (cc c1 : Int) (hN0 : N0 = v :: bl.reverse) (hc : c = N0.length) (hp : l'.Perm N0) (u : Nat) :
    compMid (compMid comp c1 N0 c) cc l' c u = if u ∈ bl ++ [v] then cc else comp u := by
  have h : u ∈ N0 ↔ u ∈ bl ++ [v] := by rw [hN0]; exact mem_N0
  have hl : N0.length = l'.length := hp.length_eq.symm
  have e : l'.take N0.length = l' := by rw [hl, List.take_length]
  simp only [compMid, hc, e, List.take_length, hp.mem_iff, h]
  split <;> rfl

theorem sorted_strict {l : List Nat} (h : l.Pairwise (· ≤ ·)) (hn : l.Nodup) : l.Pairwise (· < ·) :=
  (List.pairwise_and_iff.2 ⟨h, hn⟩).imp_of_mem (fun _ _ hab => by have h1 := hab.1; have h2 := hab.2; omega)

theorem strict_of_short {l : List Nat} (h : l.length ≤ 1) : l.Pairwise (· < ·) := by
  match l, h with
  | [], _ => exact .nil
  | [_], _ => simp
  | _ :: _ :: _, h => simp at h

theorem N0_nodup {bl S : List Nat} {v : Nat} (h : (bl ++ v :: S).Nodup) : (v :: bl.reverse).Nodup := by
  have h1 : (v :: bl.reverse).Perm (bl ++ [v]) := ((List.reverse_perm bl).cons v).trans (List.perm_append_comm (l₁ := [v]) (l₂ := bl))
  rw [h1.nodup_iff]
  have h2 : (bl ++ v :: S) = (bl ++ [v]) ++ S := by simp
  rw [h2] at h
  exact (List.nodup_append.1 h).1

theorem Kept.of_below {w w' : World} (h : Below w.heap.size w w') : Kept (fun _ => False) w w' := ⟨h.os, h.tape, h.output, h.size, fun k hk _ => h.block k hk⟩

/-- A block beyond the heap is none of the search's. -/
theorem CG.fresh {w0 : World} {n : Nat} {ord low : Nat → Nat} {on : Nat → Bool} {l : List Nat} {r : Nat} {comp : Nat → Int} {members : List (List Nat)} {vs vm : Value} {rs : List Value} {w : World} (h : CG w0 n ord low on l r comp members vs vm rs w) {g : Nat} (hg : w.heap.size ≤ g) :
    vs.ownBlock ≠ some g ∧ vm.ownBlock ≠ some g ∧ ∀ r ∈ rs, r.ownBlock ≠ some g := by
  refine ⟨fun e => ?_, fun e => ?_, fun r hr e => ?_⟩
  · have := (h.tw.own.lt g e).2; omega
  · have := (h.ownM.lt g e).2; omega
  · obtain ⟨i, hi, rfl⟩ := List.getElem_of_mem hr
    have hl := h.rs_len
    obtain ⟨r', hr', ho', _⟩ := h.rows i members[i] (List.getElem?_eq_getElem (by omega))
    rw [List.getElem?_eq_getElem hi] at hr'
    injection hr' with hr'
    rw [hr'] at e
    have := (ho'.lt g e).2
    omega

theorem getD_right {R N0 : List Nat} {m i : Nat} (hm : m = R.length) : (R ++ N0).getD (m + i) 0 = N0.getD i 0 := by
  rw [hm]; simp [List.getD, List.getElem?_append_right]

theorem owns_drewN {w : World} {base : Nat} {e : TypeId} {size : Nat} {v : Value} {n : Nat} {xs : List Value} (h : w.ownsRow base e size v n xs) (k : Nat) : (w.drewN k).ownsRow base e size v n xs := h

theorem getD_mid (R : List Nat) (v : Nat) (B : List Nat) : (R ++ v :: B).getD R.length 0 = v := by simp [List.getD]

/-- Above the node itself on the stack it does not lie a second time. -/
theorem tail_ne {bl S : List Nat} {v : Nat} (h : (bl ++ v :: S).Nodup) (j : Nat) (h1 : S.reverse.length < j) (h2 : j < S.reverse.length + (v :: bl.reverse).length) : (S.reverse ++ v :: bl.reverse).getD j 0 ≠ v := by
  have hv : v ∉ bl := fun e => (List.nodup_append.1 h).2.2 v e v (by simp) rfl
  obtain ⟨i, rfl⟩ : ∃ i, j = S.reverse.length + (i + 1) := ⟨j - S.reverse.length - 1, by omega⟩
  simp only [List.length_cons] at h2
  have hi : i < bl.reverse.length := by omega
  simp only [List.getD, List.getElem?_append_right (Nat.le_add_right _ _), Nat.add_sub_cancel_left, List.getElem?_cons_succ, List.getElem?_eq_getElem hi, Option.getD_some]
  intro e
  exact hv (List.mem_reverse.1 (e ▸ List.getElem_mem hi))

theorem nodesV_get {l : List Nat} {j : Nat} (h : j < l.length) : (nodesV l)[j]? = some (.int .i64 ((l.getD j 0 : Nat) : Int)) := by
  simp [nodesV, List.getD, List.getElem?_eq_getElem h]

/-- Behind 'reach': a node more. -/
theorem CW.entered {w0 : World} {n : Nat} {s s' : TS} {vs vm : Value} {rs : List Value} {w w' : World} (h : CW w0 n s vs vm rs w) {v g cap : Nat}
    (hcomp : s'.comp = s.comp) (hmem : s'.members = s.members) (hord : s'.order = upd s.order v (s.reached + 1)) (hlow : s'.low = upd s.low v (s.reached + 1)) (hre : s'.reached = s.reached + 1) (hst : stk s'.frs = v :: stk s.frs)
    (hT : TW w0.heap.size n (upd s.order v (s.reached + 1)) (upd s.low v (s.reached + 1)) (upd (fun i => decide (i ∈ stk s.frs)) v true) (.slice (some ⟨g, 0, none⟩) ((stk s.frs).reverse.length + 1) cap) ((stk s.frs).reverse ++ [v]) (s.reached + 1) w')
    (k : Kept (fun b => b = w0.heap.size + 1 ∨ b = w0.heap.size + 3 ∨ b = w0.heap.size + 5 ∨ b = w0.heap.size + 7 ∨ b = w0.heap.size + 8 ∨ vs.ownBlock = some b) w w') (hg : vs.ownBlock = some g ∨ w.heap.size ≤ g) :
    CW w0 n s' (.slice (some ⟨g, 0, none⟩) ((stk s.frs).reverse.length + 1) cap) vm rs w' := by
  have hN := lt_of_block h.tw.bR
  have hvs := h.tw.own.lt
  have hb : ∀ b, b < w0.heap.size + 1 → w'.heap[b]? = w.heap[b]? := fun b hb => k.block b (by omega) (by
    rintro (e | e | e | e | e | e) <;> first | omega | (have := (hvs b e).1; omega))
  refine ⟨h.below.trans ⟨k.os, k.tape, k.output, k.size, fun b hb' => hb b (by omega)⟩, by rw [hcomp]; exact h.rC.of_block (hb _ (by omega)), ?_, ?_, fun i l hl => ?_⟩
  · rw [hord, hlow, hre, hst]
    have e1 : (fun i => decide (i ∈ v :: stk s.frs)) = upd (fun i => decide (i ∈ stk s.frs)) v true := by
      funext i
      simp only [upd]
      by_cases e : i = v <;> simp [e]
    rw [e1, List.reverse_cons]
    exact hT
  · rw [hmem]
    refine owns_kept h.ownM k (fun b e => ?_)
    rintro (e2 | e2 | e2 | e2 | e2 | e2) <;> first | (have := (h.ownM.lt b e).1; omega) | exact owns_apart h.ownM h.tw.own (by decide) e e2
  · rw [hmem] at hl
    obtain ⟨r, hr, ho, ha⟩ := h.rows i l hl
    refine ⟨r, hr, owns_kept ho k (fun b e => ?_), fun b e => ?_⟩
    · rintro (e2 | e2 | e2 | e2 | e2 | e2) <;> first | (have := (ho.lt b e).1; omega) | exact ha b e e2
    · simp only [Value.ownBlock]
      rintro e2
      injection e2 with e2
      subst e2
      rcases hg with hg | hg
      · exact ha g e hg
      · have := (ho.lt g e).2; omega

/-- Another state over the same memory. -/
theorem CW.other {w0 : World} {n : Nat} {s s' : TS} {vs vm : Value} {rs : List Value} {w : World} (h : CW w0 n s vs vm rs w) (hcomp : s'.comp = s.comp) (hmem : s'.members = s.members) (hord : s'.order = s.order) (hre : s'.reached = s.reached) (hst : stk s'.frs = stk s.frs) (hlow : s'.low = s.low) : CW w0 n s' vs vm rs w := by
  refine ⟨h.below, by rw [hcomp]; exact h.rC, by rw [hord, hlow, hst, hre]; exact h.tw, by rw [hmem]; exact h.ownM, by rw [hmem]; exact h.rows⟩

/-- A store into 'low'. -/
theorem CW.lowSet {w0 : World} {n : Nat} {s s' : TS} {vs vm : Value} {rs : List Value} {w : World} (h : CW w0 n s vs vm rs w) (hcomp : s'.comp = s.comp) (hmem : s'.members = s.members) (hord : s'.order = s.order) (hre : s'.reached = s.reached) (hst : stk s'.frs = stk s.frs) {v l : Nat} (hlow : s'.low = upd s.low v l) :
    CW w0 n s' vs vm rs (w.setCell ⟨w0.heap.size + 3, v, none⟩ (.int .i64 (l : Int))) := by
  have hN := lt_of_block h.tw.bR
  have hk : Kept (fun b => b = w0.heap.size + 3) w (w.setCell ⟨w0.heap.size + 3, v, none⟩ (.int .i64 (l : Int))) := Kept.setCell (S := fun b => b = w0.heap.size + 3) (Kept.refl _ _) (fun _ => rfl) _
  have hb : ∀ b, b ≠ w0.heap.size + 3 → (w.setCell ⟨w0.heap.size + 3, v, none⟩ (.int .i64 (l : Int))).heap[b]? = w.heap[b]? := fun b hb => Below.heap_setCell _ _ _ _ hb
  refine ⟨h.below.setCell (by simp) _, by rw [hcomp]; exact h.rC.of_block (hb _ (by omega)), ?_, by rw [hmem]; exact owns_kept h.ownM hk (fun b e e2 => by have := (h.ownM.lt b e).1; omega), ?_⟩
  · rw [hord, hlow, hst, hre]
    refine ⟨h.tw.rO.of_block (hb _ (by omega)), (hb _ (by omega)).trans h.tw.bO, (h.tw.rL.set v _).congr (fun i _ => ?_), (hb _ (by omega)).trans h.tw.bL, h.tw.rN.of_block (hb _ (by omega)), (hb _ (by omega)).trans h.tw.bN, (hb _ (by omega)).trans h.tw.bS,
      owns_kept h.tw.own hk (fun b e e2 => by have := (h.tw.own.lt b e).1; omega), (hb _ (by omega)).trans h.tw.bR⟩
    simp only [upd]; split <;> rfl
  · rw [hmem]
    intro i r hl
    obtain ⟨r', hr, ho, ha⟩ := h.rows i r hl
    exact ⟨r', hr, owns_kept ho hk (fun b e e2 => by have := (ho.lt b e).1; omega), ha⟩

theorem upd_self {α : Type} (f : Nat → α) (i : Nat) : upd f i (f i) = f := by
  funext j
  simp only [upd]
  split
  · rename_i e; rw [e]
  · rfl

theorem min_cast (a b : Nat) : min (a : Int) (b : Int) = ((min a b : Nat) : Int) := by omega

theorem frs_le_stk : ∀ fs : List Fr, fs.length ≤ (stk fs).length
  | [] => Nat.le_refl _
  | f :: fs => by have := frs_le_stk fs; simp only [stk, List.length_append, List.length_cons]; omega

/-- The memory as the call lays it. -/
def compsWorld (w : World) (n : Nat) : World :=
  ((((((((w.alloc (.cells (madeCells #[.int .i64 0] n) 3)).alloc (.cells (madeCells #[.int .i64 0] n) 3)).alloc (.cells #[.slice (some ⟨w.heap.size + 1, 0, none⟩) n n] 26)).alloc (.cells (madeCells #[.int .i64 0] n) 3)).alloc
    (.cells #[.slice (some ⟨w.heap.size + 3, 0, none⟩) n n] 26)).alloc (.cells (madeCells #[.bool false] n) 4)).alloc (.cells #[.slice (some ⟨w.heap.size + 5, 0, none⟩) n n] 32)).alloc (.cells #[.slice none 0 0] 26)).alloc (.cells #[.int .i64 0] 3)

def tsZero : TS := ⟨fun _ => 0, fun _ => 0, [], 0, fun _ => 0, []⟩

theorem heap_new (w : World) (o : Obj) (k : Nat) (h : k = w.heap.size) : (w.alloc o).heap[k]? = some o := by subst h; exact heap_alloc_new w o
theorem row_new (w : World) (z : Value) (n k : Nat) (t : TypeId) (h : k = w.heap.size) : (w.alloc (.cells (madeCells #[z] n) t)).rowIs k t n (fun _ => z) := by subst h; exact World.rowIs_made w z n t

theorem comps_start (w : World) (n : Nat) : CW w n tsZero (.slice none 0 0) (.slice none 0 0) [] (compsWorld w n) := by
  have a0 : ∀ (v : World) (o : Obj), (v.alloc o).heap.size = v.heap.size + 1 := fun v o => by simp
  refine ⟨?_, ?_, ⟨?_, ?_, ?_, ?_, ?_, ?_, ?_, World.ownsRow_nil _ _ _ _, ?_⟩, World.ownsRow_nil _ _ _ _, by simp [tsZero]⟩
  · unfold compsWorld
    refine Below.alloc (Below.alloc (Below.alloc (Below.alloc (Below.alloc (Below.alloc (Below.alloc (Below.alloc (Below.alloc (Below.refl _ _) ?_ _) ?_ _) ?_ _) ?_ _) ?_ _) ?_ _) ?_ _) ?_ _) ?_ _ <;> (try simp only [a0]) <;> omega
  · exact ((((((((row_new _ _ _ _ _ rfl).alloc _).alloc _).alloc _).alloc _).alloc _).alloc _).alloc _).alloc _
  · exact ((((((((row_new _ _ _ _ _ (by simp only [a0])).alloc _).alloc _).alloc _).alloc _).alloc _).alloc _).alloc _)
  · unfold compsWorld
    rw [Below.heap_alloc _ _ _ (by simp only [a0]; omega), Below.heap_alloc _ _ _ (by simp only [a0]; omega), Below.heap_alloc _ _ _ (by simp only [a0]; omega), Below.heap_alloc _ _ _ (by simp only [a0]; omega), Below.heap_alloc _ _ _ (by simp only [a0]; omega), Below.heap_alloc _ _ _ (by simp only [a0]; omega)]
    exact heap_new _ _ _ (by simp only [a0])
  · exact ((((((row_new _ _ _ _ _ (by simp only [a0])).alloc _).alloc _).alloc _).alloc _).alloc _)
  · unfold compsWorld
    rw [Below.heap_alloc _ _ _ (by simp only [a0]; omega), Below.heap_alloc _ _ _ (by simp only [a0]; omega), Below.heap_alloc _ _ _ (by simp only [a0]; omega), Below.heap_alloc _ _ _ (by simp only [a0]; omega)]
    exact heap_new _ _ _ (by simp only [a0])
  · exact (((row_new _ _ _ _ _ (by simp only [a0])).alloc _).alloc _).alloc _
  · unfold compsWorld
    rw [Below.heap_alloc _ _ _ (by simp only [a0]; omega), Below.heap_alloc _ _ _ (by simp only [a0]; omega)]
    exact heap_new _ _ _ (by simp only [a0])
  · unfold compsWorld
    rw [Below.heap_alloc _ _ _ (by simp only [a0]; omega)]
    exact heap_new _ _ _ (by simp only [a0])
  · exact heap_new _ _ _ (by simp only [a0])

end Go.Proofs.Qxb6601793a
