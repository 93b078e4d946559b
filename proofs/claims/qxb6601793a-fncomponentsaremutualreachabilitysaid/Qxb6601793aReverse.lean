import Derived.Test.Qxb6601793aEnter
namespace Go.Proofs.Qxb6601793a
open Go.RowKit Go.Deep Scc

/-- The edges turned round so far: k nodes, and j edges of node k. -/
structure RevIn (M : Nat) (w : World) (n : Nat) (adj : Nat → List Nat) (k j : Nat) (L : Nat → List Nat) (f : Nat → Value) (wx : World) : Prop where
  below : Below w.heap.size w wx
  row : wx.rowIs w.heap.size 26 n f
  own : ∀ x, x < n → wx.ownsRow (w.heap.size + 1) 3 1 (f x) (L x).length (nodesV (L x))
  apart : ∀ x y b, x < n → y < n → x ≠ y → (f x).ownBlock = some b → (f y).ownBlock ≠ some b
  len : ∀ x, (L x).length ≤ k * M + j
  mem : ∀ x u, u ∈ L x ↔ (u < k ∧ x ∈ adj u) ∨ (u = k ∧ x ∈ (adj k).take j)

theorem RevIn.start (M : Nat) (w : World) (n : Nat) (adj : Nat → List Nat) : RevIn M w n adj 0 0 (fun _ => []) (fun _ => .slice none 0 0) (w.alloc (.cells (madeCells #[.slice none 0 0] n) 26)) :=
  ⟨(Below.refl _ _).alloc (Nat.le_refl _) _, World.rowIs_made _ _ _ _, fun _ _ => World.ownsRow_nil _ _ _ _, fun _ _ _ _ _ _ h => by simp [Value.ownBlock] at h, fun _ => by simp, fun x u => by simp⟩

theorem RevIn.next {M : Nat} {w : World} {n : Nat} {adj : Nat → List Nat} {k : Nat} {L : Nat → List Nat} {f : Nat → Value} {wx : World} (h : RevIn M w n adj k (adj k).length L f wx) (hl : (adj k).length ≤ M) : RevIn M w n adj (k + 1) 0 L f wx :=
  ⟨h.below, h.row, h.own, h.apart, fun x => by have h1 := h.len x; rw [Nat.add_mul, Nat.one_mul]; omega, fun x u => by
    rw [h.mem, List.take_length]
    simp only [List.take_zero, List.not_mem_nil, and_false, or_false]
    constructor
    · rintro (⟨a, b⟩ | ⟨rfl, b⟩)
      · exact ⟨by omega, b⟩
      · exact ⟨by omega, b⟩
    · rintro ⟨a, b⟩
      by_cases e : u = k
      · subst e; exact .inr ⟨rfl, b⟩
      · exact .inl ⟨by omega, b⟩⟩

theorem RevIn.step {M : Nat} {w : World} {n : Nat} {adj : Nat → List Nat} {k j : Nat} {L : Nat → List Nat} {f : Nat → Value} {wx w1 : World} (h : RevIn M w n adj k j L f wx) (hj : j < (adj k).length) {y : Nat} (hy : y = (adj k).getD j 0) (hyn : y < n) {g cap : Nat} (o : Obj)
    (hown : w1.ownsRow (w.heap.size + 1) 3 1 (.slice (some ⟨g, 0, none⟩) ((L y).length + 1) cap) ((L y).length + 1) (nodesV (L y) ++ [.int .i64 (k : Int)])) (hg : (wx.alloc o).grownBy w1 (f y).ownBlock) (hw : (f y).ownBlock = some g ∨ g = (wx.alloc o).heap.size) :
    RevIn M w n adj k (j + 1) (upd L y (L y ++ [k])) (upd f y (.slice (some ⟨g, 0, none⟩) ((L y).length + 1) cap)) (w1.setCell ⟨w.heap.size, y, none⟩ (.slice (some ⟨g, 0, none⟩) ((L y).length + 1) cap)) := by
  have hB : w.heap.size < wx.heap.size := h.row.lt
  have hfy := fun b e => (h.own y hyn).lt b e
  have kp : Kept (fun b => (f y).ownBlock = some b) wx w1 := ((Kept.refl _ wx).alloc o).grown hg (fun b e _ => e)
  have hb0 : ∀ b, b < w.heap.size + 1 → w1.heap[b]? = wx.heap[b]? := fun b hb => kp.block b (by omega) (fun e => by have := (hfy b e).1; omega)
  have hg1 : w.heap.size + 1 ≤ g := (hown.lt g rfl).1
  have hnot : ∀ x b, x < n → x ≠ y → (f x).ownBlock = some b → b ≠ g := by
    intro x b hx hne e1 e2
    subst e2
    rcases hw with hw | hw
    · exact h.apart x y b hx hyn hne e1 hw
    · have h2 := ((h.own x hx).lt b e1).2
      simp at hw; omega
  refine ⟨?_, ?_, ?_, ?_, ?_, ?_⟩
  · exact (h.below.trans ⟨kp.os, kp.tape, kp.output, kp.size, fun b hb => hb0 b (by omega)⟩).setCell (Nat.le_refl _) _
  · refine ((h.row.of_block (hb0 _ (by omega))).set y _).congr (fun i _ => ?_)
    simp only [upd]
  · intro x hx
    by_cases e : x = y
    · subst e
      rw [upd_same, upd_same]
      have e1 : (L x ++ [k]).length = (L x).length + 1 := by simp
      have e2 : nodesV (L x ++ [k]) = nodesV (L x) ++ [.int .i64 (k : Int)] := by simp [nodesV]
      rw [e1, e2]
      exact ownsRow_setCell_other hown (by simp [Value.ownBlock]; omega) _
    · rw [upd_other _ _ _ _ e, upd_other _ _ _ _ e]
      exact ownsRow_setCell_other (owns_kept (h.own x hx) kp (fun b e1 e2 => h.apart x y b hx hyn e e1 e2)) (fun e1 => by have := ((h.own x hx).lt _ e1).1; simp at this; omega) _
  · intro x z b hx hz hne e1
    by_cases ex : x = y
    · subst ex
      rw [upd_same] at e1
      simp only [Value.ownBlock, Option.some.injEq] at e1
      rw [upd_other _ _ _ _ (fun e => hne e.symm)]
      intro e2
      exact hnot z b hz (fun e => hne e.symm) e2 e1.symm
    · rw [upd_other _ _ _ _ ex] at e1
      by_cases ez : z = y
      · subst ez
        rw [upd_same]
        simp only [Value.ownBlock]
        intro e2
        injection e2 with e2
        exact hnot x b hx ex e1 e2.symm
      · rw [upd_other _ _ _ _ ez]
        exact h.apart x z b hx hz hne e1
  · intro x
    by_cases e : x = y
    · subst e; rw [upd_same]; have := h.len x; simp; omega
    · rw [upd_other _ _ _ _ e]; have := h.len x; omega
  · intro x u
    rw [take_succ_getD hj, ← hy]
    by_cases e : x = y
    · subst e
      rw [upd_same, List.mem_append, h.mem]
      simp only [List.mem_append, List.mem_singleton]
      constructor
      · rintro ((⟨a, b⟩ | ⟨a, b⟩) | rfl)
        · exact .inl ⟨a, b⟩
        · exact .inr ⟨a, .inl b⟩
        · exact .inr ⟨rfl, .inr trivial⟩
      · rintro (⟨a, b⟩ | ⟨a, b | b⟩)
        · exact .inl (.inl ⟨a, b⟩)
        · exact .inl (.inr ⟨a, b⟩)
        · exact .inr a
    · rw [upd_other _ _ _ _ e, h.mem]
      simp [e]

/-- What 'b1Reverse' leaves. -/
def RevPost (M n : Nat) (adj : Nat → List Nat) (w : World) (e : Ending) (w' : World) : Prop :=
  ∃ L f, e = .returned (.slice (some ⟨w.heap.size, 0, none⟩) n n) ∧ RevIn M w n adj n 0 L f w'

set_option maxHeartbeats 4000000 in
set_option maxRecDepth 100000 in
theorem reverse_any (M n : Nat) (adj : Nat → List Nat) (hn : n ≤ 65536) (hMn : n * M ≤ 1099511627776) (hadj : ∀ v, v < n → ∀ y ∈ adj v, y < n) (hlen : ∀ v, v < n → (adj v).length ≤ M) (K : Nat → Prop) (v0 : Value) (w : World) (hM : Mat w K v0 n adj) :
    Calls Try.prog 22 #[v0, .int .i64 (n : Int)] w fun e w' => RevPost M n adj w e w' := by
  obtain ⟨i3, hi3, hz30, hz31, hz32⟩ := info_parts Try.info3
  have hmk := run_make_row' (P := Try.prog) 25 26 (.slice none 0 0) 24 Try.underlying25 Try.info26 rfl .i64 .i64 n (by omega) (by omega)
  have hs0 := RevIn.start M w n adj
  go_enter Try.func22, Try.ntmps22
  go_wp2
  clear hmk
  go_loopg [6] n (fun g i wx => ∃ (k : Nat) (L : Nat → List Nat) (f : Nat → Value), k ≤ n ∧ g = n - k ∧ i = .int .i64 (k : Int) ∧ RevIn M w n adj k 0 L f wx)
  case atStart => exact ⟨0, _, _, Nat.zero_le _, rfl, rfl, hs0⟩
  case round =>
    clear hs0
    obtain ⟨k, L, f, hk, rfl, rfl, hR⟩ := hrel
    by_cases hkn : k < n
    · have hkz : (k : Int) < (n : Int) := by omega
      have hlk := hlen k hkn
      have hkM : k * M + M ≤ 1099511627776 := by
        have h1 : (k + 1) * M ≤ n * M := Nat.mul_le_mul_right M hkn
        rw [Nat.add_mul, Nat.one_mul] at h1
        omega
      obtain ⟨kM, HkM⟩ : ∃ kM, Hid (kM = k * M) := ⟨_, rfl⟩
      rw [← HkM.out] at hkM
      go_wp2
      go_loopg [7] (adj k).length (fun g i wx => ∃ (j : Nat) (L : Nat → List Nat) (f : Nat → Value), j ≤ (adj k).length ∧ g = (adj k).length - j ∧ i = .int .i64 (j : Int) ∧ RevIn M w n adj k j L f wx)
      case atStart => exact ⟨0, L, f, Nat.zero_le _, rfl, rfl, hR⟩
      case round =>
        clear hR
        clear L f
        obtain ⟨j, L, f, hj, rfl, rfl, hR⟩ := hrel
        obtain ⟨b, o, cap, ao, c, rfl, hb, hcell0, hrow⟩ := hM.at hkn
        have hcell : wr.cell? ⟨b, o + k, none⟩ = some (.slice ao (adj k).length c) := by rw [hR.below.cell (p := ⟨b, o + k, none⟩) hb]; exact hcell0
        by_cases hjl : j < (adj k).length
        · have hjz : (j : Int) < ((adj k).length : Int) := by omega
          obtain ⟨b', o', rfl, hb', hc0⟩ := hrow j hjl
          obtain ⟨y, hy⟩ : ∃ y, y = (adj k).getD j 0 := ⟨_, rfl⟩
          have hc' : wr.cell? ⟨b', o' + j, none⟩ = some (.int .i64 (y : Int)) := by rw [hR.below.cell (p := ⟨b', o' + j, none⟩) hb', hc0, hy]
          have hyn : y < n := hadj k hkn y (by rw [hy]; exact mem_take_of_getD hjl)
          have hyz : (y : Int) < (n : Int) := by omega
          have HY : Hid (y = (adj k).getD j 0) := hy
          have hcy := hR.row.cell hyn
          have hoy := hR.own y hyn
          have hly := hR.len y
          rw [← HkM.out] at hly
          have hB : w.heap.size < wr.heap.size := hR.row.lt
          have after : Hid (∀ w1, (wr.alloc (.cells #[.int .i64 (k : Int)] 3)).grownBy w1 (f y).ownBlock → w1.cell? ⟨w.heap.size, y, none⟩ = some (f y) ∧ w1.frozen? ⟨w.heap.size, y, none⟩ = false) := by
            intro w1 hg
            have hb1 : w1.heap[w.heap.size]? = wr.heap[w.heap.size]? := (hg.block _ (by simp; omega) (fun e => by have := (hoy.lt _ e.symm).1; omega)).trans (Below.heap_alloc _ _ _ hB)
            have r1 := hR.row.of_block hb1
            exact ⟨r1.cell hyn, r1.frozen y⟩
          clear hy hrow hcell0 hc0
          go_wp2_with (at_builtin; refine wpList_append_where _ rfl (.tmp 37) (.tmp 39) 26 rfl (w.heap.size + 1) 3 i3 (.int .i64 0) 1 8 Try.underlying26 hi3 hz30 hz31 hz32 rfl (by decide) (f y) (L y).length (nodesV (L y)) rfl (hoy.alloc _) ⟨wr.heap.size, 0, none⟩ 1 1 [.int .i64 (k : Int)] rfl rfl (cell_one_new _ _ _) (by simp [Value.oneCell']) (by decide) (by unfold maxLen; omega) (by omega) (by simp; omega) ?_; intro g cap1 w1 hown1 hgrow1 hwhere1; obtain ⟨a1, a2⟩ := after.out w1 hgrow1)
          go_roundg ((adj k).length - (j + 1))
          case measure => go_light; omega
          case rel => go_light; exact ⟨j + 1, _, _, by omega, rfl, by simp, hR.step hjl HY.out hyn _ hown1 hgrow1 hwhere1⟩
        · have hjz : ¬ (j : Int) < ((adj k).length : Int) := by omega
          clear hrow hcell0
          go_wp2
          go_roundg (n - (k + 1))
          case measure => go_light; omega
          case rel =>
            go_light
            obtain rfl : j = (adj k).length := by omega
            exact ⟨k + 1, L, f, by omega, rfl, by simp, hR.next hlk⟩
    · have hkz : ¬ (k : Int) < (n : Int) := by omega
      go_wp2
      go_ret
      obtain rfl : k = n := by omega
      exact ⟨L, f, rfl, hR⟩

/-- The turned graph as a matrix. -/
theorem RevIn.mat {M : Nat} {w : World} {n : Nat} {adj : Nat → List Nat} {L : Nat → List Nat} {f : Nat → Value} {wx : World} (h : RevIn M w n adj n 0 L f wx) : Mat wx (fun b => w.heap.size ≤ b) (.slice (some ⟨w.heap.size, 0, none⟩) n n) n L := by
  refine ⟨f, (Sl.of_row h.row).widen (fun b _ e => by rw [e]; exact Nat.le_refl _), fun i hi => ?_⟩
  have ho := h.own i hi
  refine (owns_sl ho _ (fun j hj => ?_)).widen (fun b _ e => by have := (ho.lt b e).1; omega)
  simp [nodesV, List.getD, List.getElem?_eq_getElem hj]

end Go.Proofs.Qxb6601793a
