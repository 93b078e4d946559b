import Derived.Test.Qxb6601793aG0
import Derived.Test.Qxb6601793aFind
namespace Go.Proofs.Qxb6601793a
open Go.RowKit Go.Deep Scc

/-- The nudges and the graph, as they lie. -/
structure G3 (n : Nat) (S : Nat → Nat → List UInt8) (N : List (List UInt8)) (O I : Nat → List Nat) (F : Nat → Nat) (v0 vn vo vi vf : Value) (wx : World) : Prop where
  nud : Sl4 wx (fun _ => True) v0 n (fun i q => ⟨(S i q).toArray⟩)
  names : Sl wx (fun _ => True) vn N.length (fun j => .string ⟨(N.getD j []).toArray⟩)
  out : Mat wx (fun _ => True) vo N.length O
  inn : Mat wx (fun _ => True) vi N.length I
  first : Sl wx (fun _ => True) vf (N.length + 1) (fun j => .int .i64 (F j : Int))

theorem G3.below {n : Nat} {S : Nat → Nat → List UInt8} {N : List (List UInt8)} {O I : Nat → List Nat} {F : Nat → Nat} {v0 vn vo vi vf : Value} {wx wy : World} (h : G3 n S N O I F v0 vn vo vi vf wx) (hb : Below wx.heap.size wx wy) : G3 n S N O I F v0 vn vo vi vf wy := by
  have k : Kept (fun _ => False) wx wy := ⟨hb.os, hb.tape, hb.output, hb.size, fun k hk _ => hb.block k hk⟩
  exact ⟨h.nud.kept k (fun _ _ h => h), h.names.kept k (fun _ _ h => h), h.out.kept k (fun _ _ h => h), h.inn.kept k (fun _ _ h => h), h.first.kept k (fun _ _ h => h)⟩

theorem mat_widen {K L : Nat → Prop} {w : World} {v : Value} {n : Nat} {adj : Nat → List Nat} (h : Mat w K v n adj) (e : ∀ b, b < w.heap.size → K b → L b) : Mat w L v n adj := by
  obtain ⟨f, h1, h2⟩ := h
  exact ⟨f, h1.widen e, fun i hi => (h2 i hi).widen e⟩

theorem ZgOut.g3 {n : Nat} {S : Nat → Nat → List UInt8} {w : World} {N : List (List UInt8)} {O I : Nat → List Nat} {F : Nat → Nat} {v0 vn vo vi vf : Value} {w' : World} (h : ZgOut n S w N O I F vn vo vi vf w') (h0 : Sl4 w (fun _ => True) v0 n (fun i q => ⟨(S i q).toArray⟩)) : G3 n S N O I F v0 vn vo vi vf w' := by
  have k : Kept (fun _ => False) w w' := ⟨h.below.os, h.below.tape, h.below.output, h.below.size, fun k hk _ => h.below.block k hk⟩
  exact ⟨h0.kept k (fun _ _ h => h), h.names.widen (fun _ _ _ => trivial), mat_widen h.out (fun _ _ _ => trivial), mat_widen h.inn (fun _ _ _ => trivial), h.first.widen (fun _ _ _ => trivial)⟩

/-- Which names and edges the first k nudges have met. -/
structure HS3 (n : Nat) (S : Nat → Nat → List UInt8) (N : List (List UInt8)) (O I : Nat → List Nat) (F : Nat → Nat) (v0 vn vo vi vf : Value) (W : World) (bn bh k : Nat) (nm hd : Nat → Bool) (wx : World) : Prop where
  g : G3 n S N O I F v0 vn vo vi vf wx
  below : Below W.heap.size W wx
  low : W.heap.size ≤ bn ∧ W.heap.size ≤ bh ∧ bn ≠ bh
  gn : ∀ wy, Kept (fun b => b = bn ∨ b = bh) wx wy → G3 n S N O I F v0 vn vo vi vf wy
  rn : wx.rowIs bn 4 N.length (fun i => .bool (nm i))
  rh : wx.rowIs bh 4 (F N.length) (fun i => .bool (hd i))
  hn : ∀ i, i < k → ∀ x, x < N.length → (N.getD x [] = S i 0 ∨ N.getD x [] = S i 1) → nm x = true
  hh : ∀ i, i < k → ∀ u j, u < N.length → j < (O u).length → S i 0 ≠ S i 1 → N.getD u [] = S i 0 → N.getD ((O u).getD j 0) [] = S i 1 → hd (F u + j) = true

section
variable {n : Nat} {S : Nat → Nat → List UInt8} {N : List (List UInt8)} {O I : Nat → List Nat} {F : Nat → Nat} {v0 vn vo vi vf : Value} {W wx wy : World} {bn bh k : Nat} {nm hd : Nat → Bool}

theorem HS3.start (hg : G3 n S N O I F v0 vn vo vi vf wx) (hb : Below W.heap.size W wx) :
    HS3 n S N O I F v0 vn vo vi vf W wx.heap.size (wx.heap.size + 1) 0 (fun _ => false) (fun _ => false) ((wx.alloc (.cells (madeCells #[.bool false] N.length) 4)).alloc (.cells (madeCells #[.bool false] (F N.length)) 4)) := by
  have hs := hb.size
  have k1 := ((Kept.refl (fun _ => False) wx).alloc (.cells (madeCells #[.bool false] N.length) 4)).alloc (.cells (madeCells #[.bool false] (F N.length)) 4)
  have hb2 : Below wx.heap.size wx ((wx.alloc (.cells (madeCells #[.bool false] N.length) 4)).alloc (.cells (madeCells #[.bool false] (F N.length)) 4)) := k1.below (Nat.le_refl _) (fun _ e => e.elim)
  have r2 := World.rowIs_made (wx.alloc (.cells (madeCells #[.bool false] N.length) 4)) (.bool false) (F N.length) 4
  rw [show (wx.alloc (.cells (madeCells #[.bool false] N.length) 4)).heap.size = wx.heap.size + 1 by simp] at r2
  refine ⟨hg.below hb2, hb.trans (hb2.mono hs), ⟨hs, by omega, by omega⟩, fun wy ky => hg.below ?_, (World.rowIs_made wx (.bool false) N.length 4).alloc _, r2, fun i hi => by omega, fun i hi => by omega⟩
  refine hb2.trans (ky.below (by simp; omega) (fun b e => by omega))

/-- A name is met. -/
theorem HS3.name (h : HS3 n S N O I F v0 vn vo vi vf W bn bh k nm hd wx) (u : Nat) : HS3 n S N O I F v0 vn vo vi vf W bn bh k (upd nm u true) hd (wx.setCell ⟨bn, u, none⟩ (.bool true)) := by
  have k1 := (Kept.refl (fun b => b = bn ∨ b = bh) wx).setCell (p := ⟨bn, u, none⟩) (fun _ => .inl rfl) (.bool true)
  have hl := h.low
  refine ⟨h.gn _ k1, h.below.trans (k1.below h.below.size (fun b e => by omega)), h.low, fun wy ky => h.gn wy (k1.trans ky), (h.rn.set u _).congr (fun j _ => ?_), h.rh.setOther (by show bh ≠ bn; omega) _, fun i hi x hx e => ?_, h.hh⟩
  · simp only [upd]; split <;> rfl
  · simp only [upd]; split
    · rfl
    · exact h.hn i hi x hx e

/-- An edge is met. -/
theorem HS3.edge (h : HS3 n S N O I F v0 vn vo vi vf W bn bh k nm hd wx) (x : Nat) : HS3 n S N O I F v0 vn vo vi vf W bn bh k nm (upd hd x true) (wx.setCell ⟨bh, x, none⟩ (.bool true)) := by
  have k1 := (Kept.refl (fun b => b = bn ∨ b = bh) wx).setCell (p := ⟨bh, x, none⟩) (fun _ => .inr rfl) (.bool true)
  have hl := h.low
  refine ⟨h.gn _ k1, h.below.trans (k1.below h.below.size (fun b e => by omega)), h.low, fun wy ky => h.gn wy (k1.trans ky), h.rn.setOther (by show bn ≠ bh; omega) _, (h.rh.set x _).congr (fun j _ => ?_), h.hn, fun i hi u j hu hj e1 e2 e3 => ?_⟩
  · simp only [upd]; split <;> rfl
  · simp only [upd]; split
    · rfl
    · exact h.hh i hi u j hu hj e1 e2 e3

theorem names_one (hN : N.Pairwise (· < ·)) {i j : Nat} (hi : i < N.length) (hj : j < N.length) (e : N.getD i [] = N.getD j []) : i = j := by
  rcases Nat.lt_trichotomy i j with h | h | h
  · have := names_lt hN h hj; rw [e] at this; exact absurd this (List.lt_irrefl _)
  · exact h
  · have := names_lt hN h hi; rw [e] at this; exact absurd this (List.lt_irrefl _)

theorem names_place {s : List UInt8} (h : s ∈ N) : ∃ i, i < N.length ∧ N.getD i [] = s := by
  obtain ⟨i, hi, e⟩ := List.getElem_of_mem h
  exact ⟨i, hi, by simp [List.getD, List.getElem?_eq_getElem hi, e]⟩

theorem asc_one {l : List Nat} (hl : l.Pairwise (· < ·)) {i j : Nat} (hi : i < l.length) (hj : j < l.length) (e : l.getD i 0 = l.getD j 0) : i = j := by
  rcases Nat.lt_trichotomy i j with h | h | h
  · have := asc_getD hl h hj; omega
  · exact h
  · have := asc_getD hl h hi; omega

theorem nats_place {l : List Nat} {x : Nat} (h : x ∈ l) : ∃ i, i < l.length ∧ l.getD i 0 = x := by
  obtain ⟨i, hi, e⟩ := List.getElem_of_mem h
  exact ⟨i, hi, by simp [List.getD, List.getElem?_eq_getElem hi, e]⟩

/-- Nudge k is met: its two names, and its edge where it has one. -/
theorem HS3.next (h : HS3 n S N O I F v0 vn vo vi vf W bn bh k nm hd wx) (hs : GSpec n S N O I F) {u v : Nat} (hu : u < N.length) (hv : v < N.length) (eu : N.getD u [] = S k 0) (ev : N.getD v [] = S k 1) (n1 : nm u = true) (n2 : nm v = true)
    (he : u ≠ v → ∃ p, p < (O u).length ∧ (O u).getD p 0 = v ∧ hd (F u + p) = true) : HS3 n S N O I F v0 vn vo vi vf W bn bh (k + 1) nm hd wx := by
  refine ⟨h.g, h.below, h.low, h.gn, h.rn, h.rh, fun i hi x hx e => ?_, fun i hi x j hx hj e1 e2 e3 => ?_⟩
  · by_cases hik : i = k
    · subst hik
      rcases e with e | e
      · rw [names_one hs.asc hx hu (e.trans eu.symm)]; exact n1
      · rw [names_one hs.asc hx hv (e.trans ev.symm)]; exact n2
    · exact h.hn i (by omega) x hx e
  · by_cases hik : i = k
    · subst hik
      have ex := names_one hs.asc hx hu (e2.trans eu.symm)
      subst ex
      have hy : (O x).getD j 0 < N.length := hs.olt x hx _ (mem_take_of_getD hj)
      have ey := names_one hs.asc hy hv (e3.trans ev.symm)
      obtain ⟨p, hp, ep, hd1⟩ := he (fun e => by
        subst e
        exact e1 (eu.symm.trans ev))
      have := asc_one (hs.oa x hx) hj hp (ey.trans ep.symm)
      subst this
      exact hd1
    · exact h.hh i (by omega) x j hx hj e1 e2 e3

theorem HS3.all_names (h : HS3 n S N O I F v0 vn vo vi vf W bn bh n nm hd wx) (hs : GSpec n S N O I F) {x : Nat} (hx : x < N.length) : nm x = true := by
  have hm : N.getD x [] ∈ N := by
    simp only [List.getD, List.getElem?_eq_getElem hx, Option.getD_some]
    exact List.getElem_mem hx
  obtain ⟨i, hi, e⟩ := (hs.mem _).1 hm
  exact h.hn i hi x hx e

/-- A number below a sum lies in one of its parts. -/
theorem sum_part (f : Nat → Nat) : ∀ m e, e < sumTo m f → ∃ u, u < m ∧ ∃ j, j < f u ∧ e = sumTo u f + j
  | 0, e, h => by simp [sumTo] at h
  | m + 1, e, h => by
    by_cases he : e < sumTo m f
    · obtain ⟨u, hu, j, hj, e1⟩ := sum_part f m e he
      exact ⟨u, by omega, j, hj, e1⟩
    · simp only [sumTo] at h
      exact ⟨m, by omega, e - sumTo m f, by omega, by omega⟩

theorem HS3.all_edges (h : HS3 n S N O I F v0 vn vo vi vf W bn bh n nm hd wx) (hs : GSpec n S N O I F) {e : Nat} (he : e < F N.length) : hd e = true := by
  rw [hs.fs _ (Nat.le_refl _)] at he
  obtain ⟨u, hu, j, hj, rfl⟩ := sum_part _ _ _ he
  have hy := mem_take_of_getD hj
  have hyl := hs.olt u hu _ hy
  obtain ⟨i, hi, h1, h2, h3⟩ := (hs.mo u _ hu hyl).1 hy
  have := h.hh i hi u j hu hj h1 h2 h3
  rw [hs.fs u (by omega)] at this
  exact this

theorem GSpec.first_next (hs : GSpec n S N O I F) {u : Nat} (hu : u < N.length) : F (u + 1) = F u + (O u).length := by
  rw [hs.fs (u + 1) (by omega), hs.fs u (by omega)]
  rfl

theorem GSpec.first_le (hs : GSpec n S N O I F) {u : Nat} (hu : u ≤ N.length) : F u ≤ F N.length := by
  rw [hs.fs u hu, hs.fs _ (Nat.le_refl _)]
  exact sumTo_mono _ _ hu

theorem GSpec.first_small (hs : GSpec n S N O I F) {u : Nat} (hu : u ≤ N.length) : F u ≤ 4294967296 := by
  rw [hs.fs u hu]
  have h1 := sumTo_le_mul u (fun x => (O x).length) 65536 (fun i hi => hs.ol (by omega))
  have h2 : u * 65536 ≤ 65536 * 65536 := Nat.mul_le_mul_right _ (by have := hs.nl; omega)
  omega

/-- As many in as out. -/
theorem GSpec.count (hs : GSpec n S N O I F) : sumTo N.length (fun v => (I v).length) = F N.length := by
  rw [hs.fs _ (Nat.le_refl _)]
  have hO : sumTo N.length (fun u => (O u).length) = sumTo N.length (fun u => sumTo N.length (fun v => if v ∈ O u then 1 else 0)) :=
    sumTo_congr _ _ _ (fun u hu => sumTo_mem N.length (O u) ((hs.oa u hu).imp_of_mem (fun _ _ h e => by omega)) (hs.olt u hu))
  have hI : sumTo N.length (fun v => (I v).length) = sumTo N.length (fun v => sumTo N.length (fun u => if u ∈ I v then 1 else 0)) :=
    sumTo_congr _ _ _ (fun v hv => sumTo_mem N.length (I v) ((hs.ia v hv).imp_of_mem (fun _ _ h e => by omega)) (hs.ilt v hv))
  rw [hO, hI, sumTo_swap]
  refine sumTo_congr _ _ _ (fun u hu => sumTo_congr _ _ _ (fun v hv => ?_))
  have h1 : u ∈ I v ↔ v ∈ O u := (hs.mi u v hu hv).trans (hs.mo u v hu hv).symm
  by_cases h2 : v ∈ O u
  · rw [if_pos (h1.2 h2), if_pos h2]
  · rw [if_neg (fun h => h2 (h1.1 h)), if_neg h2]

theorem GSpec.back (hs : GSpec n S N O I F) {v j : Nat} (hv : v < N.length) (hj : j < (I v).length) : (I v).getD j 0 < N.length ∧ ∃ p, p < (O ((I v).getD j 0)).length ∧ (O ((I v).getD j 0)).getD p 0 = v := by
  have hy := mem_take_of_getD hj
  have hyl := hs.ilt v hv _ hy
  refine ⟨hyl, nats_place ?_⟩
  exact (hs.mo _ v hyl hv).2 ((hs.mi _ v hyl hv).1 hy)

theorem GSpec.there (hs : GSpec n S N O I F) {i u v : Nat} (hi : i < n) (hu : u < N.length) (hv : v < N.length) (eu : N.getD u [] = S i 0) (ev : N.getD v [] = S i 1) (hne : u ≠ v) : ∃ p, p < (O u).length ∧ (O u).getD p 0 = v := by
  refine nats_place ((hs.mo u v hu hv).2 ⟨i, hi, fun e => hne ?_, eu, ev⟩)
  exact names_one hs.asc hu hv (eu.trans (e.trans ev.symm))

theorem GSpec.ends (hs : GSpec n S N O I F) {i : Nat} (hi : i < n) : ∃ u v, u < N.length ∧ v < N.length ∧ N.getD u [] = S i 0 ∧ N.getD v [] = S i 1 := by
  obtain ⟨u, hu, e1⟩ := names_place ((hs.mem (S i 0)).2 ⟨i, hi, .inl rfl⟩)
  obtain ⟨v, hv, e2⟩ := names_place ((hs.mem (S i 1)).2 ⟨i, hi, .inr rfl⟩)
  exact ⟨u, v, hu, hv, e1, e2⟩
end

end Go.Proofs.Qxb6601793a
