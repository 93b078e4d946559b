import Derived.Test.Qxb6601793aGraph
/-! Tarjan's algorithm with a stack of its own: the state, its invariant, what each step does to it. Plain: no Go in sight. -/
namespace Go.Proofs.Qxb6601793a
namespace Scc

/-- A frame of the search: the node, how many of its successors have been followed, the finished nodes above it on the stack (the top first). -/
structure Fr where
  p : Nat
  k : Nat
  bl : List Nat

/-- The stack, the top first. -/
def stk : List Fr → List Nat
  | [] => []
  | f :: fs => f.bl ++ f.p :: stk fs

theorem mem_stk {x : Nat} : ∀ {fs : List Fr}, x ∈ stk fs ↔ ∃ f ∈ fs, x ∈ f.bl ∨ x = f.p
  | [] => by simp [stk]
  | f :: fs => by simp [stk, mem_stk (fs := fs), or_assoc]

structure TS where
  order : Nat → Nat
  low : Nat → Nat
  frs : List Fr
  reached : Nat
  comp : Nat → Int
  members : List (List Nat)

def Done (s : TS) (v : Nat) : Prop := s.order v ≠ 0 ∧ v ∉ stk s.frs

/-- What holds of the nodes that are done. -/
structure CInv (adj : Nat → List Nat) (D : Nat → Prop) (comp : Nat → Int) (members : List (List Nat)) : Prop where
  closed : ∀ u, D u → ∀ v ∈ adj u, D v
  mem2 : ∀ (i : Nat) (l : List Nat), members[i]? = some l → 2 ≤ l.length ∧ l.Pairwise (· < ·) ∧ ∀ u, u ∈ l ↔ D u ∧ comp u = i
  compIn : ∀ u, D u → -1 ≤ comp u ∧ comp u < members.length
  lone : ∀ u, D u → comp u = -1 → ∀ v, Mutu (Edg adj) u v → v = u
  same : ∀ u v, D u → D v → 0 ≤ comp u → comp u = comp v → Mutu (Edg adj) u v
  mutu : ∀ u v, D u → Mutu (Edg adj) u v → u ≠ v → comp u = comp v ∧ 0 ≤ comp u
  topo : ∀ u v, D u → Rch (Edg adj) u v → 0 ≤ comp u → 0 ≤ comp v → comp v ≤ comp u

theorem CInv.reach {adj : Nat → List Nat} {D : Nat → Prop} (hc : ∀ u, D u → ∀ v ∈ adj u, D v) {u v : Nat} (hu : D u) (hr : Rch (Edg adj) u v) : D v :=
  hr D (fun x y hx e => hc x hx y e) hu

/-- A component is done. -/
theorem CInv.add {adj : Nat → List Nat} {D : Nat → Prop} {comp : Nat → Int} {members : List (List Nat)} (h : CInv adj D comp members) (A : List Nat)
    (hmut : ∀ a ∈ A, ∀ b ∈ A, Mutu (Edg adj) a b) (hcl : ∀ a ∈ A, ∀ y ∈ adj a, y ∈ A ∨ D y) (hdis : ∀ a ∈ A, ¬ D a) (comp' : Nat → Int) (members' : List (List Nat)) (c : Int) (nodes : List Nat)
    (hnodes : ∀ u, u ∈ nodes ↔ u ∈ A) (hsort : nodes.Pairwise (· < ·)) (hcomp : ∀ u, comp' u = if u ∈ A then c else comp u)
    (hc : (nodes.length ≤ 1 ∧ c = -1 ∧ members' = members) ∨ (2 ≤ nodes.length ∧ c = members.length ∧ members' = members ++ [nodes])) :
    CInv adj (fun u => D u ∨ u ∈ A) comp' members' := by
  have hcl' : ∀ u, (D u ∨ u ∈ A) → ∀ v ∈ adj u, D v ∨ v ∈ A := by
    rintro u (hu | hu) v hv
    · exact .inl (h.closed u hu v hv)
    · exact (hcl u hu v hv).symm
  have hin : ∀ u, u ∈ A → comp' u = c := fun u hu => by rw [hcomp, if_pos hu]
  have hout : ∀ u, u ∉ A → comp' u = comp u := fun u hu => by rw [hcomp, if_neg hu]
  have hDA : ∀ u, D u → u ∉ A := fun u hu ha => hdis u ha hu
  have hcls : ∀ u v, u ∈ A → Mutu (Edg adj) u v → v ∈ A := by
    intro u v hu hm
    rcases CInv.reach (D := fun u => D u ∨ u ∈ A) hcl' (.inr hu) hm.1 with hv | hv
    · exact absurd (CInv.reach h.closed hv hm.2) (hdis u hu)
    · exact hv
  have hone : nodes.length ≤ 1 → ∀ u v, u ∈ A → v ∈ A → v = u := by
    intro hl u v hu hv
    have h1 := (hnodes u).2 hu
    have h2 := (hnodes v).2 hv
    match nodes, hl with
    | [], _ => simp at h1
    | [x], _ => simp at h1 h2; rw [h1, h2]
    | _ :: _ :: _, hl => simp at hl
  have hlen : members.length ≤ members'.length := by rcases hc with ⟨_, _, e⟩ | ⟨_, _, e⟩ <;> rw [e] <;> simp
  refine ⟨hcl', ?_, ?_, ?_, ?_, ?_, ?_⟩
  · intro i l hl
    by_cases hi : i < members.length
    · have hl' : members[i]? = some l := by
        rcases hc with ⟨_, _, e⟩ | ⟨_, _, e⟩
        · rwa [e] at hl
        · rwa [e, List.getElem?_append_left hi] at hl
      obtain ⟨a1, a2, a3⟩ := h.mem2 i l hl'
      refine ⟨a1, a2, fun u => ⟨fun hu => ?_, fun hu => ?_⟩⟩
      · obtain ⟨d, e⟩ := (a3 u).1 hu
        exact ⟨.inl d, by rw [hout u (hDA u d)]; exact e⟩
      · obtain ⟨d, e⟩ := hu
        by_cases ha : u ∈ A
        · rw [hin u ha] at e
          rcases hc with ⟨_, e2, _⟩ | ⟨_, e2, _⟩ <;> omega
        · rw [hout u ha] at e
          exact (a3 u).2 ⟨d.resolve_right ha, e⟩
    · rcases hc with ⟨_, _, e⟩ | ⟨h2, e2, e⟩
      · rw [e, List.getElem?_eq_none (by omega)] at hl; simp at hl
      · rw [e, List.getElem?_append_right (by omega)] at hl
        have hi0 : i - members.length = 0 := by
          rcases Nat.eq_zero_or_pos (i - members.length) with h0 | h0
          · exact h0
          · rw [List.getElem?_eq_none (by simp; omega)] at hl; simp at hl
        rw [hi0] at hl
        simp at hl
        subst hl
        have hie : i = members.length := by omega
        subst hie
        refine ⟨h2, hsort, fun u => ⟨fun hu => ?_, fun hu => ?_⟩⟩
        · have ha := (hnodes u).1 hu
          exact ⟨.inr ha, by rw [hin u ha]; exact e2⟩
        · obtain ⟨d, e3⟩ := hu
          refine (hnodes u).2 ?_
          by_cases ha : u ∈ A
          · exact ha
          · rw [hout u ha] at e3
            have := (h.compIn u (d.resolve_right ha)).2
            omega
  · rintro u hu
    by_cases ha : u ∈ A
    · rw [hin u ha]
      rcases hc with ⟨_, e2, e⟩ | ⟨_, e2, e⟩
      · rw [e2]; omega
      · rw [e2, e]; simp; omega
    · rw [hout u ha]
      have := h.compIn u (hu.resolve_right ha)
      omega
  · rintro u hu hcu v hm
    by_cases ha : u ∈ A
    · rw [hin u ha] at hcu
      rcases hc with ⟨hl, _, _⟩ | ⟨_, e2, _⟩
      · exact hone hl u v ha (hcls u v ha hm)
      · omega
    · rw [hout u ha] at hcu
      exact h.lone u (hu.resolve_right ha) hcu v hm
  · rintro u v hu hv h0 he
    by_cases ha : u ∈ A
    · by_cases hb : v ∈ A
      · exact hmut u ha v hb
      · rw [hin u ha] at he h0
        rw [hout v hb] at he
        have := (h.compIn v (hv.resolve_right hb)).2
        rcases hc with ⟨_, e2, _⟩ | ⟨_, e2, _⟩ <;> omega
    · by_cases hb : v ∈ A
      · rw [hout u ha] at he h0
        rw [hin v hb] at he
        have := (h.compIn u (hu.resolve_right ha)).2
        rcases hc with ⟨_, e2, _⟩ | ⟨_, e2, _⟩ <;> omega
      · rw [hout u ha] at he h0
        rw [hout v hb] at he
        exact h.same u v (hu.resolve_right ha) (hv.resolve_right hb) h0 he
  · rintro u v hu hm hne
    by_cases ha : u ∈ A
    · have hb := hcls u v ha hm
      rw [hin u ha, hin v hb]
      refine ⟨rfl, ?_⟩
      rcases hc with ⟨hl, _, _⟩ | ⟨_, e2, _⟩
      · exact absurd (hone hl u v ha hb).symm hne
      · omega
    · have hb : v ∉ A := fun hb => ha (hcls v u hb hm.symm)
      rw [hout u ha, hout v hb]
      exact h.mutu u v (hu.resolve_right ha) hm hne
  · rintro u v hu hr h0 h1
    by_cases ha : u ∈ A
    · by_cases hb : v ∈ A
      · rw [hin u ha, hin v hb]; exact Int.le_refl _
      · rw [hin u ha] at h0 ⊢
        rw [hout v hb] at h1 ⊢
        have hv := (CInv.reach (D := fun u => D u ∨ u ∈ A) hcl' (.inr ha) hr).resolve_right hb
        have := (h.compIn v hv).2
        rcases hc with ⟨_, e2, _⟩ | ⟨_, e2, _⟩ <;> omega
    · have hu' := hu.resolve_right ha
      have hv := CInv.reach h.closed hu' hr
      rw [hout u ha] at h0 ⊢
      rw [hout v (hDA v hv)] at h1 ⊢
      exact h.topo u v hu' hr h0 h1

/-- What holds of one frame. -/
structure FrOk (adj : Nat → List Nat) (order low : Nat → Nat) (st : List Nat) (f : Fr) : Prop where
  k_le : f.k ≤ (adj f.p).length
  expB : ∀ y ∈ f.bl, ∀ w ∈ adj y, order w ≠ 0
  expP : ∀ w ∈ (adj f.p).take f.k, order w ≠ 0
  mutu : ∀ y ∈ f.bl, Mutu (Edg adj) f.p y
  lowLe : low f.p ≤ order f.p
  lowIs : ∃ x ∈ st, order x = low f.p ∧ Rch (Edg adj) f.p x
  lowB : ∀ y ∈ f.bl, ∀ w ∈ adj y, w ∈ st → low f.p ≤ order w
  lowP : ∀ w ∈ (adj f.p).take f.k, w ∈ st → low f.p ≤ order w

structure Inv (n : Nat) (adj : Nat → List Nat) (s : TS) : Prop where
  desc : (stk s.frs).Pairwise (fun a b => s.order b < s.order a)
  on0 : ∀ v ∈ stk s.frs, s.order v ≠ 0
  ordLe : ∀ v, s.order v ≤ s.reached
  ordN : ∀ v, s.order v ≠ 0 → v < n
  count : s.reached + sumTo n (fun v => if s.order v = 0 then 1 else 0) = n
  path : (s.frs.map Fr.p).Pairwise (fun a b => Rch (Edg adj) b a)
  frOk : ∀ f ∈ s.frs, FrOk adj s.order s.low (stk s.frs) f
  room : s.members.length + (stk s.frs).length ≤ s.reached
  cinv : CInv adj (Done s) s.comp s.members

theorem Inv.stkN {n : Nat} {adj : Nat → List Nat} {s : TS} (h : Inv n adj s) {v : Nat} (hv : v ∈ stk s.frs) : v < n := h.ordN v (h.on0 v hv)
theorem Inv.reachedLe {n : Nat} {adj : Nat → List Nat} {s : TS} (h : Inv n adj s) : s.reached ≤ n := by have := h.count; omega
theorem Inv.nodup {n : Nat} {adj : Nat → List Nat} {s : TS} (h : Inv n adj s) : (stk s.frs).Nodup := h.desc.imp_of_mem (fun _ _ hab e => by subst e; omega)

/-- The beginning: nothing is reached. -/
theorem Inv.zero (n : Nat) (adj : Nat → List Nat) (comp : Nat → Int) : Inv n adj ⟨fun _ => 0, fun _ => 0, [], 0, comp, []⟩ := by
  have hs : ∀ m : Nat, sumTo m (fun _ => 1) = m := fun m => by induction m with
    | zero => rfl
    | succ m ih => simp only [sumTo, ih]
  refine ⟨by simp [stk], by simp [stk], by simp, by simp, by simp [hs], by simp, by simp, by simp [stk], ?_⟩
  refine ⟨?_, by simp, ?_, ?_, ?_, ?_, ?_⟩ <;> intro u <;> intros <;> simp_all [Done]

theorem stk_cons (f : Fr) (fs : List Fr) : stk (f :: fs) = f.bl ++ f.p :: stk fs := rfl

/-- A node is reached: it is laid on the path and on the stack. 'fs': the frames, one of which may have followed the edge that led there. -/
theorem Inv.enter {n : Nat} {adj : Nat → List Nat} {s : TS} (h : Inv n adj s) {w : Nat} (hw : w < n) (h0 : s.order w = 0) (fs : List Fr) (hst : stk fs = stk s.frs) (hp : fs.map Fr.p = s.frs.map Fr.p)
    (hfs : ∀ f' ∈ fs, Rch (Edg adj) f'.p w ∧ ∃ f ∈ s.frs, f'.p = f.p ∧ f'.bl = f.bl ∧ f'.k ≤ (adj f'.p).length ∧ ∀ x ∈ (adj f'.p).take f'.k, x ∈ (adj f.p).take f.k ∨ x = w) :
    Inv n adj ⟨upd s.order w (s.reached + 1), upd s.low w (s.reached + 1), ⟨w, 0, []⟩ :: fs, s.reached + 1, s.comp, s.members⟩ := by
  have hws : w ∉ stk s.frs := fun e => h.on0 w e h0
  have hne : ∀ x, s.order x ≠ 0 → x ≠ w := fun x hx e => hx (e ▸ h0)
  have ho : ∀ x, s.order x ≠ 0 → upd s.order w (s.reached + 1) x = s.order x := fun x hx => upd_other _ _ _ _ (hne x hx)
  have hox : ∀ x, s.order x ≠ 0 → upd s.order w (s.reached + 1) x ≠ 0 := fun x hx => by rw [ho x hx]; exact hx
  have hstk : stk (⟨w, 0, []⟩ :: fs) = w :: stk s.frs := by simp [stk, hst]
  have hD : Done ⟨upd s.order w (s.reached + 1), upd s.low w (s.reached + 1), ⟨w, 0, []⟩ :: fs, s.reached + 1, s.comp, s.members⟩ = Done s := by
    funext x
    simp only [Done, hstk, List.mem_cons, not_or, eq_iff_iff]
    constructor
    · rintro ⟨a, b, c⟩
      rw [upd_other _ _ _ _ b] at a
      exact ⟨a, c⟩
    · rintro ⟨a, c⟩
      exact ⟨hox x a, hne x a, c⟩
  refine ⟨?_, ?_, ?_, ?_, ?_, ?_, ?_, ?_, ?_⟩
  · simp only [hstk]
    refine List.pairwise_cons.2 ⟨fun b hb => ?_, h.desc.imp_of_mem (fun ha hb hab => ?_)⟩
    · rw [upd_same, ho b (h.on0 b hb)]; have := h.ordLe b; omega
    · rw [ho _ (h.on0 _ ha), ho _ (h.on0 _ hb)]; exact hab
  · simp only [hstk]
    intro v hv
    rcases List.mem_cons.1 hv with rfl | hv
    · rw [upd_same]; omega
    · exact hox v (h.on0 v hv)
  · intro v
    simp only [upd]
    split
    · exact Nat.le_refl _
    · have := h.ordLe v; omega
  · intro v hv
    by_cases e : v = w
    · subst e; exact hw
    · simp only [upd_other _ _ _ _ e] at hv; exact h.ordN v hv
  · have h1 := h.count
    have h2 := sumTo_upd n (fun v => if s.order v = 0 then 1 else 0) (fun v => if upd s.order w (s.reached + 1) v = 0 then 1 else 0) w hw (fun j hj => by simp only [upd_other _ _ _ _ hj])
    simp only [upd_same, h0, if_true] at h2
    rw [if_neg (by omega)] at h2
    show s.reached + 1 + sumTo n (fun v => if upd s.order w (s.reached + 1) v = 0 then 1 else 0) = n
    omega
  · simp only [List.map_cons]
    refine List.pairwise_cons.2 ⟨fun b hb => ?_, by rw [hp]; exact h.path⟩
    obtain ⟨f, hf, rfl⟩ := List.mem_map.1 hb
    exact (hfs f hf).1
  · intro f' hf'
    show FrOk adj (upd s.order w (s.reached + 1)) (upd s.low w (s.reached + 1)) (stk (⟨w, 0, []⟩ :: fs)) f'
    rw [hstk]
    rcases List.mem_cons.1 hf' with rfl | hf'
    · exact ⟨by simp, by simp, by simp, by simp, by simp [upd_same], ⟨w, by simp, by simp [upd_same], Rch.refl _⟩, by simp, by simp⟩
    · obtain ⟨_, f, hf, e1, e2, hk, htk⟩ := hfs f' hf'
      have o := h.frOk f hf
      have hfo : s.order f.p ≠ 0 := h.on0 _ (mem_stk.2 ⟨f, hf, .inr rfl⟩)
      have hlow : upd s.low w (s.reached + 1) f.p = s.low f.p := upd_other _ _ _ _ (hne _ hfo)
      refine ⟨hk, ?_, ?_, ?_, ?_, ?_, ?_, ?_⟩
      · rw [e2]; intro y hy z hz; exact hox z (o.expB y hy z hz)
      · intro z hz
        rcases htk z hz with hz | rfl
        · exact hox z (o.expP z hz)
        · rw [upd_same]; omega
      · rw [e1, e2]; exact o.mutu
      · rw [e1, hlow, ho _ hfo]; exact o.lowLe
      · obtain ⟨x, hx, hx1, hx2⟩ := o.lowIs
        exact ⟨x, List.mem_cons_of_mem _ hx, by rw [e1, hlow, ho _ (h.on0 x hx)]; exact hx1, by rw [e1]; exact hx2⟩
      · rw [e1, e2, hlow]
        intro y hy z hz hzs
        have hzo := o.expB y hy z hz
        rw [ho z hzo]
        exact o.lowB y hy z hz ((List.mem_cons.1 hzs).resolve_left (hne z hzo))
      · intro z hz hzs
        rw [e1, hlow]
        rcases htk z hz with hz | rfl
        · have hzo := o.expP z hz
          rw [ho z hzo]
          exact o.lowP z hz ((List.mem_cons.1 hzs).resolve_left (hne z hzo))
        · rw [upd_same]
          have := o.lowLe
          have := h.ordLe f.p
          omega
  · simp only [hstk, List.length_cons]
    have := h.room
    omega
  · rw [hD]; exact h.cinv

/-- An edge is followed to a node that has been reached. -/
theorem Inv.next {n : Nat} {adj : Nat → List Nat} {s : TS} (h : Inv n adj s) {v k : Nat} {bl : List Nat} {rest : List Fr} (hf : s.frs = ⟨v, k, bl⟩ :: rest) (hk : k < (adj v).length)
    (ho : s.order ((adj v).getD k 0) ≠ 0) (l : Nat) (hl : l = if (adj v).getD k 0 ∈ stk s.frs then min (s.low v) (s.order ((adj v).getD k 0)) else s.low v) :
    Inv n adj ⟨s.order, upd s.low v l, ⟨v, k + 1, bl⟩ :: rest, s.reached, s.comp, s.members⟩ := by
  have hst : stk (⟨v, k + 1, bl⟩ :: rest) = stk s.frs := by rw [hf]; rfl
  have hD : Done ⟨s.order, upd s.low v l, ⟨v, k + 1, bl⟩ :: rest, s.reached, s.comp, s.members⟩ = Done s := by
    funext x; simp only [Done, hst]
  have hle : l ≤ s.low v := by rw [hl]; split <;> omega
  have hnd := h.nodup
  have hvr : ∀ f ∈ rest, f.p ≠ v := by
    intro f hfr e
    rw [hf, stk_cons] at hnd
    have h1 := (List.nodup_append.1 hnd).2.1
    exact (List.nodup_cons.1 h1).1 (mem_stk.2 ⟨f, hfr, .inr e.symm⟩)
  have o := h.frOk ⟨v, k, bl⟩ (by rw [hf]; simp)
  refine ⟨by rw [hst]; exact h.desc, by rw [hst]; exact h.on0, h.ordLe, h.ordN, h.count, by have := h.path; rw [hf] at this; exact this, ?_, by rw [hst]; exact h.room, by rw [hD]; exact h.cinv⟩
  intro f hfm
  rw [hst]
  rcases List.mem_cons.1 hfm with rfl | hfm
  · refine ⟨hk, o.expB, ?_, o.mutu, ?_, ?_, ?_, ?_⟩
    · intro z hz
      simp only [take_succ_getD hk, List.mem_append, List.mem_singleton] at hz
      rcases hz with hz | rfl
      · exact o.expP z hz
      · exact ho
    · simp only [upd_same]; have := o.lowLe; simp only at this; omega
    · simp only [upd_same]
      by_cases hm : (adj v).getD k 0 ∈ stk s.frs
      · rw [if_pos hm] at hl
        rcases Nat.le_total (s.low v) (s.order ((adj v).getD k 0)) with h1 | h1
        · rw [hl, Nat.min_eq_left h1]; exact o.lowIs
        · exact ⟨_, hm, by rw [hl, Nat.min_eq_right h1], Rch.edge (mem_take_of_getD hk)⟩
      · rw [if_neg hm] at hl; rw [hl]; exact o.lowIs
    · simp only [upd_same]
      intro y hy z hz hzs
      have := o.lowB y hy z hz hzs
      simp only at this; omega
    · simp only [upd_same]
      intro z hz hzs
      simp only [take_succ_getD hk, List.mem_append, List.mem_singleton] at hz
      rcases hz with hz | rfl
      · have := o.lowP z hz hzs
        simp only at this; omega
      · rw [hl, if_pos hzs]; exact Nat.min_le_right _ _
  · have o' := h.frOk f (by rw [hf]; exact List.mem_cons_of_mem _ hfm)
    have e : upd s.low v l f.p = s.low f.p := upd_other _ _ _ _ (hvr f hfm)
    exact ⟨o'.k_le, o'.expB, o'.expP, o'.mutu, by simp only [e]; exact o'.lowLe, by simp only [e]; exact o'.lowIs, by simp only [e]; exact o'.lowB, by simp only [e]; exact o'.lowP⟩

/-- Every node on the stack below the top frame reaches the next frame's node. -/
theorem Inv.reachTop {n : Nat} {adj : Nat → List Nat} {s : TS} (h : Inv n adj s) {f g : Fr} {rest : List Fr} (hf : s.frs = f :: g :: rest) {x : Nat} (hx : x ∈ stk (g :: rest)) : Rch (Edg adj) x g.p := by
  obtain ⟨f', hf', hx'⟩ := mem_stk.1 hx
  have o := h.frOk f' (by rw [hf]; exact List.mem_cons_of_mem _ hf')
  have h1 : Rch (Edg adj) x f'.p := by
    rcases hx' with hx' | rfl
    · exact (o.mutu x hx').2
    · exact Rch.refl _
  refine h1.trans ?_
  rcases List.mem_cons.1 hf' with rfl | hf''
  · exact Rch.refl _
  · have hp := h.path
    rw [hf] at hp
    simp only [List.map_cons] at hp
    exact (List.pairwise_cons.1 (List.pairwise_cons.1 hp).2).1 _ (List.mem_map_of_mem hf'')

/-- The top frame's node is no first node of its component: it stays on the stack. -/
theorem Inv.popKeep {n : Nat} {adj : Nat → List Nat} {s : TS} (h : Inv n adj s) {v k p kp : Nat} {bl blp : List Nat} {rest : List Fr} (hf : s.frs = ⟨v, k, bl⟩ :: ⟨p, kp, blp⟩ :: rest) (hk : k = (adj v).length)
    (hlow : s.low v ≠ s.order v) : Inv n adj ⟨s.order, upd s.low p (min (s.low p) (s.low v)), ⟨p, kp, bl ++ v :: blp⟩ :: rest, s.reached, s.comp, s.members⟩ := by
  have hst : stk (⟨p, kp, bl ++ v :: blp⟩ :: rest) = stk s.frs := by rw [hf]; simp [stk]
  have hD : Done ⟨s.order, upd s.low p (min (s.low p) (s.low v)), ⟨p, kp, bl ++ v :: blp⟩ :: rest, s.reached, s.comp, s.members⟩ = Done s := by
    funext x; simp only [Done, hst]
  have hnd := h.nodup
  have hpr : ∀ f ∈ rest, f.p ≠ p := by
    intro f hfr e
    rw [hf, stk_cons, stk_cons] at hnd
    have h1 := (List.nodup_cons.1 (List.nodup_append.1 hnd).2.1).2
    have h2 := (List.nodup_append.1 h1).2.1
    exact (List.nodup_cons.1 h2).1 (mem_stk.2 ⟨f, hfr, .inr e.symm⟩)
  have ov := h.frOk ⟨v, k, bl⟩ (by rw [hf]; simp)
  have op := h.frOk ⟨p, kp, blp⟩ (by rw [hf]; simp)
  have hpv : Rch (Edg adj) p v := by
    have hp := h.path
    rw [hf] at hp
    simp only [List.map_cons] at hp
    exact (List.pairwise_cons.1 hp).1 p (by simp)
  have hall : ∀ z ∈ adj v, z ∈ (adj v).take k := fun z hz => by rw [hk, List.take_length]; exact hz
  have hvp : Rch (Edg adj) v p := by
    obtain ⟨x, hx, hx1, hx2⟩ := ov.lowIs
    have hlt : s.order x < s.order v := by
      have := ov.lowLe
      simp only at this hx1
      omega
    have hx' : x ∈ stk (⟨p, kp, blp⟩ :: rest) := by
      have hd := h.desc
      rw [hf, stk_cons] at hx hd
      rcases List.mem_append.1 hx with hb | hb
      · have := (List.pairwise_append.1 hd).2.2 x hb v (by simp)
        omega
      · rcases List.mem_cons.1 hb with rfl | hb
        · omega
        · exact hb
    exact hx2.trans (h.reachTop hf hx')
  refine ⟨by rw [hst]; exact h.desc, by rw [hst]; exact h.on0, h.ordLe, h.ordN, h.count, ?_, ?_, by rw [hst]; exact h.room, by rw [hD]; exact h.cinv⟩
  · have hp := h.path
    rw [hf] at hp
    simp only [List.map_cons] at hp
    exact (List.pairwise_cons.1 hp).2
  · intro f hfm
    rw [hst]
    rcases List.mem_cons.1 hfm with rfl | hfm
    · have hm1 : min (s.low p) (s.low v) ≤ s.low p := Nat.min_le_left _ _
      have hm2 : min (s.low p) (s.low v) ≤ s.low v := Nat.min_le_right _ _
      refine ⟨op.k_le, ?_, op.expP, ?_, ?_, ?_, ?_, ?_⟩
      · intro y hy z hz
        rcases List.mem_append.1 hy with hy | hy
        · exact ov.expB y hy z hz
        · rcases List.mem_cons.1 hy with rfl | hy
          · exact ov.expP z (hall z hz)
          · exact op.expB y hy z hz
      · intro y hy
        rcases List.mem_append.1 hy with hy | hy
        · exact Mutu.trans ⟨hpv, hvp⟩ (ov.mutu y hy)
        · rcases List.mem_cons.1 hy with rfl | hy
          · exact ⟨hpv, hvp⟩
          · exact op.mutu y hy
      · simp only [upd_same]; have := op.lowLe; simp only at this; omega
      · simp only [upd_same]
        rcases Nat.le_total (s.low p) (s.low v) with h1 | h1
        · rw [Nat.min_eq_left h1]; exact op.lowIs
        · rw [Nat.min_eq_right h1]
          obtain ⟨x, hx, hx1, hx2⟩ := ov.lowIs
          exact ⟨x, hx, hx1, hpv.trans hx2⟩
      · simp only [upd_same]
        intro y hy z hz hzs
        rcases List.mem_append.1 hy with hy | hy
        · have := ov.lowB y hy z hz hzs; simp only at this; omega
        · rcases List.mem_cons.1 hy with rfl | hy
          · have := ov.lowP z (hall z hz) hzs; simp only at this; omega
          · have := op.lowB y hy z hz hzs; simp only at this; omega
      · simp only [upd_same]
        intro z hz hzs
        have := op.lowP z hz hzs; simp only at this; omega
    · have o' := h.frOk f (by rw [hf]; exact List.mem_cons_of_mem _ (List.mem_cons_of_mem _ hfm))
      have e : upd s.low p (min (s.low p) (s.low v)) f.p = s.low f.p := upd_other _ _ _ _ (hpr f hfm)
      exact ⟨o'.k_le, o'.expB, o'.expP, o'.mutu, by simp only [e]; exact o'.lowLe, by simp only [e]; exact o'.lowIs, by simp only [e]; exact o'.lowB, by simp only [e]; exact o'.lowP⟩

/-- The lowest frame's node is the first of its component. -/
theorem Inv.lowLast {n : Nat} {adj : Nat → List Nat} {s : TS} (h : Inv n adj s) {v k : Nat} {bl : List Nat} (hf : s.frs = [⟨v, k, bl⟩]) : s.low v = s.order v := by
  have ov := h.frOk ⟨v, k, bl⟩ (by rw [hf]; simp)
  obtain ⟨x, hx, hx1, _⟩ := ov.lowIs
  have hle := ov.lowLe
  simp only at hx1 hle
  have hd := h.desc
  rw [hf, stk_cons] at hx hd
  simp only [stk] at hx hd
  rcases List.mem_append.1 hx with hb | hb
  · have := (List.pairwise_append.1 hd).2.2 x hb v (by simp)
    omega
  · simp at hb
    subst hb
    exact hx1.symm

/-- The top frame's node is the first of its component, which leaves the stack. 'low'': as it was at the frames that stay. -/
theorem Inv.popComp {n : Nat} {adj : Nat → List Nat} {s : TS} (h : Inv n adj s) {v k : Nat} {bl : List Nat} {rest : List Fr} (hf : s.frs = ⟨v, k, bl⟩ :: rest) (hk : k = (adj v).length)
    (hlow : s.low v = s.order v) (low' : Nat → Nat) (hl' : ∀ f ∈ rest, low' f.p = s.low f.p) (comp' : Nat → Int) (members' : List (List Nat)) (c : Int) (nodes : List Nat)
    (hnodes : ∀ u, u ∈ nodes ↔ u ∈ bl ++ [v]) (hsort : nodes.Pairwise (· < ·)) (hcomp : ∀ u, comp' u = if u ∈ bl ++ [v] then c else s.comp u)
    (hc : (nodes.length ≤ 1 ∧ c = -1 ∧ members' = s.members) ∨ (2 ≤ nodes.length ∧ c = s.members.length ∧ members' = s.members ++ [nodes])) :
    Inv n adj ⟨s.order, low', rest, s.reached, comp', members'⟩ := by
  have ov := h.frOk ⟨v, k, bl⟩ (by rw [hf]; simp)
  have hall : ∀ z ∈ adj v, z ∈ (adj v).take k := fun z hz => by rw [hk, List.take_length]; exact hz
  have hstk : stk s.frs = (bl ++ [v]) ++ stk rest := by rw [hf]; simp [stk]
  have hd := h.desc
  have hnd := h.nodup
  rw [hstk] at hd hnd
  have hapart : ∀ x ∈ bl ++ [v], x ∉ stk rest := fun x hx hr => (List.nodup_append.1 hnd).2.2 x hx x hr rfl
  have hvle : ∀ x ∈ bl ++ [v], s.order v ≤ s.order x := by
    intro x hx
    rcases List.mem_append.1 hx with hb | hb
    · have := (List.pairwise_append.1 (List.pairwise_append.1 hd).1).2.2 x hb v (by simp)
      omega
    · simp at hb; subst hb; exact Nat.le_refl _
  have hvgt : ∀ x ∈ stk rest, s.order x < s.order v := fun x hx => (List.pairwise_append.1 hd).2.2 v (by simp) x hx
  have hD : Done ⟨s.order, low', rest, s.reached, comp', members'⟩ = fun u => Done s u ∨ u ∈ bl ++ [v] := by
    funext x
    simp only [Done, hstk, eq_iff_iff]
    constructor
    · rintro ⟨a, b⟩
      by_cases hx : x ∈ bl ++ [v]
      · exact .inr hx
      · exact .inl ⟨a, fun e => (List.mem_append.1 e).elim hx b⟩
    · rintro (⟨a, b⟩ | hx)
      · exact ⟨a, fun e => b (List.mem_append.2 (.inr e))⟩
      · exact ⟨h.on0 x (by rw [hstk]; exact List.mem_append.2 (.inl hx)), hapart x hx⟩
  have hroom := h.room
  rw [hstk] at hroom
  simp only [List.length_append, List.length_cons, List.length_nil] at hroom
  refine ⟨(List.pairwise_append.1 hd).2.1, fun x hx => h.on0 x (by rw [hstk]; exact List.mem_append.2 (.inr hx)), h.ordLe, h.ordN, h.count, ?_, ?_, ?_, ?_⟩
  · have hp := h.path
    rw [hf] at hp
    simp only [List.map_cons] at hp
    exact (List.pairwise_cons.1 hp).2
  · intro f hfm
    have o := h.frOk f (by rw [hf]; exact List.mem_cons_of_mem _ hfm)
    have e := hl' f hfm
    have hsub : ∀ x, x ∈ stk rest → x ∈ stk s.frs := fun x hx => by rw [hstk]; exact List.mem_append.2 (.inr hx)
    refine ⟨o.k_le, o.expB, o.expP, o.mutu, by simp only [e]; exact o.lowLe, ?_, by simp only [e]; exact fun y hy z hz hzs => o.lowB y hy z hz (hsub z hzs), by simp only [e]; exact fun z hz hzs => o.lowP z hz (hsub z hzs)⟩
    obtain ⟨x, hx, hx1, hx2⟩ := o.lowIs
    refine ⟨x, ?_, by simp only [e]; exact hx1, hx2⟩
    rw [hstk] at hx
    rcases List.mem_append.1 hx with hb | hb
    · have h1 := hvle x hb
      have h2 := hvgt f.p (mem_stk.2 ⟨f, hfm, .inr rfl⟩)
      have h3 := o.lowLe
      omega
    · exact hb
  · show members'.length + (stk rest).length ≤ s.reached
    rcases hc with ⟨_, _, e⟩ | ⟨_, _, e⟩
    · rw [e]; omega
    · rw [e]; simp only [List.length_append, List.length_cons, List.length_nil]; omega
  · rw [hD]
    refine h.cinv.add (bl ++ [v]) ?_ ?_ ?_ comp' members' c nodes hnodes hsort hcomp hc
    · have hm : ∀ a ∈ bl ++ [v], Mutu (Edg adj) v a := by
        intro a ha
        rcases List.mem_append.1 ha with hb | hb
        · exact ov.mutu a hb
        · simp at hb; subst hb; exact ⟨Rch.refl _, Rch.refl _⟩
      exact fun a ha b hb => (hm a ha).symm.trans (hm b hb)
    · intro a ha y hy
      have hy0 : s.order y ≠ 0 := by
        rcases List.mem_append.1 ha with hb | hb
        · exact ov.expB a hb y hy
        · simp at hb; subst hb; exact ov.expP y (hall y hy)
      by_cases hys : y ∈ stk s.frs
      · have hly : s.low v ≤ s.order y := by
          rcases List.mem_append.1 ha with hb | hb
          · exact ov.lowB a hb y hy hys
          · simp at hb; subst hb; exact ov.lowP y (hall y hy) hys
        rw [hstk] at hys
        rcases List.mem_append.1 hys with hb | hb
        · exact .inl hb
        · have := hvgt y hb; omega
      · exact .inr ⟨hy0, hys⟩
    · intro a ha hda
      exact hda.2 (by rw [hstk]; exact List.mem_append.2 (.inl ha))

/-! ### How many rounds are to come -/

def mu (n : Nat) (adj : Nat → List Nat) (s : TS) : Nat :=
  (s.frs.map fun f => 1 + ((adj f.p).length - f.k)).sum + sumTo n (fun v => if s.order v = 0 then 1 + (adj v).length else 0)

theorem mu_enter {n : Nat} {adj : Nat → List Nat} {s : TS} {w : Nat} (hw : w < n) (h0 : s.order w = 0) (fs : List Fr) (r : Nat) (lw : Nat → Nat) (cp : Nat → Int) (ms : List (List Nat)) :
    mu n adj ⟨upd s.order w (r + 1), lw, ⟨w, 0, []⟩ :: fs, r + 1, cp, ms⟩ + (s.frs.map fun f => 1 + ((adj f.p).length - f.k)).sum = mu n adj s + (fs.map fun f => 1 + ((adj f.p).length - f.k)).sum := by
  have h2 := sumTo_upd n (fun v => if s.order v = 0 then 1 + (adj v).length else 0) (fun v => if upd s.order w (r + 1) v = 0 then 1 + (adj v).length else 0) w hw (fun j hj => by simp only [upd_other _ _ _ _ hj])
  simp only [upd_same, h0, if_true] at h2
  rw [if_neg (by omega)] at h2
  simp only [mu, List.map_cons, List.sum_cons]
  omega

/-- An edge is followed to a node that is new. -/
theorem Inv.push {n : Nat} {adj : Nat → List Nat} {s : TS} (h : Inv n adj s) {v k : Nat} {bl : List Nat} {rest : List Fr} (hf : s.frs = ⟨v, k, bl⟩ :: rest) (hk : k < (adj v).length) {y : Nat} (hy : y = (adj v).getD k 0) (hyn : y < n) (h0 : s.order y = 0) :
    Inv n adj ⟨upd s.order y (s.reached + 1), upd s.low y (s.reached + 1), ⟨y, 0, []⟩ :: ⟨v, k + 1, bl⟩ :: rest, s.reached + 1, s.comp, s.members⟩ := by
  have hvy : y ∈ adj v := by rw [hy]; exact mem_take_of_getD hk
  refine h.enter hyn h0 (⟨v, k + 1, bl⟩ :: rest) (by rw [hf]; rfl) (by rw [hf]; rfl) ?_
  intro f' hf'
  rcases List.mem_cons.1 hf' with rfl | hf'
  · refine ⟨Rch.edge hvy, ⟨v, k, bl⟩, by rw [hf]; simp, rfl, rfl, hk, fun x hx => ?_⟩
    simp only [take_succ_getD hk, List.mem_append, List.mem_singleton] at hx
    rw [hy]; exact hx
  · have hp := h.path
    rw [hf] at hp
    simp only [List.map_cons] at hp
    refine ⟨((List.pairwise_cons.1 hp).1 f'.p (List.mem_map_of_mem hf')).trans (Rch.edge hvy), f', by rw [hf]; exact List.mem_cons_of_mem _ hf', rfl, rfl, (h.frOk f' (by rw [hf]; exact List.mem_cons_of_mem _ hf')).k_le, fun x hx => .inl hx⟩

theorem mu_push {n : Nat} {adj : Nat → List Nat} {s : TS} {v k : Nat} {bl : List Nat} {rest : List Fr} (hf : s.frs = ⟨v, k, bl⟩ :: rest) (hk : k < (adj v).length) {y : Nat} (hyn : y < n) (h0 : s.order y = 0) :
    mu n adj ⟨upd s.order y (s.reached + 1), upd s.low y (s.reached + 1), ⟨y, 0, []⟩ :: ⟨v, k + 1, bl⟩ :: rest, s.reached + 1, s.comp, s.members⟩ < mu n adj s := by
  have h1 := mu_enter (adj := adj) hyn h0 (⟨v, k + 1, bl⟩ :: rest) s.reached (upd s.low y (s.reached + 1)) s.comp s.members
  rw [hf] at h1
  simp only [List.map_cons, List.sum_cons] at h1
  omega

theorem mu_next {n : Nat} {adj : Nat → List Nat} {s : TS} {v k : Nat} {bl : List Nat} {rest : List Fr} (hf : s.frs = ⟨v, k, bl⟩ :: rest) (hk : k < (adj v).length) (lw : Nat → Nat) :
    mu n adj ⟨s.order, lw, ⟨v, k + 1, bl⟩ :: rest, s.reached, s.comp, s.members⟩ < mu n adj s := by
  simp only [mu, hf, List.map_cons, List.sum_cons]
  omega

theorem mu_pop {n : Nat} {adj : Nat → List Nat} {s : TS} {f : Fr} {fs : List Fr} (hf : s.frs = f :: fs) (lw : Nat → Nat) (fs' : List Fr) (hm : fs'.map (fun f => (f.p, f.k)) = fs.map (fun f => (f.p, f.k))) (cp : Nat → Int) (ms : List (List Nat)) :
    mu n adj ⟨s.order, lw, fs', s.reached, cp, ms⟩ < mu n adj s := by
  have e : fs'.map (fun f => 1 + ((adj f.p).length - f.k)) = fs.map (fun f => 1 + ((adj f.p).length - f.k)) := by
    have h1 := congrArg (List.map (fun q : Nat × Nat => 1 + ((adj q.1).length - q.2))) hm
    simpa [List.map_map, Function.comp_def] using h1
  simp only [mu, hf, List.map_cons, List.sum_cons, e]
  omega

/-- The end: every node is done. -/
theorem Inv.fin {n : Nat} {adj : Nat → List Nat} {s : TS} (h : Inv n adj s) (hf : s.frs = []) (hall : ∀ v, v < n → s.order v ≠ 0) : CInv adj (fun v => v < n) s.comp s.members := by
  have hD : Done s = fun v => v < n := by
    funext x
    simp only [Done, hf, stk, eq_iff_iff]
    exact ⟨fun a => h.ordN x a.1, fun a => ⟨hall x a, by simp⟩⟩
  have := h.cinv
  rwa [hD] at this

end Scc
end Go.Proofs.Qxb6601793a
