import Derived.Test.Qxb6601793aBase
import Derived.Test.Qxb6601793aCount
namespace Go.Proofs.Qxb6601793a
open Go.RowKit Go.Deep Scc

/-- True comes back; nothing but draws. -/
def TruePost (w : World) (e : Ending) (w' : World) : Prop := e = .returned (.bool true) ∧ ∃ m, w' = w.drewN m

set_option maxHeartbeats 1000000 in
set_option maxRecDepth 100000 in
theorem eqints_any (l : List Nat) (hl : l.length ≤ 1099511627776) (w : World) (K1 K2 : Nat → Prop) (va vb : Value) (h1 : Sl w K1 va l.length (fun j => .int .i64 ((l.getD j 0 : Nat) : Int))) (h2 : Sl w K2 vb l.length (fun j => .int .i64 ((l.getD j 0 : Nat) : Int))) :
    Calls Try.prog 18 #[va, vb] w fun e w' => TruePost w e w' := by
  obtain ⟨a1, c1, hv1⟩ := h1.shape
  obtain ⟨a2, c2, hv2⟩ := h2.shape
  subst hv1; subst hv2
  go_enter Try.func18, Try.ntmps18
  go_wp2
  go_loopg [5] l.length (fun g i wx => ∃ (j m : Nat), j ≤ l.length ∧ g = l.length - j ∧ i = .int .i64 (j : Int) ∧ w.drewN m = wx)
  case atStart => exact ⟨0, 0, Nat.zero_le _, rfl, rfl, rfl⟩
  case round =>
    obtain ⟨j, m, hj, rfl, rfl, rfl⟩ := hrel
    by_cases hjl : j < l.length
    · have hjz : (j : Int) < (l.length : Int) := by omega
      obtain ⟨b, o, cap, hv, hb, _, hc⟩ := h1.at hjl
      simp only [Value.slice.injEq] at hv
      obtain ⟨rfl, _, rfl⟩ := hv
      obtain ⟨b', o', cap', hv, hb', _, hc'⟩ := h2.at hjl
      simp only [Value.slice.injEq] at hv
      obtain ⟨rfl, _, rfl⟩ := hv
      have e1 := hc j hjl
      have e2 := hc' j hjl
      generalize l.getD j 0 = x at e1 e2
      clear hc hc'
      go_wp2_with fail
      go_quiet (fail)
      go_wp2
      go_roundg (l.length - (j + 1))
      case measure => go_light; omega
      case rel => go_light; exact ⟨j + 1, _, by omega, rfl, by simp, rfl⟩
    · have hjz : ¬ (j : Int) < (l.length : Int) := by omega
      go_wp2
      go_ret
      exact ⟨rfl, m, rfl⟩

/-! Plain: the components of the turned graph. -/
theorem turned {adj L : Nat → List Nat} (hL : ∀ x u, u ∈ L x ↔ x ∈ adj u) (a b : Nat) : Rch (Edg L) a b ↔ Rch (Edg adj) b a := by
  constructor
  · intro h
    exact (h.turn).mono (fun x y e => (hL y x).1 e)
  · intro h
    exact (h.turn).mono (fun x y e => (hL x y).2 e)

theorem turned_mutu {adj L : Nat → List Nat} (hL : ∀ x u, u ∈ L x ↔ x ∈ adj u) (a b : Nat) : Mutu (Edg L) a b ↔ Mutu (Edg adj) a b := by
  unfold Mutu; rw [turned hL, turned hL]; exact And.comm

section
variable {n : Nat} {adj L : Nat → List Nat} {c1 c2 : Nat → Int} {m1 m2 : List (List Nat)}

/-- In some component here, in some component there. -/
theorem same_in (h1 : CInv adj (fun v => v < n) c1 m1) (h2 : CInv L (fun v => v < n) c2 m2) (hm : ∀ a b, Mutu (Edg L) a b ↔ Mutu (Edg adj) a b) {v : Nat} (hv : v < n) (h0 : 0 ≤ c1 v) : 0 ≤ c2 v := by
  have hin := h1.compIn v hv
  have hi : (c1 v).toNat < m1.length := by omega
  obtain ⟨hl, hasc, hmem⟩ := h1.member hi
  have e : ((c1 v).toNat : Int) = c1 v := by omega
  -- another node of the component
  obtain ⟨u, hu, hne⟩ : ∃ u, u ∈ m1.getD (c1 v).toNat [] ∧ u ≠ v := by
    generalize m1.getD (c1 v).toNat [] = l at *
    match l, hl with
    | a :: b :: t, _ =>
      have hab : a < b := (List.pairwise_cons.1 hasc).1 b (by simp)
      by_cases ha : a = v
      · exact ⟨b, by simp, by omega⟩
      · exact ⟨a, by simp, ha⟩
    | [_], hl => simp at hl
    | [], hl => simp at hl
  obtain ⟨hun, huc⟩ := (hmem u).1 hu
  have hmut := h1.same v u hv hun h0 (by rw [huc, e])
  exact (h2.mutu v u hv ((hm v u).2 hmut) (fun e => hne e.symm)).2

theorem len_le (h1 : CInv adj (fun v => v < n) c1 m1) (h2 : CInv L (fun v => v < n) c2 m2) (hm : ∀ a b, Mutu (Edg L) a b ↔ Mutu (Edg adj) a b) : m1.length ≤ m2.length := by
  have hfirst : ∀ i, i < m1.length → (m1.getD i []).getD 0 0 < n ∧ c1 ((m1.getD i []).getD 0 0) = i := by
    intro i hi
    obtain ⟨hl, _, hmem⟩ := h1.member hi
    exact (hmem _).1 (mem_take_of_getD (by omega))
  have h3 := nodup_length m2.length ((List.range m1.length).map (fun i => (c2 ((m1.getD i []).getD 0 0)).toNat)) ?_ ?_
  · simpa using h3
  · rw [List.Nodup, List.pairwise_map]
    refine List.nodup_range.imp_of_mem (fun {i j} hi hj hne => ?_)
    intro e
    have hi' : i < m1.length := List.mem_range.1 hi
    have hj' : j < m1.length := List.mem_range.1 hj
    obtain ⟨a1, a2⟩ := hfirst i hi'
    obtain ⟨b1, b2⟩ := hfirst j hj'
    have p1 := same_in h1 h2 hm a1 (by omega)
    have p2 := same_in h1 h2 hm b1 (by omega)
    have hmut := (hm _ _).1 (h2.same _ _ a1 b1 p1 (by omega))
    by_cases e2 : (m1.getD i []).getD 0 0 = (m1.getD j []).getD 0 0
    · rw [e2] at a2; omega
    · have := (h1.mutu _ _ a1 hmut e2).1
      omega
  · intro x hx
    obtain ⟨i, hi, rfl⟩ := List.mem_map.1 hx
    have hi' : i < m1.length := List.mem_range.1 hi
    obtain ⟨a1, a2⟩ := hfirst i hi'
    have p1 := same_in h1 h2 hm a1 (by omega)
    have := (h2.compIn _ a1).2
    omega

theorem law6_plain (h1 : CInv adj (fun v => v < n) c1 m1) (h2 : CInv L (fun v => v < n) c2 m2) (hL : ∀ x u, u ∈ L x ↔ x ∈ adj u) :
    m1.length = m2.length ∧ (∀ v, v < n → (0 ≤ c1 v ↔ 0 ≤ c2 v)) ∧
    ∀ i, i < m1.length → 2 ≤ (m1.getD i []).length ∧ (m1.getD i []).length ≤ n ∧ (m1.getD i []).getD 0 0 < n ∧ ∃ j : Nat, j < m2.length ∧ c2 ((m1.getD i []).getD 0 0) = j ∧ m2.getD j [] = m1.getD i [] := by
  have hm := turned_mutu hL
  have hm' : ∀ a b, Mutu (Edg adj) a b ↔ Mutu (Edg L) a b := fun a b => (hm a b).symm
  refine ⟨Nat.le_antisymm (len_le h1 h2 hm) (len_le h2 h1 hm'), fun v hv => ⟨same_in h1 h2 hm hv, same_in h2 h1 hm' hv⟩, fun i hi => ?_⟩
  obtain ⟨hl, hasc, hmem⟩ := h1.member hi
  obtain ⟨a1, a2⟩ := (hmem _).1 (mem_take_of_getD (l := m1.getD i []) (k := 0) (by omega))
  have p1 := same_in h1 h2 hm a1 (by omega)
  have p2 := (h2.compIn _ a1).2
  refine ⟨hl, nodup_length n _ (hasc.imp_of_mem (fun _ _ hab e => by subst e; omega)) (fun x hx => ((hmem x).1 hx).1), a1, (c2 ((m1.getD i []).getD 0 0)).toNat, by omega, by omega, ?_⟩
  obtain ⟨_, hasc2, hmem2⟩ := h2.member (i := (c2 ((m1.getD i []).getD 0 0)).toNat) (by omega)
  refine asc_ext hasc2 hasc (fun x => ?_)
  rw [hmem2, hmem]
  generalize (m1.getD i []).getD 0 0 = u at *
  constructor
  · rintro ⟨hx, hc⟩
    refine ⟨hx, ?_⟩
    by_cases e : u = x
    · rw [← e]; exact a2
    · have hmut := (hm _ _).1 (h2.same u x a1 hx p1 (by omega))
      have := (h1.mutu u x a1 hmut e).1
      omega
  · rintro ⟨hx, hc⟩
    refine ⟨hx, ?_⟩
    by_cases e : u = x
    · rw [← e]; omega
    · have hmut := (hm _ _).2 (h1.same u x a1 hx (by omega) (by omega))
      have := (h2.mutu u x a1 hmut e).1
      omega
end

end Go.Proofs.Qxb6601793a
