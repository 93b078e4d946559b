import Derived.Test.Qxb6601793aComp0
import Derived.Test.Qxb6601793aFits
import Derived.Test.Qxb6601793aCount
import Derived.Laws.CopyOwn
namespace Go.Proofs.Qxb6601793a
open Go.RowKit Go.Deep Scc

/-- What the contract of 'components' says (its proof: Qxb6601793aComp). -/
def CompsSaid : Prop := ∀ (n : Nat) (adj : Nat → List Nat) (_ : n ≤ 1099511627776) (_ : ∀ v, v < n → ∀ y ∈ adj v, y < n) (_ : ∀ v, v < n → (adj v).length ≤ 1099511627776)
    (K : Nat → Prop) (vo : Value) (w : World) (bg : Nat) (na : Option Addr) (nc : Nat) (_ : Mat w K vo n adj) (_ : w.cell? ⟨bg, 0, none⟩ = some (.slice na n nc)) (_ : w.cell? ⟨bg, 1, none⟩ = some vo),
    Calls Try.prog 32 #[.pointer (some ⟨bg, 0, none⟩)] w fun e w' =>
      ∃ (s : TS) (vs vm : Value) (rs : List Value), e = .returned (.tuple #[.slice (some ⟨w.heap.size, 0, none⟩) n n, vm]) ∧ CW w n s vs vm rs w' ∧ CInv adj (fun v => v < n) s.comp s.members

theorem Mat.widen {K L : Nat → Prop} {w : World} {v : Value} {n : Nat} {adj : Nat → List Nat} (h : Mat w K v n adj) (e : ∀ b, b < w.heap.size → K b → L b) : Mat w L v n adj := by
  obtain ⟨f, h1, h2⟩ := h
  exact ⟨f, h1.widen e, fun i hi => (h2 i hi).widen e⟩

theorem Mat.congr {K : Nat → Prop} {w : World} {v : Value} {n : Nat} {adj adj' : Nat → List Nat} (h : Mat w K v n adj) (e : ∀ i, i < n → adj i = adj' i) : Mat w K v n adj' := by
  obtain ⟨f, h1, h2⟩ := h
  exact ⟨f, h1, fun i hi => by rw [← e i hi]; exact h2 i hi⟩

theorem Mat.shape {K : Nat → Prop} {w : World} {v : Value} {n : Nat} {adj : Nat → List Nat} (h : Mat w K v n adj) : ∃ ao cap, v = .slice ao n cap := by
  obtain ⟨f, h1, _⟩ := h; exact h1.shape

/-- What stays below a mark stays a matrix. -/
theorem Mat.below {K : Nat → Prop} {w w' : World} {v : Value} {n : Nat} {adj : Nat → List Nat} (h : Mat w K v n adj) (hb : Below w.heap.size w w') : Mat w' K v n adj := h.kept (Kept.of_below hb) (fun _ _ h => h)

/-- What 'ZZComponents' leaves. -/
structure CompOut (n : Nat) (adj : Nat → List Nat) (w : World) (comp : Nat → Int) (members : List (List Nat)) (bC : Nat) (vm : Value) (w' : World) : Prop where
  below : Below w.heap.size w w'
  bC_ge : w.heap.size ≤ bC
  row : w'.rowIs bC 3 n (fun i => .int .i64 (comp i))
  mem : Mat w' (fun _ => True) vm members.length (fun i => members.getD i [])
  len : members.length ≤ n
  cinv : CInv adj (fun v => v < n) comp members

def CompOutPost (n : Nat) (adj : Nat → List Nat) (w : World) (e : Ending) (w' : World) : Prop :=
  ∃ comp members bC vm, e = .returned (.tuple #[.slice (some ⟨bC, 0, none⟩) n n, vm]) ∧ CompOut n adj w comp members bC vm w'

theorem comps_len {n : Nat} {adj : Nat → List Nat} {comp : Nat → Int} {members : List (List Nat)} (h : CInv adj (fun v => v < n) comp members) : members.length ≤ n := by
  have h1 := h.sums
  have h2 : members.length ≤ sumTo members.length (fun i => (members.getD i []).length) := by
    have h3 : sumTo members.length (fun _ => 1) ≤ sumTo members.length (fun i => (members.getD i []).length) := by
      have : ∀ k, k ≤ members.length → sumTo k (fun _ => 1) ≤ sumTo k (fun i => (members.getD i []).length) := by
        intro k
        induction k with
        | zero => intro _; exact Nat.le_refl _
        | succ m ih =>
          intro hk
          have h4 := ih (by omega)
          have h5 := (h.member (i := m) (by omega)).1
          simp only [sumTo]
          omega
      exact this _ (Nat.le_refl _)
    have h4 : ∀ k : Nat, sumTo k (fun _ => 1) = k := fun k => by induction k with
      | zero => rfl
      | succ m ih => simp only [sumTo, ih]
    rw [h4] at h3; exact h3
  have h5 : sumTo n (fun v => if 0 ≤ comp v then 1 else 0) ≤ n * 1 := sumTo_le_mul n _ 1 (fun i _ => by split <;> omega)
  omega

set_option maxHeartbeats 1000000 in
set_option maxRecDepth 100000 in
theorem zz_any (hcomps : CompsSaid) (n : Nat) (adj : Nat → List Nat) (hn : n ≤ 65536) (hadj : ∀ v, v < n → ∀ y ∈ adj v, y < n) (hlen : ∀ v, v < n → (adj v).length ≤ 1099511627776)
    (K : Nat → Prop) (vo : Value) (w : World) (na : Option Addr) (nc : Nat) (hM : Mat w K vo n adj) :
    Calls Try.prog 21 #[.slice na n nc, vo] w fun e w' => CompOutPost n adj w e w' := by
  obtain ⟨ao, co, rfl⟩ := hM.shape
  have hc := hcomps n adj (by omega) hadj hlen K (.slice ao n co) (w.alloc (.cells #[.slice na n nc, .slice ao n co, .slice none 0 0, .slice none 0 0] 56)) w.heap.size na nc
    (hM.kept ((Kept.refl (fun _ => False) w).alloc _) (fun _ _ h => h)) (by simp) (by have h := heap_new w (.cells #[.slice na n nc, .slice ao n co, .slice none 0 0, .slice none 0 0] 56) w.heap.size rfl; simp only [World.cell?, h]; rfl)
  have HC : Hid (Calls Try.prog 32 #[.pointer (some ⟨w.heap.size, 0, none⟩)] (w.alloc (.cells #[.slice na n nc, .slice ao n co, .slice none 0 0, .slice none 0 0] 56)) fun e w' =>
      ∃ (s : TS) (vs vm : Value) (rs : List Value), e = .returned (.tuple #[.slice (some ⟨(w.alloc (.cells #[.slice na n nc, .slice ao n co, .slice none 0 0, .slice none 0 0] 56)).heap.size, 0, none⟩) n n, vm]) ∧ CW (w.alloc (.cells #[.slice na n nc, .slice ao n co, .slice none 0 0, .slice none 0 0] 56)) n s vs vm rs w' ∧ CInv adj (fun v => v < n) s.comp s.members) := hc
  clear hc
  go_enter Try.func21, Try.ntmps21
  go_wp2_with (go_at_call 32; refine HC.out.mono ?_; rintro e w1 ⟨s, vs, vm, rs, rfl, hC, hI⟩)
  go_ret2
  have hsz : (w.alloc (.cells #[.slice na n nc, .slice ao n co, .slice none 0 0, .slice none 0 0] 56)).heap.size = w.heap.size + 1 := by simp
  refine ⟨s.comp, s.members, w.heap.size + 1, vm, by first | rfl | simp, ?_⟩
  have hb := hC.below
  have hr := hC.rC
  have hmm := hC.ownM
  have hro := hC.rows
  have hrl := hC.rs_len
  rw [hsz] at hb hr hmm hro
  refine ⟨?_, by omega, hr, ?_, comps_len hI, hI⟩
  · exact ((Below.refl _ w).alloc (Nat.le_refl _) _).trans (hb.mono (by omega))
  · refine ⟨fun i => rs.getD i undef, (owns_sl hmm _ (fun j hj => ?_)).widen (fun _ _ _ => trivial), fun i hi => ?_⟩
    · simp [List.getD, List.getElem?_eq_getElem (show j < rs.length by omega)]
    · obtain ⟨r, hr1, ho, _⟩ := hro i s.members[i] (List.getElem?_eq_getElem hi)
      have e1 : rs.getD i undef = r := by simp [List.getD, hr1]
      have e2 : s.members.getD i [] = s.members[i] := by simp [List.getD, List.getElem?_eq_getElem hi]
      show Sl w1 _ (rs.getD i undef) (s.members.getD i []).length (fun j => .int .i64 (((s.members.getD i []).getD j 0 : Nat) : Int))
      rw [e1, e2]
      refine (owns_sl ho _ (fun j hj => ?_)).widen (fun _ _ _ => trivial)
      simp [nodesV, List.getD, List.getElem?_eq_getElem hj]

end Go.Proofs.Qxb6601793a
