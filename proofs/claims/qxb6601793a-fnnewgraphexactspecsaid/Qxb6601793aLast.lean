import Derived.OrdersHeld
import Derived.Test.Qxb6601793aBase
namespace Go.Proofs.Qxb6601793a
open Go.RowKit

/-! ### A region that draws its order, whose last operation z waits for all the others and breaks what they stand on -/
section
variable {P : Program} {ops : Array Oper} {Q : Exit → Act → World → Prop} {md : Region.Mode} {S : World → Prop} {z : Nat}

/-- Whatever order is picked from here on; S holds behind every operation but z. -/
def wpAnyF (P : Program) (md : Region.Mode) (ops : Array Oper) (Q : Exit → Act → World → Prop) (S : World → Prop) (z : Nat) : Nat → Array Bool → Act → World → Prop
  | 0, listed, a, w => Region.ready md ops listed = [] ∧ Q .normal a w
  | fuel + 1, listed, a, w => (Region.ready md ops listed = [] → Q .normal a w) ∧
    ∀ i ∈ Region.ready md ops listed, wpOp P ops Q i (fun a' w' => (i = z ∨ S w') ∧ wpAnyF P md ops Q S z fuel (listed.setIfInBounds i true) a' w') a w

theorem wpAny_of_F : ∀ (fuel : Nat) (listed : Array Bool) (a : Act) (w : World), wpAnyF P md ops Q S z fuel listed a w → wpAny P md ops Q fuel listed a w
  | 0, _, _, _, h => h
  | fuel + 1, _, _, _, h => ⟨h.1, fun i hi => wpOp_mono (fun a' w' h' => wpAny_of_F fuel _ a' w' h'.2) (h.2 i hi)⟩

/-- z waits for i. -/
def waitsFor (md : Region.Mode) (ops : Array Oper) (z i : Nat) : Bool := match ops[z]? with
  | some o => o.after.any fun e => Region.binds md e && e.on == i
  | none => false

theorem waitsFor_spec {i : Nat} {o : Oper} (h : waitsFor md ops z i = true) (ho : ops[z]? = some o) : ∃ e ∈ o.after, Region.binds md e = true ∧ e.on = i := by
  unfold waitsFor at h
  rw [ho] at h
  simp only [Array.any_eq_true', Bool.and_eq_true, beq_iff_eq] at h
  exact h

theorem wpAnyF_first {i : Nat} {oi : Oper} {v : Value} (hi : ops[i]? = some oi) (hsel : ∀ (j : Nat) (o : Oper) cs b, ops[j]? = some o → o.op ≠ .select cs b)
    (hQ : ∀ c a w, Q (.panic c) (a.put oi.dst v) w → Q (.panic c) a w) (hz : waitsFor md ops z i = true) :
    ∀ (fuel : Nat) (listed : Array Bool) (a : Act) (w : World),
      (∀ j oj, ops[j]? = some oj → j ≠ i → listed.getD j true = false → (∀ e ∈ oj.after, Region.binds md e = true → e.on ≠ i) → oi.apart ops oj = true) →
      i ∈ Region.ready md ops listed → YieldsIf P ops S oi v a → S w →
      wpAnyF P md ops Q S z fuel (listed.setIfInBounds i true) (a.put oi.dst v) w → wpAnyF P md ops Q S z (fuel + 1) listed a w := by
  intro fuel
  induction fuel with
  | zero =>
    intro listed a w _ hr hy hS H
    refine ⟨fun h => absurd hr (by rw [h]; simp), fun j hj => ?_⟩
    by_cases hji : j = i
    · subst hji; exact hy.wpOp hi hS ⟨.inr hS, H⟩
    · have h1 := ready_mono hj hji
      rw [H.1] at h1
      simp at h1
  | succ fuel ih =>
    intro listed a w hfree hr hy hS H
    refine ⟨fun h => absurd hr (by rw [h]; simp), fun j hj => ?_⟩
    by_cases hji : j = i
    · subst hji; exact hy.wpOp hi hS ⟨.inr hS, H⟩
    · have h1 := H.2 j (ready_mono hj hji)
      obtain ⟨hjun, oj, hoj, hall⟩ := mem_ready.1 hj
      have h0 := (mem_ready.1 hr).1
      have hnot : ∀ e ∈ oj.after, Region.binds md e = true → e.on ≠ i := fun e he hb heq => by
        have h2 := hall e he hb
        rw [heq] at h2
        by_cases hlt : i < listed.size
        · simp [hlt] at h0 h2; rw [h0] at h2; cases h2
        · simp [Array.getElem?_eq_none (Nat.le_of_not_lt hlt)] at h2
      have hjz : j ≠ z := fun e => by
        subst e
        obtain ⟨e, he, hb, hon⟩ := waitsFor_spec hz hoj
        exact hnot e he hb hon
      have h2 := wpOp_putIf hoj (hfree j oj hoj hji hjun hnot) (fun cs b => hsel i oi cs b hi) (fun cs b => hsel j oj cs b hoj) hQ hy h1
      have hfree' : ∀ k ok, ops[k]? = some ok → k ≠ i → (listed.setIfInBounds j true).getD k true = false →
          (∀ e ∈ ok.after, Region.binds md e = true → e.on ≠ i) → oi.apart ops ok = true := fun k ok hk hki hun hno => by
        refine hfree k ok hk hki ?_ hno
        by_cases hjk : j = k
        · subst hjk; exact hjun
        · rw [getD_set_ne true hjk] at hun; exact hun
      refine wpOp_mono (fun a' w' h3 => ⟨h3.2.1, ih (listed.setIfInBounds j true) a' w' hfree' (ready_mono hr (Ne.symm hji)) h3.1 (h3.2.1.resolve_left hjz) ?_⟩) h2
      rw [Array.setIfInBounds_comm _ _ hji]
      exact h3.2.2

theorem wpAnyF_take {i : Nat} {oi : Oper} {v : Value} {fuel : Nat} {listed : Array Bool} {a : Act} {w : World} (hi : ops[i]? = some oi)
    (hs : Region.noSelect ops = true) (hf : Region.free md ops listed i = true) (hr : (Region.ready md ops listed).contains i = true) (hz : waitsFor md ops z i = true)
    (hQ : ∀ c a w, Q (.panic c) (a.put oi.dst v) w → Q (.panic c) a w) (hS : S w) (hg : oi.guard = none) (hy : ∀ w, S w → (execOp a.eval oi).run P w = .ok (.value v) w)
    (h : wpAnyF P md ops Q S z fuel (listed.setIfInBounds i true) (a.put oi.dst v) w) : wpAnyF P md ops Q S z (fuel + 1) listed a w :=
  wpAnyF_first hi (Region.noSelect_spec hs) hQ hz fuel listed a w (Region.free_spec hi hf) (by simpa using hr) (.inl ⟨by simp [Region.wanted, hg], hy⟩) hS h

/-- One alone may come up. -/
theorem wpAnyF_one {i : Nat} {o : Oper} {fuel : Nat} {listed : Array Bool} {a : Act} {w : World} (hr : Region.ready md ops listed = [i]) (hi : ops[i]? = some o) (hg : o.guard = none)
    (h : ∀ K : Act → World → Prop, Hid (∀ a' w', (i = z ∨ S w') → wpAnyF P md ops Q S z fuel (listed.setIfInBounds i true) a' w' → K a' w') → o.wp P a w K Q) : wpAnyF P md ops Q S z (fuel + 1) listed a w := by
  refine ⟨fun h0 => by rw [hr] at h0; simp at h0, fun j hj => ?_⟩
  rw [hr] at hj
  simp only [List.mem_singleton] at hj
  subst hj
  unfold wpOp
  simp only [hi, Region.wanted, hg, if_true]
  exact .inl (h _ (fun a' w' h1 h2 => ⟨h1, h2⟩))

theorem wpAnyF_done {listed : Array Bool} {a : Act} {w : World} (hr : Region.ready md ops listed = []) (h : Q .normal a w) : ∀ fuel, wpAnyF P md ops Q S z fuel listed a w
  | 0 => ⟨hr, h⟩
  | _ + 1 => ⟨fun _ => h, by rw [hr]; simp⟩

/-- z comes up, the last. -/
theorem wpAnyF_last {o : Oper} {fuel : Nat} {listed : Array Bool} {a : Act} {w : World} (hr : Region.ready md ops listed = [z]) (hi : ops[z]? = some o) (hg : o.guard = none) (hr2 : Region.ready md ops (listed.setIfInBounds z true) = [])
    (h : o.wp P a w (fun a' w' => Q .normal a' w') Q) : wpAnyF P md ops Q S z (fuel + 1) listed a w :=
  wpAnyF_one hr hi hg (fun _ hK => Oper.wp_mono (fun _ _ h1 => hK.out _ _ (.inl rfl) (wpAnyF_done hr2 h1 _)) h)

theorem wp_region_F {id : Nat} {a : Act} {w : World} (hm : P.follows .mixedOrders = true) (S : World → Prop) (z n : Nat) (hn : ops.size = n)
    (h : wpAnyF P .any ops Q S z n (Array.replicate n false) a w.drew) : (Code.region id ops true).wp P Q a w := by
  subst hn
  exact wp_region_any hm (wpAny_of_F _ _ _ _ h)

end

end Go.Proofs.Qxb6601793a
