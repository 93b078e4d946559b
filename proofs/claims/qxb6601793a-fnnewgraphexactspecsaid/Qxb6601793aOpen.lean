import Derived.Test.Qxb6601793aFits
import Derived.ProofKit
import Derived.OpenShut
import Derived.ChangeOld
import Derived.Deep.Strs
import Derived.Deep.Matrix
namespace Go.Proofs.Qxb6601793a
open Go.ChangeShapes Go.WideShapes Go.ChangeAt Go.RowKit Go.Deep

theorem own : ownKnob Try.prog.godebug = none := by kernel_rfl
theorem laidOut : laidOutB Try.prog = true := by kernel_rfl

theorem add_of (b o j : Nat) : (⟨b, o, none⟩ : Addr).add j = ⟨b, o + j, none⟩ := by
  simp only [Addr.add]
  split
  · rename_i h; subst h; rfl
  · rfl

/-- Cells behind an address, the address written out. -/
theorem sl_of {W : World} {a : Addr} {n cap : Nat} {f : Nat → Value} (h : ∀ j, j < n → W.cell? (a.add j) = some (f j)) : Sl W (fun _ => True) (.slice (some a) n cap) n f := by
  refine ⟨some a, cap, rfl, fun j hj => ?_⟩
  obtain ⟨b, o, spot⟩ := a
  have h0 := h 0 (by omega)
  have hspot : spot = none := by simpa [Addr.add] using World.cell?_spot h0
  subst hspot
  have hj' := h j hj
  rw [add_of] at hj'
  exact ⟨b, o, rfl, trivial, World.block_lt_of_cell? _ _ hj', hj'⟩

theorem sl_zero {W : World} {K : Nat → Prop} {a : Option Addr} {cap : Nat} {f : Nat → Value} : Sl W K (.slice a 0 cap) 0 f := ⟨a, cap, rfl, fun j hj => absurd hj (by omega)⟩

theorem open_names {H : Type} {enc : TypeId × Value → H} {W : World} {a0 : Option Addr} {len cap : Nat} {d : DataW H} {ps : List MemPlace} (h : DataW.Trod enc Try.prog W 0 (fun _ => true) true 24 (.slice a0 len cap) d ps) :
    ∃ S : Nat → ByteArray, len ≤ 9223372036854775807 ∧ (∀ i, (S i).size ≤ 9223372036854775807) ∧ Sl W (fun _ => True) (.slice a0 len cap) len (fun i => .string (S i)) := by
  obtain ⟨fuel, hf⟩ := h
  have hmax : maxLen = 9223372036854775807 := rfl
  rcases open_strs Try.underlying24 Try.underlying9 (by kernel_rfl) hf with ⟨hcs, _⟩ | ⟨x, l, c, m, Sx, hcs, _, hl, hm, hmm, _, hx⟩
  · simp [Value.cells] at hcs
    obtain ⟨rfl, rfl, rfl⟩ := hcs
    exact ⟨fun _ => ByteArray.empty, by omega, fun _ => by simp, sl_zero⟩
  · simp [Value.cells] at hcs
    obtain ⟨rfl, rfl, rfl⟩ := hcs
    simp only [if_true] at hmm
    subst hmm
    obtain ⟨R, hR⟩ : ∃ R : Nat → ByteArray, ∀ i, R i = if i < m then Sx i else ByteArray.empty := ⟨_, fun _ => rfl⟩
    refine ⟨R, by omega, fun i => ?_, sl_of (fun j hj => ?_)⟩
    · rw [hR]
      by_cases hi : i < m
      · rw [if_pos hi, ← hmax]; exact (hx i hi).2
      · rw [if_neg hi]; simp
    · rw [(hx j (by omega)).1, hR, if_pos (by omega)]

theorem open_rows {H : Type} {enc : TypeId × Value → H} {W : World} {a0 : Option Addr} {len cap : Nat} {d : DataW H} {ps : List MemPlace} (h : DataW.Trod enc Try.prog W 0 (fun _ => true) true 25 (.slice a0 len cap) d ps) :
    ∃ rows : Nat → List Int, len ≤ 9223372036854775807 ∧ (∀ i, (rows i).length ≤ 9223372036854775807) ∧ MatZ W (fun _ => True) (.slice a0 len cap) len rows := by
  obtain ⟨fuel, hf⟩ := h
  have hmax : maxLen = 9223372036854775807 := rfl
  rcases open_int_rows Try.underlying25 Try.underlying26 Try.underlying3 (by kernel_rfl) (by kernel_rfl) hf with ⟨hcs, _⟩ | ⟨x, l, c, A, L, C, Z, hcs, _, hl, hm, _, hx⟩
  · simp [Value.cells] at hcs
    obtain ⟨rfl, rfl, rfl⟩ := hcs
    exact ⟨fun _ => [], by omega, fun _ => by simp, fun _ => .slice none 0 0, sl_zero, fun i hi => absurd hi (by omega)⟩
  · simp [Value.cells] at hcs
    obtain ⟨rfl, rfl, rfl⟩ := hcs
    obtain ⟨R, hR⟩ : ∃ R : Nat → List Int, ∀ i, R i = if i < cap then (Z i).take (L i) else [] := ⟨_, fun _ => rfl⟩
    refine ⟨R, by omega, fun i => ?_, fun i => .slice (A i) (L i) (C i), sl_of (fun j hj => (hx j (by omega)).1), fun i hi => ?_⟩
    · rw [hR]
      by_cases hi : i < cap
      · rw [if_pos hi, List.length_take]
        have := (hx i hi).2.1
        have := (hx i hi).2.2.1
        omega
      · rw [if_neg hi]; simp
    · obtain ⟨_, h2, h3, h4, _, h6, h7⟩ := hx i (by omega)
      have hRi : R i = (Z i).take (L i) := by rw [hR, if_pos (by omega)]
      have hlen : ((Z i).take (L i)).length = L i := by rw [List.length_take]; omega
      rw [hRi, hlen]
      show Sl W _ (.slice (A i) (L i) (C i)) (L i) _
      cases hA : A i with
      | none =>
        have := h6 hA
        have h0 : L i = 0 := by omega
        rw [h0]; exact sl_zero
      | some a' =>
        refine sl_of (fun j hj => ?_)
        rw [(h7 a' hA).2 j (by omega)]
        simp only [List.getD, List.getElem?_take_of_lt hj]

end Go.Proofs.Qxb6601793a
