import Derived.Test.Qxb6601793aOpen
import Derived.Test.Qxb6601793aNudge
namespace Go.Proofs.Qxb6601793a
open Go.ChangeShapes Go.WideShapes Go.ChangeAt Go.RowKit Go.Deep

theorem Try.cells35 : Try.prog.cellsOf 35 = 4 := by kernel_rfl
theorem Try.cells9 : Try.prog.cellsOf 9 = 1 := by kernel_rfl

set_option maxRecDepth 100000 in
theorem open_nudges {H : Type} {enc : TypeId × Value → H} {W : World} {a0 : Option Addr} {len cap : Nat} {d : DataW H} {ps : List MemPlace} (h : DataW.Trod enc Try.prog W 0 (fun _ => true) true 22 (.slice a0 len cap) d ps) :
    ∃ S : Nat → Nat → List UInt8, len ≤ 9223372036854775807 ∧ (∀ i q, (S i q).length ≤ 9223372036854775807) ∧ Sl4 W (fun _ => True) (.slice a0 len cap) len (fun i q => ⟨(S i q).toArray⟩) := by
  obtain ⟨fuel, hf⟩ := h
  have hmax : maxLen = 9223372036854775807 := rfl
  rcases open_slice Try.underlying22 hf with ⟨hcs, _⟩ | ⟨a, l, c, m, n, D, Pl, hcs, _, hl, hm, hmm, _, hx⟩
  · simp [Value.cells] at hcs
    obtain ⟨rfl, rfl, rfl⟩ := hcs
    exact ⟨fun _ _ => [], by omega, fun _ _ => by simp, none, 0, rfl, fun j hj => absurd hj (by omega)⟩
  simp [Value.cells] at hcs
  obtain ⟨rfl, rfl, rfl⟩ := hcs
  simp only [if_true] at hmm
  subst hmm
  have each : ∀ i, i < len → ∃ s : Nat → List UInt8, (∀ q, (s q).length ≤ 9223372036854775807) ∧ ∀ q, q < 4 → W.cell? (a.add (i * 4 + q)) = some (.string ⟨(s q).toArray⟩) := by
    intro i hi
    obtain ⟨cs', h1, h2⟩ := hx i (by omega)
    rw [Try.cells35] at h1
    obtain ⟨_, hlen, hcell⟩ := World.cells?_some h1
    obtain ⟨xs, k, hk, hxy, _, hxl, hfl⟩ := DataW.trod_struct Try.underlying35 h2
    have hxl' : xs.length = 4 := hxl
    clear hxl
    match xs, hxl', cs', hlen with
    | [y0, y1, y2, y3], _, [v0, v1, v2, v3], _ =>
      have g0 := hfl 0 _ rfl
      have g1 := hfl 1 _ rfl
      have g2 := hfl 2 _ rfl
      have g3 := hfl 3 _ rfl
      simp [Try.cells9] at g0 g1 g2 g3
      obtain ⟨s0, e0, _, l0⟩ := DataW.trod_string Try.underlying9 g0
      obtain ⟨s1, e1, _, l1⟩ := DataW.trod_string Try.underlying9 g1
      obtain ⟨s2, e2, _, l2⟩ := DataW.trod_string Try.underlying9 g2
      obtain ⟨s3, e3, _, l3⟩ := DataW.trod_string Try.underlying9 g3
      simp only [List.cons.injEq, and_true] at e0 e1 e2 e3
      subst e0; subst e1; subst e2; subst e3
      have c0 := hcell 0 (by omega)
      have c1 := hcell 1 (by omega)
      have c2 := hcell 2 (by omega)
      have c3 := hcell 3 (by omega)
      rw [add_add] at c0 c1 c2 c3
      have hlen' : ∀ s : ByteArray, s.size ≤ maxLen → s.data.toList.length ≤ 9223372036854775807 := fun s hs => by rw [← hmax]; simpa using hs
      refine ⟨fun q => match q with | 0 => s0.data.toList | 1 => s1.data.toList | 2 => s2.data.toList | _ => s3.data.toList, fun q => ?_, fun q hq => ?_⟩
      · match q with
        | 0 => exact hlen' _ l0
        | 1 => exact hlen' _ l1
        | 2 => exact hlen' _ l2
        | _ + 3 => exact hlen' _ l3
      · match q, hq with
        | 0, _ => simpa using c0
        | 1, _ => simpa using c1
        | 2, _ => simpa using c2
        | 3, _ => simpa using c3
  obtain ⟨S, hS⟩ := choose_lt each
  obtain ⟨R, hR⟩ : ∃ R : Nat → Nat → List UInt8, ∀ i, R i = if i < len then S i else fun _ => [] := ⟨_, fun _ => rfl⟩
  refine ⟨R, by omega, fun i q => ?_, some a, _, rfl, fun j hj => ?_⟩
  · rw [hR]
    by_cases hi : i < len
    · rw [if_pos hi]; exact (hS i hi).1 q
    · rw [if_neg hi]; simp
  · obtain ⟨b, o, spot⟩ := a
    have h0 := (hS j hj).2 0 (by omega)
    have h00 := (hS 0 (by omega)).2 0 (by omega)
    have hspot : spot = none := by simpa [Addr.add] using World.cell?_spot h00
    subst hspot
    rw [add_of] at h0
    refine ⟨b, o, rfl, trivial, World.block_lt_of_cell? _ _ h0, fun q hq => ?_⟩
    have h1 := (hS j hj).2 q hq
    rw [add_of, ← Nat.add_assoc] at h1
    have h2 : R j q = S j q := by rw [hR, if_pos hj]
    show _ = some (Value.string ⟨(R j q).toArray⟩)
    rw [h1, h2]

end Go.Proofs.Qxb6601793a
