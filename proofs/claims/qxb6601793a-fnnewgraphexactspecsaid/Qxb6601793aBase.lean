import Derived.Test.Qxb6601793aRows
import Derived.WalkKit
import Derived.WalkSpells
import Derived.WalkLawsBesides
import Derived.Deep.OwnRows
import Derived.Deep.LoopGhost
import Derived.Deep.QuietTactic
import Derived.BigQuiet
import Derived.Deep.Light
namespace Go.Proofs.Qxb6601793a
open Go.RowKit

/-! ### What a call keeps -/

/-- Every block outside S is as it was; the streams too; no block has gone. -/
structure Kept (S : Nat → Prop) (w w' : World) : Prop where
  os : w'.os = w.os
  tape : w'.tape = w.tape
  output : w'.output = w.output
  size : w.heap.size ≤ w'.heap.size
  block : ∀ k, k < w.heap.size → ¬ S k → w'.heap[k]? = w.heap[k]?

namespace Kept
variable {S T : Nat → Prop} {w w' w'' : World}
theorem refl (S : Nat → Prop) (w : World) : Kept S w w := ⟨rfl, rfl, rfl, Nat.le_refl _, fun _ _ _ => rfl⟩
theorem trans (h : Kept S w w') (k : Kept S w' w'') : Kept S w w'' :=
  ⟨k.os.trans h.os, k.tape.trans h.tape, k.output.trans h.output, Nat.le_trans h.size k.size, fun i hi hs => (k.block i (Nat.lt_of_lt_of_le hi h.size) hs).trans (h.block i hi hs)⟩
theorem mono (h : Kept S w w') (hs : ∀ b, b < w.heap.size → S b → T b) : Kept T w w' := ⟨h.os, h.tape, h.output, h.size, fun k hk ht => h.block k hk (fun hS => ht (hs k hk hS))⟩
theorem drew (h : Kept S w w') : Kept S w w'.drew := ⟨h.os, h.tape, h.output, h.size, h.block⟩
theorem drewN (h : Kept S w w') (n : Nat) : Kept S w (w'.drewN n) := ⟨h.os, h.tape, h.output, h.size, h.block⟩
theorem alloc (h : Kept S w w') (o : Obj) : Kept S w (w'.alloc o) :=
  h.trans ⟨rfl, rfl, rfl, by simp, fun _ hk _ => Below.heap_alloc _ _ _ hk⟩
theorem setCell (h : Kept S w w') {p : Addr} (hp : p.block < w.heap.size → S p.block) (u : Value) : Kept S w (w'.setCell p u) :=
  ⟨h.os, h.tape, h.output, by simpa [World.setCell] using h.size, fun k hk hs => by
    by_cases e : k = p.block
    · subst e; exact absurd (hp hk) hs
    · rw [Below.heap_setCell _ _ _ _ e]; exact h.block k hk hs⟩
theorem grown {row : Option Nat} (h : Kept S w w') (hg : w'.grownBy w'' row) (hr : ∀ k, row = some k → k < w.heap.size → S k) : Kept S w w'' :=
  ⟨hg.os.trans h.os, hg.tape.trans h.tape, hg.output.trans h.output, Nat.le_trans h.size hg.size, fun k hk hs =>
    (hg.block k (Nat.lt_of_lt_of_le hk h.size) (fun e => hs (hr k e.symm hk))).trans (h.block k hk hs)⟩
theorem cell (h : Kept S w w') {p : Addr} (hp : p.block < w.heap.size) (hs : ¬ S p.block) : w'.cell? p = w.cell? p := World.cell?_of_block (w := w) (h.block _ hp hs)
theorem frozen (h : Kept S w w') {p : Addr} (hp : p.block < w.heap.size) (hs : ¬ S p.block) : w'.frozen? p = w.frozen? p := World.frozen?_of_block (w := w) (h.block _ hp hs)
theorem below (h : Kept S w w') {B : Nat} (hB : B ≤ w.heap.size) (hs : ∀ b, S b → B ≤ b) : Below B w w' :=
  ⟨h.os, h.tape, h.output, h.size, fun k hk => h.block k (by omega) (fun e => by have := hs k e; omega)⟩
theorem row {b : Nat} {t : TypeId} {n : Nat} {f : Nat → Value} (h : Kept S w w') (r : w.rowIs b t n f) (hs : ¬ S b) : w'.rowIs b t n f := r.of_block (h.block b r.lt hs)
end Kept

/-! ### A slice of one-cell elements, wherever it lies -/

/-- The slice v has n elements, element j reads 'f j'; its cells lie in blocks of K. -/
def Sl (w : World) (K : Nat → Prop) (v : Value) (n : Nat) (f : Nat → Value) : Prop :=
  ∃ ao cap, v = .slice ao n cap ∧ ∀ j, j < n → ∃ b o, ao = some ⟨b, o, none⟩ ∧ K b ∧ b < w.heap.size ∧ w.cell? ⟨b, o + j, none⟩ = some (f j)

theorem Sl.kept {S K : Nat → Prop} {w w' : World} {v : Value} {n : Nat} {f : Nat → Value} (h : Sl w K v n f) (k : Kept S w w') (hd : ∀ b, K b → ¬ S b) : Sl w' K v n f := by
  obtain ⟨ao, cap, hv, hc⟩ := h
  refine ⟨ao, cap, hv, fun j hj => ?_⟩
  obtain ⟨b, o, ha, hK, hb, hcell⟩ := hc j hj
  exact ⟨b, o, ha, hK, Nat.lt_of_lt_of_le hb k.size, by rw [k.cell (p := ⟨b, o + j, none⟩) hb (hd b hK)]; exact hcell⟩

theorem Sl.drew {K : Nat → Prop} {w : World} {v : Value} {n : Nat} {f : Nat → Value} (h : Sl w K v n f) : Sl w.drew K v n f := h

theorem Sl.congr {K : Nat → Prop} {w : World} {v : Value} {n : Nat} {f g : Nat → Value} (h : Sl w K v n f) (e : ∀ j, j < n → f j = g j) : Sl w K v n g := by
  obtain ⟨ao, cap, hv, hc⟩ := h
  exact ⟨ao, cap, hv, fun j hj => by obtain ⟨b, o, h1, h2, h3, h4⟩ := hc j hj; exact ⟨b, o, h1, h2, h3, by rw [← e j hj]; exact h4⟩⟩

theorem Sl.widen {K L : Nat → Prop} {w : World} {v : Value} {n : Nat} {f : Nat → Value} (h : Sl w K v n f) (e : ∀ b, b < w.heap.size → K b → L b) : Sl w L v n f := by
  obtain ⟨ao, cap, hv, hc⟩ := h
  exact ⟨ao, cap, hv, fun j hj => by obtain ⟨b, o, h1, h2, h3, h4⟩ := hc j hj; exact ⟨b, o, h1, e b h3 h2, h3, h4⟩⟩

/-- The element at j, the address written out. -/
theorem Sl.at {K : Nat → Prop} {w : World} {v : Value} {n : Nat} {f : Nat → Value} (h : Sl w K v n f) {j : Nat} (hj : j < n) :
    ∃ b o cap, v = .slice (some ⟨b, o, none⟩) n cap ∧ b < w.heap.size ∧ K b ∧ ∀ i, i < n → w.cell? ⟨b, o + i, none⟩ = some (f i) := by
  obtain ⟨ao, cap, hv, hc⟩ := h
  obtain ⟨b, o, ha, hK, hb, _⟩ := hc j hj
  refine ⟨b, o, cap, by rw [hv, ha], hb, hK, fun i hi => ?_⟩
  obtain ⟨b', o', ha', _, _, h4⟩ := hc i hi
  rw [ha] at ha'
  injection ha' with e
  injection e with e1 e2
  subst e1; subst e2
  exact h4

theorem Sl.shape {K : Nat → Prop} {w : World} {v : Value} {n : Nat} {f : Nat → Value} (h : Sl w K v n f) : ∃ ao cap, v = .slice ao n cap := by
  obtain ⟨ao, cap, hv, _⟩ := h; exact ⟨ao, cap, hv⟩

theorem Sl.of_row {w : World} {b : Nat} {t : TypeId} {n c : Nat} {f : Nat → Value} (h : w.rowIs b t n f) : Sl w (fun x => x = b) (.slice (some ⟨b, 0, none⟩) n c) n f :=
  ⟨_, _, rfl, fun j hj => ⟨b, 0, rfl, rfl, h.lt, by rw [Nat.zero_add]; exact h.cell hj⟩⟩

/-- A slice of slices of numbers: row i of v reads as the list 'adj i'. -/
def Mat (w : World) (K : Nat → Prop) (v : Value) (n : Nat) (adj : Nat → List Nat) : Prop :=
  ∃ f, Sl w K v n f ∧ ∀ i, i < n → Sl w K (f i) (adj i).length (fun j => .int .i64 (((adj i).getD j 0 : Nat) : Int))

theorem Mat.kept {S K : Nat → Prop} {w w' : World} {v : Value} {n : Nat} {adj : Nat → List Nat} (h : Mat w K v n adj) (k : Kept S w w') (hd : ∀ b, K b → ¬ S b) : Mat w' K v n adj := by
  obtain ⟨f, h1, h2⟩ := h
  exact ⟨f, h1.kept k hd, fun i hi => (h2 i hi).kept k hd⟩

/-- Row i of the matrix. -/
theorem Mat.at {K : Nat → Prop} {w : World} {v : Value} {n : Nat} {adj : Nat → List Nat} (h : Mat w K v n adj) {i : Nat} (hi : i < n) :
    ∃ b o cap ao c, v = .slice (some ⟨b, o, none⟩) n cap ∧ b < w.heap.size ∧ w.cell? ⟨b, o + i, none⟩ = some (.slice ao (adj i).length c) ∧
      ∀ j, j < (adj i).length → ∃ b' o', ao = some ⟨b', o', none⟩ ∧ b' < w.heap.size ∧ w.cell? ⟨b', o' + j, none⟩ = some (.int .i64 (((adj i).getD j 0 : Nat) : Int)) := by
  obtain ⟨f, h1, h2⟩ := h
  obtain ⟨b, o, cap, hv, hb, _, hc⟩ := h1.at hi
  obtain ⟨ao, c, hf, hr⟩ := h2 i hi
  exact ⟨b, o, cap, ao, c, hv, hb, by rw [hc i hi, hf], fun j hj => by obtain ⟨b', o', e1, _, e3, e4⟩ := hr j hj; exact ⟨b', o', e1, e3, e4⟩⟩

end Go.Proofs.Qxb6601793a
