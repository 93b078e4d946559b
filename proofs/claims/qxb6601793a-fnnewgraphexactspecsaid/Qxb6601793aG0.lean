import Derived.Test.Qxb6601793aNudge
import Derived.Test.Qxb6601793aEq2
namespace Go.Proofs.Qxb6601793a
open Go.RowKit Go.Deep Scc

/-- Of the n nudges one goes from name u to another name v. -/
def GEd (S : Nat → Nat → List UInt8) (N : List (List UInt8)) (n u v : Nat) : Prop := ∃ i, i < n ∧ S i 0 ≠ S i 1 ∧ N.getD u [] = S i 0 ∧ N.getD v [] = S i 1

/-- What newGraph gives. -/
structure GSpec (n : Nat) (S : Nat → Nat → List UInt8) (N : List (List UInt8)) (O I : Nat → List Nat) (F : Nat → Nat) : Prop where
  asc : N.Pairwise (· < ·)
  mem : ∀ s, s ∈ N ↔ ∃ i, i < n ∧ (s = S i 0 ∨ s = S i 1)
  mo : ∀ u v, u < N.length → v < N.length → (v ∈ O u ↔ GEd S N n u v)
  mi : ∀ u v, u < N.length → v < N.length → (u ∈ I v ↔ GEd S N n u v)
  olt : ∀ u, u < N.length → ∀ y ∈ O u, y < N.length
  ilt : ∀ u, u < N.length → ∀ y ∈ I u, y < N.length
  oa : ∀ u, u < N.length → (O u).Pairwise (· < ·)
  ia : ∀ u, u < N.length → (I u).Pairwise (· < ·)
  fs : ∀ i, i ≤ N.length → F i = sumTo i (fun x => (O x).length)
  nl : N.length ≤ 65536

structure ZgOut (n : Nat) (S : Nat → Nat → List UInt8) (w : World) (N : List (List UInt8)) (O I : Nat → List Nat) (F : Nat → Nat) (vn vo vi vf : Value) (w' : World) : Prop where
  below : Below w.heap.size w w'
  names : Sl w' (fun b => w.heap.size ≤ b) vn N.length (fun j => .string ⟨(N.getD j []).toArray⟩)
  out : Mat w' (fun b => w.heap.size ≤ b) vo N.length O
  inn : Mat w' (fun b => w.heap.size ≤ b) vi N.length I
  first : Sl w' (fun b => w.heap.size ≤ b) vf (N.length + 1) (fun j => .int .i64 (F j : Int))
  spec : GSpec n S N O I F

def ZgPost (n : Nat) (S : Nat → Nat → List UInt8) (w : World) (e : Ending) (w' : World) : Prop :=
  ∃ N O I F vn vo vi vf, e = .returned (.tuple #[vn, vo, vi, vf]) ∧ ZgOut n S w N O I F vn vo vi vf w'

/-- The contract of ZZNewGraph. -/
def ZgSaid : Prop := ∀ (n : Nat) (S : Nat → Nat → List UInt8) (w : World) (K : Nat → Prop) (v0 : Value), n ≤ 32768 → (∀ i q, (S i q).length ≤ 9223372036854775807) → Sl4 w K v0 n (fun i q => ⟨(S i q).toArray⟩) →
  Calls Try.prog 10 #[v0] w fun e w' => ZgPost n S w e w'

/-- What a law leaves: true; nothing that was there has turned. -/
def TruthPost (W : World) (e : Ending) (w' : World) : Prop := e = .returned (.bool true) ∧ Below W.heap.size W w'

theorem GSpec.ol {n : Nat} {S : Nat → Nat → List UInt8} {N : List (List UInt8)} {O I : Nat → List Nat} {F : Nat → Nat} (h : GSpec n S N O I F) {u : Nat} (hu : u < N.length) : (O u).length ≤ 65536 := by
  have h1 := nodup_length N.length (O u) ((h.oa u hu).imp_of_mem (fun _ _ h e => by omega)) (h.olt u hu)
  have := h.nl
  omega
theorem GSpec.il {n : Nat} {S : Nat → Nat → List UInt8} {N : List (List UInt8)} {O I : Nat → List Nat} {F : Nat → Nat} (h : GSpec n S N O I F) {u : Nat} (hu : u < N.length) : (I u).length ≤ 65536 := by
  have h1 := nodup_length N.length (I u) ((h.ia u hu).imp_of_mem (fun _ _ h e => by omega)) (h.ilt u hu)
  have := h.nl
  omega

theorem names_ext : ∀ {l m : List (List UInt8)}, l.Pairwise (· < ·) → m.Pairwise (· < ·) → (∀ x, x ∈ l ↔ x ∈ m) → l = m
  | [], [], _, _, _ => rfl
  | [], b :: m, _, _, h => by have := (h b).2 (by simp); simp at this
  | a :: l, [], _, _, h => by have := (h a).1 (by simp); simp at this
  | a :: l, b :: m, h1, h2, h => by
    have h1a := List.pairwise_cons.1 h1
    have h2a := List.pairwise_cons.1 h2
    have hab : a = b := by
      rcases List.mem_cons.1 ((h a).1 (by simp)) with e | e
      · exact e
      · rcases List.mem_cons.1 ((h b).2 (by simp)) with e2 | e2
        · exact e2.symm
        · exact absurd (List.lt_trans (h1a.1 b e2) (h2a.1 a e)) (List.lt_irrefl _)
    subst hab
    rw [names_ext h1a.2 h2a.2 (fun x => ?_)]
    constructor
    · intro hx
      rcases List.mem_cons.1 ((h x).1 (List.mem_cons_of_mem _ hx)) with e | e
      · subst e; exact absurd (h1a.1 _ hx) (List.lt_irrefl _)
      · exact e
    · intro hx
      rcases List.mem_cons.1 ((h x).2 (List.mem_cons_of_mem _ hx)) with e | e
      · subst e; exact absurd (h2a.1 _ hx) (List.lt_irrefl _)
      · exact e

/-- The pairs of ends are all that counts. -/
theorem GSpec.same {n n2 : Nat} {S S2 : Nat → Nat → List UInt8} {N N2 : List (List UInt8)} {O I O2 I2 : Nat → List Nat} {F F2 : Nat → Nat} (h : GSpec n S N O I F) (k : GSpec n2 S2 N2 O2 I2 F2)
    (hp : ∀ a b, (∃ i, i < n ∧ S i 0 = a ∧ S i 1 = b) ↔ (∃ i, i < n2 ∧ S2 i 0 = a ∧ S2 i 1 = b)) :
    N2 = N ∧ (∀ u, u < N.length → O2 u = O u) ∧ (∀ u, u < N.length → I2 u = I u) ∧ (∀ i, i ≤ N.length → F2 i = F i) := by
  have hN : N2 = N := by
    refine names_ext k.asc h.asc (fun s => ?_)
    rw [k.mem, h.mem]
    constructor
    · rintro ⟨i, hi, e | e⟩
      · obtain ⟨j, hj, e1, e2⟩ := (hp (S2 i 0) (S2 i 1)).2 ⟨i, hi, rfl, rfl⟩
        exact ⟨j, hj, .inl (by rw [e, e1])⟩
      · obtain ⟨j, hj, e1, e2⟩ := (hp (S2 i 0) (S2 i 1)).2 ⟨i, hi, rfl, rfl⟩
        exact ⟨j, hj, .inr (by rw [e, e2])⟩
    · rintro ⟨i, hi, e | e⟩
      · obtain ⟨j, hj, e1, e2⟩ := (hp (S i 0) (S i 1)).1 ⟨i, hi, rfl, rfl⟩
        exact ⟨j, hj, .inl (by rw [e, e1])⟩
      · obtain ⟨j, hj, e1, e2⟩ := (hp (S i 0) (S i 1)).1 ⟨i, hi, rfl, rfl⟩
        exact ⟨j, hj, .inr (by rw [e, e2])⟩
  subst hN
  have hE : ∀ u v, GEd S2 N2 n2 u v ↔ GEd S N2 n u v := by
    intro u v
    constructor
    · rintro ⟨i, hi, h1, h2, h3⟩
      obtain ⟨j, hj, e1, e2⟩ := (hp (S2 i 0) (S2 i 1)).2 ⟨i, hi, rfl, rfl⟩
      exact ⟨j, hj, by rw [e1, e2]; exact h1, by rw [e1]; exact h2, by rw [e2]; exact h3⟩
    · rintro ⟨i, hi, h1, h2, h3⟩
      obtain ⟨j, hj, e1, e2⟩ := (hp (S i 0) (S i 1)).1 ⟨i, hi, rfl, rfl⟩
      exact ⟨j, hj, by rw [e1, e2]; exact h1, by rw [e1]; exact h2, by rw [e2]; exact h3⟩
  have hO : ∀ u, u < N2.length → O2 u = O u := by
    intro u hu
    refine asc_ext (k.oa u hu) (h.oa u hu) (fun x => ?_)
    by_cases hx : x < N2.length
    · rw [k.mo u x hu hx, h.mo u x hu hx, hE]
    · exact ⟨fun h1 => absurd (k.olt u hu x h1) hx, fun h1 => absurd (h.olt u hu x h1) hx⟩
  refine ⟨rfl, hO, ?_, ?_⟩
  · intro u hu
    refine asc_ext (k.ia u hu) (h.ia u hu) (fun x => ?_)
    by_cases hx : x < N2.length
    · rw [k.mi x u hx hu, h.mi x u hx hu, hE]
    · exact ⟨fun h1 => absurd (k.ilt u hu x h1) hx, fun h1 => absurd (h.ilt u hu x h1) hx⟩
  · intro i hi
    rw [k.fs i hi, h.fs i hi]
    exact sumTo_congr i _ _ (fun j hj => by rw [hO j (by omega)])

/-! ### The list twice -/
def cells4 (s : Nat → List UInt8) : List Value := [.string ⟨(s 0).toArray⟩, .string ⟨(s 1).toArray⟩, .string ⟨(s 2).toArray⟩, .string ⟨(s 3).toArray⟩]

def flat4 (S : Nat → Nat → List UInt8) : Nat → List Value
  | 0 => []
  | k + 1 => flat4 S k ++ cells4 (S k)

theorem flat4_length (S : Nat → Nat → List UInt8) : ∀ k, (flat4 S k).length = k * 4
  | 0 => rfl
  | k + 1 => by simp [flat4, flat4_length S k, cells4]; omega

theorem flat4_get (S : Nat → Nat → List UInt8) : ∀ k j q, j < k → q < 4 → (flat4 S k)[j * 4 + q]? = some (.string ⟨(S j q).toArray⟩)
  | 0, j, q, hj, _ => by omega
  | k + 1, j, q, hj, hq => by
    simp only [flat4]
    by_cases e : j = k
    · subst e
      rw [List.getElem?_append_right (by rw [flat4_length]; omega), flat4_length]
      have h4 : q = 0 ∨ q = 1 ∨ q = 2 ∨ q = 3 := by omega
      rcases h4 with rfl | rfl | rfl | rfl <;> simp [cells4]
    · rw [List.getElem?_append_left (by rw [flat4_length]; omega)]
      exact flat4_get S k j q (by omega) hq

/-- The nudges turned round and stripped, then the nudges. -/
def twiceS (n : Nat) (S : Nat → Nat → List UInt8) (j q : Nat) : List UInt8 := if j < n then (if q < 2 then S (n - 1 - j) q else []) else S (j - n) q

theorem twice_pairs (n : Nat) (S : Nat → Nat → List UInt8) (a b : List UInt8) : (∃ i, i < n ∧ S i 0 = a ∧ S i 1 = b) ↔ (∃ i, i < n + n ∧ twiceS n S i 0 = a ∧ twiceS n S i 1 = b) := by
  constructor
  · rintro ⟨i, hi, h1, h2⟩
    refine ⟨n + i, by omega, ?_, ?_⟩
    · simp only [twiceS, if_neg (show ¬ n + i < n by omega), Nat.add_sub_cancel_left]; exact h1
    · simp only [twiceS, if_neg (show ¬ n + i < n by omega), Nat.add_sub_cancel_left]; exact h2
  · rintro ⟨i, hi, h1, h2⟩
    by_cases e : i < n
    · refine ⟨n - 1 - i, by omega, ?_, ?_⟩
      · simpa [twiceS, e] using h1
      · simpa [twiceS, e] using h2
    · refine ⟨i - n, by omega, ?_, ?_⟩
      · simpa [twiceS, e] using h1
      · simpa [twiceS, e] using h2

theorem owns_sl4 {w : World} {base : Nat} {v : Value} {n : Nat} {S : Nat → Nat → List UInt8} (h : w.ownsRow base 37 4 v n (flat4 S n)) : Sl4 w (fun _ => True) v n (fun i q => ⟨(S i q).toArray⟩) := by
  obtain ⟨ao, cap, rfl⟩ := owns_slice h
  refine ⟨ao, cap, rfl, fun j hj => ?_⟩
  obtain ⟨g, cap', hv, hb, _, _, hlt⟩ := owns_shape h (by omega)
  simp only [Value.slice.injEq] at hv
  obtain ⟨rfl, _, rfl⟩ := hv
  refine ⟨g, 0, rfl, trivial, hlt, fun q hq => ?_⟩
  rw [Nat.zero_add, h.cellAt (j * 4 + q) (by omega)]
  exact flat4_get S n j q hj hq

theorem Mat.same {K : Nat → Prop} {w : World} {v : Value} {n : Nat} {L L' : Nat → List Nat} (h : Mat w K v n L) (e : ∀ i, i < n → L' i = L i) : Mat w K v n L' := by
  obtain ⟨f, h1, h2⟩ := h
  exact ⟨f, h1, fun i hi => by rw [e i hi]; exact h2 i hi⟩

end Go.Proofs.Qxb6601793a
