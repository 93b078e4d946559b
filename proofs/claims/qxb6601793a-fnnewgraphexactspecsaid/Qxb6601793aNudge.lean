import Derived.Test.Qxb6601793aOwn
namespace Go.Proofs.Qxb6601793a
open Go.RowKit Go.Deep

/-- A slice of structs of four strings: element j's field f is 'F j f'; its cells lie in blocks of K. -/
def Sl4 (w : World) (K : Nat → Prop) (v : Value) (n : Nat) (F : Nat → Nat → ByteArray) : Prop :=
  ∃ ao cap, v = .slice ao n cap ∧ ∀ j, j < n → ∃ b o, ao = some ⟨b, o, none⟩ ∧ K b ∧ b < w.heap.size ∧ ∀ f, f < 4 → w.cell? ⟨b, o + j * 4 + f, none⟩ = some (.string (F j f))

theorem Sl4.kept {S K : Nat → Prop} {w w' : World} {v : Value} {n : Nat} {F : Nat → Nat → ByteArray} (h : Sl4 w K v n F) (k : Kept S w w') (hd : ∀ b, K b → ¬ S b) : Sl4 w' K v n F := by
  obtain ⟨ao, cap, hv, hc⟩ := h
  refine ⟨ao, cap, hv, fun j hj => ?_⟩
  obtain ⟨b, o, ha, hK, hb, hcell⟩ := hc j hj
  exact ⟨b, o, ha, hK, Nat.lt_of_lt_of_le hb k.size, fun f hf => by rw [k.cell (p := ⟨b, o + j * 4 + f, none⟩) hb (hd b hK)]; exact hcell f hf⟩

theorem Sl4.shape {K : Nat → Prop} {w : World} {v : Value} {n : Nat} {F : Nat → Nat → ByteArray} (h : Sl4 w K v n F) : ∃ ao cap, v = .slice ao n cap := by
  obtain ⟨ao, cap, hv, _⟩ := h; exact ⟨ao, cap, hv⟩

theorem Sl4.at {K : Nat → Prop} {w : World} {v : Value} {n : Nat} {F : Nat → Nat → ByteArray} (h : Sl4 w K v n F) {j : Nat} (hj : j < n) :
    ∃ b o cap, v = .slice (some ⟨b, o, none⟩) n cap ∧ b < w.heap.size ∧ K b ∧ w.cell? ⟨b, o + j * 4, none⟩ = some (.string (F j 0)) ∧ w.cell? ⟨b, o + j * 4 + 1, none⟩ = some (.string (F j 1)) ∧
      w.cell? ⟨b, o + j * 4 + 2, none⟩ = some (.string (F j 2)) ∧ w.cell? ⟨b, o + j * 4 + 3, none⟩ = some (.string (F j 3)) := by
  obtain ⟨ao, cap, hv, hc⟩ := h
  obtain ⟨b, o, ha, hK, hb, hcell⟩ := hc j hj
  exact ⟨b, o, cap, by rw [hv, ha], hb, hK, hcell 0 (by omega), hcell 1 (by omega), hcell 2 (by omega), hcell 3 (by omega)⟩

/-- A bool comes back; the world is as it was. -/
def SomeBool4 (w : World) (e : Ending) (w' : World) : Prop := ∃ b : Bool, e = .returned (.bool b) ∧ w' = w

set_option maxHeartbeats 4000000 in
set_option maxRecDepth 100000 in
theorem bytes8_any (n : Nat) (F : Nat → Nat → ByteArray) (w : World) (K : Nat → Prop) (v0 : Value) (hn : n ≤ 9223372036854775807) (hF : ∀ i f, (F i f).size ≤ 9223372036854775807) (h0 : Sl4 w K v0 n F) :
    Calls Try.prog 8 #[v0] w fun e w' => SomeBool4 w e w' := by
  obtain ⟨a0, c0, hv0⟩ := h0.shape
  subst hv0
  by_cases hc1 : (1048576 : Int) < (n : Int)
  · go_enter Try.func8, Try.ntmps8
    go_wp2
    go_ret
    exact ⟨_, rfl, rfl⟩
  have hc1' : (n : Int) ≤ 1048576 := by omega
  clear hc1
  go_enter Try.func8, Try.ntmps8
  go_wp2
  go_loopg [3, 4] n (fun g t i wx => w = wx ∧ ∃ (k : Nat) (z : Int), k ≤ n ∧ g = n - k ∧ i = .int .i64 (k : Int) ∧ t = .int .i64 z ∧ 0 ≤ z ∧ z ≤ 1048576)
  case atStart => exact ⟨rfl, 0, _, Nat.zero_le _, rfl, rfl, rfl, by omega, by omega⟩
  case round =>
    obtain ⟨rfl, k, z, hk, rfl, rfl, rfl, hz0, hz1⟩ := hrel
    by_cases hkn : k < n
    · have hkz : (k : Int) < (n : Int) := by omega
      obtain ⟨b, o, cap, hv, hb, _, e0, e1, e2, e3⟩ := h0.at hkn
      simp only [Value.slice.injEq] at hv
      obtain ⟨rfl, _, rfl⟩ := hv
      have s0 := hF k 0
      have s1 := hF k 1
      have s2 := hF k 2
      have s3 := hF k 3
      generalize F k 0 = f0 at *
      generalize F k 1 = f1 at *
      generalize F k 2 = f2 at *
      generalize F k 3 = f3 at *
      go_wp2
      all_goals first
        | (go_ret; exact ⟨_, rfl, rfl⟩)
        | (go_roundg (n - (k + 1))
           case measure => go_light; omega
           case rel => go_light; exact ⟨rfl, k + 1, _, by omega, rfl, by simp, rfl, by omega, by omega⟩)
    · have hkz : ¬ (k : Int) < (n : Int) := by omega
      go_wp2
      go_ret
      exact ⟨_, rfl, rfl⟩

set_option maxHeartbeats 4000000 in
set_option maxRecDepth 100000 in
theorem bytes15_any (n : Nat) (F : Nat → Nat → ByteArray) (w : World) (K : Nat → Prop) (v0 : Value) (hn : n ≤ 9223372036854775807) (hF : ∀ i f, (F i f).size ≤ 9223372036854775807) (h0 : Sl4 w K v0 n F) :
    Calls Try.prog 15 #[v0] w fun e w' => SomeBool4 w e w' := by
  obtain ⟨a0, c0, hv0⟩ := h0.shape
  subst hv0
  by_cases hc1 : (1048576 : Int) < (n : Int)
  · go_enter Try.func15, Try.ntmps15
    go_wp2
    go_ret
    exact ⟨_, rfl, rfl⟩
  have hc1' : (n : Int) ≤ 1048576 := by omega
  clear hc1
  go_enter Try.func15, Try.ntmps15
  go_wp2
  go_loopg [3, 4] n (fun g t i wx => w = wx ∧ ∃ (k : Nat) (z : Int), k ≤ n ∧ g = n - k ∧ i = .int .i64 (k : Int) ∧ t = .int .i64 z ∧ 0 ≤ z ∧ z ≤ 1048576)
  case atStart => exact ⟨rfl, 0, _, Nat.zero_le _, rfl, rfl, rfl, by omega, by omega⟩
  case round =>
    obtain ⟨rfl, k, z, hk, rfl, rfl, rfl, hz0, hz1⟩ := hrel
    by_cases hkn : k < n
    · have hkz : (k : Int) < (n : Int) := by omega
      obtain ⟨b, o, cap, hv, hb, _, e0, e1, e2, e3⟩ := h0.at hkn
      simp only [Value.slice.injEq] at hv
      obtain ⟨rfl, _, rfl⟩ := hv
      have s0 := hF k 0
      have s1 := hF k 1
      have s2 := hF k 2
      have s3 := hF k 3
      generalize F k 0 = f0 at *
      generalize F k 1 = f1 at *
      generalize F k 2 = f2 at *
      generalize F k 3 = f3 at *
      go_wp2
      all_goals first
        | (go_ret; exact ⟨_, rfl, rfl⟩)
        | (go_roundg (n - (k + 1))
           case measure => go_light; omega
           case rel => go_light; exact ⟨rfl, k + 1, _, by omega, rfl, by simp, rfl, by omega, by omega⟩)
    · have hkz : ¬ (k : Int) < (n : Int) := by omega
      go_wp2
      go_ret
      exact ⟨_, rfl, rfl⟩

/-- What 'b1NudgesFit' says. -/
def FitN (n : Nat) (w : World) (e : Ending) (w' : World) : Prop := ∃ b : Bool, e = .returned (.bool b) ∧ Below w.heap.size w w' ∧ (b = true → n ≤ 16384)

set_option maxHeartbeats 4000000 in
set_option maxRecDepth 100000 in
theorem nfit_any (n : Nat) (F : Nat → Nat → ByteArray) (w : World) (K : Nat → Prop) (v0 : Value) (hn : n ≤ 9223372036854775807) (hF : ∀ i f, (F i f).size ≤ 9223372036854775807) (h0 : Sl4 w K v0 n F) :
    Calls Try.prog 9 #[v0] w fun e w' => FitN n w e w' := by
  obtain ⟨a0, c0, hv0⟩ := h0.shape
  subst hv0
  by_cases hc1 : (16384 : Int) < (n : Int)
  · go_enter Try.func9, Try.ntmps9
    go_wp2
    go_ret
    exact ⟨_, rfl, Below.refl _ _, fun h => by cases h⟩
  have hc1' : (n : Int) ≤ 16384 := by omega
  clear hc1
  go_enter Try.func9, Try.ntmps9
  go_wp2
  go_loopg [3, 4] n (fun g t i wx => ∃ (k : Nat) (z : Int), k ≤ n ∧ g = n - k ∧ i = .int .i64 (k : Int) ∧ t = .int .i64 z ∧ 0 ≤ z ∧ z ≤ 1048576 ∧ Below w.heap.size w wx)
  case atStart => exact ⟨0, _, Nat.zero_le _, rfl, rfl, rfl, by omega, by omega, Below.refl _ _⟩
  case round =>
    obtain ⟨k, z, hk, rfl, rfl, rfl, hz0, hz1, hbl⟩ := hrel
    by_cases hkn : k < n
    · have hkz : (k : Int) < (n : Int) := by omega
      obtain ⟨b, o, cap, hv, hb, _, e0, e1, e2, e3⟩ := h0.at hkn
      simp only [Value.slice.injEq] at hv
      obtain ⟨rfl, _, rfl⟩ := hv
      have s0 := hF k 0
      have s1 := hF k 1
      have s2 := hF k 2
      have s3 := hF k 3
      generalize F k 0 = f0 at *
      generalize F k 1 = f1 at *
      generalize F k 2 = f2 at *
      generalize F k 3 = f3 at *
      rw [← hbl.cell (p := ⟨b, o + k * 4, none⟩) hb] at e0
      rw [← hbl.cell (p := ⟨b, o + k * 4 + 1, none⟩) hb] at e1
      rw [← hbl.cell (p := ⟨b, o + k * 4 + 2, none⟩) hb] at e2
      rw [← hbl.cell (p := ⟨b, o + k * 4 + 3, none⟩) hb] at e3
      have hsz := hbl.size
      go_wp2
      all_goals first
        | (go_ret; exact ⟨_, rfl, hbl.alloc hsz _, fun h => by cases h⟩)
        | (go_roundg (n - (k + 1))
           case measure => go_light; omega
           case rel => go_light; exact ⟨k + 1, _, by omega, rfl, by simp, rfl, by omega, by omega, hbl.alloc hsz _⟩)
    · have hkz : ¬ (k : Int) < (n : Int) := by omega
      go_wp2
      go_ret
      exact ⟨_, rfl, hbl, fun _ => by omega⟩

theorem Try.info37 : (Try.prog.info? 37).map (fun i => (i.zero, i.size, i.bytes)) = some (some (.agg #[.string ⟨#[]⟩, .string ⟨#[]⟩, .string ⟨#[]⟩, .string ⟨#[]⟩]), 4, 64) := by kernel_rfl

/-- What 'b1Nudges' leaves. -/
def NudPost (n : Nat) (F : Nat → Nat → ByteArray) (w : World) (e : Ending) (w' : World) : Prop := ∃ v, e = .returned v ∧ Below w.heap.size w w' ∧ Sl4 w' (fun _ => True) v n F

set_option maxHeartbeats 4000000 in
set_option maxRecDepth 100000 in
theorem nudges_any (n : Nat) (F : Nat → Nat → ByteArray) (w : World) (K : Nat → Prop) (v0 : Value) (hn : n ≤ 16384) (h0 : Sl4 w K v0 n F) :
    Calls Try.prog 11 #[v0] w fun e w' => NudPost n F w e w' := by
  obtain ⟨a0, c0, hv0⟩ := h0.shape
  subst hv0
  have heq : ∀ v : World, (binOp .eql 22 (.slice a0 n c0) (.slice none 0 0)).run Try.prog v = .ok (.bool a0.isNone) v := fun v => by
    simp only [binOp]
    simp [run_equal_slice_nil v 22 35 a0 n c0 Try.underlying22]
  cases a0 with
  | none =>
    go_enter Try.func11, Try.ntmps11
    go_wp2
    go_ret
    refine ⟨_, rfl, Below.refl _ _, ?_⟩
    have h00 : n = 0 := by
      rcases Nat.eq_zero_or_pos n with h | h
      · exact h
      · obtain ⟨b, o, cap, hv, _⟩ := h0.at h
        simp at hv
    subst h00
    exact ⟨none, 0, rfl, fun j hj => absurd hj (by omega)⟩
  | some ad =>
    have hmk : ∀ v : World, (Instr.makeSlice 29 (.int .i64 (n : Int)) (.int .i64 (n : Int))).run Try.prog v = .ok (.slice (some ⟨v.heap.size, 0, none⟩) n n) (v.alloc (.cells (madeCells #[.string ⟨#[]⟩, .string ⟨#[]⟩, .string ⟨#[]⟩, .string ⟨#[]⟩] (n * 4)) 37)) := by
      obtain ⟨i37, hi37, hz370, hz371, hz372⟩ := info_parts Try.info37
      intro v
      have h := run_make (P := Try.prog) v 29 37 i37 _ Try.underlying29 hi37 hz370 .i64 .i64 (n : Int) (n : Int) (by omega) (Int.le_refl _) (by rw [hz372]; omega) (by omega)
      rw [Int.toNat_natCast, hz371] at h
      exact h
    have r0 : (w.alloc (.cells (madeCells #[.string ⟨#[]⟩, .string ⟨#[]⟩, .string ⟨#[]⟩, .string ⟨#[]⟩] (n * 4)) 37)).rowIs w.heap.size 37 (n * 4) (fun _ => .string ⟨#[]⟩) :=
      ⟨_, heap_alloc_new _ _, by simp [madeCells], fun i hi => by
        have h4 : i % 4 = 0 ∨ i % 4 = 1 ∨ i % 4 = 2 ∨ i % 4 = 3 := by omega
        simp only [madeCells]
        rcases h4 with h | h | h | h <;> simp [hi, h]⟩
    have hb0 : Below w.heap.size w (w.alloc (.cells (madeCells #[.string ⟨#[]⟩, .string ⟨#[]⟩, .string ⟨#[]⟩, .string ⟨#[]⟩] (n * 4)) 37)) := (Below.refl _ _).alloc (Nat.le_refl _) _
    go_enter Try.func11, Try.ntmps11
    go_wp2
    clear hmk heq
    go_loopg [4] n (fun g i wx => ∃ (k : Nat) (f : Nat → Value), k ≤ n ∧ g = n - k ∧ i = .int .i64 (k : Int) ∧ Below w.heap.size w wx ∧ wx.rowIs w.heap.size 37 (n * 4) f ∧ ∀ j, j < k → ∀ q, q < 4 → f (j * 4 + q) = .string (F j q))
    case atStart => exact ⟨0, _, Nat.zero_le _, rfl, rfl, hb0, r0, fun j hj => absurd hj (by omega)⟩
    case round =>
      clear r0 hb0
      obtain ⟨k, f, hk, rfl, rfl, hbl, hrw, hfl⟩ := hrel
      by_cases hkn : k < n
      · have hkz : (k : Int) < (n : Int) := by omega
        obtain ⟨b, o, cap, hv, hb, _, e0, e1, e2, e3⟩ := h0.at hkn
        simp only [Value.slice.injEq, Option.some.injEq] at hv
        obtain ⟨rfl, _, rfl⟩ := hv
        rw [← hbl.cell (p := ⟨b, o + k * 4, none⟩) hb] at e0
        rw [← hbl.cell (p := ⟨b, o + k * 4 + 1, none⟩) hb] at e1
        rw [← hbl.cell (p := ⟨b, o + k * 4 + 2, none⟩) hb] at e2
        rw [← hbl.cell (p := ⟨b, o + k * 4 + 3, none⟩) hb] at e3
        have hsz := hbl.size
        have hlt := hrw.lt
        have c0 := hrw.cell (i := k * 4) (by omega)
        have c1 := hrw.cell (i := k * 4 + 1) (by omega)
        have c2 := hrw.cell (i := k * 4 + 2) (by omega)
        have c3 := hrw.cell (i := k * 4 + 3) (by omega)
        have d0 := hrw.frozen (k * 4)
        have d1 := hrw.frozen (k * 4 + 1)
        have d2 := hrw.frozen (k * 4 + 2)
        have d3 := hrw.frozen (k * 4 + 3)
        go_wp2
        go_roundg (n - (k + 1))
        case measure => go_light; omega
        case rel =>
          go_light
          refine ⟨k + 1, _, by omega, rfl, by simp, ?_, ((((hrw.set (k * 4) _).set (k * 4 + 1) _).set (k * 4 + 2) _).set (k * 4 + 3) _).alloc _, fun j hj q hq => ?_⟩
          · exact ((((hbl.setCell (Nat.le_refl _) _).setCell (Nat.le_refl _) _).setCell (Nat.le_refl _) _).setCell (Nat.le_refl _) _).alloc (by simpa using hsz) _
          · by_cases e : j = k
            · subst e
              have h4 : q = 0 ∨ q = 1 ∨ q = 2 ∨ q = 3 := by omega
              rcases h4 with rfl | rfl | rfl | rfl <;> simp
            · have h4 : j * 4 + q < k * 4 := by omega
              rw [if_neg (by omega), if_neg (by omega), if_neg (by omega), if_neg (by omega)]
              exact hfl j (by omega) q hq
      · have hkz : ¬ (k : Int) < (n : Int) := by omega
        go_wp2
        go_ret
        refine ⟨_, rfl, hbl, some ⟨w.heap.size, 0, none⟩, n, rfl, fun j hj => ⟨w.heap.size, 0, rfl, trivial, hrw.lt, fun q hq => ?_⟩⟩
        rw [Nat.zero_add, hrw.cell (by omega), hfl j (by omega) q hq]

end Go.Proofs.Qxb6601793a
