import Derived.Test.Qxb6601793aBase
namespace Go.Proofs.Qxb6601793a
open Go.RowKit Go.Deep

/-- A slice of slices of integers. -/
def MatZ (w : World) (K : Nat → Prop) (v : Value) (n : Nat) (rows : Nat → List Int) : Prop :=
  ∃ f, Sl w K v n f ∧ ∀ i, i < n → Sl w K (f i) (rows i).length (fun j => .int .i64 ((rows i).getD j 0))

theorem MatZ.at {K : Nat → Prop} {w : World} {v : Value} {n : Nat} {rows : Nat → List Int} (h : MatZ w K v n rows) {i : Nat} (hi : i < n) :
    ∃ b o cap ao c, v = .slice (some ⟨b, o, none⟩) n cap ∧ w.cell? ⟨b, o + i, none⟩ = some (.slice ao (rows i).length c) ∧
      ∀ j, j < (rows i).length → ∃ b' o', ao = some ⟨b', o', none⟩ ∧ w.cell? ⟨b', o' + j, none⟩ = some (.int .i64 ((rows i).getD j 0)) := by
  obtain ⟨f, h1, h2⟩ := h
  obtain ⟨b, o, cap, hv, hb, _, hc⟩ := h1.at hi
  obtain ⟨ao, c, hf, hr⟩ := h2 i hi
  exact ⟨b, o, cap, ao, c, hv, by rw [hc i hi, hf], fun j hj => by obtain ⟨b', o', e1, _, e3, e4⟩ := hr j hj; exact ⟨b', o', e1, e4⟩⟩

theorem MatZ.shape {K : Nat → Prop} {w : World} {v : Value} {n : Nat} {rows : Nat → List Int} (h : MatZ w K v n rows) : ∃ ao cap, v = .slice ao n cap := by
  obtain ⟨f, h1, _⟩ := h; exact h1.shape

/-- Where every number lies below n it is a matrix of nodes. -/
theorem MatZ.nats {K : Nat → Prop} {w : World} {v : Value} {n : Nat} {rows : Nat → List Int} (h : MatZ w K v n rows) (hr : ∀ i, i < n → ∀ x ∈ rows i, 0 ≤ x) : Mat w K v n (fun i => (rows i).map Int.toNat) := by
  obtain ⟨f, h1, h2⟩ := h
  refine ⟨f, h1, fun i hi => ?_⟩
  have h3 := h2 i hi
  rw [List.length_map]
  refine h3.congr (fun j hj => ?_)
  have hx := hr i hi (rows i)[j] (List.getElem_mem hj)
  simp only [List.getD, List.getElem?_map, List.getElem?_eq_getElem hj, Option.map_some, Option.getD_some]
  rw [Int.toNat_of_nonneg hx]

/-- What 'b1GraphFits' says. -/
def FitsPost (most : Int) (nN nO : Nat) (rows : Nat → List Int) (w : World) (e : Ending) (w' : World) : Prop :=
  ∃ b : Bool, e = .returned (.bool b) ∧ w' = w ∧ (b = true → (nN : Int) ≤ most ∧ nO = nN ∧ ∀ v, v < nO → (rows v).length ≤ 131072 ∧ ∀ x ∈ rows v, 0 ≤ x ∧ x < (nN : Int))

theorem FitsPost.no {most : Int} {nN nO : Nat} {rows : Nat → List Int} {w : World} : FitsPost most nN nO rows w (.returned (.bool false)) w := ⟨false, rfl, rfl, fun h => by cases h⟩

set_option maxHeartbeats 4000000 in
set_option maxRecDepth 100000 in
theorem fits_any (most : Int) (hm0 : 0 ≤ most) (hm1 : most ≤ 65536) (nN nO : Nat) (S : Nat → ByteArray) (rows : Nat → List Int) (w : World) (K : Nat → Prop) (v0 v1 : Value) (hnN : nN ≤ 9223372036854775807) (hnO : nO ≤ 9223372036854775807)
    (hS : ∀ i, (S i).size ≤ 9223372036854775807) (hrl : ∀ i, (rows i).length ≤ 9223372036854775807) (h0 : Sl w K v0 nN (fun i => .string (S i))) (h1 : MatZ w K v1 nO rows) :
    Calls Try.prog 20 #[v0, v1, .int .i64 most] w fun e w' => FitsPost most nN nO rows w e w' := by
  obtain ⟨a0, c0, hv0⟩ := h0.shape
  obtain ⟨a1, c1, hv1⟩ := h1.shape
  by_cases hc1 : most < (nN : Int)
  · subst hv0; subst hv1
    clear h0 h1 hrl hS
    go_enter Try.func20, Try.ntmps20
    go_wp2
    go_ret
    exact FitsPost.no
  have hc1' : (nN : Int) ≤ most := by omega
  by_cases hc2 : most < (nO : Int)
  · subst hv0; subst hv1
    clear h0 h1 hrl hS
    go_enter Try.func20, Try.ntmps20
    go_wp2
    go_ret
    exact FitsPost.no
  have hc2' : (nO : Int) ≤ most := by omega
  by_cases hc3 : (1048576 : Int) < 16 * (nN : Int) + 24 * (nO : Int)
  · subst hv0; subst hv1
    clear h0 h1 hrl hS
    go_enter Try.func20, Try.ntmps20
    go_wp2
    go_ret
    exact FitsPost.no
  have hc3' : 16 * (nN : Int) + 24 * (nO : Int) ≤ 1048576 := by omega
  subst hv0; subst hv1
  clear hc1 hc2 hc3
  go_enter Try.func20, Try.ntmps20
  go_wp2
  go_loopg [7, 8] nN (fun g t i wx => w = wx ∧ ∃ (k : Nat) (z : Int), k ≤ nN ∧ g = nN - k ∧ i = .int .i64 (k : Int) ∧ t = .int .i64 z ∧ 0 ≤ z ∧ z ≤ 1048576)
  case atStart => exact ⟨rfl, 0, _, Nat.zero_le _, rfl, rfl, rfl, by omega, by omega⟩
  case round =>
    obtain ⟨rfl, k, z, hk, rfl, rfl, rfl, hz0, hz1⟩ := hrel
    by_cases hkn : k < nN
    · have hkz : (k : Int) < (nN : Int) := by omega
      obtain ⟨b, o, cap, hv, hb, _, hcell⟩ := h0.at hkn
      simp only [Value.slice.injEq] at hv
      obtain ⟨rfl, _, rfl⟩ := hv
      have hck := hcell k hkn
      have hsk := hS k
      clear hcell
      by_cases hs : (1048576 : Int) < ((S k).size : Int)
      · go_wp2
        go_ret
        exact FitsPost.no
      · have hs' : ((S k).size : Int) ≤ 1048576 := by omega
        by_cases ht : (1048576 : Int) < z + ((S k).size : Int)
        · go_wp2
          go_ret
          exact FitsPost.no
        · have ht' : z + ((S k).size : Int) ≤ 1048576 := by omega
          go_wp2
          go_roundg (nN - (k + 1))
          case measure => go_light; omega
          case rel => go_light; exact ⟨rfl, k + 1, _, by omega, rfl, by simp, rfl, by omega, by omega⟩
    · have hkz : ¬ (k : Int) < (nN : Int) := by omega
      go_wp2
      go_loopg [7, 9] nO (fun g t i wx => w = wx ∧ ∃ (k : Nat) (z : Int), k ≤ nO ∧ g = nO - k ∧ i = .int .i64 (k : Int) ∧ t = .int .i64 z ∧ 0 ≤ z ∧ z ≤ 1048576 ∧ ∀ v, v < k → (rows v).length ≤ 131072)
      case atStart => exact ⟨rfl, 0, z, Nat.zero_le _, rfl, rfl, rfl, hz0, hz1, fun v hv => absurd hv (by omega)⟩
      case round =>
        clear hz0 hz1 hk hkz hkn
        obtain ⟨rfl, k2, z, hk, rfl, rfl, rfl, hz0, hz1, hrows⟩ := hrel
        by_cases hkn : k2 < nO
        · have hkz : (k2 : Int) < (nO : Int) := by omega
          obtain ⟨b, o, cap, ao, c, hv, hck, _⟩ := h1.at hkn
          simp only [Value.slice.injEq] at hv
          obtain ⟨rfl, _, rfl⟩ := hv
          have hsk := hrl k2
          by_cases hs : (131072 : Int) < ((rows k2).length : Int)
          · go_wp2
            go_ret
            exact FitsPost.no
          · have hs' : ((rows k2).length : Int) ≤ 131072 := by omega
            by_cases ht : (1048576 : Int) < z + 8 * ((rows k2).length : Int)
            · go_wp2
              go_ret
              exact FitsPost.no
            · have ht' : z + 8 * ((rows k2).length : Int) ≤ 1048576 := by omega
              go_wp2
              go_roundg (nO - (k2 + 1))
              case measure => go_light; omega
              case rel => go_light; exact ⟨rfl, k2 + 1, _, by omega, rfl, by simp, rfl, by omega, by omega, fun v hv => by
                by_cases e : v = k2
                · subst e; omega
                · exact hrows v (by omega)⟩
        · have hkz : ¬ (k2 : Int) < (nO : Int) := by omega
          by_cases hne : nO = nN
          · subst hne
            go_wp2
            go_loopg [11] nO (fun g i wx => w = wx ∧ ∃ (k : Nat), k ≤ nO ∧ g = nO - k ∧ i = .int .i64 (k : Int) ∧ ∀ v, v < k → ∀ x ∈ rows v, 0 ≤ x ∧ x < (nO : Int))
            case atStart => exact ⟨rfl, 0, Nat.zero_le _, rfl, rfl, fun v hv => absurd hv (by omega)⟩
            case round =>
              clear hz0 hz1 hkz
              obtain ⟨rfl, k3, hk3, rfl, rfl, hin⟩ := hrel
              by_cases hkn3 : k3 < nO
              · have hkz : (k3 : Int) < (nO : Int) := by omega
                go_wp2
                go_loopg [12] (rows k3).length (fun g i wx => w = wx ∧ ∃ (j : Nat), j ≤ (rows k3).length ∧ g = (rows k3).length - j ∧ i = .int .i64 (j : Int) ∧ ∀ x ∈ (rows k3).take j, 0 ≤ x ∧ x < (nO : Int))
                case atStart => exact ⟨rfl, 0, Nat.zero_le _, rfl, rfl, by simp⟩
                case round =>
                  obtain ⟨rfl, j, hj, rfl, rfl, hin2⟩ := hrel
                  obtain ⟨b, o, cap, ao, c, hv, hck, hrw⟩ := h1.at hkn3
                  simp only [Value.slice.injEq] at hv
                  obtain ⟨rfl, _, rfl⟩ := hv
                  have hsk := hrl k3
                  by_cases hjl : j < (rows k3).length
                  · have hjz : (j : Int) < ((rows k3).length : Int) := by omega
                    obtain ⟨b', o', rfl, hcx⟩ := hrw j hjl
                    obtain ⟨x, hx⟩ : ∃ x, x = (rows k3).getD j 0 := ⟨_, rfl⟩
                    rw [← hx] at hcx
                    have HX : Hid (x = (rows k3).getD j 0) := hx
                    clear hx hrw
                    by_cases hx0 : x < 0
                    · go_wp2
                      go_ret
                      exact FitsPost.no
                    · have hx0' : 0 ≤ x := by omega
                      by_cases hxn : x < (nO : Int)
                      · go_wp2
                        go_roundg ((rows k3).length - (j + 1))
                        case measure => go_light; omega
                        case rel => go_light; exact ⟨rfl, j + 1, by omega, rfl, by simp, fun y hy => by
                          rw [List.take_succ_eq_append_getElem hjl] at hy
                          rcases List.mem_append.1 hy with h | h
                          · exact hin2 y h
                          · simp at h
                            have : y = x := by rw [HX.out, h]; simp [List.getD, List.getElem?_eq_getElem hjl]
                            subst this; exact ⟨hx0', hxn⟩⟩
                      · have hxn' : (nO : Int) ≤ x := by omega
                        go_wp2
                        go_ret
                        exact FitsPost.no
                  · have hjz : ¬ (j : Int) < ((rows k3).length : Int) := by omega
                    clear hrw
                    go_wp2
                    go_roundg (nO - (k3 + 1))
                    case measure => go_light; omega
                    case rel => go_light; exact ⟨rfl, k3 + 1, by omega, rfl, by simp, fun v hv x hx => by
                      by_cases e : v = k3
                      · subst e; exact hin2 x (by rw [List.take_of_length_le (by omega)]; exact hx)
                      · exact hin v (by omega) x hx⟩
              · have hkz : ¬ (k3 : Int) < (nO : Int) := by omega
                go_wp2
                go_ret
                exact ⟨true, rfl, rfl, fun _ => ⟨hc1', rfl, fun v hv => ⟨hrows v (by omega), hin v (by omega)⟩⟩⟩
          · have hnb : ((nO : Int) == (nN : Int)) = false := beq_eq_false_iff_ne.2 (by omega)
            go_wp2
            go_ret
            exact FitsPost.no

end Go.Proofs.Qxb6601793a
