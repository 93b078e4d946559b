import Derived.Test.Qxb6601793aFits
namespace Go.Proofs.Qxb6601793a
open Go.RowKit Go.Deep

/-- A bool comes back; the world is as it was. -/
def SomeBool (w : World) (e : Ending) (w' : World) : Prop := ∃ b : Bool, e = .returned (.bool b) ∧ w' = w

set_option maxHeartbeats 4000000 in
set_option maxRecDepth 100000 in
theorem bytes19_any (nN nO : Nat) (S : Nat → ByteArray) (rows : Nat → List Int) (w : World) (K : Nat → Prop) (v0 v1 : Value) (hnN : nN ≤ 9223372036854775807) (hnO : nO ≤ 9223372036854775807)
    (hS : ∀ i, (S i).size ≤ 9223372036854775807) (hrl : ∀ i, (rows i).length ≤ 9223372036854775807) (h0 : Sl w K v0 nN (fun i => .string (S i))) (h1 : MatZ w K v1 nO rows) :
    Calls Try.prog 19 #[v0, v1] w fun e w' => SomeBool w e w' := by
  obtain ⟨a0, c0, hv0⟩ := h0.shape
  obtain ⟨a1, c1, hv1⟩ := h1.shape
  by_cases hc1 : (1048576 : Int) < (nN : Int)
  · subst hv0; subst hv1
    clear h0 h1 hrl hS
    go_enter Try.func19, Try.ntmps19
    go_wp2
    go_ret
    exact ⟨_, rfl, rfl⟩
  have hc1' : (nN : Int) ≤ 1048576 := by omega
  subst hv0; subst hv1
  clear hc1
  go_enter Try.func19, Try.ntmps19
  go_wp2
  go_loopg [5, 6] nN (fun g t i wx => w = wx ∧ ∃ (k : Nat) (z : Int), k ≤ nN ∧ g = nN - k ∧ i = .int .i64 (k : Int) ∧ t = .int .i64 z ∧ 0 ≤ z ∧ z ≤ 1048576)
  case atStart => exact ⟨rfl, 0, _, Nat.zero_le _, rfl, rfl, rfl, by omega, by omega⟩
  case round =>
    obtain ⟨rfl, k, z, hk, rfl, rfl, rfl, hz0, hz1⟩ := hrel
    by_cases hkn : k < nN
    · have hkz : (k : Int) < (nN : Int) := by omega
      obtain ⟨b, o, cap, hv, hb, _, hcell⟩ := h0.at hkn
      simp only [Value.slice.injEq] at hv
      obtain ⟨rfl, _, rfl⟩ := hv
      have hck := hcell k hkn
      have hsk := hS k
      clear hcell
      by_cases hs : (1048576 : Int) < ((S k).size : Int)
      · go_wp2
        go_ret
        exact ⟨_, rfl, rfl⟩
      · have hs' : ((S k).size : Int) ≤ 1048576 := by omega
        by_cases ht : (1048576 : Int) < z + ((S k).size : Int)
        · go_wp2
          go_ret
          exact ⟨_, rfl, rfl⟩
        · have ht' : z + ((S k).size : Int) ≤ 1048576 := by omega
          go_wp2
          go_roundg (nN - (k + 1))
          case measure => go_light; omega
          case rel => go_light; exact ⟨rfl, k + 1, _, by omega, rfl, by simp, rfl, by omega, by omega⟩
    · have hkz : ¬ (k : Int) < (nN : Int) := by omega
      by_cases hc2 : (1048576 : Int) < (nO : Int)
      · go_wp2
        go_ret
        exact ⟨_, rfl, rfl⟩
      have hc2' : (nO : Int) ≤ 1048576 := by omega
      by_cases hc3 : (1048576 : Int) < z + (nO : Int)
      · go_wp2
        go_ret
        exact ⟨_, rfl, rfl⟩
      have hc3' : z + (nO : Int) ≤ 1048576 := by omega
      go_wp2
      go_loopg [5, 7] nO (fun g t i wx => w = wx ∧ ∃ (k : Nat) (z : Int), k ≤ nO ∧ g = nO - k ∧ i = .int .i64 (k : Int) ∧ t = .int .i64 z ∧ 0 ≤ z ∧ z ≤ 1048576)
      case atStart => exact ⟨rfl, 0, _, Nat.zero_le _, rfl, rfl, rfl, by omega, by omega⟩
      case round =>
        clear hz0 hz1 hk hkz hkn hc3 hc3'
        obtain ⟨rfl, k2, z, hk, rfl, rfl, rfl, hz0, hz1⟩ := hrel
        by_cases hkn : k2 < nO
        · have hkz : (k2 : Int) < (nO : Int) := by omega
          obtain ⟨b, o, cap, ao, c, hv, hck, _⟩ := h1.at hkn
          simp only [Value.slice.injEq] at hv
          obtain ⟨rfl, _, rfl⟩ := hv
          have hsk := hrl k2
          by_cases hs : (1048576 : Int) < ((rows k2).length : Int)
          · go_wp2
            go_ret
            exact ⟨_, rfl, rfl⟩
          · have hs' : ((rows k2).length : Int) ≤ 1048576 := by omega
            by_cases ht : (1048576 : Int) < z + ((rows k2).length : Int)
            · go_wp2
              go_ret
              exact ⟨_, rfl, rfl⟩
            · have ht' : z + ((rows k2).length : Int) ≤ 1048576 := by omega
              go_wp2
              go_roundg (nO - (k2 + 1))
              case measure => go_light; omega
              case rel => go_light; exact ⟨rfl, k2 + 1, _, by omega, rfl, by simp, rfl, by omega, by omega⟩
        · have hkz : ¬ (k2 : Int) < (nO : Int) := by omega
          go_wp2
          go_ret
          exact ⟨_, rfl, rfl⟩

set_option maxHeartbeats 4000000 in
set_option maxRecDepth 100000 in
theorem bytes24_any (nN nO : Nat) (S : Nat → ByteArray) (rows : Nat → List Int) (w : World) (K : Nat → Prop) (v0 v1 : Value) (hnN : nN ≤ 9223372036854775807) (hnO : nO ≤ 9223372036854775807)
    (hS : ∀ i, (S i).size ≤ 9223372036854775807) (hrl : ∀ i, (rows i).length ≤ 9223372036854775807) (h0 : Sl w K v0 nN (fun i => .string (S i))) (h1 : MatZ w K v1 nO rows) :
    Calls Try.prog 24 #[v0, v1] w fun e w' => SomeBool w e w' := by
  obtain ⟨a0, c0, hv0⟩ := h0.shape
  obtain ⟨a1, c1, hv1⟩ := h1.shape
  by_cases hc1 : (1048576 : Int) < (nN : Int)
  · subst hv0; subst hv1
    clear h0 h1 hrl hS
    go_enter Try.func24, Try.ntmps24
    go_wp2
    go_ret
    exact ⟨_, rfl, rfl⟩
  have hc1' : (nN : Int) ≤ 1048576 := by omega
  subst hv0; subst hv1
  clear hc1
  go_enter Try.func24, Try.ntmps24
  go_wp2
  go_loopg [5, 6] nN (fun g t i wx => w = wx ∧ ∃ (k : Nat) (z : Int), k ≤ nN ∧ g = nN - k ∧ i = .int .i64 (k : Int) ∧ t = .int .i64 z ∧ 0 ≤ z ∧ z ≤ 1048576)
  case atStart => exact ⟨rfl, 0, _, Nat.zero_le _, rfl, rfl, rfl, by omega, by omega⟩
  case round =>
    obtain ⟨rfl, k, z, hk, rfl, rfl, rfl, hz0, hz1⟩ := hrel
    by_cases hkn : k < nN
    · have hkz : (k : Int) < (nN : Int) := by omega
      obtain ⟨b, o, cap, hv, hb, _, hcell⟩ := h0.at hkn
      simp only [Value.slice.injEq] at hv
      obtain ⟨rfl, _, rfl⟩ := hv
      have hck := hcell k hkn
      have hsk := hS k
      clear hcell
      by_cases hs : (1048576 : Int) < ((S k).size : Int)
      · go_wp2
        go_ret
        exact ⟨_, rfl, rfl⟩
      · have hs' : ((S k).size : Int) ≤ 1048576 := by omega
        by_cases ht : (1048576 : Int) < z + ((S k).size : Int)
        · go_wp2
          go_ret
          exact ⟨_, rfl, rfl⟩
        · have ht' : z + ((S k).size : Int) ≤ 1048576 := by omega
          go_wp2
          go_roundg (nN - (k + 1))
          case measure => go_light; omega
          case rel => go_light; exact ⟨rfl, k + 1, _, by omega, rfl, by simp, rfl, by omega, by omega⟩
    · have hkz : ¬ (k : Int) < (nN : Int) := by omega
      by_cases hc2 : (1048576 : Int) < (nO : Int)
      · go_wp2
        go_ret
        exact ⟨_, rfl, rfl⟩
      have hc2' : (nO : Int) ≤ 1048576 := by omega
      by_cases hc3 : (1048576 : Int) < z + (nO : Int)
      · go_wp2
        go_ret
        exact ⟨_, rfl, rfl⟩
      have hc3' : z + (nO : Int) ≤ 1048576 := by omega
      go_wp2
      go_loopg [5, 7] nO (fun g t i wx => w = wx ∧ ∃ (k : Nat) (z : Int), k ≤ nO ∧ g = nO - k ∧ i = .int .i64 (k : Int) ∧ t = .int .i64 z ∧ 0 ≤ z ∧ z ≤ 1048576)
      case atStart => exact ⟨rfl, 0, _, Nat.zero_le _, rfl, rfl, rfl, by omega, by omega⟩
      case round =>
        clear hz0 hz1 hk hkz hkn hc3 hc3'
        obtain ⟨rfl, k2, z, hk, rfl, rfl, rfl, hz0, hz1⟩ := hrel
        by_cases hkn : k2 < nO
        · have hkz : (k2 : Int) < (nO : Int) := by omega
          obtain ⟨b, o, cap, ao, c, hv, hck, _⟩ := h1.at hkn
          simp only [Value.slice.injEq] at hv
          obtain ⟨rfl, _, rfl⟩ := hv
          have hsk := hrl k2
          by_cases hs : (1048576 : Int) < ((rows k2).length : Int)
          · go_wp2
            go_ret
            exact ⟨_, rfl, rfl⟩
          · have hs' : ((rows k2).length : Int) ≤ 1048576 := by omega
            by_cases ht : (1048576 : Int) < z + ((rows k2).length : Int)
            · go_wp2
              go_ret
              exact ⟨_, rfl, rfl⟩
            · have ht' : z + ((rows k2).length : Int) ≤ 1048576 := by omega
              go_wp2
              go_roundg (nO - (k2 + 1))
              case measure => go_light; omega
              case rel => go_light; exact ⟨rfl, k2 + 1, _, by omega, rfl, by simp, rfl, by omega, by omega⟩
        · have hkz : ¬ (k2 : Int) < (nO : Int) := by omega
          go_wp2
          go_ret
          exact ⟨_, rfl, rfl⟩

end Go.Proofs.Qxb6601793a
