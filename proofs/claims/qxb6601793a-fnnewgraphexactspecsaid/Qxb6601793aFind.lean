import Derived.Test.Qxb6601793aEq
import Derived.BigQuiet
import Derived.Sort.Walk0
namespace Go.Proofs.Qxb6601793a
open Go.RowKit Go.Deep Scc

set_option maxHeartbeats 1000000 in
set_option maxRecDepth 100000 in
theorem ascending_any (n : Nat) (l : List Nat) (hl : l.length ≤ 1099511627776) (ha : l.Pairwise (· < ·)) (hlt : ∀ y ∈ l, y < n) (w : World) (K1 : Nat → Prop) (va : Value) (h1 : Sl w K1 va l.length (fun j => .int .i64 ((l.getD j 0 : Nat) : Int))) :
    Calls Try.prog 12 #[va, .int .i64 (n : Int)] w fun e w' => TruePost w e w' := by
  obtain ⟨a1, c1, hv1⟩ := h1.shape
  subst hv1
  go_enter Try.func12, Try.ntmps12
  go_wp2
  go_loopg [5] l.length (fun g i wx => ∃ (j m : Nat), j ≤ l.length ∧ g = l.length - j ∧ i = .int .i64 (j : Int) ∧ w.drewN m = wx)
  case atStart => exact ⟨0, 0, Nat.zero_le _, rfl, rfl, rfl⟩
  case round =>
    obtain ⟨j, m, hj, rfl, rfl, rfl⟩ := hrel
    by_cases hjl : j < l.length
    · have hjz : (j : Int) < (l.length : Int) := by omega
      obtain ⟨b, o, cap, hv, hb, _, hc⟩ := h1.at hjl
      simp only [Value.slice.injEq] at hv
      obtain ⟨rfl, _, rfl⟩ := hv
      have e1 := hc j hjl
      have hx1 := hlt _ (mem_take_of_getD hjl)
      have hpre : ∀ i, i + 1 = j → w.cell? ⟨b, o + i, none⟩ = some (.int .i64 ((l.getD i 0 : Nat) : Int)) ∧ l.getD i 0 < l.getD j 0 := fun i hi => ⟨hc i (by omega), asc_getD ha (by omega) hjl⟩
      generalize l.getD j 0 = x at e1 hx1 hpre
      clear hc
      have hd0 : decide ((x : Int) < 0) = false := by simp
      have hd1 : decide ((n : Int) ≤ (x : Int)) = false := by simp; omega
      by_cases hj0 : j = 0
      · subst hj0
        rw [Nat.add_zero] at e1
        go_wp2_with fail
        go_quiet (fail)
        go_wp2
        go_roundg (l.length - (0 + 1))
        case measure => go_light; omega
        case rel => go_light; exact ⟨0 + 1, _, by omega, rfl, by simp, rfl⟩
      · obtain ⟨i, rfl⟩ : ∃ i, j = i + 1 := ⟨j - 1, by omega⟩
        obtain ⟨e2, hlt2⟩ := hpre i rfl
        generalize l.getD i 0 = y at e2 hlt2
        clear hpre
        have hd2 : decide ((x : Int) ≤ (y : Int)) = false := by simp; omega
        go_wp2_with fail
        go_quiet (fail)
        go_wp2
        go_roundg (l.length - (i + 1 + 1))
        case measure => go_light; omega
        case rel => go_light; exact ⟨i + 1 + 1, _, by omega, rfl, by simp, rfl⟩
    · have hjz : ¬ (j : Int) < (l.length : Int) := by omega
      go_wp2
      go_ret
      exact ⟨rfl, m, rfl⟩

/-- Place p comes back; the world is as it was. -/
def PlacePost (p : Nat) (w : World) (e : Ending) (w' : World) : Prop := e = .returned (.int .i64 (p : Int)) ∧ w' = w

set_option maxHeartbeats 1000000 in
set_option maxRecDepth 100000 in
theorem find_any (l : List Nat) (hl : l.length ≤ 1099511627776) (ha : l.Pairwise (· < ·)) (p : Nat) (hp : p < l.length) (x : Nat) (hx : l.getD p 0 = x) (w : World) (K1 : Nat → Prop) (va : Value) (h1 : Sl w K1 va l.length (fun j => .int .i64 ((l.getD j 0 : Nat) : Int))) :
    Calls Try.prog 14 #[va, .int .i64 (x : Int)] w fun e w' => PlacePost p w e w' := by
  obtain ⟨b, o, cap, hv, hb, _, hc⟩ := h1.at hp
  subst hv
  go_enter Try.func14, Try.ntmps14
  go_wp2
  go_loopg [5, 6] l.length (fun g i k wx => ∃ (lo hi : Nat), lo ≤ p ∧ p ≤ hi ∧ hi ≤ l.length ∧ g = hi - lo ∧ i = .int .i64 (lo : Int) ∧ k = .int .i64 (hi : Int) ∧ w = wx)
  case atStart => exact ⟨0, l.length, Nat.zero_le _, by omega, Nat.le_refl _, rfl, rfl, rfl, rfl⟩
  case round =>
    obtain ⟨lo, hi, hlo, hhi, hhl, rfl, rfl, rfl, rfl⟩ := hrel
    by_cases hjl : lo < hi
    · have hjz : (lo : Int) < (hi : Int) := by omega
      obtain ⟨q, Hq⟩ : ∃ q, Hid (q = lo + (hi - lo) / 2) := ⟨_, rfl⟩
      have hq0 := Hq.out
      have hql : q < l.length := by omega
      have e1 := hc q hql
      have hqz : (lo : Int) + ((hi : Int) - (lo : Int)) / 2 = (q : Int) := by omega
      have hqz0 : (q : Int) < (l.length : Int) := by omega
      have hqlo : lo ≤ q := by omega
      have hqhi : q < hi := by omega
      have hcase : (l.getD q 0 < x → q < p) ∧ (¬ l.getD q 0 < x → p ≤ q) := by
        constructor
        · intro h
          rcases Nat.lt_trichotomy q p with h2 | h2 | h2
          · exact h2
          · subst h2; omega
          · have := asc_getD ha h2 hql; omega
        · intro h
          rcases Nat.lt_or_ge q p with h2 | h2
          · have := asc_getD ha h2 hp; omega
          · exact h2
      generalize l.getD q 0 = y at e1 hcase
      clear hc hq0
      by_cases hy : y < x
      · have hyz : (y : Int) < (x : Int) := by omega
        go_wp2
        go_roundg (hi - (q + 1))
        case measure => go_light; omega
        case rel => go_light; exact ⟨q + 1, hi, by have := hcase.1 hy; omega, hhi, hhl, rfl, by simp, rfl, rfl⟩
      · have hyz : ¬ (y : Int) < (x : Int) := by omega
        go_wp2
        go_roundg (q - lo)
        case measure => go_light; omega
        case rel => go_light; exact ⟨lo, q, hlo, hcase.2 hy, by omega, rfl, rfl, rfl, rfl⟩
    · have hjz : ¬ (lo : Int) < (hi : Int) := by omega
      have e0 : lo = p := by omega
      subst e0
      have hpz : (lo : Int) < (l.length : Int) := by omega
      have e1 := hc lo hp
      rw [hx] at e1
      clear hc
      go_wp2
      go_ret
      exact ⟨rfl, rfl⟩

theorem names_lt {N : List (List UInt8)} (h : N.Pairwise (· < ·)) {i j : Nat} (hij : i < j) (hj : j < N.length) : N.getD i [] < N.getD j [] := by
  simp only [List.getD, List.getElem?_eq_getElem hj, List.getElem?_eq_getElem (Nat.lt_trans hij hj), Option.getD_some]
  exact List.pairwise_iff_getElem.1 h i j _ hj hij

set_option maxHeartbeats 1000000 in
set_option maxRecDepth 100000 in
theorem findname_any (N : List (List UInt8)) (hl : N.length ≤ 1099511627776) (ha : N.Pairwise (· < ·)) (p : Nat) (hp : p < N.length) (x : List UInt8) (hx : N.getD p [] = x) (w : World) (K1 : Nat → Prop) (va : Value) (h1 : Sl w K1 va N.length (fun j => .string ⟨(N.getD j []).toArray⟩)) :
    Calls Try.prog 13 #[va, .string ⟨x.toArray⟩] w fun e w' => PlacePost p w e w' := by
  obtain ⟨b, o, cap, hv, hb, _, hc⟩ := h1.at hp
  subst hv
  go_enter Try.func13, Try.ntmps13
  go_wp2
  go_loopg [5, 6] N.length (fun g i k wx => ∃ (lo hi : Nat), lo ≤ p ∧ p ≤ hi ∧ hi ≤ N.length ∧ g = hi - lo ∧ i = .int .i64 (lo : Int) ∧ k = .int .i64 (hi : Int) ∧ w = wx)
  case atStart => exact ⟨0, N.length, Nat.zero_le _, by omega, Nat.le_refl _, rfl, rfl, rfl, rfl⟩
  case round =>
    obtain ⟨lo, hi, hlo, hhi, hhl, rfl, rfl, rfl, rfl⟩ := hrel
    by_cases hjl : lo < hi
    · have hjz : (lo : Int) < (hi : Int) := by omega
      obtain ⟨q, Hq⟩ : ∃ q, Hid (q = lo + (hi - lo) / 2) := ⟨_, rfl⟩
      have hq0 := Hq.out
      have hql : q < N.length := by omega
      have e1 := hc q hql
      have hqz : (lo : Int) + ((hi : Int) - (lo : Int)) / 2 = (q : Int) := by omega
      have hqz0 : (q : Int) < (N.length : Int) := by omega
      have hqlo : lo ≤ q := by omega
      have hqhi : q < hi := by omega
      have hcase : (N.getD q [] < x → q < p) ∧ (¬ N.getD q [] < x → p ≤ q) := by
        constructor
        · intro h
          rcases Nat.lt_trichotomy q p with h2 | h2 | h2
          · exact h2
          · subst h2; rw [hx] at h; exact absurd h (List.lt_irrefl _)
          · have := names_lt ha h2 hql; rw [hx] at this; exact absurd (List.lt_trans h this) (List.lt_irrefl _)
        · intro h
          rcases Nat.lt_or_ge q p with h2 | h2
          · have := names_lt ha h2 hp; rw [hx] at this; exact absurd this h
          · exact h2
      generalize N.getD q [] = y at e1 hcase
      clear hc hq0
      by_cases hy : y < x
      · have hyz : Op.bytesLess y x = true := by rw [bytesLess_eq]; simp [hy]
        go_wp2
        go_roundg (hi - (q + 1))
        case measure => go_light; omega
        case rel => go_light; exact ⟨q + 1, hi, by have := hcase.1 hy; omega, hhi, hhl, rfl, by simp, rfl, rfl⟩
      · have hyz : Op.bytesLess y x = false := by rw [bytesLess_eq]; simp only [hy, decide_false]
        go_wp2
        go_roundg (q - lo)
        case measure => go_light; omega
        case rel => go_light; exact ⟨lo, q, hlo, hcase.2 hy, by omega, rfl, rfl, rfl, rfl⟩
    · have hjz : ¬ (lo : Int) < (hi : Int) := by omega
      have e0 : lo = p := by omega
      subst e0
      have hpz : (lo : Int) < (N.length : Int) := by omega
      have e1 := hc lo hp
      rw [hx] at e1
      clear hc
      go_wp2
      go_ret
      exact ⟨rfl, rfl⟩

end Go.Proofs.Qxb6601793a
