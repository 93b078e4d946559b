import Derived.Test.Qxb6601793aEq
import Derived.BigQuiet
namespace Go.Proofs.Qxb6601793a
open Go.RowKit Go.Deep Scc

theorem quiet_drew {P : Program} {f : FuncId} {args : Array Value} {w : World} {v : Value} (h : ∀ q, Calls P f args (w.drewN q) fun e w' => e = .returned v ∧ ∃ m', w' = (w.drewN q).drewN m') (m x : Nat) :
    Calls P f args (w.drewN (m + x)) fun e w'' => e = .returned v ∧ ∃ n, w'' = w.drewN (m + n) :=
  (h (m + x)).mono fun _ _ ⟨he, m', hm⟩ => ⟨he, x + m', by rw [hm, World.drewN_drewN, Nat.add_assoc]⟩

set_option maxHeartbeats 1000000 in
set_option maxRecDepth 100000 in
theorem eqstrings_any (l : List (List UInt8)) (hl : l.length ≤ 1099511627776) (w : World) (K1 K2 : Nat → Prop) (va vb : Value) (h1 : Sl w K1 va l.length (fun j => .string ⟨(l.getD j []).toArray⟩)) (h2 : Sl w K2 vb l.length (fun j => .string ⟨(l.getD j []).toArray⟩)) :
    Calls Try.prog 16 #[va, vb] w fun e w' => TruePost w e w' := by
  obtain ⟨a1, c1, hv1⟩ := h1.shape
  obtain ⟨a2, c2, hv2⟩ := h2.shape
  subst hv1; subst hv2
  go_enter Try.func16, Try.ntmps16
  go_wp2
  go_loopg [5] l.length (fun g i wx => ∃ (j m : Nat), j ≤ l.length ∧ g = l.length - j ∧ i = .int .i64 (j : Int) ∧ w.drewN m = wx)
  case atStart => exact ⟨0, 0, Nat.zero_le _, rfl, rfl, rfl⟩
  case round =>
    obtain ⟨j, m, hj, rfl, rfl, rfl⟩ := hrel
    by_cases hjl : j < l.length
    · have hjz : (j : Int) < (l.length : Int) := by omega
      obtain ⟨b, o, cap, hv, hb, _, hc⟩ := h1.at hjl
      simp only [Value.slice.injEq] at hv
      obtain ⟨rfl, _, rfl⟩ := hv
      obtain ⟨b', o', cap', hv, hb', _, hc'⟩ := h2.at hjl
      simp only [Value.slice.injEq] at hv
      obtain ⟨rfl, _, rfl⟩ := hv
      have e1 := hc j hjl
      have e2 := hc' j hjl
      generalize l.getD j [] = x at e1 e2
      clear hc hc'
      go_wp2_with fail
      go_quiet (fail)
      go_wp2
      go_roundg (l.length - (j + 1))
      case measure => go_light; omega
      case rel => go_light; exact ⟨j + 1, _, by omega, rfl, by simp, rfl⟩
    · have hjz : ¬ (j : Int) < (l.length : Int) := by omega
      go_wp2
      go_ret
      exact ⟨rfl, m, rfl⟩

set_option maxHeartbeats 1000000 in
set_option maxRecDepth 100000 in
theorem eqintss_any (n : Nat) (hn : n ≤ 1099511627776) (L : Nat → List Nat) (hL : ∀ i, i < n → (L i).length ≤ 1099511627776) (w : World) (K1 K2 : Nat → Prop) (va vb : Value) (h1 : Mat w K1 va n L) (h2 : Mat w K2 vb n L) :
    Calls Try.prog 17 #[va, vb] w fun e w' => TruePost w e w' := by
  obtain ⟨f1, s1, r1⟩ := h1
  obtain ⟨f2, s2, r2⟩ := h2
  obtain ⟨a1, c1, hv1⟩ := s1.shape
  obtain ⟨a2, c2, hv2⟩ := s2.shape
  subst hv1; subst hv2
  go_enter Try.func17, Try.ntmps17
  go_wp2
  go_loopg [5] n (fun g i wx => ∃ (j m : Nat), j ≤ n ∧ g = n - j ∧ i = .int .i64 (j : Int) ∧ w.drewN m = wx)
  case atStart => exact ⟨0, 0, Nat.zero_le _, rfl, rfl, rfl⟩
  case round =>
    obtain ⟨j, m, hj, rfl, rfl, rfl⟩ := hrel
    by_cases hjl : j < n
    · have hjz : (j : Int) < (n : Int) := by omega
      have H : Hid (∀ q, Calls Try.prog 18 #[f1 j, f2 j] (w.drewN q) fun e w' => e = .returned (.bool true) ∧ ∃ m', w' = (w.drewN q).drewN m') := fun q => eqints_any (L j) (hL j hjl) (w.drewN q) _ _ _ _ (r1 j hjl) (r2 j hjl)
      obtain ⟨b, o, cap, hv, hb, _, hc⟩ := s1.at hjl
      simp only [Value.slice.injEq] at hv
      obtain ⟨rfl, _, rfl⟩ := hv
      obtain ⟨b', o', cap', hv, hb', _, hc'⟩ := s2.at hjl
      simp only [Value.slice.injEq] at hv
      obtain ⟨rfl, _, rfl⟩ := hv
      have e1 := hc j hjl
      have e2 := hc' j hjl
      generalize f1 j = x1 at e1 H
      generalize f2 j = x2 at e2 H
      clear hc hc' s1 s2 r1 r2
      go_wp2_with fail
      go_quiet ((go_at_call 18; exact quiet_drew H.out _ _))
      go_wp2
      go_roundg (n - (j + 1))
      case measure => go_light; omega
      case rel => go_light; exact ⟨j + 1, _, by omega, rfl, by simp, rfl⟩
    · have hjz : ¬ (j : Int) < (n : Int) := by omega
      go_wp2
      go_ret
      exact ⟨rfl, m, rfl⟩

end Go.Proofs.Qxb6601793a
