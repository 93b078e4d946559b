import Derived.Test.Qxb6601793aNg6
import Derived.Test.Qxb6601793aReg3
import Derived.Test.Qxb6601793aCount
namespace Go.Proofs.Qxb6601793a
open Go.RowKit Go.Deep Scc

/-- The graph that comes back: its names, its rows, its sums. -/
def NgPost (n : Nat) (S : Nat → Nat → List UInt8) (w : World) (e : Ending) (w' : World) : Prop :=
  ∃ N vn mp c s bo bi m bf L f F, e = .returned (.pointer (some ⟨s + 2, 0, none⟩)) ∧ NF w N vn mp c s bo bi m bf L f F w' ∧ N.length = m ∧ m ≤ 65536 ∧ N.Pairwise (· < ·) ∧ (∀ s, s ∈ N ↔ ∃ i, i < n ∧ (s = S i 0 ∨ s = S i 1)) ∧ NM S N m n L ∧ As m m m m L F

end Go.Proofs.Qxb6601793a
