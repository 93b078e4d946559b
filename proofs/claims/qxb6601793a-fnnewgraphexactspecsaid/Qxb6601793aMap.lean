import Derived.Test.Qxb6601793aOwn
import Derived.Maps.OwnSet
import Derived.Maps.OwnOps
import Derived.Sort.EncStr
namespace Go.Proofs.Qxb6601793a
open Go.RowKit Go.Deep Go.Maps

theorem mapLaw : Keyed Try.prog 9 := string_keyed Try.underlying9
theorem zero3 (w : World) : (zeroValue 3).run Try.prog w = .ok (.int .i64 0) w := by kernel_rfl

theorem keyStr {s : List UInt8} (hs : s.length ≤ maxLen) : keyOf Try.prog 9 (encStr s) = some (.string s) := by
  have h := WideMaps.keyOf_string_mk (P := Try.prog) (k := 9) Try.underlying9 (s := ⟨s.toArray⟩) (by simpa [ByteArray.size] using hs)
  simpa using h

theorem isKeyStr {s : List UInt8} (hs : s.length ≤ maxLen) : WideAt.IsKeyLit (.string s) := mapLaw.key (keyStr hs)

/-- Block b is a map from strings to integers, of at most n entries, that holds just what m says. -/
def MapIs (w : World) (b n : Nat) (m : List UInt8 → Option Int) : Prop :=
  ∃ D : DataW Unit, w.ownsMap Try.prog 9 (plainElem Try.prog 3) b n D ∧ IsMap D ∧ ∀ s, s.length ≤ maxLen → Maps.has D (.string s) = (m s).isSome ∧ D.atKey (.string s) (.lit (.int .i64 0)) = .lit (.int .i64 ((m s).getD 0))

theorem MapIs.made (w : World) : MapIs (w.alloc (.map #[] 0)) w.heap.size 0 (fun _ => none) :=
  ⟨.map [], World.ownsMap_made _ _ _ _, isMap_empty, fun _ _ => ⟨rfl, rfl⟩⟩

theorem MapIs.lt {w : World} {b n : Nat} {m : List UInt8 → Option Int} (h : MapIs w b n m) : b < w.heap.size := by obtain ⟨D, h1, _⟩ := h; exact h1.lt

theorem MapIs.kept {S : Nat → Prop} {w w' : World} {b n : Nat} {m : List UInt8 → Option Int} (h : MapIs w b n m) (k : Kept S w w') (hs : ¬ S b) : MapIs w' b n m := by
  obtain ⟨D, ⟨es, clock, hb, r⟩, h2⟩ := h
  exact ⟨D, ⟨es, clock, (k.block b (lt_of_block hb) hs).trans hb, r⟩, h2⟩

theorem MapIs.alloc {w : World} {b n : Nat} {m : List UInt8 → Option Int} (h : MapIs w b n m) (o : Obj) : MapIs (w.alloc o) b n m := h.kept ((Kept.refl (fun _ => False) w).alloc o) (fun h => h)

theorem MapIs.congr {w : World} {b n : Nat} {m m' : List UInt8 → Option Int} (h : MapIs w b n m) (e : ∀ s, m s = m' s) : MapIs w b n m' := by
  have : m = m' := funext e
  rw [← this]; exact h

theorem MapIs.mono {w : World} {b n n' : Nat} {m : List UInt8 → Option Int} (h : MapIs w b n m) (hn : n ≤ n') : MapIs w b n' m := by
  obtain ⟨D, h1, h2⟩ := h
  exact ⟨D, h1.mono hn, h2⟩

/-- 'm[k]'. -/
theorem lit_inj {x y : Int} (h : (DataW.lit (.int .i64 x) : DataW Unit) = .lit (.int .i64 y)) : x = y := by simpa using h

theorem MapIs.run {w : World} {b n : Nat} {m : List UInt8 → Option Int} (h : MapIs w b n m) {s : List UInt8} (hs : s.length ≤ maxLen) :
    (Instr.lookup 67 (.map (some b)) (encStr s) false).run Try.prog w = .ok (.int .i64 ((m s).getD 0)) w := by
  obtain ⟨D, h1, _, h3⟩ := h
  obtain ⟨c, hrun, hat, _⟩ := h1.lookup_int (t := 67) mapLaw Try.underlying67 Try.underlying3 (zero3 w) (keyStr hs)
  have e := lit_inj ((h3 s hs).2.symm.trans hat)
  rw [e]; exact hrun

/-- 'v, ok := m[k]'. -/
theorem wpList_map_ok (w : World) {ops : Array Oper} {rest : List Oper} {o : Oper} {a : Act} {Q : Exit → Act → World → Prop} (hg : o.guard = none) (mo xo : Operand) (hop : o.op = Op.lookup 67 mo xo true)
    (b n : Nat) (m : List UInt8 → Option Int) (hm : a.eval mo = .map (some b)) (h : MapIs w b n m) (s : List UInt8) (hs : s.length ≤ maxLen) (hx : a.eval xo = encStr s)
    (hK : wpList Try.prog ops Q rest (a.put o.dst (.tuple #[.int .i64 ((m s).getD 0), .bool (m s).isSome])) w) : wpList Try.prog ops Q (o :: rest) a w := by
  obtain ⟨D, h1, _, h3⟩ := h
  refine wpList_lookup_own_ok_int w hg mo xo 67 hop 9 3 .i64 mapLaw Try.underlying67 Try.underlying3 (zero3 w) b n D hm h1 (encStr s) (.string s) hx (keyStr hs) ?_
  intro c hat _
  have e := lit_inj ((h3 s hs).2.symm.trans hat)
  rw [← e, (h3 s hs).1]
  exact hK

/-- 'm[k] = c'. -/
theorem wpList_map_set (w : World) {ops : Array Oper} {rest : List Oper} {o : Oper} {a : Act} {Q : Exit → Act → World → Prop} (hg : o.guard = none) (mo xo vo : Operand) (hop : o.op = Op.mapUpdate 67 mo xo vo)
    (b n : Nat) (m : List UInt8 → Option Int) (hm : a.eval mo = .map (some b)) (h : MapIs w b n m) (hn : n < maxLen) (s : List UInt8) (hs : s.length ≤ maxLen) (hx : a.eval xo = encStr s) (c : Int) (hv : a.eval vo = .int .i64 c) (hc : (Lit.int .i64 c).wf = true)
    (hK : ∀ w', MapIs w' b (n + 1) (fun t => if t = s then some c else m t) → w.grownBy w' (some b) → wpList Try.prog ops Q rest (a.put o.dst undef) w') : wpList Try.prog ops Q (o :: rest) a w := by
  obtain ⟨D, h1, h2, h3⟩ := h
  refine wpList_mapUpdate_own w hg mo xo vo 67 hop 9 3 mapLaw Try.underlying67 _ b n D hm h1 hn (encStr s) (.int .i64 c) (.string s) hx hv (keyStr hs) (.lit (.int .i64 c)) [] (plainElem_int Try.underlying3 hc) ?_
  intro w' h4 h5
  refine hK w' ⟨_, h4, h2.put _ _, fun t ht => ?_⟩ h5
  show Maps.has _ _ = (if t = s then some c else m t).isSome ∧ DataW.atKey _ _ _ = .lit (.int .i64 ((if t = s then some c else m t).getD 0))
  by_cases e : t = s
  · subst e
    rw [if_pos rfl, has_put_same h2 (isKeyStr hs), atKey_put_same h2 (isKeyStr hs)]
    exact ⟨rfl, rfl⟩
  · have hne : (Lit.string t) ≠ .string s := fun e2 => e (by injection e2)
    rw [if_neg e, has_put_other hne, atKey_put_other hne]
    exact h3 t ht

end Go.Proofs.Qxb6601793a
