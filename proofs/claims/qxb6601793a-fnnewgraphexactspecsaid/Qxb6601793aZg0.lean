import Derived.Test.Qxb6601793aNg7
import Derived.Test.Qxb6601793aG0
namespace Go.Proofs.Qxb6601793a
open Go.RowKit Go.Deep Scc

theorem results_tmp4 {fn : Func} {t u v x : Tmp} (h : fn.results = #[.tmp t, .tmp u, .tmp v, .tmp x]) (tmps : Array Value) (P : Program) (w : World) :
    (results fn tmps).run P w = .ok (.tuple #[tmps.getD t undef, tmps.getD u undef, tmps.getD v undef, tmps.getD x undef]) w := by
  simp [results, h]

theorem NF.zg {n : Nat} {S : Nat → Nat → List UInt8} {w0 : World} {N : List (List UInt8)} {vn : Value} {mp : List UInt8 → Option Int} {c s bo bi m bf : Nat} {L : Nat → List Nat} {f : Nat → Value} {F : Nat → Nat} {wx : World} (h : NF w0 N vn mp c s bo bi m bf L f F wx)
    (hNl : N.length = m) (hm : m ≤ 65536) (hlt : N.Pairwise (· < ·)) (hmem : ∀ s, s ∈ N ↔ ∃ i, i < n ∧ (s = S i 0 ∨ s = S i 1)) (hM : NM S N m n L) (hA : As m m m m L F) :
    ZgOut n S w0 N L (fun v => L (m + v)) F vn (.slice (some ⟨bo, 0, none⟩) m m) (.slice (some ⟨bi, 0, none⟩) m m) (.slice (some ⟨bf, 0, none⟩) (m + 1) (m + 1)) wx := by
  subst hNl
  have hb := h.ns.blocks
  have hs := h.ns.base
  have hh := h.high
  refine ⟨h.ns.below, ?_, ⟨f, ?_, fun i hi => ?_⟩, ⟨fun i => f (N.length + i), ?_, fun i hi => ?_⟩, ?_, ⟨hlt, hmem, fun u v hu hv => hM.mo u v hu hv, fun u v hu hv => hM.mi u v hu hv, fun u _ => hM.lt u, fun u _ => hM.lt _, fun u hu => hA.ao u hu, fun u hu => hA.ai u hu, hA.fs, hm⟩⟩
  · refine (owns_sl h.ns.own _ (fun j hj => ?_)).widen (fun b _ e => by have := (h.ns.own.lt b e).1; omega)
    simp [List.getD, List.getElem?_eq_getElem hj, encStr]
  · exact (Sl.of_row h.ns.out).widen (fun b _ e => by omega)
  · have ho := h.ns.rows i (by omega)
    refine (owns_sl ho _ (fun j hj => ?_)).widen (fun b _ e => by have := (ho.lt b e).1; omega)
    simp [nodesV, List.getD, List.getElem?_eq_getElem hj]
  · exact (Sl.of_row h.ns.inn).widen (fun b _ e => by omega)
  · have ho := h.ns.rows (N.length + i) (by omega)
    refine (owns_sl ho _ (fun j hj => ?_)).widen (fun b _ e => by have := (ho.lt b e).1; omega)
    simp [nodesV, List.getD, List.getElem?_eq_getElem hj]
  · exact (Sl.of_row h.first).widen (fun b _ e => by omega)

set_option maxHeartbeats 4000000 in
set_option maxRecDepth 100000 in
theorem zg_of (ng : ∀ (n : Nat), n ≤ 32768 → ∀ (S : Nat → Nat → List UInt8), (∀ i q, (S i q).length ≤ 9223372036854775807) → ∀ (w : World) (K : Nat → Prop) (v0 : Value), Sl4 w K v0 n (fun i q => ⟨(S i q).toArray⟩) → Calls Try.prog 31 #[v0] w fun e w' => NgPost n S w e w') : ZgSaid := by
  intro n S w K v0 hn hS h0
  have H : Hid (Calls Try.prog 31 #[v0] w fun e w' => NgPost n S w e w') := ng n hn S hS w K v0 h0
  clear h0 ng hS hn
  go_enter Try.func10, Try.ntmps10
  go_wp2_with (go_at_call 31; refine H.out.mono ?_; rintro e w1 ⟨N, vn, mp, c, s, bo, bi, m, bf, L, f, F, rfl, hF, hNl, hm, hNlt, hNm, hM, hA⟩)
  have c0 : w1.cell? ⟨s + 2, 0, none⟩ = some vn := hF.ns.g.cell (i := 0) (by decide)
  have c1 : w1.cell? ⟨s + 2, 1, none⟩ = some (.slice (some ⟨bo, 0, none⟩) m m) := hF.ns.g.cell (i := 1) (by decide)
  have c2 : w1.cell? ⟨s + 2, 2, none⟩ = some (.slice (some ⟨bi, 0, none⟩) m m) := hF.ns.g.cell (i := 2) (by decide)
  have c3 : w1.cell? ⟨s + 2, 3, none⟩ = some (.slice (some ⟨bf, 0, none⟩) (m + 1) (m + 1)) := hF.ns.g.cell (i := 3) (by decide)
  have hl : Hid (N.length = m) := hNl
  clear hNl
  go_quiet (fail)
  go_wp2
  try simp only [Exit.inBlock, Exit.then]
  refine bodyPost_ret (results_tmp4 rfl _ _ _) rfl ?_
  exact ⟨N, L, fun v => L (m + v), F, vn, _, _, _, rfl, (hF.drewN _).zg hl.out hm hNlt hNm hM hA⟩

end Go.Proofs.Qxb6601793a
