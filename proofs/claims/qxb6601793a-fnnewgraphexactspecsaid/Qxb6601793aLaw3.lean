import Derived.Test.Qxb6601793aL30
import Derived.Deep.DeepCutAuto
import Derived.BigQuiet
namespace Go.Proofs.Qxb6601793a
open Go.RowKit Go.Deep Scc

theorem Sl4.under {K : Nat → Prop} {w w' : World} {v : Value} {n : Nat} {F : Nat → Nat → ByteArray} (h : Sl4 w K v n F) (hb : Below w.heap.size w w') : Sl4 w' K v n F :=
  h.kept (S := fun _ => False) ⟨hb.os, hb.tape, hb.output, hb.size, fun k hk _ => hb.block k hk⟩ (fun _ _ h => h)

set_option maxHeartbeats 40000000 in
set_option maxRecDepth 1000000 in
theorem law3_walk (hz : ZgSaid) (n : Nat) (S : Nat → Nat → List UInt8) (W : World) (v0 : Value) (hn : n ≤ 9223372036854775807) (hS : ∀ i q, (S i q).length ≤ 9223372036854775807) (h0 : Sl4 W (fun _ => True) v0 n (fun i q => ⟨(S i q).toArray⟩)) :
    Calls Try.prog 3 #[v0] W fun e w' => TruthPost W e w' := by
  have hF : ∀ i q, ((fun i q => (⟨(S i q).toArray⟩ : ByteArray)) i q).size ≤ 9223372036854775807 := fun i q => by simpa [ByteArray.size] using hS i q
  have HB : Hid (Calls Try.prog 8 #[v0] W fun e w' => SomeBool4 W e w') := bytes8_any n _ W _ v0 hn hF h0
  have HF : Hid (Calls Try.prog 9 #[v0] W fun e w' => FitN n W e w') := nfit_any n _ W _ v0 hn hF h0
  clear hF
  go_enter Try.func3, Try.ntmps3
  go_wp2_with fail
  refine HB.out.mono ?_
  rintro e w' ⟨b1, rfl, rfl⟩
  cases b1
  · go_wp2
    go_ret
    exact ⟨rfl, Below.refl _ _⟩
  go_wp2_with fail
  refine HF.out.mono ?_
  rintro e w1 ⟨b2, rfl, hb1, hfit⟩
  cases b2
  · go_wp2
    go_ret
    exact ⟨rfl, hb1⟩
  have hn2 := hfit rfl
  have h1 := h0.under hb1
  clear hfit HB HF hn h0
  have HN : Hid (Calls Try.prog 11 #[v0] w1 fun e w' => NudPost n (fun i q => ⟨(S i q).toArray⟩) w1 e w') := nudges_any n _ w1 _ v0 hn2 h1
  go_wp2_with fail
  refine HN.out.mono ?_
  rintro e w2 ⟨vq, rfl, hb2, hq⟩
  have HZ : Hid (Calls Try.prog 10 #[vq] w2 fun e w' => ZgPost n S w2 e w') := hz n S w2 _ vq (by omega) hS hq
  have h2 := h1.under hb2
  go_wp2_with fail
  refine HZ.out.mono ?_
  rintro e w3 ⟨N, O, I, F, vn, vo, vi, vf, rfl, hG⟩
  have hbW : Below w'.heap.size w' w3 := (hb1.trans (hb2.mono hb1.size)).trans (hG.below.mono (Nat.le_trans hb1.size hb2.size))
  have hg := hG.g3 h2
  have hs := hG.spec
  have HS : Hid (GSpec n S N O I F) := hs
  have hm := hs.nl
  clear HN HZ h1 h2 hb1 hb2 hq hG hs
  obtain ⟨a0, c0, hv0⟩ := hg.nud.shape
  subst hv0
  obtain ⟨an, cn, hvn⟩ := hg.names.shape
  subst hvn
  obtain ⟨fo, so, ro⟩ := hg.out
  obtain ⟨ao, co, hvo⟩ := so.shape
  subst hvo
  clear so ro
  obtain ⟨fi, si, ri⟩ := hg.inn
  obtain ⟨ai, ci, hvi⟩ := si.shape
  subst hvi
  clear si ri fo fi
  obtain ⟨bF, oF, cF, hvf, hx1, hx2, hx3⟩ := hg.first.at (j := 0) (by omega)
  subst hvf
  clear hx1 hx2 hx3
  go_wp2_with fail
  go_loopg [8] N.length (fun g i wx => ∃ k q : Nat, k ≤ N.length ∧ g = N.length - k ∧ i = .int .i64 ((k + 1 : Nat) : Int) ∧ w3.drewN q = wx)
  case atStart => exact ⟨0, 0, Nat.zero_le _, rfl, rfl, rfl⟩
  case round =>
    obtain ⟨k, q, hk, rfl, rfl, rfl⟩ := hrel
    by_cases hkn : k + 1 < N.length
    · as_aux_lemma =>
        have hkz : ((k + 1 : Nat) : Int) < (N.length : Int) := by omega
        obtain ⟨b, o, cap, hv, hb, _, hc⟩ := hg.names.at hkn
        simp only [Value.slice.injEq] at hv
        obtain ⟨rfl, _, rfl⟩ := hv
        have e1 := hc k (by omega)
        have e2 := hc (k + 1) hkn
        have hlt := names_lt HS.out.asc (Nat.lt_succ_self k) hkn
        generalize N.getD k [] = x at e1 hlt
        generalize N.getD (k + 1) [] = y at e2 hlt
        have hlt2 : Op.bytesLess x y = true := by rw [bytesLess_eq]; simp only [hlt, decide_true]
        clear hc hlt hg
        go_wp2_with fail
        go_quiet (fail)
        go_wp2
        go_roundg (N.length - (k + 1))
        case measure => go_light; omega
        case rel => go_light; exact ⟨k + 1, _, by omega, rfl, by simp, rfl⟩
    · as_aux_lemma =>
        have hkz : ¬ ((k + 1 : Nat) : Int) < (N.length : Int) := by omega
        have hf0 : w3.cell? ⟨bF, oF, none⟩ = some (.int .i64 0) := by
          obtain ⟨b, o, cap, hv, hb, _, hc⟩ := hg.first.at (j := 0) (by omega)
          simp only [Value.slice.injEq, Option.some.injEq, Addr.mk.injEq] at hv
          obtain ⟨⟨rfl, rfl, _⟩, _, rfl⟩ := hv
          have h := hc 0 (by omega)
          rw [Nat.add_zero, HS.out.fs 0 (by omega)] at h
          exact h
        go_wp2_with fail
        go_loopg [9] N.length (fun g i wx => ∃ k q : Nat, k ≤ N.length ∧ g = N.length - k ∧ i = .int .i64 (k : Int) ∧ w3.drewN q = wx)
        case atStart => exact ⟨0, _, Nat.zero_le _, rfl, rfl, rfl⟩
        case round =>
          clear hk hkn hkz hf0
          obtain ⟨k2, q2, hk2, rfl, rfl, rfl⟩ := hrel
          by_cases hkn : k2 < N.length
          · as_aux_lemma =>
              have hkz : (k2 : Int) < (N.length : Int) := by omega
              have hkz1 : (k2 : Int) + 1 < (N.length : Int) + 1 := by omega
              obtain ⟨b, o, cap, hv, hb, _, hc⟩ := hg.first.at (j := 0) (by omega)
              simp only [Value.slice.injEq, Option.some.injEq, Addr.mk.injEq] at hv
              obtain ⟨⟨rfl, rfl, _⟩, _, rfl⟩ := hv
              have e1 : w3.cell? ⟨bF, oF + k2, none⟩ = some (.int .i64 (F k2 : Int)) := hc k2 (by omega)
              have e2 : w3.cell? ⟨bF, oF + (k2 + 1), none⟩ = some (.int .i64 (F (k2 + 1) : Int)) := hc (k2 + 1) (by omega)
              have e2b : (F (k2 + 1) : Int) = (F k2 : Int) + ((O k2).length : Int) := by rw [HS.out.first_next hkn]; omega
              rw [e2b] at e2
              have hsm := HS.out.first_small (u := k2) (by omega)
              have hol := HS.out.ol hkn
              have hil := HS.out.il hkn
              obtain ⟨fo, so, ro⟩ := hg.out
              obtain ⟨fi, si, ri⟩ := hg.inn
              obtain ⟨b2, o2, cap2, hv, hb2, _, hc2⟩ := so.at hkn
              simp only [Value.slice.injEq] at hv
              obtain ⟨rfl, _, rfl⟩ := hv
              obtain ⟨b3, o3, cap3, hv, hb3, _, hc3⟩ := si.at hkn
              simp only [Value.slice.injEq] at hv
              obtain ⟨rfl, _, rfl⟩ := hv
              have e3 : w3.cell? ⟨b2, o2 + k2, none⟩ = some (fo k2) := hc2 k2 hkn
              have e4 : w3.cell? ⟨b3, o3 + k2, none⟩ = some (fi k2) := hc3 k2 hkn
              obtain ⟨axo, cxo, hxo⟩ := (ro k2 hkn).shape
              obtain ⟨axi, cxi, hxi⟩ := (ri k2 hkn).shape
              have HA1 : Hid (∀ q, Calls Try.prog 12 #[fo k2, .int .i64 (N.length : Int)] (w3.drewN q) fun e w' => TruePost (w3.drewN q) e w') := fun q => ascending_any N.length (O k2) (by omega) (HS.out.oa k2 hkn) (HS.out.olt k2 hkn) (w3.drewN q) _ _ (ro k2 hkn)
              have HA2 : Hid (∀ q, Calls Try.prog 12 #[fi k2, .int .i64 (N.length : Int)] (w3.drewN q) fun e w' => TruePost (w3.drewN q) e w') := fun q => ascending_any N.length (I k2) (by omega) (HS.out.ia k2 hkn) (HS.out.ilt k2 hkn) (w3.drewN q) _ _ (ri k2 hkn)
              rw [hxo] at e3 HA1
              rw [hxi] at e4 HA2
              generalize F k2 = y at e1 e2 hsm
              generalize (O k2).length = lo at e2 e3 hol HA1
              generalize (I k2).length = li at e4 hil HA2
              clear hc hc2 hc3 so ro si ri hxo hxi e2b hg
              clear fo fi
              go_wp2_with fail
              go_quiet (fail)
              go_wp2_with fail
              refine (HA1.out _).mono ?_
              rintro e w5 ⟨rfl, m5, rfl⟩
              go_wp2_with fail
              refine (HA2.out _).mono ?_
              rintro e w6 ⟨rfl, m6, rfl⟩
              go_wp2
              go_roundg (N.length - (k2 + 1))
              case measure => go_light; omega
              case rel => go_light; exact ⟨k2 + 1, _, by omega, rfl, by simp, rfl⟩
          · as_aux_lemma =>
              have hkz : ¬ (k2 : Int) < (N.length : Int) := by omega
              obtain ⟨w4, Hw4⟩ : ∃ w4, Hid (w4 = w3.drewN q2) := ⟨_, rfl⟩
              have hb4 : Below w3.heap.size w3 w4 := by rw [Hw4.out]; exact ⟨rfl, rfl, rfl, Nat.le_refl _, fun _ _ => rfl⟩
              rw [← Hw4.out]
              have hg4 := hg.below hb4
              have hmk1 := run_make_row' (P := Try.prog) 32 4 (.bool false) 1 Try.underlying32 Try.info4 rfl .i64 .i64 N.length (by omega) (by omega)
              have hsm := HS.out.first_small (u := N.length) (Nat.le_refl _)
              have hmk2 := run_make_row' (P := Try.prog) 32 4 (.bool false) 1 Try.underlying32 Try.info4 rfl .i64 .i64 (F N.length) (by omega) (by omega)
              have hst := HS3.start hg4 hb4
              have hfN : (w4.alloc (.cells (madeCells #[.bool false] N.length) 4)).cell? ⟨bF, oF + N.length, none⟩ = some (.int .i64 (F N.length : Int)) := by
                obtain ⟨b, o, cap, hv, hb, _, hc⟩ := (hg4.below ((Below.refl _ w4).alloc (Nat.le_refl _) (.cells (madeCells #[.bool false] N.length) 4))).first.at (j := 0) (by omega)
                simp only [Value.slice.injEq, Option.some.injEq, Addr.mk.injEq] at hv
                obtain ⟨⟨rfl, rfl, _⟩, _, rfl⟩ := hv
                exact hc N.length (by omega)
              have hNz : (N.length : Int) < (N.length : Int) + 1 := by omega
              obtain ⟨T, HT⟩ : ∃ T, Hid (T = F N.length) := ⟨_, rfl⟩
              rw [← HT.out] at hmk2 hfN hst hsm
              clear Hw4 hg hg4 hb4
              go_wp2_with fail
              obtain ⟨bn, Hbn⟩ : ∃ bn, Hid (bn = w4.heap.size) := ⟨_, rfl⟩
              clear hmk1 hmk2 hfN hNz Hbn bn
              go_loopg [12] n (fun g i wx => ∃ (k : Nat) (nm hd : Nat → Bool), k ≤ n ∧ g = n - k ∧ i = .int .i64 (k : Int) ∧ HS3 n S N O I F (.slice a0 n c0) (.slice an N.length cn) (.slice ao N.length co) (.slice ai N.length ci) (.slice (some ⟨bF, oF, none⟩) (N.length + 1) cF) w3 w4.heap.size (w4.heap.size + 1) k nm hd wx)
              case atStart => exact ⟨0, _, _, Nat.zero_le _, rfl, rfl, hst⟩
              case round =>
                clear hst hkn hk2 hkz
                obtain ⟨k3, nm, hd, hk3, rfl, rfl, hH⟩ := hrel
                by_cases hk3n : k3 < n
                · as_aux_lemma =>
                    have hkz : (k3 : Int) < (n : Int) := by omega
                    obtain ⟨u, v, hu, hv, eu, ev⟩ := HS.out.ends hk3n
                    obtain ⟨b, o, cap, hvv, hb, _, d0, d1, _, _⟩ := hH.g.nud.at hk3n
                    simp only [Value.slice.injEq] at hvv
                    obtain ⟨rfl, _, rfl⟩ := hvv
                    have HF1 : Hid (Calls Try.prog 13 #[.slice an N.length cn, .string ⟨(S k3 0).toArray⟩] wr fun e w' => PlacePost u wr e w') := findname_any N (by omega) HS.out.asc u hu (S k3 0) eu wr _ _ hH.g.names
                    have HF2 : Hid (Calls Try.prog 13 #[.slice an N.length cn, .string ⟨(S k3 1).toArray⟩] wr fun e w' => PlacePost v wr e w') := findname_any N (by omega) HS.out.asc v hv (S k3 1) ev wr _ _ hH.g.names
                    have hl := hH.low
                    have c1 := hH.rn.cell hu
                    have c2 := hH.rn.frozen u
                    have hH1 := hH.name u
                    have c3 := hH1.rn.cell hv
                    have c4 := hH1.rn.frozen v
                    have hH2 := hH1.name v
                    have huz : (u : Int) < (N.length : Int) := by omega
                    have hvz : (v : Int) < (N.length : Int) := by omega
                    have hu0 : decide ((u : Int) < 0) = false := by simp
                    have hv0 : decide ((v : Int) < 0) = false := by simp
                    have Hu : Hid (N.getD u [] = S k3 0) := eu
                    have Hv : Hid (N.getD v [] = S k3 1) := ev
                    clear eu ev
                    go_wp2_with fail
                    refine HF1.out.mono ?_
                    rintro e w9 ⟨rfl, hw9⟩
                    have hw9' := hw9.symm
                    clear hw9
                    subst hw9'
                    go_wp2_with fail
                    refine HF2.out.mono ?_
                    rintro e w9 ⟨rfl, hw9⟩
                    have hw9' := hw9.symm
                    clear hw9
                    subst hw9'
                    clear HF1 HF2 d0 d1
                    by_cases hne : u = v
                    · as_aux_lemma =>
                        have hq : ((u : Int) == (v : Int)) = true := by simp [hne]
                        have hnx := hH2.next HS.out hu hv Hu.out Hv.out (by simp only [upd]; split <;> simp) (upd_same _ _ _) (fun h => absurd hne h)
                        have Hne : Hid (u = v) := hne
                        clear hne hH hH1 hH2
                        go_wp2
                        go_roundg (n - (k3 + 1))
                        case measure => go_light; omega
                        case rel => go_light; exact ⟨k3 + 1, _, _, by omega, rfl, by simp, hnx⟩
                    · as_aux_lemma =>
                        have hq : ((u : Int) == (v : Int)) = false := beq_eq_false_iff_ne.2 (by omega)
                        obtain ⟨p, hp, ep⟩ := HS.out.there hk3n hu hv Hu.out Hv.out hne
                        have Hne : Hid (u ≠ v) := hne
                        clear hne hH hH1
                        go_upto_region 33 with fail
                        obtain ⟨w5, Hw5⟩ : ∃ w5, Hid (w5 = (wr.setCell ⟨w4.heap.size, u, none⟩ (.bool true)).setCell ⟨w4.heap.size, v, none⟩ (.bool true)) := ⟨_, rfl⟩
                        rw [← Hw5.out] at hH2
                        rw [← Hw5.out]
                        clear c1 c2 c3 c4
                        obtain ⟨fo, so, ro⟩ := hH2.g.out
                        obtain ⟨b2, o2, cap2, hvv, hb2, _, hc2⟩ := so.at hu
                        simp only [Value.slice.injEq] at hvv
                        obtain ⟨rfl, _, rfl⟩ := hvv
                        have e3 : w5.cell? ⟨b2, o2 + u, none⟩ = some (fo u) := hc2 u hu
                        have HFd : Hid (Calls Try.prog 14 #[fo u, .int .i64 (v : Int)] w5 fun e w' => PlacePost p w5 e w') := find_any (O u) (by have := HS.out.ol hu; omega) (HS.out.oa u hu) p hp v ep w5 _ _ (ro u hu)
                        obtain ⟨b, o, cap, hvv, hb, _, hc⟩ := hH2.g.first.at (j := 0) (by omega)
                        simp only [Value.slice.injEq, Option.some.injEq, Addr.mk.injEq] at hvv
                        obtain ⟨⟨rfl, rfl, _⟩, _, rfl⟩ := hvv
                        have e1 : w5.cell? ⟨bF, oF + u, none⟩ = some (.int .i64 (F u : Int)) := hc u (by omega)
                        have hpT : F u + p < T := by
                          have h1 := HS.out.first_next hu
                          have h2 := HS.out.first_le (u := u + 1) (by omega)
                          rw [HT.out]; omega
                        have hpT2 : F u + p < F N.length := by rw [← HT.out]; exact hpT
                        have c5 := hH2.rh.cell hpT2
                        have c6 := hH2.rh.frozen (F u + p)
                        have hH3 := hH2.edge (F u + p)
                        have hnx := hH3.next HS.out hu hv Hu.out Hv.out (by simp only [upd]; split <;> simp) (upd_same _ _ _) (fun _ => ⟨p, hp, ep, upd_same _ _ _⟩)
                        have hyz : (F u : Int) + (p : Int) < (T : Int) := by omega
                        have hp0 : ¬ (p : Int) < 0 := by omega
                        have huz1 : (u : Int) < (N.length : Int) + 1 := by omega
                        generalize fo u = fx at e3 HFd
                        clear so ro hc hc2 hH2 hH3 hp ep hpT2
                        go_wp2_with fail
                        refine HFd.out.mono ?_
                        rintro e w9 ⟨rfl, hw9⟩
                        have hw9' := hw9.symm
                        clear hw9
                        subst hw9'
                        go_wp2
                        go_roundg (n - (k3 + 1))
                        case measure => go_light; omega
                        case rel => go_light; exact ⟨k3 + 1, _, _, by omega, rfl, by simp, hnx⟩
                · as_aux_lemma =>
                    have hkz : ¬ (k3 : Int) < (n : Int) := by omega
                    have ek : k3 = n := by omega
                    rw [ek] at hH
                    clear ek
                    have rn : wr.rowIs w4.heap.size 4 N.length (fun _ => .bool true) := hH.rn.congr (fun i hi => by rw [hH.all_names HS.out hi])
                    have rh : wr.rowIs (w4.heap.size + 1) 4 T (fun _ => .bool true) := by rw [HT.out]; exact hH.rh.congr (fun i hi => by rw [hH.all_edges HS.out hi])
                    have hg := hH.g
                    have hbl := hH.below
                    clear hH nm hd
                    go_wp2_with fail
                    go_loopg [16] N.length (fun g i wx => ∃ k : Nat, k ≤ N.length ∧ g = N.length - k ∧ i = .int .i64 (k : Int) ∧ wr = wx)
                    case atStart => exact ⟨0, Nat.zero_le _, rfl, rfl, rfl⟩
                    case round =>
                      clear hkz hk3n hk3
                      obtain ⟨k4, hk4, rfl, rfl, rfl⟩ := hrel
                      by_cases hk4n : k4 < N.length
                      · as_aux_lemma =>
                          have hkz : (k4 : Int) < (N.length : Int) := by omega
                          have c1 := rn.cell hk4n
                          go_wp2
                          go_roundg (N.length - (k4 + 1))
                          case measure => go_light; omega
                          case rel => go_light; exact ⟨k4 + 1, by omega, rfl, by simp, rfl⟩
                      · as_aux_lemma =>
                          have hkz : ¬ (k4 : Int) < (N.length : Int) := by omega
                          go_wp2_with fail
                          go_loopg [17] T (fun g i wx => ∃ k : Nat, k ≤ T ∧ g = T - k ∧ i = .int .i64 (k : Int) ∧ wr = wx)
                          case atStart => exact ⟨0, Nat.zero_le _, rfl, rfl, rfl⟩
                          case round =>
                            clear hkz hk4n hk4 rn
                            obtain ⟨k5, hk5, rfl, rfl, rfl⟩ := hrel
                            by_cases hk5n : k5 < T
                            · as_aux_lemma =>
                                have hkz : (k5 : Int) < (T : Int) := by omega
                                have c1 := rh.cell hk5n
                                go_wp2
                                go_roundg (T - (k5 + 1))
                                case measure => go_light; omega
                                case rel => go_light; exact ⟨k5 + 1, by omega, rfl, by simp, rfl⟩
                            · as_aux_lemma =>
                                have hkz : ¬ (k5 : Int) < (T : Int) := by omega
                                go_wp2_with fail
                                clear rh
                                go_loopg [18, 19] N.length (fun g c i wx => ∃ k : Nat, k ≤ N.length ∧ g = N.length - k ∧ c = .int .i64 ((sumTo k (fun v => (I v).length) : Nat) : Int) ∧ i = .int .i64 (k : Int) ∧ wr = wx)
                                case atStart => exact ⟨0, Nat.zero_le _, rfl, rfl, rfl, rfl⟩
                                case round =>
                                  clear hkz hk5n hk5
                                  obtain ⟨k6, hk6, rfl, rfl, rfl, rfl⟩ := hrel
                                  by_cases hk6n : k6 < N.length
                                  · as_aux_lemma =>
                                      have hkz : (k6 : Int) < (N.length : Int) := by omega
                                      have hsum : sumTo k6 (fun v => (I v).length) + (I k6).length ≤ 4294967296 := by
                                        have h1 : sumTo (k6 + 1) (fun v => (I v).length) ≤ sumTo N.length (fun v => (I v).length) := sumTo_mono _ _ hk6n
                                        rw [HS.out.count, ← HT.out] at h1
                                        have h2 : sumTo (k6 + 1) (fun v => (I v).length) = sumTo k6 (fun v => (I v).length) + (I k6).length := rfl
                                        omega
                                      obtain ⟨s0, Hs0⟩ : ∃ s0, Hid (s0 = sumTo k6 (fun v => (I v).length)) := ⟨_, rfl⟩
                                      rw [← Hs0.out] at hsum
                                      rw [← Hs0.out]
                                      obtain ⟨li, Hli⟩ : ∃ li, Hid (li = (I k6).length) := ⟨_, rfl⟩
                                      rw [← Hli.out] at hsum
                                      go_wp2_with fail
                                      go_loopg [18, 20] li (fun g c i wx => ∃ j : Nat, j ≤ li ∧ g = li - j ∧ c = .int .i64 ((s0 + j : Nat) : Int) ∧ i = .int .i64 (j : Int) ∧ wr = wx)
                                      case atStart => exact ⟨0, Nat.zero_le _, rfl, rfl, rfl, rfl⟩
                                      case round =>
                                        obtain ⟨j7, hj7, rfl, rfl, rfl, rfl⟩ := hrel
                                        obtain ⟨fi, si, ri⟩ := hg.inn
                                        obtain ⟨b3, o3, cap3, hvv, hb3, _, hc3⟩ := si.at hk6n
                                        simp only [Value.slice.injEq] at hvv
                                        obtain ⟨rfl, _, rfl⟩ := hvv
                                        have e4 : wr.cell? ⟨b3, o3 + k6, none⟩ = some (fi k6) := hc3 k6 hk6n
                                        have rk := ri k6 hk6n
                                        clear hc3 si ri
                                        rw [← Hli.out] at rk
                                        by_cases hjl : j7 < li
                                        · as_aux_lemma =>
                                            have hjz : (j7 : Int) < (li : Int) := by omega
                                            obtain ⟨hyl, p, hp, ep⟩ := HS.out.back hk6n (j := j7) (by rw [← Hli.out]; exact hjl)
                                            obtain ⟨b5, o5, cap5, hfx, hb5, _, hc5⟩ := rk.at hjl
                                            rw [hfx] at e4
                                            have e5 : wr.cell? ⟨b5, o5 + j7, none⟩ = some (.int .i64 (((I k6).getD j7 0 : Nat) : Int)) := hc5 j7 hjl
                                            generalize (I k6).getD j7 0 = y at e5 hyl hp ep
                                            obtain ⟨fo, so, ro⟩ := hg.out
                                            obtain ⟨b2, o2, cap2, hvv, hb2, _, hc2⟩ := so.at hk6n
                                            simp only [Value.slice.injEq] at hvv
                                            obtain ⟨rfl, _, rfl⟩ := hvv
                                            have e3 : wr.cell? ⟨b2, o2 + y, none⟩ = some (fo y) := hc2 y hyl
                                            have HFd : Hid (Calls Try.prog 14 #[fo y, .int .i64 (k6 : Int)] wr fun e w' => PlacePost p wr e w') := find_any (O y) (by have := HS.out.ol hyl; omega) (HS.out.oa y hyl) p hp k6 ep wr _ _ (ro y hyl)
                                            generalize fo y = fx at e3 HFd
                                            have hyz : (y : Int) < (N.length : Int) := by omega
                                            have hp0 : ¬ (p : Int) < 0 := by omega
                                            clear so ro hc2 hc5 rk hp ep hfx
                                            go_wp2_with fail
                                            refine HFd.out.mono ?_
                                            rintro e w9 ⟨rfl, hw9⟩
                                            have hw9' := hw9.symm
                                            clear hw9
                                            subst hw9'
                                            go_wp2
                                            go_roundg (li - (j7 + 1))
                                            case measure => go_light; omega
                                            case rel => go_light; exact ⟨j7 + 1, by omega, rfl, by simp; omega, by simp, rfl⟩
                                        · as_aux_lemma =>
                                            have hjz : ¬ (j7 : Int) < (li : Int) := by omega
                                            obtain ⟨axi, cxi, hxi⟩ := rk.shape
                                            rw [hxi] at e4
                                            clear rk hxi
                                            go_wp2
                                            go_roundg (N.length - (k6 + 1))
                                            case measure => go_light; omega
                                            case rel =>
                                              go_light
                                              refine ⟨k6 + 1, by omega, rfl, ?_, by simp, rfl⟩
                                              have h2 : sumTo (k6 + 1) (fun v => (I v).length) = s0 + j7 := by
                                                rw [Hs0.out, show j7 = li by omega, Hli.out]; rfl
                                              rw [h2]
                                              simp
                                  · as_aux_lemma =>
                                      have hkz : ¬ (k6 : Int) < (N.length : Int) := by omega
                                      have e6 : k6 = N.length := by omega
                                      have hcnt : ((sumTo k6 (fun v => (I v).length) : Nat) : Int) = (T : Int) := by rw [e6, HS.out.count, HT.out]
                                      rw [hcnt]
                                      obtain ⟨b, o, cap, hvv, hb, _, hc⟩ := hg.first.at (j := 0) (by omega)
                                      simp only [Value.slice.injEq, Option.some.injEq, Addr.mk.injEq] at hvv
                                      obtain ⟨⟨rfl, rfl, _⟩, _, rfl⟩ := hvv
                                      have e1 : wr.cell? ⟨bF, oF + N.length, none⟩ = some (.int .i64 (T : Int)) := by rw [HT.out]; exact hc N.length (by omega)
                                      have hNz : (N.length : Int) < (N.length : Int) + 1 := by omega
                                      clear hc hcnt e6
                                      go_wp2
                                      go_ret
                                      exact ⟨rfl, hbW.trans (hbl.mono hbW.size)⟩

end Go.Proofs.Qxb6601793a
