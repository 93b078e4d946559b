import Derived.Test.Qxb6601793aComp0
import Derived.Deep.DeepCutAuto
namespace Go.Proofs.Qxb6601793a
open Go.RowKit Go.Deep Scc

/-- What 'components' leaves. -/
def CompsPost (n : Nat) (adj : Nat → List Nat) (w : World) (e : Ending) (w' : World) : Prop :=
  ∃ (s : TS) (vs vm : Value) (rs : List Value), e = .returned (.tuple #[.slice (some ⟨w.heap.size, 0, none⟩) n n, vm]) ∧ CW w n s vs vm rs w' ∧ CInv adj (fun v => v < n) s.comp s.members


set_option maxHeartbeats 40000000 in
set_option maxRecDepth 1000000 in
theorem comps_any (n : Nat) (adj : Nat → List Nat) (hn : n ≤ 1099511627776) (hadj : ∀ v, v < n → ∀ y ∈ adj v, y < n) (hlen : ∀ v, v < n → (adj v).length ≤ 1099511627776)
    (K : Nat → Prop) (vo : Value) (w : World) (bg : Nat) (na : Option Addr) (nc : Nat) (hM : Mat w K vo n adj) (hg0 : w.cell? ⟨bg, 0, none⟩ = some (.slice na n nc)) (hg1 : w.cell? ⟨bg, 1, none⟩ = some vo) :
    Calls Try.prog 32 #[.pointer (some ⟨bg, 0, none⟩)] w fun e w' => CompsPost n adj w e w' := by
  obtain ⟨i3, hi3, hz30, hz31, hz32⟩ := info_parts Try.info3
  have hmk26 := run_make_row' (P := Try.prog) 26 3 (.int .i64 0) 8 Try.underlying26 Try.info3 rfl .i64 .i64 n (by omega) (by omega)
  have hmk32 := run_make_row' (P := Try.prog) 32 4 (.bool false) 1 Try.underlying32 Try.info4 rfl .i64 .i64 n (by omega) (by omega)
  have hbg : bg < w.heap.size := World.block_lt_of_cell? _ _ hg0
  have hst := comps_start w n
  unfold compsWorld at hst
  go_enter Try.func32, Try.ntmps32
  go_wp2
  simp only [Nat.add_assoc, Nat.reduceAdd]
  clear hmk26 hmk32
  go_loopg [3, 38] n (fun g m i wr => ∃ (k : Nat) (s : TS) (vs : Value) (rs : List Value), k ≤ n ∧ g = n - k ∧ i = .int .i64 (k : Int) ∧ s.frs = [] ∧ Inv n adj s ∧ (∀ v, v < k → s.order v ≠ 0) ∧ CW w n s vs m rs wr)
  case atStart => exact ⟨0, tsZero, .slice none 0 0, [], Nat.zero_le _, rfl, rfl, rfl, Inv.zero n adj _, fun v hv => absurd hv (by omega), hst⟩
  case round =>
    clear hst
    obtain ⟨k, s, vs, rs, hk, rfl, rfl, hf, hI, hall, hC⟩ := hrel
    by_cases hkn : k < n
    · have hkz : (k : Int) < (n : Int) := by omega
      have c1 := cell_of_one hC.tw.bO
      have c2 := hC.tw.rO.cell hkn
      by_cases ho : s.order k = 0
      · rw [ho] at c2
        have hrl := hI.reachedLe
        have hroom := hI.room
        go_wp2_with (go_at_call 37; refine (enter_any w.heap.size n k s.reached s.order s.low _ vs _ _ hkn (by omega) (by simp; omega) hC.tw).mono ?_; rintro e w1 ⟨rfl, g, cap, hT, hKp, hgw⟩)
        have hI1 := hI.enter hkn ho [] (by simp [stk, hf]) (by simp [hf]) (by simp)
        have hC1 := (hC.entered (s' := ⟨upd s.order k (s.reached + 1), upd s.low k (s.reached + 1), [⟨k, 0, []⟩], s.reached + 1, s.comp, s.members⟩) rfl rfl rfl rfl rfl (by simp [stk, hf]) hT hKp hgw).kept
          ((Kept.refl (fun _ => False) w1).alloc (.cells #[.int .i64 (k : Int), .int .i64 0] 74)) (fun _ _ h => h.elim)
        have hO1 : (w1.alloc (.cells #[.int .i64 (k : Int), .int .i64 0] 74)).ownsRow (w.heap.size + 9) 74 2 (.slice (some ⟨w1.heap.size, 0, none⟩) 1 1) 1 (framesV [⟨k, 0, []⟩]) :=
          World.ownsRow_lit w1 _ 1 (by have := lt_of_block hT.bR; omega) (by decide) rfl
        have ha1 : ∀ v, v < k + 1 → upd s.order k (s.reached + 1) v ≠ 0 := fun v hv => by
          by_cases e : v = k
          · subst e; rw [upd_same]; omega
          · rw [upd_other _ _ _ _ e]; exact hall v (by omega)
        clear hT hKp hgw c1 c2 hI hall hC hrl hroom
        go_loopg [3, 12] (mu n adj ⟨upd s.order k (s.reached + 1), upd s.low k (s.reached + 1), [⟨k, 0, []⟩], s.reached + 1, s.comp, s.members⟩) (fun g m wk wx => ∃ (s : TS) (vs : Value) (rs : List Value), g = mu n adj s ∧ Inv n adj s ∧ (∀ v, v < k + 1 → s.order v ≠ 0) ∧ CW w n s vs m rs wx ∧ wx.ownsRow (w.heap.size + 9) 74 2 wk s.frs.length (framesV s.frs))
        case atStart => exact ⟨_, _, _, rfl, hI1, ha1, hC1, hO1⟩
        case round =>
          clear hI1 ha1 hC1 hO1 ho hf
          clear s vs rs
          obtain ⟨s, vs, rs, rfl, hI, hall, hC, hO⟩ := hrel
          cases hfr : s.frs with
          | nil =>
            as_aux_lemma =>
              have hO' := hO
              rw [hfr] at hO'
              obtain ⟨ao, cp, rfl⟩ := owns_slice hO'
              clear hO'
              go_wp2
              go_roundg (n - (k + 1))
              case measure => go_light; omega
              case rel =>
                go_light
                exact ⟨k + 1, s, vs, rs, by omega, rfl, by simp, hfr, hI, hall, hC⟩
          | cons f rest =>
            obtain ⟨v, kk, bl⟩ := f
            rw [hfr] at hO
            obtain ⟨gw, cw, rfl, hgw9, hcw, hcm, hgwl⟩ := owns_shape hO (by simp)
            have hov := hI.frOk ⟨v, kk, bl⟩ (by rw [hfr]; simp)
            have hkle : kk ≤ (adj v).length := hov.k_le
            have hvn : v < n := hI.stkN (mem_stk.2 ⟨⟨v, kk, bl⟩, by rw [hfr]; simp, .inr rfl⟩)
            have hvz : (v : Int) < (n : Int) := by omega
            have hlv := hlen v hvn
            have hrl := hI.reachedLe
            have hroom := hI.room
            have hfl : rest.length + 1 ≤ n := by
              have h1 : (s.frs.length : Nat) ≤ (stk s.frs).length := frs_le_stk s.frs
              rw [hfr] at h1
              simp only [List.length_cons] at h1
              rw [← hfr] at h1
              omega
            have t1 : wr.cell? ⟨gw, rest.length * 2, none⟩ = some (.int .i64 (v : Int)) := by rw [hO.cellAt _ (by simp only [List.length_cons]; omega)]; exact framesV_p _ _
            have t2 : wr.cell? ⟨gw, rest.length * 2 + 1, none⟩ = some (.int .i64 (kk : Int)) := by rw [hO.cellAt _ (by simp only [List.length_cons]; omega)]; exact framesV_k _ _
            have t3 := hO.frozenAt (rest.length * 2 + 1)
            have g1 : wr.cell? ⟨bg, 1, none⟩ = some vo := by rw [hC.below.cell (p := ⟨bg, 1, none⟩) hbg]; exact hg1
            obtain ⟨bo, oo, co, ao, ca, hvo, hbo, hcrow, hrow⟩ := hM.at hvn
            subst hvo
            have g2 : wr.cell? ⟨bo, oo + v, none⟩ = some (.slice ao (adj v).length ca) := by rw [hC.below.cell (p := ⟨bo, oo + v, none⟩) hbo]; exact hcrow
            have cO := cell_of_one hC.tw.bO
            have cL := cell_of_one hC.tw.bL
            have cN := cell_of_one hC.tw.bN
            simp only [List.length_cons] at hO hcw ⊢
            as_aux_lemma =>
              by_cases hkl : kk < (adj v).length
              · have hkz2 : (kk : Int) < ((adj v).length : Int) := by omega
                obtain ⟨bR, oR, rfl, hbR, hcR⟩ := hrow kk hkl
                obtain ⟨y, hy⟩ : ∃ y, y = (adj v).getD kk 0 := ⟨_, rfl⟩
                rw [← hy] at hcR
                have hyv : y ∈ adj v := by rw [hy]; exact mem_take_of_getD hkl
                have hyn : y < n := hadj v hvn y hyv
                have hyz : (y : Int) < (n : Int) := by omega
                have HY : Hid (y = (adj v).getD kk 0) := hy
                have g3 : wr.cell? ⟨bR, oR + kk, none⟩ = some (.int .i64 (y : Int)) := by rw [hC.below.cell (p := ⟨bR, oR + kk, none⟩) hbR]; exact hcR
                clear hy hrow hcrow hcR hg0 hg1 hbR
                have hoy := hC.tw.rO.cell hyn
                have hC2 : ∀ m, CW w n s vs u3 rs ((wr.drewN m).setCell ⟨gw, rest.length * 2 + 1, none⟩ (.int .i64 ((kk : Int) + 1))) := fun m =>
                  hC.kept (Kept.setCell (S := fun b => b = gw) ((Kept.refl _ _).drewN m) (fun _ => rfl) _) (fun b _ hb => by subst hb; exact hC.apart hO (Nat.le_refl _) rfl)
                have hO2 : ∀ m, ((wr.drewN m).setCell ⟨gw, rest.length * 2 + 1, none⟩ (.int .i64 ((kk : Int) + 1))).ownsRow (w.heap.size + 9) 74 2 (.slice (some ⟨gw, 0, none⟩) (rest.length + 1) cw) (rest.length + 1) (framesV (⟨v, kk + 1, bl⟩ :: rest)) := fun m => by
                  have h1 : (wr.drewN m).ownsRow (w.heap.size + 9) 74 2 (.slice (some ⟨gw, 0, none⟩) (rest.length + 1) cw) (rest.length + 1) (framesV (⟨v, kk, bl⟩ :: rest)) := hO
                  have h2 := h1.stored (rest.length * 2 + 1) (.int .i64 ((kk + 1 : Nat) : Int))
                  rw [framesV_set] at h2
                  exact h2.1
                go_wp2_with fail
                go_quiet (fail)
                go_wp2_with fail
                go_quiet (fail)
                by_cases ho : s.order y = 0
                · as_aux_lemma =>
                    rw [ho] at hoy
                    have hmu := mu_push hfr hkl hyn ho
                    have hI' := hI.push hfr hkl HY.out hyn ho
                    have hsl : (stk s.frs).reverse.length ≤ 1099511627776 := by simp; omega
                    obtain ⟨i74, hi74, hz740, hz741, hz742⟩ := info_parts Try.info74
                    go_wp2_with (first
                      | (go_at_call 37; refine (enter_any w.heap.size n y s.reached s.order s.low _ vs _ _ hyn (by omega) hsl (hC2 _).tw).mono ?_; rintro e w3 ⟨rfl, g3, cap3, hT3, hK3, hgw3⟩; have hC3 := (hC2 _).entered (s' := ⟨upd s.order y (s.reached + 1), upd s.low y (s.reached + 1), ⟨y, 0, []⟩ :: ⟨v, kk + 1, bl⟩ :: rest, s.reached + 1, s.comp, s.members⟩) rfl rfl rfl rfl rfl (by rw [hfr]; rfl) hT3 hK3 hgw3; have hO3 := owns_kept (hO2 _) hK3 (fun b e => by simp only [Value.ownBlock, Option.some.injEq] at e; subst e; rintro (h | h | h | h | h | h) <;> first | omega | exact (hC.apart hO (Nat.le_refl _) rfl).2.1 h); have hN3 := lt_of_block hT3.bR)
                      | (at_builtin; refine wpList_append_where _ rfl (.tmp 108) (.tmp 111) 75 rfl (w.heap.size + 9) 74 i74 (.agg #[.int .i64 0, .int .i64 0]) 2 16 Try.underlying75 hi74 hz740 hz741 hz742 rfl (by decide) (.slice (some ⟨gw, 0, none⟩) (rest.length + 1) cw) (rest.length + 1) (framesV (⟨v, kk + 1, bl⟩ :: rest)) rfl (hO3.alloc _) ⟨w3.heap.size, 0, none⟩ 1 1 [.int .i64 (y : Int), .int .i64 0] rfl rfl (cell_two_new _ _ _ _) (by simp [Value.oneCell']) (by decide) (by unfold maxLen; omega) (by omega) (by simp; omega) ?_; intro g4 cap4 w4 hown4 hgrow4 hwhere4))
                    go_roundg (mu n adj ⟨upd s.order y (s.reached + 1), upd s.low y (s.reached + 1), ⟨y, 0, []⟩ :: ⟨v, kk + 1, bl⟩ :: rest, s.reached + 1, s.comp, s.members⟩)
                    case measure => go_light; exact hmu
                    case rel =>
                      go_light
                      refine ⟨_, _, rs, rfl, hI', fun u hu => ?_, hC3.kept (((Kept.refl (fun b => b = gw) w3).alloc _).grown hgrow4 (fun b e _ => by simp only [Value.ownBlock, Option.some.injEq] at e; exact e.symm)) (fun b _ hb => by subst hb; exact hC3.apart hO3 (Nat.le_refl _) rfl), ?_⟩
                      · have h1 := hall u hu
                        show upd s.order y (s.reached + 1) u ≠ 0
                        simp only [upd]; split <;> omega
                      · rw [framesV_cons]; exact hown4
                · as_aux_lemma =>
                    have hoz : 1 ≤ s.order y := by omega
                    have hcl := hC.tw.rL.cell hvn
                    have hfl2 := hC.tw.rL.frozen v
                    have hcn := hC.tw.rN.cell hyn
                    by_cases hst : y ∈ stk s.frs
                    · have hdec : decide (y ∈ stk s.frs) = true := decide_eq_true hst
                      rw [hdec] at hcn
                      have hI' := hI.next hfr hkl (by rw [← HY.out]; exact ho) (min (s.low v) (s.order y)) (by rw [← HY.out, if_pos hst])
                      have hmu := mu_next (n := n) hfr hkl (upd s.low v (min (s.low v) (s.order y)))
                      have Hst : Hid (y ∈ stk s.frs) := hst
                      clear hst hdec
                      go_wp2_with fail
                      go_region
                      go_wp2
                      go_roundg (mu n adj ⟨s.order, upd s.low v (min (s.low v) (s.order y)), ⟨v, kk + 1, bl⟩ :: rest, s.reached, s.comp, s.members⟩)
                      case measure => go_light; exact hmu
                      case rel =>
                        go_light
                        rw [min_cast]
                        exact ⟨_, vs, rs, rfl, hI', hall, (CW.lowSet (s' := ⟨s.order, upd s.low v (min (s.low v) (s.order y)), ⟨v, kk + 1, bl⟩ :: rest, s.reached, s.comp, s.members⟩) (hC2 _) rfl rfl rfl rfl (by rw [hfr]; rfl) rfl).drew, owns_drew (ownsRow_setCell_other (hO2 _) (by simp [Value.ownBlock]; omega) _)⟩
                    · have hdec : decide (y ∈ stk s.frs) = false := decide_eq_false hst
                      rw [hdec] at hcn
                      have hI' := hI.next hfr hkl (by rw [← HY.out]; exact ho) (s.low v) (by rw [← HY.out, if_neg hst])
                      have hmu := mu_next (n := n) hfr hkl (upd s.low v (s.low v))
                      clear hst hdec
                      go_wp2
                      go_roundg (mu n adj ⟨s.order, upd s.low v (s.low v), ⟨v, kk + 1, bl⟩ :: rest, s.reached, s.comp, s.members⟩)
                      case measure => go_light; exact hmu
                      case rel =>
                        go_light
                        exact ⟨_, vs, rs, rfl, hI', hall, (hC2 _).other rfl rfl rfl rfl (by rw [hfr]; rfl) (upd_self _ _), hO2 _⟩
              · as_aux_lemma =>
                  have hkd : kk = (adj v).length := by omega
                  have hkz2 : ¬ (kk : Int) < ((adj v).length : Int) := by omega
                  clear hrow hcrow hg0 hg1
                  have hov2 := hC.tw.rO.cell hvn
                  have hlv2 := hC.tw.rL.cell hvn
                  go_wp2_with fail
                  go_quiet (fail)
                  by_cases hlo : s.low v = s.order v
                  · have hstk : stk s.frs = bl ++ v :: stk rest := by rw [hfr]; rfl
                    have hO5 : wr.ownsRow (w.heap.size + 9) 74 2 (.slice (some ⟨gw, 0, none⟩) rest.length cw) rest.length (framesV rest) := by
                      have h1 := owns_take hO (m := rest.length) (by omega)
                      rw [framesV_take] at h1
                      exact h1
                    go_upto_if 147 with fail
                    go_cut [12, 15, 16] (fun s12 s15 _ wc => s12 = .slice (some ⟨gw, 0, none⟩) rest.length cw ∧ s15 = .int .i64 (v : Int) ∧ CW w n s vs u3 rs wc ∧ wc.ownsRow (w.heap.size + 9) 74 2 (.slice (some ⟨gw, 0, none⟩) rest.length cw) rest.length (framesV rest))
                    case first =>
                      as_aux_lemma =>
                        have hcs : rest.length ≤ 0 ∨ ∃ p kp blp rest', rest = ⟨p, kp, blp⟩ :: rest' := by
                          cases rest with
                          | nil => exact .inl (Nat.le_refl _)
                          | cons f2 rest' => exact .inr ⟨f2.p, f2.k, f2.bl, rest', rfl⟩
                        rcases hcs with h0 | ⟨p, kp, blp, rest', hre⟩
                        · go_wp2_with fail
                          go_meet
                          exact ⟨rfl, rfl, hC.drewN _, owns_drewN hO5 _⟩
                        · have h1 : 1 ≤ rest.length := by rw [hre]; simp
                          have hmemp : (⟨p, kp, blp⟩ : Fr) ∈ s.frs := by rw [hfr, hre]; simp
                          have hpn : p < n := hI.stkN (mem_stk.2 ⟨_, hmemp, .inr rfl⟩)
                          have hpz : (p : Int) < (n : Int) := by omega
                          have t5 : wr.cell? ⟨gw, (rest.length - 1) * 2, none⟩ = some (.int .i64 (p : Int)) := by
                            rw [hO5.cellAt _ (by omega), hre]
                            exact framesV_p _ _
                          have hmin : Hid (min (s.low p : Int) (s.low v : Int) = ((s.low p : Nat) : Int)) := by
                            have h2 : s.low p ≤ s.order p := (hI.frOk _ hmemp).lowLe
                            have h3 : s.order p < s.order v := by
                              have hd := hI.desc
                              rw [hstk] at hd
                              exact (List.pairwise_cons.1 (List.pairwise_append.1 hd).2.1).1 p (mem_stk.2 ⟨⟨p, kp, blp⟩, by rw [hre]; exact List.mem_cons_self .., .inr rfl⟩)
                            show min (s.low p : Int) (s.low v : Int) = ((s.low p : Nat) : Int)
                            omega
                          have hlp2 := hC.tw.rL.cell hpn
                          have hfp2 := hC.tw.rL.frozen p
                          clear hre hlo
                          go_wp2_with fail
                          go_region
                          go_wp2_with fail
                          go_meet
                          rw [hmin.out]
                          exact ⟨rfl, rfl, CW.lowSet (s' := s) (hC.drewN _) rfl rfl rfl rfl rfl (upd_self _ _).symm, ownsRow_setCell_other (owns_drewN hO5 _) (by simp [Value.ownBlock]; omega) _⟩
                    case rest =>
                      as_aux_lemma =>
                        obtain ⟨rfl, rfl, hCc, hOc⟩ := hcut
                        clear hC hO hO5 t1 t2 t3 g1 g2 hov2 hlv2 cO cL cN hcw
                        clear hgwl
                        clear wr
                        obtain ⟨R, hR⟩ : ∃ R, R = (stk rest).reverse := ⟨_, rfl⟩
                        obtain ⟨N0, hN0⟩ : ∃ N0, N0 = v :: bl.reverse := ⟨_, rfl⟩
                        have hl : (stk s.frs).reverse = R ++ N0 := by rw [hstk, hR, hN0]; simp
                        have hC6 : CG w n s.order s.low (fun i => decide (i ∈ stk s.frs)) (R ++ N0) s.reached s.comp s.members vs u3 rs wc := by rw [← hl]; exact hCc
                        have hnl : R.length + N0.length ≤ n := by
                          have h1 := congrArg List.length hl
                          simp only [List.length_reverse, List.length_append] at h1
                          omega
                        obtain ⟨m, hm⟩ : ∃ m, m = R.length := ⟨_, rfl⟩
                        obtain ⟨c, hc⟩ : ∃ c, c = N0.length := ⟨_, rfl⟩
                        have hc1 : 1 ≤ c := by rw [hc, hN0]; simp
                        have hlen2 : (R ++ N0).length = m + c := by rw [hm, hc, List.length_append]
                        have hS := hC6.tw.own
                        rw [hlen2] at hS
                        obtain ⟨gs, cs, hvs, hgs9, hcs1, hcs2, hgsl⟩ := owns_shape hS (by omega)
                        subst hvs
                        have cO := cell_of_one hC6.tw.bO
                        have cL := cell_of_one hC6.tw.bL
                        have cN := cell_of_one hC6.tw.bN
                        have cS := cell_of_one hC6.tw.bS
                        have fS := free_of_one hC6.tw.bS
                        have cov := hC6.tw.rO.cell hvn
                        have clv := hC6.tw.rL.cell hvn
                        rw [hlo] at clv
                        have hmc : m + c ≤ n := by omega
                        have hcell : ∀ j, j < m + c → wc.cell? ⟨gs, j, none⟩ = some (.int .i64 (((R ++ N0).getD j 0 : Nat) : Int)) := fun j hj => by
                          rw [hS.cellAt j (by omega)]; exact nodesV_get (by omega)
                        have Hfacts : Hid (m = R.length ∧ c = N0.length ∧ R = (stk rest).reverse ∧ N0 = v :: bl.reverse ∧ s.low v = s.order v ∧ stk s.frs = bl ++ v :: stk rest) := ⟨hm, hc, hR, hN0, hlo, hstk⟩
                        have hvm : (R ++ N0).getD m 0 = v := by rw [hm, hN0]; exact getD_mid _ _ _
                        have hvx : ∀ j, m < j → j < m + c → (R ++ N0).getD j 0 ≠ v := by
                          have hnd := hI.nodup
                          rw [hstk] at hnd
                          rw [hm, hc, hR, hN0]
                          exact fun j h1 h2 => tail_ne hnd j h1 h2
                        have hcm2 : wc.cell? ⟨gs, m, none⟩ = some (.int .i64 (v : Int)) := by rw [hcell m (by omega), hvm]
                        have HV : Hid (∀ j, m < j → j < m + c → (R ++ N0).getD j 0 ≠ v) := hvx
                        have HC : Hid (∀ j, j < m + c → wc.cell? ⟨gs, j, none⟩ = some (.int .i64 (((R ++ N0).getD j 0 : Nat) : Int))) := hcell
                        clear hm hc hR hN0 hlo hstk hl hvx hvm hcell hlen2 hCc
                        go_wp2_with fail
                        go_quiet (fail)
                        go_wp2_with fail
                        go_loopg [17] (1 + (m + c - 1)) (fun g i wx => wc.drewN nq = wx ∧ ∃ j : Nat, m ≤ j ∧ j < m + c ∧ g = 1 + j ∧ i = .int .i64 (j : Int))
                        case atStart => exact ⟨rfl, m + c - 1, by omega, by omega, rfl, congrArg (Value.int .i64) (by omega)⟩
                        case round =>
                          obtain ⟨rfl, j, hj1, hj2, rfl, rfl⟩ := hrel
                          by_cases hjm : m < j
                          · as_aux_lemma =>
                              have hcj := HC.out j hj2
                              have hxv := HV.out j hjm hj2
                              obtain ⟨x, hx⟩ : ∃ x, x = (R ++ N0).getD j 0 := ⟨_, rfl⟩
                              rw [← hx] at hcj hxv
                              have hxb : ((x : Int) == (v : Int)) = false := beq_eq_false_iff_ne.2 (by omega)
                              have hjz : (j : Int) < (m : Int) + (c : Int) := by omega
                              clear hx
                              go_wp2
                              go_roundg (1 + (j - 1))
                              case measure => go_light; omega
                              case rel => go_light; exact ⟨rfl, j - 1, by omega, by omega, rfl, congrArg (Value.int .i64) (by omega)⟩
                          · obtain rfl : m = j := by omega
                            as_aux_lemma =>
                              obtain ⟨hm, hc, hR, hN0, hlo, hstk⟩ := Hfacts.out
                              have hclone := clone_nodes gs m (cs - m) N0 (wc.drewN nq) (by omega) (fun i hi => by
                                show wc.cell? _ = _
                                rw [HC.out (m + i) (by omega), getD_right hm])
                              rw [← hc] at hclone
                              have hNn : ∀ x ∈ N0, x < n := fun x hx => hI.stkN (by
                                rw [hN0] at hx
                                rw [hstk]
                                rcases List.mem_append.1 (mem_N0.1 hx) with h | h
                                · exact List.mem_append.2 (.inl h)
                                · simp at h; subst h; simp)
                              have hN7 : w.heap.size + 8 < wc.heap.size := lt_of_block hC6.tw.bR
                              clear hm hc hR hN0 hlo hstk
                              go_wp2_with (go_at_call 38; refine hclone.mono ?_; rintro e w5 ⟨vn, rfl, hown5, hnn5, hbel5⟩; obtain ⟨gn, cn, rfl, hgn1, hgn2, hgn3, hgn4⟩ := owns_shape hown5 hc1; have cS5 : w5.cell? ⟨w.heap.size + 7, 0, none⟩ = some (.slice (some ⟨gs, 0, none⟩) (m + c) cs) := (hbel5.cell (p := ⟨w.heap.size + 7, 0, none⟩) (by simp; omega)).trans cS; have fS5 : w5.frozen? ⟨w.heap.size + 7, 0, none⟩ = false := (hbel5.frozen (p := ⟨w.heap.size + 7, 0, none⟩) (by simp; omega)).trans fS)
                              obtain ⟨hm, hc, hR, hN0, hlo, hstk⟩ := Hfacts.out
                              have k5 := Kept.of_below hbel5
                              have hC7 := ((hC6.drewN nq).kept k5 (fun _ _ h => h.elim)).popStack hm hc
                              have hf7 := hC6.fresh (g := gn) (by simpa using hgn1)
                              have hOw7 : (w5.setCell ⟨w.heap.size + 7, 0, none⟩ (.slice (some ⟨gs, 0, none⟩) m cs)).ownsRow (w.heap.size + 9) 74 2 (.slice (some ⟨gw, 0, none⟩) rest.length cw) rest.length (framesV rest) :=
                                ownsRow_setCell_other (owns_kept (owns_drewN hOc nq) k5 (fun _ _ h => h.elim)) (by simp [Value.ownBlock]; omega) _
                              have hgn9 : w.heap.size + 9 ≤ gn := by simp at hgn1; omega
                              have hOn7 : (w5.setCell ⟨w.heap.size + 7, 0, none⟩ (.slice (some ⟨gs, 0, none⟩) m cs)).ownsRow (w.heap.size + 9) 3 1 (.slice (some ⟨gn, 0, none⟩) c cn) c (nodesV N0) :=
                                ownsRow_setCell_other (owns_lower hown5 (by simp; omega)) (by simp [Value.ownBlock]; omega) _
                              rw [← onMid_zero (stk s.frs) N0, ← compMid_zero s.comp (-1) N0] at hC7
                              clear hm hc hR hN0 hlo hstk cO cL cN cS fS cov clv cS5 fS5 hown5 hbel5 k5 hC6 hS hOc HC HV hcm2
                              go_loopg [196] c (fun g i wx => ∃ j : Nat, j ≤ c ∧ g = c - j ∧ i = .int .i64 (j : Int) ∧ CG w n s.order s.low (onMid (stk s.frs) N0 j) R s.reached (compMid s.comp (-1) N0 j) s.members (.slice (some ⟨gs, 0, none⟩) m cs) u3 rs wx ∧ wx.ownsRow (w.heap.size + 9) 3 1 (.slice (some ⟨gn, 0, none⟩) c cn) c (nodesV N0) ∧ wx.ownsRow (w.heap.size + 9) 74 2 (.slice (some ⟨gw, 0, none⟩) rest.length cw) rest.length (framesV rest))
                              case atStart => exact ⟨0, Nat.zero_le _, rfl, rfl, hC7, hOn7, hOw7⟩
                              case round =>
                                clear hC7 hOn7 hOw7
                                obtain ⟨j, hjc, rfl, rfl, hC8, hOn8, hOw8⟩ := hrel
                                by_cases hjl : j < c
                                · as_aux_lemma =>
                                    obtain ⟨hm, hc, hR, hN0, hlo, hstk⟩ := Hfacts.out
                                    have hjz : (j : Int) < (c : Int) := by omega
                                    obtain ⟨x, hx⟩ : ∃ x, x = N0.getD j 0 := ⟨_, rfl⟩
                                    have hcx : wr.cell? ⟨gn, j, none⟩ = some (.int .i64 (x : Int)) := by rw [hOn8.cellAt j (by omega), nodesV_get (by omega), hx]
                                    have hxn : x < n := by rw [hx]; exact hNn _ (mem_take_of_getD (by omega))
                                    have hxz : (x : Int) < (n : Int) := by omega
                                    have c1 := cell_of_one hC8.tw.bN
                                    have c2 := hC8.tw.rN.cell hxn
                                    have c3 := hC8.tw.rN.frozen x
                                    have hC9 := (hC8.on1 x false)
                                    have c4 := hC9.rC.cell hxn
                                    have c5 := hC9.rC.frozen x
                                    have hC10 := CG.congr (on' := onMid (stk s.frs) N0 (j + 1)) (comp' := compMid s.comp (-1) N0 (j + 1)) (hC9.comp1 x (-1)) (by rw [hx]; exact (onMid_succ _ _ (by omega)).symm) (by rw [hx]; exact (compMid_succ _ _ _ (by omega)).symm)
                                    have hOn10 : ((wr.setCell ⟨w.heap.size + 5, x, none⟩ (.bool false)).setCell ⟨w.heap.size, x, none⟩ (.int .i64 (-1))).ownsRow (w.heap.size + 9) 3 1 (.slice (some ⟨gn, 0, none⟩) c cn) c (nodesV N0) := ownsRow_setCell_other (ownsRow_setCell_other hOn8 (by simp [Value.ownBlock]; omega) _) (by simp [Value.ownBlock]; omega) _
                                    have hOw10 : ((wr.setCell ⟨w.heap.size + 5, x, none⟩ (.bool false)).setCell ⟨w.heap.size, x, none⟩ (.int .i64 (-1))).ownsRow (w.heap.size + 9) 74 2 (.slice (some ⟨gw, 0, none⟩) rest.length cw) rest.length (framesV rest) := ownsRow_setCell_other (ownsRow_setCell_other hOw8 (by simp [Value.ownBlock]; omega) _) (by simp [Value.ownBlock]; omega) _
                                    clear hx hm hc hR hN0 hlo hstk hC9
                                    go_wp2
                                    go_roundg (c - (j + 1))
                                    case measure => go_light; omega
                                    case rel => go_light; exact ⟨j + 1, by omega, rfl, by simp, hC10, hOn10, hOw10⟩
                                · as_aux_lemma =>
                                    obtain rfl : c = j := by omega
                                    obtain ⟨hm, hc, hR, hN0, hlo, hstk⟩ := Hfacts.out
                                    have hnd := hI.nodup
                                    rw [hstk] at hnd
                                    have honf : onMid (stk s.frs) N0 c = fun i => decide (i ∈ stk rest) := by rw [hc, hstk, hN0]; exact onMid_full hnd
                                    rw [honf, hR] at hC8
                                    have hl1 : s.members.length ≤ n := by omega
                                    clear honf
                                    by_cases hc2 : 2 ≤ c
                                    · as_aux_lemma =>
                                        have hz : (1 : Int) < (c : Int) := by omega
                                        have hsort := sort_nodes (w.heap.size + 9) gn cn N0 wr (by rw [← hc]; exact hOn8) (by omega)
                                        rw [← hc] at hsort
                                        have hN0d : N0.Nodup := by rw [hN0]; exact N0_nodup hnd
                                        obtain ⟨am, cm, rfl⟩ := owns_slice hC8.ownM
                                        clear hm hc hR hN0 hlo hstk hnd
                                        go_wp2_with (go_at_call 35; refine hsort.mono ?_; rintro e w9 ⟨rfl, l', hp, hs, hOn9, hg9⟩)
                                        have k9 : Kept (fun b => b = gn) wr w9 := Kept.grown (S := fun b => b = gn) (Kept.refl _ wr) hg9 (fun b e _ => by injection e with e; exact e.symm)
                                        have hgsn : gs ≠ gn := fun e => hf7.1 (by rw [e]; rfl)
                                        have hC9 := hC8.kept k9 (fun b _ e => by subst e; exact ⟨hgn9, by simpa [Value.ownBlock] using hgsn, hf7.2.1, hf7.2.2⟩)
                                        have hOw9 := owns_kept hOw8 k9 (fun b e e2 => by subst e2; exact owns_apart hOw8 hOn8 (by decide) e rfl)
                                        rw [← compMid_zero (compMid s.comp (-1) N0 c) (s.members.length : Int) l'] at hC9
                                        have hlc : Hid (l'.length = c) := hp.length_eq.trans Hfacts.out.2.1.symm
                                        have HP : Hid (l'.Perm N0 ∧ l'.Pairwise (· ≤ ·)) := ⟨hp, hs⟩
                                        clear hC8 hOn8 hOw8 hsort hg9 k9 hp hs
                                        go_loopg [214] c (fun g i wx => ∃ j : Nat, j ≤ c ∧ g = c - j ∧ i = .int .i64 (j : Int) ∧ CG w n s.order s.low (fun i => decide (i ∈ stk rest)) (stk rest).reverse s.reached (compMid (compMid s.comp (-1) N0 c) (s.members.length : Int) l' j) s.members (.slice (some ⟨gs, 0, none⟩) m cs) (.slice am s.members.length cm) rs wx ∧ wx.ownsRow (w.heap.size + 9) 3 1 (.slice (some ⟨gn, 0, none⟩) c cn) c (nodesV l') ∧ wx.ownsRow (w.heap.size + 9) 74 2 (.slice (some ⟨gw, 0, none⟩) rest.length cw) rest.length (framesV rest))
                                        case atStart => exact ⟨0, Nat.zero_le _, rfl, rfl, hC9, hOn9, hOw9⟩
                                        case round =>
                                          clear hC9 hOn9 hOw9
                                          obtain ⟨j, hjc, rfl, rfl, hC8, hOn8, hOw8⟩ := hrel
                                          by_cases hjl : j < c
                                          · as_aux_lemma =>
                                              have hjz : (j : Int) < (c : Int) := by omega
                                              have hll := hlc.out
                                              obtain ⟨x, hx⟩ : ∃ x, x = l'.getD j 0 := ⟨_, rfl⟩
                                              have hcx : wr.cell? ⟨gn, j, none⟩ = some (.int .i64 (x : Int)) := by rw [hOn8.cellAt j (by omega), nodesV_get (by omega), hx]
                                              have hxn : x < n := by rw [hx]; exact hNn _ (HP.out.1.mem_iff.1 (mem_take_of_getD (by omega)))
                                              have hxz : (x : Int) < (n : Int) := by omega
                                              have c4 := hC8.rC.cell hxn
                                              have c5 := hC8.rC.frozen x
                                              have hC10 := CG.congr (on' := fun i => decide (i ∈ stk rest)) (comp' := compMid (compMid s.comp (-1) N0 c) (s.members.length : Int) l' (j + 1)) (hC8.comp1 x (s.members.length : Int)) rfl (by rw [hx]; exact (compMid_succ _ _ _ (by omega)).symm)
                                              have hOn10 : (wr.setCell ⟨w.heap.size, x, none⟩ (.int .i64 (s.members.length : Int))).ownsRow (w.heap.size + 9) 3 1 (.slice (some ⟨gn, 0, none⟩) c cn) c (nodesV l') := ownsRow_setCell_other hOn8 (by simp [Value.ownBlock]; omega) _
                                              have hOw10 : (wr.setCell ⟨w.heap.size, x, none⟩ (.int .i64 (s.members.length : Int))).ownsRow (w.heap.size + 9) 74 2 (.slice (some ⟨gw, 0, none⟩) rest.length cw) rest.length (framesV rest) := ownsRow_setCell_other hOw8 (by simp [Value.ownBlock]; omega) _
                                              clear hx hll
                                              go_wp2
                                              go_roundg (c - (j + 1))
                                              case measure => go_light; omega
                                              case rel => go_light; exact ⟨j + 1, by omega, rfl, by simp, hC10, hOn10, hOw10⟩
                                          · as_aux_lemma =>
                                              obtain rfl : c = j := by omega
                                              have hjz : ¬ (c : Int) < (c : Int) := by omega
                                              obtain ⟨i26, hi26, hz260, hz261, hz262⟩ := info_parts Try.info26
                                              obtain ⟨hm, hc, hR, hN0, hlo, hstk⟩ := Hfacts.out
                                              have hI' := hI.popComp hfr hkd hlo s.low (fun _ _ => rfl) (compMid (compMid s.comp (-1) N0 c) (s.members.length : Int) l' c) (s.members ++ [l']) s.members.length l' (fun u => by rw [HP.out.1.mem_iff, hN0]; exact mem_N0) (sorted_strict HP.out.2 (HP.out.1.nodup_iff.2 hN0d)) (fun u => compMid_two _ _ _ hN0 hc HP.out.1 u) (.inr ⟨by rw [hlc.out]; omega, rfl, rfl⟩)
                                              have hmu := mu_pop (n := n) (adj := adj) hfr s.low rest rfl (compMid (compMid s.comp (-1) N0 c) (s.members.length : Int) l' c) (s.members ++ [l'])
                                              have hN9 := lt_of_block hC8.tw.bR
                                              clear hm hc hR hN0 hlo hstk
                                              go_wp2_with (at_builtin; refine wpList_append_where _ rfl (.tmp 224) (.tmp 226) 25 rfl (w.heap.size + 9) 26 i26 (.slice none 0 0) 1 24 Try.underlying25 hi26 hz260 hz261 hz262 rfl (by decide) (.slice am s.members.length cm) s.members.length rs rfl (hC8.ownM.alloc _) ⟨wr.heap.size, 0, none⟩ 1 1 [.slice (some ⟨gn, 0, none⟩) c cn] rfl rfl (cell_one_new _ _ _) (by simp [Value.oneCell']) (by decide) (by unfold maxLen; omega) (by omega) (by simp; omega) ?_; intro g4 cap4 w11 hown11 hgrow11 hwhere11)
                                              go_roundg (mu n adj ⟨s.order, s.low, rest, s.reached, compMid (compMid s.comp (-1) N0 c) (s.members.length : Int) l' c, s.members ++ [l']⟩)
                                              case measure => go_light; exact hmu
                                              case rel =>
                                                go_light
                                                have hOn9 : wr.ownsRow (w.heap.size + 9) 3 1 (.slice (some ⟨gn, 0, none⟩) c cn) l'.length (nodesV l') := by rw [hlc.out]; exact hOn8
                                                have hgsn : gs ≠ gn := fun e => hf7.1 (by rw [e]; rfl)
                                                have hC11 := hC8.addMember _ hOn9 (fun b e => by simp only [Value.ownBlock, Option.some.injEq] at e; subst e; simpa [Value.ownBlock] using hgsn) hgrow11 hown11
                                                refine ⟨_, _, _, rfl, hI', hall, hC11, ?_⟩
                                                exact owns_kept hOw8 (((Kept.refl (fun b => (Value.slice am s.members.length cm).ownBlock = some b) wr).alloc _).grown hgrow11 (fun b e _ => e)) (fun b e e2 => owns_apart hOw8 hC8.ownM (by decide) e e2)
                                    · as_aux_lemma =>
                                        have hI' := hI.popComp hfr hkd hlo s.low (fun _ _ => rfl) (compMid s.comp (-1) N0 c) s.members (-1) N0 (fun u => by rw [hN0]; exact mem_N0) (strict_of_short (by omega)) (fun u => compMid_one _ _ hN0 hc u) (.inl ⟨by omega, rfl, rfl⟩)
                                        have hmu := mu_pop (n := n) (adj := adj) hfr s.low rest rfl (compMid s.comp (-1) N0 c) s.members
                                        have hz : ¬ (1 : Int) < (c : Int) := by omega
                                        clear hm hc hR hN0 hlo hstk
                                        go_wp2
                                        go_roundg (mu n adj ⟨s.order, s.low, rest, s.reached, compMid s.comp (-1) N0 c, s.members⟩)
                                        case measure => go_light; exact hmu
                                        case rel => go_light; exact ⟨_, _, rs, rfl, hI', hall, hC8, hOw8⟩
                  · as_aux_lemma =>
                      cases rest with
                      | nil => exact absurd (hI.lowLast hfr) hlo
                      | cons f2 rest' =>
                        obtain ⟨p, kp, blp⟩ := f2
                        have hpn : p < n := hI.stkN (mem_stk.2 ⟨⟨p, kp, blp⟩, by rw [hfr]; simp, .inr rfl⟩)
                        have hpz : (p : Int) < (n : Int) := by omega
                        have hvp : v ≠ p := by
                          have hnd := hI.nodup
                          rw [hfr] at hnd
                          simp only [stk] at hnd
                          have h1 := (List.nodup_cons.1 (List.nodup_append.1 hnd).2.1).1
                          intro e; subst e; simp at h1
                        simp only [List.length_cons] at hO hfl t1 t2 t3 hcw
                        have t5 : wr.cell? ⟨gw, rest'.length * 2, none⟩ = some (.int .i64 (p : Int)) := by
                          rw [hO.cellAt _ (by omega), framesV_cons, List.getElem?_append_left (by rw [framesV_length]; simp only [List.length_cons]; omega)]
                          exact framesV_p _ _
                        have hlp2 := hC.tw.rL.cell hpn
                        have hfp2 := hC.tw.rL.frozen p
                        have hI' := hI.popKeep hfr hkd hlo
                        have hmu := mu_pop (n := n) (adj := adj) hfr (upd s.low p (min (s.low p) (s.low v))) (⟨p, kp, bl ++ v :: blp⟩ :: rest') rfl s.comp s.members
                        have hO5 : wr.ownsRow (w.heap.size + 9) 74 2 (.slice (some ⟨gw, 0, none⟩) (rest'.length + 1) cw) (rest'.length + 1) (framesV (⟨p, kp, bl ++ v :: blp⟩ :: rest')) := by
                          have h1 := owns_take hO (m := rest'.length + 1) (by omega)
                          rw [show (rest'.length + 1) * 2 = (⟨p, kp, blp⟩ :: rest').length * 2 by simp, framesV_take] at h1
                          rw [framesV_cons] at h1 ⊢
                          exact h1
                        go_wp2_with fail
                        go_region
                        go_wp2_with fail
                        go_quiet (fail)
                        go_wp2
                        go_roundg (mu n adj ⟨s.order, upd s.low p (min (s.low p) (s.low v)), ⟨p, kp, bl ++ v :: blp⟩ :: rest', s.reached, s.comp, s.members⟩)
                        case measure => go_light; exact hmu
                        case rel =>
                          go_light
                          rw [min_cast]
                          exact ⟨_, vs, rs, rfl, hI', hall, (CW.lowSet (s' := ⟨s.order, upd s.low p (min (s.low p) (s.low v)), ⟨p, kp, bl ++ v :: blp⟩ :: rest', s.reached, s.comp, s.members⟩) (hC.kept ((Kept.refl (fun _ => False) wr).drewN _) (fun _ _ h => h.elim)) rfl rfl rfl rfl (by rw [hfr]; simp [stk]) rfl).drewN _, owns_drewN (ownsRow_setCell_other (owns_drewN hO5 _) (by simp [Value.ownBlock]; omega) _) _⟩
      · as_aux_lemma =>
          have hoz : 1 ≤ s.order k := by omega
          go_wp2
          go_roundg (n - (k + 1))
          case measure => go_light; omega
          case rel =>
            go_light
            refine ⟨k + 1, s, vs, rs, by omega, rfl, by simp, hf, hI, fun v hv => ?_, hC⟩
            by_cases e : v = k
            · subst e; exact ho
            · exact hall v (by omega)
    · as_aux_lemma =>
        have hkz : ¬ (k : Int) < (n : Int) := by omega
        go_wp2
        go_ret2
        exact ⟨s, vs, _, rs, rfl, hC, hI.fin hf (fun v hv => hall v (by omega))⟩

end Go.Proofs.Qxb6601793a
