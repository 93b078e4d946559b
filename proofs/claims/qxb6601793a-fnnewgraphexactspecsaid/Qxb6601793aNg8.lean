import Derived.Test.Qxb6601793aNg7
import Derived.Deep.AppendLies
import Derived.Deep.RegionHeld3
import Derived.Deep.RegionLaw
import Derived.BigQuiet
import Derived.Deep.DeepCutAuto
namespace Go.Proofs.Qxb6601793a
open Go.RowKit Go.Deep Scc

theorem run_index68_0 (x y : ByteArray) (v : World) : (Instr.index 68 (.agg #[.string x, .string y]) (.int .i64 0)).run Try.prog v = .ok (.string x) v := by
  simp [Instr.index, run_underlying Try.underlying68, asIntOf, go_sem]
theorem run_index68_1 (x y : ByteArray) (v : World) : (Instr.index 68 (.agg #[.string x, .string y]) (.int .i64 1)).run Try.prog v = .ok (.string y) v := by
  simp [Instr.index, run_underlying Try.underlying68, asIntOf, go_sem]

set_option maxHeartbeats 40000000 in
set_option maxRecDepth 1000000 in
theorem ng_any (n : Nat) (hn : n ≤ 32768) (S : Nat → Nat → List UInt8) (hS : ∀ i q, (S i q).length ≤ 9223372036854775807) (w : World) (K : Nat → Prop) (v0 : Value) (h0 : Sl4 w K v0 n (fun i q => ⟨(S i q).toArray⟩)) :
    Calls Try.prog 31 #[v0] w fun e w' => NgPost n S w e w' := by
  obtain ⟨a0, c0, hv0⟩ := h0.shape
  subst hv0
  have hmm := @run_makeMap Try.prog
  obtain ⟨i9, hi9, hz90, hz91, hz92⟩ := info_parts Try.info9
  obtain ⟨i3, hi3, hz30, hz31, hz32⟩ := info_parts Try.info3
  have hmax : maxLen = 9223372036854775807 := rfl
  have hst := NG1.start w S
  go_enter Try.func31, Try.ntmps31
  go_wp2
  clear hmm
  go_loopg [3, 22] n (fun g v i wx => ∃ (k : Nat) (N0 : List (List UInt8)), k ≤ n ∧ g = n - k ∧ i = .int .i64 (k : Int) ∧ NG1 w S k 0 v N0 wx)
  case atStart => exact ⟨0, [], Nat.zero_le _, rfl, rfl, hst⟩
  case round =>
    clear hst
    obtain ⟨k, N0, hk, rfl, rfl, hG⟩ := hrel
    by_cases hkn : k < n
    · as_aux_lemma =>
        have hkz : (k : Int) < (n : Int) := by omega
        obtain ⟨b, o, cap, hv, hb, _, e0, e1, e2, e3⟩ := h0.at hkn
        simp only [Value.slice.injEq] at hv
        obtain ⟨rfl, _, rfl⟩ := hv
        rw [← hG.below.cell (p := ⟨b, o + k * 4, none⟩) hb] at e0
        rw [← hG.below.cell (p := ⟨b, o + k * 4 + 1, none⟩) hb] at e1
        rw [← hG.below.cell (p := ⟨b, o + k * 4 + 2, none⟩) hb] at e2
        rw [← hG.below.cell (p := ⟨b, o + k * 4 + 3, none⟩) hb] at e3
        have hG1 := hG.alloc (.cells #[.string ⟨(S k 0).toArray⟩, .string ⟨(S k 1).toArray⟩, .string ⟨(S k 2).toArray⟩, .string ⟨(S k 3).toArray⟩] 37)
        go_wp2
        clear e0 e1 e2 e3 hG
        go_loopg [3, 31] 2 (fun g v i wx => ∃ (j : Nat) (N0 : List (List UInt8)), j ≤ 2 ∧ g = 2 - j ∧ i = .int .i64 (j : Int) ∧ NG1 w S k j v N0 wx)
        case atStart => exact ⟨0, N0, by omega, rfl, rfl, hG1⟩
        case round =>
          clear hG1
          clear N0
          obtain ⟨j, N0, hj, rfl, rfl, hG⟩ := hrel
          have hl := hG.len
          have hB : w.heap.size < wr.heap.size := hG.map.lt
          have hj3 : j = 0 ∨ j = 1 ∨ j = 2 := by omega
          rcases hj3 with rfl | rfl | rfl
          · as_aux_lemma =>
              have hix := run_index68_0 ⟨(S k 0).toArray⟩ ⟨(S k 1).toArray⟩
              by_cases hin : S k 0 ∈ N0
              · have hG' := hG.skip (by omega) hin
                have hmi : (if S k 0 ∈ N0 then some (0 : Int) else none) = some 0 := if_pos hin
                go_wp2_with (at_lookup; refine wpList_map_ok _ rfl (.tmp 35) (.tmp 36) rfl w.heap.size N0.length _ rfl hG.map (S k 0) (hS k 0) rfl ?_; simp only [hmi, Option.getD_some, Option.isSome_some])
                go_roundg (2 - (0 + 1))
                case measure => go_light; omega
                case rel => go_light; exact ⟨0 + 1, N0, by omega, rfl, by simp, hG'⟩
              · have hmi : (if S k 0 ∈ N0 then some (0 : Int) else none) = none := if_neg hin
                go_wp2_with (first
                  | (at_lookup; refine wpList_map_ok _ rfl (.tmp 35) (.tmp 36) rfl w.heap.size N0.length _ rfl hG.map (S k 0) (hS k 0) rfl ?_; simp only [hmi, Option.getD_none, Option.isSome_none])
                  | (at_mapUpdate; refine wpList_map_set _ rfl (.tmp 42) (.tmp 43) (.const (.int .i64 0)) rfl w.heap.size N0.length _ rfl hG.map (by omega) (S k 0) (hS k 0) rfl 0 rfl (by decide) ?_; intro w1 hm1 hg1; have ho1 := owns_kept hG.own ((Kept.refl (fun b => b = w.heap.size) wr).grown hg1 (fun b e _ => by injection e with e; exact e.symm)) (fun b e e2 => by have := (hG.own.lt b e).1; omega); have hs1 := hg1.size)
                  | (at_builtin; refine wpList_append_where _ rfl (.tmp 44) (.tmp 46) 24 rfl (w.heap.size + 1) 9 i9 (.string ⟨#[]⟩) 1 16 Try.underlying24 hi9 hz90 hz91 hz92 rfl (by decide) _ N0.length (N0.map encStr) rfl (ho1.alloc _) ⟨w1.heap.size, 0, none⟩ 1 1 [encStr (S k 0)] rfl rfl (cell_one_new _ _ _) (by simp [Value.oneCell']) (by decide) (by omega) (by omega) (by simp; omega) ?_; intro g4 cap4 w2 hown2 hgrow2 hwhere2))
                have hG' := hG.add (by omega) hin hm1 hg1 _ hgrow2 hown2
                go_roundg (2 - (0 + 1))
                case measure => go_light; omega
                case rel => go_light; exact ⟨0 + 1, _, by omega, rfl, by simp, hG'⟩
          · as_aux_lemma =>
              have hix := run_index68_1 ⟨(S k 0).toArray⟩ ⟨(S k 1).toArray⟩
              by_cases hin : S k 1 ∈ N0
              · have hG' := hG.skip (by omega) hin
                have hmi : (if S k 1 ∈ N0 then some (0 : Int) else none) = some 0 := if_pos hin
                go_wp2_with (at_lookup; refine wpList_map_ok _ rfl (.tmp 35) (.tmp 36) rfl w.heap.size N0.length _ rfl hG.map (S k 1) (hS k 1) rfl ?_; simp only [hmi, Option.getD_some, Option.isSome_some])
                go_roundg (2 - (1 + 1))
                case measure => go_light; omega
                case rel => go_light; exact ⟨1 + 1, N0, by omega, rfl, by simp, hG'⟩
              · have hmi : (if S k 1 ∈ N0 then some (0 : Int) else none) = none := if_neg hin
                go_wp2_with (first
                  | (at_lookup; refine wpList_map_ok _ rfl (.tmp 35) (.tmp 36) rfl w.heap.size N0.length _ rfl hG.map (S k 1) (hS k 1) rfl ?_; simp only [hmi, Option.getD_none, Option.isSome_none])
                  | (at_mapUpdate; refine wpList_map_set _ rfl (.tmp 42) (.tmp 43) (.const (.int .i64 0)) rfl w.heap.size N0.length _ rfl hG.map (by omega) (S k 1) (hS k 1) rfl 0 rfl (by decide) ?_; intro w1 hm1 hg1; have ho1 := owns_kept hG.own ((Kept.refl (fun b => b = w.heap.size) wr).grown hg1 (fun b e _ => by injection e with e; exact e.symm)) (fun b e e2 => by have := (hG.own.lt b e).1; omega); have hs1 := hg1.size)
                  | (at_builtin; refine wpList_append_where _ rfl (.tmp 44) (.tmp 46) 24 rfl (w.heap.size + 1) 9 i9 (.string ⟨#[]⟩) 1 16 Try.underlying24 hi9 hz90 hz91 hz92 rfl (by decide) _ N0.length (N0.map encStr) rfl (ho1.alloc _) ⟨w1.heap.size, 0, none⟩ 1 1 [encStr (S k 1)] rfl rfl (cell_one_new _ _ _) (by simp [Value.oneCell']) (by decide) (by omega) (by omega) (by simp; omega) ?_; intro g4 cap4 w2 hown2 hgrow2 hwhere2))
                have hG' := hG.add (by omega) hin hm1 hg1 _ hgrow2 hown2
                go_roundg (2 - (1 + 1))
                case measure => go_light; omega
                case rel => go_light; exact ⟨1 + 1, _, by omega, rfl, by simp, hG'⟩
          · as_aux_lemma =>
              go_wp2
              go_roundg (n - (k + 1))
              case measure => go_light; omega
              case rel => go_light; exact ⟨k + 1, N0, by omega, rfl, by simp, hG.next⟩
    · as_aux_lemma =>
        have hkz : ¬ (k : Int) < (n : Int) := by omega
        have hkn2 : k = n := by omega
        rw [hkn2] at hG
        clear hkn2
        obtain ⟨hNlt, hNmem⟩ := hG.names
        have hl := hG.len
        obtain ⟨ao, cap, hvn⟩ := owns_slice hG.own
        subst hvn
        have HS : Hid (Calls Try.prog 34 #[.slice ao N0.length cap] wr fun e w' => e = .returned (.tuple #[]) ∧ w'.ownsRow (w.heap.size + 1) 9 1 (.slice ao N0.length cap) (sortS N0).length ((sortS N0).map encStr) ∧ wr.grownBy w' (Value.slice ao N0.length cap).ownBlock) := sort_names _ _ _ _ hG.own (by omega)
        obtain ⟨N, HN⟩ : ∃ N, Hid (N = sortS N0) := ⟨_, rfl⟩
        obtain ⟨m, Hm⟩ : ∃ m, Hid (m = N0.length) := ⟨_, rfl⟩
        have hNlen : N.length = m := by rw [Hm.out, HN.out]; exact (sortS_perm N0).length_eq
        rw [← HN.out] at hNlt hNmem
        have HNl : Hid (∀ i, (N.getD i []).length ≤ 9223372036854775807) := names_short hS hNmem
        have HNd : Hid N.Nodup := names_nodup hNlt
        have HNlt : Hid (N.Pairwise (· < ·)) := hNlt
        have HNmem : Hid (∀ s, s ∈ N ↔ ∃ i, i < n ∧ (s = S i 0 ∨ s = S i 1)) := hNmem
        clear hNlt hNmem
        rw [← Hm.out] at HS hl hG ⊢
        rw [← HN.out] at HS
        have hm : m ≤ 65536 := by omega
        go_wp2_with (go_at_call 34; refine HS.out.mono ?_; rintro e w2 ⟨rfl, hown2, hgr2⟩)
        rw [HN.out] at hown2
        have hG3 := NG3.start hG hown2 hgr2
        rw [← HN.out] at hG3
        clear HS hown2 hgr2 hl
        go_loopg [54] m (fun g i wx => ∃ (k : Nat) (mp : List UInt8 → Option Int), k ≤ m ∧ g = m - k ∧ i = .int .i64 (k : Int) ∧ NG3 w N (.slice ao m cap) mp k wx)
        case atStart => exact ⟨0, _, Nat.zero_le _, rfl, rfl, hG3⟩
        case round =>
          clear hG3 hG
          obtain ⟨k3, mp, hk3, rfl, rfl, hG⟩ := hrel
          by_cases hkm : k3 < m
          · as_aux_lemma =>
              have hkz : (k3 : Int) < (m : Int) := by omega
              obtain ⟨g3, cap3, hv, _, _, _, hg3⟩ := owns_shape hG.own (by omega)
              rw [hNlen] at hv
              simp only [Value.slice.injEq] at hv
              obtain ⟨rfl, _, rfl⟩ := hv
              have hcell := name_cell hG.own (i := k3) (by omega)
              have hkN : k3 < N.length := by omega
              have hnm := HNl.out k3
              obtain ⟨nm, Hnm⟩ : ∃ nm, Hid (nm = N.getD k3 []) := ⟨_, rfl⟩
              rw [← Hnm.out] at hcell hnm
              have hstep : Hid (∀ w1, MapIs w1 w.heap.size (N.length + k3 + 1) (fun t => if t = nm then some (k3 : Int) else mp t) → wr.grownBy w1 (some w.heap.size) → NG3 w N (.slice (some ⟨g3, 0, none⟩) m cap) (fun t => if t = nm then some (k3 : Int) else mp t) (k3 + 1) w1) := by
                intro w1 hm1 hg1
                rw [Hnm.out] at hm1 ⊢
                exact hG.step hkN HNd.out hm1 hg1
              clear hkN
              have hwf := wf_nat (k := k3) (by omega)
              go_wp2_with (at_mapUpdate; refine wpList_map_set _ rfl (.tmp 59) (.tmp 60) (.tmp 61) rfl w.heap.size (N.length + k3) mp rfl hG.map (by omega) nm hnm rfl (k3 : Int) rfl hwf ?_; intro w1 hm1 hg1)
              go_roundg (m - (k3 + 1))
              case measure => go_light; omega
              case rel => go_light; exact ⟨k3 + 1, _, by omega, rfl, by simp, hstep.out _ hm1 hg1⟩
          · as_aux_lemma =>
              have hkz : ¬ (k3 : Int) < (m : Int) := by omega
              have e3 : k3 = N.length := by omega
              rw [e3] at hG
              clear e3
              have hidx : Hid (∀ i, i < m → mp (N.getD i []) = some (i : Int)) := fun i hi => hG.idx i (by omega)
              have hmk := run_make_row' (P := Try.prog) 25 26 (.slice none 0 0) 24 Try.underlying25 Try.info26 rfl .i64 .i64 m (by omega) (by omega)
              go_upto_region 21 with fail
              obtain ⟨s, Hs⟩ : ∃ s, Hid (s = wr.heap.size) := ⟨_, rfl⟩
              go_cut [13] (fun v wc => v = .pointer (some ⟨s + 2, 0, none⟩) ∧ ∃ bo bi, NS w N (.slice ao m cap) mp (N.length + N.length) s bo bi m (.slice none 0 0) (fun _ => []) (fun _ => .slice none 0 0) wc)
              case first =>
                go_region
                all_goals (go_wp2_with fail)
                all_goals go_meet
                all_goals (refine ⟨by rw [Hs.out], ?_⟩)
                all_goals (rw [Hs.out])
                · exact ⟨_, _, (hG.graph _ _ m (.inl ⟨rfl, rfl⟩)).drew⟩
                · exact ⟨_, _, (hG.graph _ _ m (.inr ⟨rfl, rfl⟩)).drew⟩
              case rest =>
                obtain ⟨rfl, bo, bi, hN⟩ := hcut
                clear hmk hG
                have hM0 := NM.start S N m
                go_wp2_with fail
                go_loopg [74] n (fun g i wx => ∃ (k : Nat) (L : Nat → List Nat) (f : Nat → Value), k ≤ n ∧ g = n - k ∧ i = .int .i64 (k : Int) ∧ NS w N (.slice ao m cap) mp (N.length + N.length) s bo bi m (.slice none 0 0) L f wx ∧ NM S N m k L)
                case atStart => exact ⟨0, _, _, Nat.zero_le _, rfl, rfl, hN, hM0⟩
                case round =>
                  clear hN hM0
                  obtain ⟨k4, L, f, hk4, rfl, rfl, hN, hM⟩ := hrel
                  by_cases hkn4 : k4 < n
                  · as_aux_lemma =>
                      have hkz4 : (k4 : Int) < (n : Int) := by omega
                      obtain ⟨b, o, capx, hv, hb, _, e0, e1, e2, e3⟩ := h0.at hkn4
                      simp only [Value.slice.injEq] at hv
                      obtain ⟨rfl, _, rfl⟩ := hv
                      rw [← hN.below.cell (p := ⟨b, o + k4 * 4, none⟩) hb] at e0
                      rw [← hN.below.cell (p := ⟨b, o + k4 * 4 + 1, none⟩) hb] at e1
                      rw [← hN.below.cell (p := ⟨b, o + k4 * 4 + 2, none⟩) hb] at e2
                      rw [← hN.below.cell (p := ⟨b, o + k4 * 4 + 3, none⟩) hb] at e3
                      have hN1 := hN.alloc (.cells #[.string ⟨(S k4 0).toArray⟩, .string ⟨(S k4 1).toArray⟩, .string ⟨(S k4 2).toArray⟩, .string ⟨(S k4 3).toArray⟩] 37)
                      by_cases hne : S k4 0 = S k4 1
                      · have hq : (S k4 0 == S k4 1) = true := by simp [hne]
                        have Hne : Hid (S k4 0 = S k4 1) := hne
                        clear hne
                        go_wp2
                        go_roundg (n - (k4 + 1))
                        case measure => go_light; omega
                        case rel => go_light; exact ⟨k4 + 1, L, f, by omega, rfl, by simp, hN1, hM.skip Hne.out⟩
                      · as_aux_lemma =>
                          have hq : (S k4 0 == S k4 1) = false := by simp [hne]
                          have Hne : Hid (S k4 0 ≠ S k4 1) := hne
                          clear hne
                          obtain ⟨a, ha, haN⟩ := names_at ((HNmem.out _).2 ⟨k4, hkn4, .inl rfl⟩)
                          obtain ⟨c, hc, hcN⟩ := names_at ((HNmem.out _).2 ⟨k4, hkn4, .inr rfl⟩)
                          rw [hNlen] at ha hc
                          have hla : ∀ q, (Instr.lookup 67 (.map (some w.heap.size)) (.string ⟨(S k4 0).toArray⟩) false).run Try.prog ((wr.alloc (.cells #[.string ⟨(S k4 0).toArray⟩, .string ⟨(S k4 1).toArray⟩, .string ⟨(S k4 2).toArray⟩, .string ⟨(S k4 3).toArray⟩] 37)).drewN q) = .ok (.int .i64 (a : Int)) ((wr.alloc (.cells #[.string ⟨(S k4 0).toArray⟩, .string ⟨(S k4 1).toArray⟩, .string ⟨(S k4 2).toArray⟩, .string ⟨(S k4 3).toArray⟩] 37)).drewN q) := fun q => by
                            have h1 := (hN1.drewN q).map.run (s := S k4 0) (hS k4 0)
                            rw [← haN, hidx.out a ha, haN] at h1
                            exact h1
                          have hlc : ∀ q, (Instr.lookup 67 (.map (some w.heap.size)) (.string ⟨(S k4 1).toArray⟩) false).run Try.prog ((wr.alloc (.cells #[.string ⟨(S k4 0).toArray⟩, .string ⟨(S k4 1).toArray⟩, .string ⟨(S k4 2).toArray⟩, .string ⟨(S k4 3).toArray⟩] 37)).drewN q) = .ok (.int .i64 (c : Int)) ((wr.alloc (.cells #[.string ⟨(S k4 0).toArray⟩, .string ⟨(S k4 1).toArray⟩, .string ⟨(S k4 2).toArray⟩, .string ⟨(S k4 3).toArray⟩] 37)).drewN q) := fun q => by
                            have h1 := (hN1.drewN q).map.run (s := S k4 1) (hS k4 1)
                            rw [← hcN, hidx.out c hc, hcN] at h1
                            exact h1
                          have Haa : Hid (N.getD a [] = S k4 0 ∧ N.getD c [] = S k4 1) := ⟨haN, hcN⟩
                          clear haN hcN
                          go_upto_region 26 with fail
                          go_cut [16, 17] (fun v16 v17 wc => v16 = .int .i64 (a : Int) ∧ v17 = .int .i64 (c : Int) ∧ NS w N (.slice ao m cap) mp (N.length + N.length) s bo bi m (.slice none 0 0) L f wc)
                          case first =>
                            go_quiet (fail)
                            go_wp2_with fail
                            go_meet
                            exact ⟨rfl, rfl, hN1.drewN _⟩
                          clear hN hN1 hla hlc e0 e1 e2 e3
                          obtain ⟨rfl, rfl, hN2⟩ := hcut
                          go_upto_region 27 with fail
                          go_cut [16] (fun v wc => v = .int .i64 (a : Int) ∧ ∃ f', NS w N (.slice ao m cap) mp (N.length + N.length) s bo bi m (.slice none 0 0) (upd L a (L a ++ [c])) f' wc)
                          case first =>
                            obtain ⟨W, HW⟩ : ∃ W, Hid (W = wc) := ⟨_, rfl⟩
                            have hP : NS w N (.slice ao m cap) mp (N.length + N.length) s bo bi m (.slice none 0 0) (L) (f) W := by rw [HW.out]; exact hN2
                            rw [← HW.out]
                            have hB := hP.blocks
                            have hbs := hP.base
                            have hgl : s + 2 < W.heap.size := hP.g.lt
                            have hcg : W.cell? ⟨s + 2, 1, none⟩ = some (.slice (some ⟨bo, 0, none⟩) m m) := hP.g.cell (i := 1) (by decide)
                            have hct : W.cell? ⟨bo, a, none⟩ = some ((f) (a)) := hP.out.cell ha
                            have hfz := hP.out.frozen a
                            have hox := hP.rows (a) (by omega)
                            have hlx := hM.len (a)
                            obtain ⟨Lx, HLx⟩ : ∃ Lx, Hid (Lx = (L) (a)) := ⟨_, rfl⟩
                            obtain ⟨fx, Hfx⟩ : ∃ fx, Hid (fx = (f) (a)) := ⟨_, rfl⟩
                            have hLx : Lx.length ≤ k4 := by rw [HLx.out]; exact hlx
                            rw [← HLx.out, ← Hfx.out] at hox
                            rw [← Hfx.out] at hct
                            have htl : bo < W.heap.size := by omega
                            have hjz1 : (0 : Int) ≤ (a : Int) := by omega
                            have hjz2 : (a : Int) < (m : Int) := by omega
                            have after : Hid (∀ w1, (W.drew.alloc (.cells #[.int .i64 (c : Int)] 3)).grownBy w1 fx.ownBlock → w1.cell? ⟨s + 2, 1, none⟩ = some (.slice (some ⟨bo, 0, none⟩) m m) ∧ w1.cell? ⟨bo, a, none⟩ = some fx ∧ w1.frozen? ⟨bo, a, none⟩ = false) := by
                              intro w1 hg
                              have k1 : Kept (fun b => fx.ownBlock = some b) W w1 := (((Kept.refl _ W).drew).alloc _).grown hg (fun b e _ => e)
                              have hnot : ∀ b, b < s + 3 → ¬ fx.ownBlock = some b := fun b hb e => by have := (hox.lt b e).1; omega
                              exact ⟨(k1.cell (p := ⟨s + 2, 1, none⟩) hgl (hnot _ (by simp))).trans hcg, (k1.cell (p := ⟨bo, a, none⟩) htl (hnot _ (by simp; omega))).trans hct, (k1.frozen (p := ⟨bo, a, none⟩) htl (hnot _ (by simp; omega))).trans hfz⟩
                            have hput : Hid (∀ g cap1 w1, w1.ownsRow (s + 3) 3 1 (.slice (some ⟨g, 0, none⟩) (Lx.length + 1) cap1) (Lx.length + 1) (nodesV Lx ++ [.int .i64 (c : Int)]) → (W.drew.alloc (.cells #[.int .i64 (c : Int)] 3)).grownBy w1 fx.ownBlock → (fx.ownBlock = some g ∨ g = W.heap.size + 1) → ∃ f', NS w N (.slice ao m cap) mp (N.length + N.length) s bo bi m (.slice none 0 0) (upd L a (L a ++ [c])) f' (w1.setCell ⟨bo, a, none⟩ (.slice (some ⟨g, 0, none⟩) (Lx.length + 1) cap1))) := by
                              intro g cap1 w1 h1 h2 h3
                              have k1 : Kept (fun b => ((f) (a)).ownBlock = some b) W w1 := by rw [← Hfx.out]; exact (((Kept.refl _ W).drew).alloc _).grown h2 (fun b e _ => e)
                              have e1 : (Lx ++ [c]).length = Lx.length + 1 := by simp
                              have e2 : nodesV (Lx ++ [c]) = nodesV Lx ++ [.int .i64 (c : Int)] := by simp [nodesV]
                              have h4 := hP.put (x := a) (by omega) (Lx ++ [c]) (.slice (some ⟨g, 0, none⟩) (Lx.length + 1) cap1) k1 (by rw [e1, e2]; exact h1) (fun b e => by
                                have e3 : g = b := by simpa [Value.ownBlock] using e
                                subst e3
                                rcases h3 with h3 | h3
                                · exact .inl (by rw [← Hfx.out]; exact h3)
                                · exact .inr (by omega)) (t := bo) (j := a) (.inl ⟨rfl, rfl, ha⟩)
                              have e5 : upd (L) (a) (Lx ++ [c]) = upd (L) (a) ((L) (a) ++ [c]) := by rw [HLx.out]
                              rw [e5] at h4
                              exact ⟨_, h4⟩
                            clear hP
                            refine reg27 _ _ W s bo m a c fx Lx rfl rfl rfl rfl (fun _ _ _ _ _ h => h) hgl (by omega) ha (by omega) hcg hct hfz hox ?_
                            intro g cap1 w1 hown1 hgrow1 hat1
                            simp only [Act.put, List.setIfInBounds_toArray, List.set_cons_zero, List.set_cons_succ]
                            go_wp2_with fail
                            go_meet
                            exact ⟨rfl, hput.out _ _ _ hown1 hgrow1 hat1⟩
                          case rest =>
                            clear hN2
                            obtain ⟨rfl, f', hN⟩ := hcut
                            go_upto_region 28 with fail
                            obtain ⟨W, HW⟩ : ∃ W, Hid (W = wc) := ⟨_, rfl⟩
                            have hP : NS w N (.slice ao m cap) mp (N.length + N.length) s bo bi m (.slice none 0 0) (upd L a (L a ++ [c])) (f') W := by rw [HW.out]; exact hN
                            rw [← HW.out]
                            have hB := hP.blocks
                            have hbs := hP.base
                            have hgl : s + 2 < W.heap.size := hP.g.lt
                            have hcg : W.cell? ⟨s + 2, 2, none⟩ = some (.slice (some ⟨bi, 0, none⟩) m m) := hP.g.cell (i := 2) (by decide)
                            have hct : W.cell? ⟨bi, c, none⟩ = some ((f') (m + c)) := hP.inn.cell hc
                            have hfz := hP.inn.frozen c
                            have hox := hP.rows (m + c) (by omega)
                            have hlx := hM.len (m + c)
                            obtain ⟨Lx, HLx⟩ : ∃ Lx, Hid (Lx = (upd L a (L a ++ [c])) (m + c)) := ⟨_, rfl⟩
                            obtain ⟨fx, Hfx⟩ : ∃ fx, Hid (fx = (f') (m + c)) := ⟨_, rfl⟩
                            have hLx : Lx.length ≤ k4 := by rw [HLx.out]; exact (by rw [upd_other _ _ _ _ (by omega)]; exact hlx)
                            rw [← HLx.out, ← Hfx.out] at hox
                            rw [← Hfx.out] at hct
                            have htl : bi < W.heap.size := by omega
                            have hjz1 : (0 : Int) ≤ (c : Int) := by omega
                            have hjz2 : (c : Int) < (m : Int) := by omega
                            have after : Hid (∀ w1, (W.drew.alloc (.cells #[.int .i64 (a : Int)] 3)).grownBy w1 fx.ownBlock → w1.cell? ⟨s + 2, 2, none⟩ = some (.slice (some ⟨bi, 0, none⟩) m m) ∧ w1.cell? ⟨bi, c, none⟩ = some fx ∧ w1.frozen? ⟨bi, c, none⟩ = false) := by
                              intro w1 hg
                              have k1 : Kept (fun b => fx.ownBlock = some b) W w1 := (((Kept.refl _ W).drew).alloc _).grown hg (fun b e _ => e)
                              have hnot : ∀ b, b < s + 3 → ¬ fx.ownBlock = some b := fun b hb e => by have := (hox.lt b e).1; omega
                              exact ⟨(k1.cell (p := ⟨s + 2, 2, none⟩) hgl (hnot _ (by simp))).trans hcg, (k1.cell (p := ⟨bi, c, none⟩) htl (hnot _ (by simp; omega))).trans hct, (k1.frozen (p := ⟨bi, c, none⟩) htl (hnot _ (by simp; omega))).trans hfz⟩
                            have hput : Hid (∀ g cap1 w1, w1.ownsRow (s + 3) 3 1 (.slice (some ⟨g, 0, none⟩) (Lx.length + 1) cap1) (Lx.length + 1) (nodesV Lx ++ [.int .i64 (a : Int)]) → (W.drew.alloc (.cells #[.int .i64 (a : Int)] 3)).grownBy w1 fx.ownBlock → (fx.ownBlock = some g ∨ g = W.heap.size + 1) → ∃ f'', NS w N (.slice ao m cap) mp (N.length + N.length) s bo bi m (.slice none 0 0) (upd (upd L a (L a ++ [c])) (m + c) ((upd L a (L a ++ [c])) (m + c) ++ [a])) f'' (w1.setCell ⟨bi, c, none⟩ (.slice (some ⟨g, 0, none⟩) (Lx.length + 1) cap1))) := by
                              intro g cap1 w1 h1 h2 h3
                              have k1 : Kept (fun b => ((f') (m + c)).ownBlock = some b) W w1 := by rw [← Hfx.out]; exact (((Kept.refl _ W).drew).alloc _).grown h2 (fun b e _ => e)
                              have e1 : (Lx ++ [a]).length = Lx.length + 1 := by simp
                              have e2 : nodesV (Lx ++ [a]) = nodesV Lx ++ [.int .i64 (a : Int)] := by simp [nodesV]
                              have h4 := hP.put (x := m + c) (by omega) (Lx ++ [a]) (.slice (some ⟨g, 0, none⟩) (Lx.length + 1) cap1) k1 (by rw [e1, e2]; exact h1) (fun b e => by
                                have e3 : g = b := by simpa [Value.ownBlock] using e
                                subst e3
                                rcases h3 with h3 | h3
                                · exact .inl (by rw [← Hfx.out]; exact h3)
                                · exact .inr (by omega)) (t := bi) (j := c) (.inr ⟨rfl, rfl, hc⟩)
                              have e5 : upd (upd L a (L a ++ [c])) (m + c) (Lx ++ [a]) = upd (upd L a (L a ++ [c])) (m + c) ((upd L a (L a ++ [c])) (m + c) ++ [a]) := by rw [HLx.out]
                              rw [e5] at h4
                              exact ⟨_, h4⟩
                            clear hP
                            refine reg28 _ _ W s bi m c a fx Lx rfl rfl rfl rfl (fun _ _ _ _ _ h => h) hgl (by omega) hc (by omega) hcg hct hfz hox ?_
                            intro g cap1 w1 hown1 hgrow1 hat1
                            simp only [Act.put, List.setIfInBounds_toArray, List.set_cons_zero, List.set_cons_succ]
                            go_wp2
                            go_roundg (n - (k4 + 1))
                            case measure => go_light; omega
                            case rel =>
                              go_light
                              obtain ⟨f2, hN3⟩ := hput.out _ _ _ hown1 hgrow1 hat1
                              rw [upd_other L _ _ _ (show m + c ≠ a by omega)] at hN3
                              exact ⟨k4 + 1, _, f2, by omega, rfl, by simp, hN3, hM.add hNlen HNd.out ha hc Hne.out Haa.out.1 Haa.out.2⟩
                  · as_aux_lemma =>
                      have hkz4 : ¬ (k4 : Int) < (n : Int) := by omega
                      have e4 : k4 = n := by omega
                      rw [e4] at hM
                      clear e4
                      have hmk := run_make_row' (P := Try.prog) 26 3 (.int .i64 0) 8 Try.underlying26 Try.info3 rfl .i64 .i64 (m + 1) (by omega) (by omega)
                      have e5 : ((m + 1 : Nat) : Int) = (m : Int) + 1 := by omega
                      simp only [e5] at hmk
                      clear e5
                      have d1 : (wr.alloc (.cells (madeCells #[.int .i64 0] (m + 1)) 3)).cell? ⟨s + 2, 3, none⟩ = some (.slice none 0 0) := (hN.alloc _).g.cell (i := 3) (by decide)
                      have d2 : (wr.alloc (.cells (madeCells #[.int .i64 0] (m + 1)) 3)).frozen? ⟨s + 2, 3, none⟩ = false := (hN.alloc _).g.frozen 3
                      have hF := NF.start hN
                      obtain ⟨bf, Hbf⟩ : ∃ bf, Hid (bf = wr.heap.size) := ⟨_, rfl⟩
                      have hA := As.start m L
                      clear hN
                      go_wp2_with fail
                      go_loopg [133] m (fun g i wx => ∃ (k : Nat) (L : Nat → List Nat) (f : Nat → Value) (F : Nat → Nat), k ≤ m ∧ g = m - k ∧ i = .int .i64 (k : Int) ∧ NF w N (.slice ao m cap) mp (N.length + N.length) s bo bi m bf L f F wx ∧ NM S N m n L ∧ As m k k k L F)
                      case atStart =>
                        rw [← Hbf.out] at hF ⊢
                        exact ⟨0, _, _, _, Nat.zero_le _, rfl, rfl, hF, hM, hA⟩
                      case round =>
                        clear hmk d1 d2 hF hM hA L f
                        obtain ⟨k5, L, f, F, hk5, rfl, rfl, hF, hM, hA⟩ := hrel
                        by_cases hkm5 : k5 < m
                        · as_aux_lemma =>
                            obtain ⟨W, HW⟩ : ∃ W, Hid (W = wr) := ⟨_, rfl⟩
                            have hP : NF w N (.slice ao m cap) mp (N.length + N.length) s bo bi m bf L f F W := by rw [HW.out]; exact hF
                            rw [← HW.out]
                            have hB := hP.ns.blocks
                            have hgl : s + 2 < W.heap.size := hP.ns.g.lt
                            have hcg : W.cell? ⟨s + 2, 1, none⟩ = some (.slice (some ⟨bo, 0, none⟩) m m) := hP.ns.g.cell (i := 1) (by decide)
                            have hct : W.cell? ⟨bo, k5, none⟩ = some (f (k5)) := hP.ns.out.cell hkm5
                            obtain ⟨fx, Hfx⟩ : ∃ fx, Hid (fx = f (k5)) := ⟨_, rfl⟩
                            rw [← Hfx.out] at hct
                            have hlen : (L (k5)).length ≤ n := hM.len _
                            have HS : Hid (Calls Try.prog 35 #[fx] W fun e w' => e = .returned (.tuple #[]) ∧ ∃ l' : List Nat, l'.Perm (L (k5)) ∧ l'.Pairwise (· ≤ ·) ∧ w'.ownsRow (s + 3) 3 1 fx l'.length (nodesV l') ∧ Kept (fun b => fx.ownBlock = some b) W w') := by
                              rw [Hfx.out]; exact sort_row (s + 3) _ _ W (hP.ns.rows _ (by omega)) (by omega)
                            have hkz : (k5 : Int) < (m : Int) := by omega
                            go_wp2_with (go_at_call 35; refine HS.out.mono ?_; rintro e w1 ⟨rfl, l1, hp1, hs1, ho1, kk1⟩)
                            have hP1 : NF w N (.slice ao m cap) mp (N.length + N.length) s bo bi m bf (upd L (k5) l1) f F w1 := hP.same (by omega) l1 (by rw [← Hfx.out]; exact kk1) (by rw [← Hfx.out]; exact ho1)
                            have hM1 := hM.change (x := k5) (l' := l1) (fun y => hp1.mem_iff) (by rw [hp1.length_eq]; exact hlen)
                            have hl1 : l1.length ≤ n := by rw [hp1.length_eq]; exact hlen
                            clear HS hcg hct hgl
                            have hgl : s + 2 < w1.heap.size := hP1.ns.g.lt
                            have hcg : w1.cell? ⟨s + 2, 1, none⟩ = some (.slice (some ⟨bo, 0, none⟩) m m) := hP1.ns.g.cell (i := 1) (by decide)
                            have hct : w1.cell? ⟨bo, k5, none⟩ = some fx := by rw [Hfx.out]; exact hP1.ns.out.cell hkm5
                            have hfz := hP1.ns.out.frozen k5
                            have HC : Hid (Calls Try.prog 36 #[fx] w1.drew fun e w2 => ∃ uo ul uc, e = .returned (.slice uo ul uc) ∧ (∃ l' : List Nat, l'.Pairwise (· < ·) ∧ (∀ y, y ∈ l' ↔ y ∈ l1) ∧ l'.length ≤ l1.length ∧ w2.ownsRow (s + 3) 3 1 (.slice uo ul uc) l'.length (nodesV l') ∧ (∀ b, (Value.slice uo ul uc).ownBlock = some b → fx.ownBlock = some b)) ∧ Kept (fun b => fx.ownBlock = some b) w1 w2) := compact_row (s + 3) fx l1 w1 ho1 (by omega) hs1
                            have hnot : ∀ b, b < s + 3 → ¬ fx.ownBlock = some b := fun b hb e => by have := (ho1.lt b e).1; omega
                            go_upto_region 35 with fail
                            go_cut [18] (fun v wc => v = .int .i64 (k5 : Int) ∧ ∃ (L : Nat → List Nat) (f : Nat → Value), NF w N (.slice ao m cap) mp (N.length + N.length) s bo bi m bf L f F wc ∧ NM S N m n L ∧ As m (k5 + 1) k5 k5 L F)
                            case first =>
                              refine reg35 _ _ w1 s bo m k5 fx (fun v w2 => ∃ l' : List Nat, l'.Pairwise (· < ·) ∧ (∀ y, y ∈ l' ↔ y ∈ l1) ∧ l'.length ≤ l1.length ∧ w2.ownsRow (s + 3) 3 1 v l'.length (nodesV l') ∧ (∀ b, v.ownBlock = some b → fx.ownBlock = some b)) rfl rfl rfl (fun _ _ _ _ _ h => h) hgl (by omega) hkm5 hnot hcg hct hfz HC.out ?_
                              rintro uo ul uc w2 ⟨l2, hs2, hm2, hl2, ho2, hv2⟩ kk2
                              simp only [Act.put, List.setIfInBounds_toArray, List.set_cons_zero, List.set_cons_succ]
                              go_wp2_with fail
                              go_meet
                              have hP2 := hP1.put (x := k5) (by omega) l2 (.slice uo ul uc) (by rw [← Hfx.out]; exact kk2) ho2 (by rw [← Hfx.out]; exact hv2) (t := bo) (j := k5) (.inl ⟨rfl, rfl, hkm5⟩)
                              have hM2 := hM1.change (x := k5) (l' := l2) (fun y => by rw [upd_same]; exact hm2 y) (by omega)
                              exact ⟨rfl, _, _, hP2, hM2, (hA.change (x := k5) l1 (by omega) ⟨by omega, .inl hkm5⟩).out hkm5 hs2⟩
                            case rest =>
                              clear hP hP1 hM hM1 hA hF hgl hcg hct hfz HC hnot hs1 ho1 kk1 hp1 hl1 hlen Hfx HW
                              clear L f
                              obtain ⟨rfl, L, f, hF, hM, hA⟩ := hcut
                              obtain ⟨W, HW⟩ : ∃ W, Hid (W = wc) := ⟨_, rfl⟩
                              have hP : NF w N (.slice ao m cap) mp (N.length + N.length) s bo bi m bf L f F W := by rw [HW.out]; exact hF
                              rw [← HW.out]
                              have hB := hP.ns.blocks
                              have hgl : s + 2 < W.heap.size := hP.ns.g.lt
                              have hcg : W.cell? ⟨s + 2, 2, none⟩ = some (.slice (some ⟨bi, 0, none⟩) m m) := hP.ns.g.cell (i := 2) (by decide)
                              have hct : W.cell? ⟨bi, k5, none⟩ = some (f (m + k5)) := hP.ns.inn.cell hkm5
                              obtain ⟨fx, Hfx⟩ : ∃ fx, Hid (fx = f (m + k5)) := ⟨_, rfl⟩
                              rw [← Hfx.out] at hct
                              have hlen : (L (m + k5)).length ≤ n := hM.len _
                              have HS : Hid (Calls Try.prog 35 #[fx] W fun e w' => e = .returned (.tuple #[]) ∧ ∃ l' : List Nat, l'.Perm (L (m + k5)) ∧ l'.Pairwise (· ≤ ·) ∧ w'.ownsRow (s + 3) 3 1 fx l'.length (nodesV l') ∧ Kept (fun b => fx.ownBlock = some b) W w') := by
                                rw [Hfx.out]; exact sort_row (s + 3) _ _ W (hP.ns.rows _ (by omega)) (by omega)
                              have hkz : (k5 : Int) < (m : Int) := by omega
                              go_wp2_with (go_at_call 35; refine HS.out.mono ?_; rintro e w1 ⟨rfl, l1, hp1, hs1, ho1, kk1⟩)
                              have hP1 : NF w N (.slice ao m cap) mp (N.length + N.length) s bo bi m bf (upd L (m + k5) l1) f F w1 := hP.same (by omega) l1 (by rw [← Hfx.out]; exact kk1) (by rw [← Hfx.out]; exact ho1)
                              have hM1 := hM.change (x := m + k5) (l' := l1) (fun y => hp1.mem_iff) (by rw [hp1.length_eq]; exact hlen)
                              have hl1 : l1.length ≤ n := by rw [hp1.length_eq]; exact hlen
                              clear HS hcg hct hgl
                              have hgl : s + 2 < w1.heap.size := hP1.ns.g.lt
                              have hcg : w1.cell? ⟨s + 2, 2, none⟩ = some (.slice (some ⟨bi, 0, none⟩) m m) := hP1.ns.g.cell (i := 2) (by decide)
                              have hct : w1.cell? ⟨bi, k5, none⟩ = some fx := by rw [Hfx.out]; exact hP1.ns.inn.cell hkm5
                              have hfz := hP1.ns.inn.frozen k5
                              have HC : Hid (Calls Try.prog 36 #[fx] w1.drew fun e w2 => ∃ uo ul uc, e = .returned (.slice uo ul uc) ∧ (∃ l' : List Nat, l'.Pairwise (· < ·) ∧ (∀ y, y ∈ l' ↔ y ∈ l1) ∧ l'.length ≤ l1.length ∧ w2.ownsRow (s + 3) 3 1 (.slice uo ul uc) l'.length (nodesV l') ∧ (∀ b, (Value.slice uo ul uc).ownBlock = some b → fx.ownBlock = some b)) ∧ Kept (fun b => fx.ownBlock = some b) w1 w2) := compact_row (s + 3) fx l1 w1 ho1 (by omega) hs1
                              have hnot : ∀ b, b < s + 3 → ¬ fx.ownBlock = some b := fun b hb e => by have := (ho1.lt b e).1; omega
                              go_upto_region 37 with fail
                              go_cut [18] (fun v wc => v = .int .i64 (k5 : Int) ∧ ∃ (L : Nat → List Nat) (f : Nat → Value), NF w N (.slice ao m cap) mp (N.length + N.length) s bo bi m bf L f F wc ∧ NM S N m n L ∧ As m (k5 + 1) (k5 + 1) k5 L F)
                              case first =>
                                refine reg37 _ _ w1 s bi m k5 fx (fun v w2 => ∃ l' : List Nat, l'.Pairwise (· < ·) ∧ (∀ y, y ∈ l' ↔ y ∈ l1) ∧ l'.length ≤ l1.length ∧ w2.ownsRow (s + 3) 3 1 v l'.length (nodesV l') ∧ (∀ b, v.ownBlock = some b → fx.ownBlock = some b)) rfl rfl rfl (fun _ _ _ _ _ h => h) hgl (by omega) hkm5 hnot hcg hct hfz HC.out ?_
                                rintro uo ul uc w2 ⟨l2, hs2, hm2, hl2, ho2, hv2⟩ kk2
                                simp only [Act.put, List.setIfInBounds_toArray, List.set_cons_zero, List.set_cons_succ]
                                go_wp2_with fail
                                go_meet
                                have hP2 := hP1.put (x := m + k5) (by omega) l2 (.slice uo ul uc) (by rw [← Hfx.out]; exact kk2) ho2 (by rw [← Hfx.out]; exact hv2) (t := bi) (j := k5) (.inr ⟨rfl, rfl, hkm5⟩)
                                have hM2 := hM1.change (x := m + k5) (l' := l2) (fun y => by rw [upd_same]; exact hm2 y) (by omega)
                                exact ⟨rfl, _, _, hP2, hM2, (hA.change (x := m + k5) l1 (by omega) ⟨by omega, .inr (by omega)⟩).inn (by omega) (by omega) hs2⟩
                              case rest =>
                                clear hP hP1 hM hM1 hA hF hgl hcg hct hfz HC hnot hs1 ho1 kk1 hp1 hl1 hlen Hfx HW
                                clear L f
                                obtain ⟨rfl, L, f, hF, hM, hA⟩ := hcut
                                obtain ⟨W, HW⟩ : ∃ W, Hid (W = wc) := ⟨_, rfl⟩
                                have hP : NF w N (.slice ao m cap) mp (N.length + N.length) s bo bi m bf L f F W := by rw [HW.out]; exact hF
                                rw [← HW.out]
                                have hk1m : k5 + 1 < m + 1 := by omega
                                have c1 : W.cell? ⟨s + 2, 3, none⟩ = some (.slice (some ⟨bf, 0, none⟩) (m + 1) (m + 1)) := hP.ns.g.cell (i := 3) (by decide)
                                have c2 : W.cell? ⟨s + 2, 1, none⟩ = some (.slice (some ⟨bo, 0, none⟩) m m) := hP.ns.g.cell (i := 1) (by decide)
                                have c3 : W.cell? ⟨bf, k5, none⟩ = some (.int .i64 (F k5 : Int)) := hP.first.cell (by omega)
                                obtain ⟨fo, fc, hfx⟩ := owns_slice (hP.ns.rows k5 (by omega))
                                have c4 : W.cell? ⟨bo, k5, none⟩ = some (.slice fo (L k5).length fc) := by rw [← hfx]; exact hP.ns.out.cell hkm5
                                have c5 : W.cell? ⟨bf, k5 + 1, none⟩ = some (.int .i64 (F (k5 + 1) : Int)) := hP.first.cell hk1m
                                have c6 := hP.first.frozen (k5 + 1)
                                have hFk : F k5 ≤ 1099511627776 := by
                                  rw [hA.fs k5 (Nat.le_refl _)]
                                  have h1 := sumTo_le_mul k5 (fun x => (L x).length) n (fun i _ => hM.len i)
                                  have h2 : k5 * n ≤ 65536 * 32768 := Nat.mul_le_mul (by omega) hn
                                  omega
                                have hLk : (L k5).length ≤ 1099511627776 := by have := hM.len k5; omega
                                have hnext := (hP.drew).next (k5 + 1) (F k5 + (L k5).length)
                                have e7 : ((F k5 + (L k5).length : Nat) : Int) = (F k5 : Int) + ((L k5).length : Int) := by omega
                                rw [e7] at hnext
                                clear e7 hfx hk1m
                                go_upto_region 38 with fail
                                refine reg38 _ _ W s bo bf m k5 (F k5) (L k5).length fc fo (.int .i64 (F (k5 + 1) : Int)) rfl rfl rfl (fun _ _ _ _ _ h => h) hkm5 hm hFk hLk c1 c2 c3 c4 c5 c6 ?_
                                simp only [Act.put, List.setIfInBounds_toArray, List.set_cons_zero, List.set_cons_succ]
                                go_wp2
                                go_roundg (m - (k5 + 1))
                                case measure => go_light; omega
                                case rel =>
                                  go_light
                                  exact ⟨k5 + 1, L, f, _, by omega, rfl, by simp, hnext, hM, hA.next⟩
                        · as_aux_lemma =>
                            have hkz : ¬ (k5 : Int) < (m : Int) := by omega
                            have e6 : k5 = m := by omega
                            rw [e6] at hA
                            clear e6
                            go_wp2
                            go_ret
                            exact ⟨N, .slice ao m cap, mp, N.length + N.length, s, bo, bi, m, bf, L, f, F, rfl, hF, hNlen, hm, HNlt.out, HNmem.out, hM, hA⟩

end Go.Proofs.Qxb6601793a
