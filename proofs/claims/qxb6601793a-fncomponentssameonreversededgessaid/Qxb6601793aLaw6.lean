import Derived.Test.Qxb6601793aCommon
import Derived.Test.Qxb6601793aBytes
import Derived.Test.Qxb6601793aReverse
import Derived.Test.Qxb6601793aEq
import Derived.Deep.DeepCutAuto
namespace Go.Proofs.Qxb6601793a
open Go.RowKit Go.Deep Scc

set_option maxHeartbeats 40000000 in
set_option maxRecDepth 1000000 in
theorem law6_walk (hcomps : CompsSaid) (nN nO : Nat) (S : Nat → ByteArray) (rows : Nat → List Int) (W : World) (K : Nat → Prop) (v0 v1 : Value) (hnN : nN ≤ 9223372036854775807) (hnO : nO ≤ 9223372036854775807)
    (hS : ∀ i, (S i).size ≤ 9223372036854775807) (hrl : ∀ i, (rows i).length ≤ 9223372036854775807) (h0 : Sl W K v0 nN (fun i => .string (S i))) (h1 : MatZ W K v1 nO rows) :
    Calls Try.prog 6 #[v0, v1] W fun e w' => LawPost W e w' := by
  have HB : Hid (Calls Try.prog 24 #[v0, v1] W fun e w' => SomeBool W e w') := bytes24_any nN nO S rows W K v0 v1 hnN hnO hS hrl h0 h1
  have HF : Hid (Calls Try.prog 20 #[v0, v1, .int .i64 65536] W fun e w' => FitsPost 65536 nN nO rows W e w') := fits_any 65536 (by omega) (by omega) nN nO S rows W K v0 v1 hnN hnO hS hrl h0 h1
  go_enter Try.func6, Try.ntmps6
  go_wp2_with fail
  refine HB.out.mono ?_
  rintro e w' ⟨b1, rfl, rfl⟩
  cases b1
  · go_wp2
    go_ret
    exact ⟨rfl, Below.refl _ _⟩
  go_wp2_with fail
  refine HF.out.mono ?_
  rintro e w' ⟨b2, rfl, rfl, hfit⟩
  cases b2
  · go_wp2
    go_ret
    exact ⟨rfl, Below.refl _ _⟩
  obtain ⟨hmost, hnn, hr⟩ := hfit rfl
  subst hnn
  obtain ⟨n, hnn⟩ : ∃ n, n = nO := ⟨_, rfl⟩
  subst hnn
  obtain ⟨adj, hadjE⟩ : ∃ adj, adj = adjOf n rows := ⟨_, rfl⟩
  have hM0 : Mat w' K v1 n adj := by rw [hadjE]; exact adjOf_mat h1 (fun i hi => (hr i hi).2)
  have hadj : ∀ v y, y ∈ adj v → v < n ∧ y < n := by rw [hadjE]; exact adjOf_lt (fun i hi => (hr i hi).2)
  have hlen : ∀ v, v < n → (adj v).length ≤ 131072 := by rw [hadjE]; exact adjOf_len (fun i hi => (hr i hi).1)
  have hn : n ≤ 65536 := by omega
  obtain ⟨a0, c0, rfl⟩ := h0.shape
  obtain ⟨a1, c1, rfl⟩ := h1.shape
  clear hadjE hr hfit HB HF h1 hrl hmost
  go_upto_if 25 with fail
  go_cut [0, 5] (fun s0 _ wc => ∃ ao cap, s0 = .slice ao n cap ∧ Below w'.heap.size w' wc)
  case first =>
    as_aux_lemma =>
      cases a0 with
      | none =>
        go_wp2_with fail
        go_meet
        exact ⟨none, c0, rfl, Below.refl _ _⟩
      | some ad =>
        have hmk := run_make_row' (P := Try.prog) 24 9 (.string ⟨#[]⟩) 16 Try.underlying24 Try.info9 rfl .i64 .i64 n (by omega) (by omega)
        obtain ⟨Wm, hWm⟩ : ∃ Wm, Wm = w'.alloc (.cells (madeCells #[.string ⟨#[]⟩] n) 9) := ⟨_, rfl⟩
        have g1 : Wm.heap[w'.heap.size]? = some (.cells (madeCells #[.string ⟨#[]⟩] n).toList.toArray 9 (0, 0)) := by rw [hWm, heap_new _ _ _ rfl]
        have b1 : Below w'.heap.size w' Wm := by rw [hWm]; exact (Below.refl _ _).alloc (Nat.le_refl _) _
        have hpos : 0 < ((List.range n).map fun i => Value.string (S i)).length → some (⟨w'.heap.size, 0, none⟩ : Addr) = some ⟨w'.heap.size, 0, none⟩ ∧ ∃ ad', some ad = some ad' ∧ ∀ j v, ((List.range n).map fun i => Value.string (S i))[j]? = some v → Wm.cell? (ad'.add j) = some v := by
          intro _
          refine ⟨rfl, ad, rfl, fun j v hv => ?_⟩
          have hj : j < n := by
            rcases Nat.lt_or_ge j n with h | h
            · exact h
            · rw [List.getElem?_eq_none (by simpa using h)] at hv; simp at hv
          obtain ⟨b, o, cap, hv0, hb, _, hcell⟩ := h0.at hj
          simp only [Value.slice.injEq, Option.some.injEq] at hv0
          obtain ⟨rfl, _, _⟩ := hv0
          simp [hj] at hv
          subst hv
          rw [addr_add, b1.cell (p := ⟨b, o + j, none⟩) hb]
          exact hcell j hj
        have HWm : Hid (Wm = w'.alloc (.cells (madeCells #[.string ⟨#[]⟩] n) 9)) := hWm
        clear hWm
        go_upto_region 7 with fail
        go_wp2_with (rw [← HWm.out]; refine wpList_copy_splice rfl (.tmp 29) (.tmp 30) 24 24 rfl 9 Try.underlying24 Try.size9 (some ⟨w'.heap.size, 0, none⟩) (some ad) n n n c0 rfl rfl w'.heap.size 0 (madeCells #[.string ⟨#[]⟩] n).toList 9 g1 ((List.range n).map fun i => Value.string (S i)) (by simp) hpos (by simp [size_madeCells]) (by simp [Value.oneCell']) w'.heap.size w' b1 (Nat.le_refl _) ?_; intro w2 hw2 hb2)
        go_meet
        exact ⟨_, n, rfl, hb2⟩
  case rest =>
    obtain ⟨ao, cap, rfl, hbW⟩ := hcut
    clear h0 hS
    as_aux_lemma =>
      have hMc := hM0.below hbW
      have HR : Hid (Calls Try.prog 22 #[.slice a1 n c1, .int .i64 (n : Int)] wc fun e w' => RevPost 131072 n adj wc e w') := reverse_any 131072 n adj (by omega) (Nat.le_trans (Nat.mul_le_mul_right _ hn) (by decide)) (fun v _ y hy => (hadj v y hy).2) hlen K _ wc hMc
      go_wp2_with fail
      refine HR.out.mono ?_
      rintro e w2 ⟨L, f, rfl, hR⟩
      have hLm : ∀ x u, u ∈ L x ↔ x ∈ adj u := fun x u => by
        rw [hR.mem]
        simp only [List.take_zero, List.not_mem_nil, and_false, or_false]
        exact ⟨fun h => h.2, fun h => ⟨(hadj u x h).1, h⟩⟩
      have hLl : ∀ v, v < n → (L v).length ≤ 1099511627776 := fun v _ => Nat.le_trans (hR.len v) (by have h1 : n * 131072 ≤ 65536 * 131072 := Nat.mul_le_mul_right _ hn; omega)
      have hLa : ∀ v, v < n → ∀ y ∈ L v, y < n := fun v _ y hy => (hadj y v ((hLm v y).1 hy)).1
      have hM2 := hMc.below hR.below
      have HZ : Hid (Calls Try.prog 21 #[.slice ao n cap, .slice a1 n c1] w2 fun e w' => CompOutPost n adj w2 e w') := zz_any hcomps n adj (by omega) (fun v _ y hy => (hadj v y hy).2) (fun v hv => Nat.le_trans (hlen v hv) (by omega)) K _ w2 ao cap hM2
      go_wp2_with fail
      refine HZ.out.mono ?_
      rintro e w3 ⟨comp1, mem1, bC1, vm1, rfl, hO1⟩
      have hMb := hR.mat.below hO1.below
      have HZ2 : Hid (Calls Try.prog 21 #[.slice ao n cap, .slice (some ⟨wc.heap.size, 0, none⟩) n n] w3 fun e w' => CompOutPost n L w3 e w') := zz_any hcomps n L (by omega) hLa hLl _ _ w3 ao cap hMb
      go_wp2_with fail
      refine HZ2.out.mono ?_
      rintro e w4 ⟨comp2, mem2, bC2, vm2, rfl, hO2⟩
      obtain ⟨am1, cm1, hvm1⟩ := hO1.mem.shape
      subst hvm1
      obtain ⟨am2, cm2, hvm2⟩ := hO2.mem.shape
      subst hvm2
      obtain ⟨hpl, hp0, hpm⟩ := law6_plain hO1.cinv hO2.cinv hLm
      have hbW4 : Below w'.heap.size w' w4 := ((hbW.trans (hR.below.mono hbW.size)).trans (hO1.below.mono (Nat.le_trans hbW.size hR.below.size))).trans (hO2.below.mono (Nat.le_trans (Nat.le_trans hbW.size hR.below.size) hO1.below.size))
      have r1 : w4.rowIs bC1 3 n (fun i => .int .i64 (comp1 i)) := hO1.row.of_block (hO2.below.block bC1 hO1.row.lt)
      have r2 := hO2.row
      have hm1 := hO1.mem.below hO2.below
      have hm2 := hO2.mem
      have hl1 := hO1.len
      have hl2 := hO2.len
      have hcin2 := hO2.cinv.compIn
      clear HR HZ HZ2 hR hM2 hMb hMc hO1 hO2 hM0 hbW hLm hLl hLa hadj hlen
      obtain ⟨M, hM1⟩ : ∃ M, M = mem1.length := ⟨_, rfl⟩
      rw [← hpl, ← hM1] at hm2 hl2
      rw [← hM1] at hpm hm1 hl1
      rw [← hpl, ← hM1] at hpm hcin2 ⊢
      clear hpl hM1
      go_wp2
      go_loopg [12] n (fun g i wx => ∃ (k m : Nat), k ≤ n ∧ g = n - k ∧ i = .int .i64 (k : Int) ∧ w4.drewN m = wx)
      case atStart => exact ⟨0, 0, Nat.zero_le _, rfl, rfl, rfl⟩
      case round =>
        obtain ⟨k, m, hk, rfl, rfl, rfl⟩ := hrel
        by_cases hkn : k < n
        · as_aux_lemma =>
            have hkz : (k : Int) < (n : Int) := by omega
            have e1 := r1.cell hkn
            have e2 := r2.cell hkn
            have hp := hp0 k hkn
            generalize comp1 k = u at *
            generalize comp2 k = v at *
            by_cases hu : 0 ≤ u
            · have hv := hp.1 hu
              have hu' : ¬ u < 0 := by omega
              have hv' : ¬ v < 0 := by omega
              have hud : decide (u < 0) = false := decide_eq_false hu'
              have hvd : decide (v < 0) = false := decide_eq_false hv'
              clear hp
              go_wp2_with fail
              go_quiet (fail)
              go_wp2
              go_roundg (n - (k + 1))
              case measure => go_light; omega
              case rel => go_light; exact ⟨k + 1, _, by omega, rfl, by simp, rfl⟩
            · have hv : ¬ 0 ≤ v := fun h => hu (hp.2 h)
              have hu' : u < 0 := by omega
              have hv' : v < 0 := by omega
              clear hp hv hu
              go_wp2_with fail
              go_quiet (fail)
              go_wp2
              go_roundg (n - (k + 1))
              case measure => go_light; omega
              case rel => go_light; exact ⟨k + 1, _, by omega, rfl, by simp, rfl⟩
        · as_aux_lemma =>
            have hkz : ¬ (k : Int) < (n : Int) := by omega
            go_wp2
            go_loopg [13] M (fun g i wx => ∃ (k m : Nat), k ≤ M ∧ g = M - k ∧ i = .int .i64 (k : Int) ∧ w4.drewN m = wx)
            case atStart => exact ⟨0, m, Nat.zero_le _, rfl, rfl, rfl⟩
            case round =>
              clear hkn hk hkz
              obtain ⟨k, m, hk, rfl, rfl, rfl⟩ := hrel
              by_cases hkm : k < M
              · as_aux_lemma =>
                  have hkz : (k : Int) < (M : Int) := by omega
                  obtain ⟨hln2, hlnn, hfn, j, hjm, hcj, heq⟩ := hpm k hkm
                  obtain ⟨f1, hs1, hr1⟩ := hm1
                  obtain ⟨f2, hs2, hr2⟩ := hm2
                  have sl1 : Sl w4 (fun _ => True) (f1 k) (mem1.getD k []).length (fun i => .int .i64 (((mem1.getD k []).getD i 0 : Nat) : Int)) := hr1 k hkm
                  have sl2 : Sl w4 (fun _ => True) (f2 j) (mem2.getD j []).length (fun i => .int .i64 (((mem2.getD j []).getD i 0 : Nat) : Int)) := hr2 j hjm
                  rw [heq] at sl2
                  generalize mem1.getD k [] = l at *
                  obtain ⟨b, o, cap', hv, hb, _, hc⟩ := hs1.at hkm
                  simp only [Value.slice.injEq] at hv
                  obtain ⟨rfl, _, rfl⟩ := hv
                  have e1 := hc k hkm
                  obtain ⟨b2, o2, cap2, hv, hb2, _, hc2⟩ := hs2.at hjm
                  simp only [Value.slice.injEq] at hv
                  obtain ⟨rfl, _, rfl⟩ := hv
                  have e2 := hc2 j hjm
                  obtain ⟨b3, o3, cap3, hf1, hb3, _, hc3⟩ := sl1.at (j := 0) (by omega)
                  have e3 := hc3 0 (by omega)
                  have e4 := r2.cell hfn
                  rw [hcj] at e4
                  have HE0 := eqints_any l (by omega) (w4.drewN m) _ _ (f2 j) (f1 k) sl2 sl1
                  rw [hf1] at e1 HE0
                  generalize f2 j = v2 at *
                  have HE : Hid (Calls Try.prog 18 #[v2, .slice (some ⟨b3, o3, none⟩) l.length cap3] (w4.drewN m) fun e w' => TruePost (w4.drewN m) e w') := HE0
                  clear HE0 hc hc2 hc3 sl1 sl2 hr1 hr2 hs1 hs2 heq hcj hf1 hp0 hpm hcin2
                  generalize l.getD 0 0 = x at *
                  have hxz : (x : Int) < (n : Int) := by omega
                  have hjz : (j : Int) < (M : Int) := by omega
                  rw [Nat.add_zero] at e3
                  generalize l.length = ll at *
                  have hln0 : (2 : Int) ≤ (ll : Int) := by omega
                  have hl0b : ((ll : Int) == 0) = false := beq_eq_false_iff_ne.2 (by omega)
                  go_wp2_with (go_at_call 18; refine HE.out.mono ?_; rintro e w9 ⟨rfl, m9, rfl⟩)
                  go_roundg (M - (k + 1))
                  case measure => go_light; omega
                  case rel => go_light; exact ⟨k + 1, _, by omega, rfl, by simp, rfl⟩
              · as_aux_lemma =>
                  have hkz : ¬ (k : Int) < (M : Int) := by omega
                  go_wp2
                  go_ret
                  exact ⟨rfl, below_drewN hbW4 _⟩

end Go.Proofs.Qxb6601793a
