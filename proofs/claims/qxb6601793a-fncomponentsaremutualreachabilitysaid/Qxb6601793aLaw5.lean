import Derived.Test.Qxb6601793aCommon
import Derived.Test.Qxb6601793aBytes
import Derived.Test.Qxb6601793aReverse
import Derived.Test.Qxb6601793aReach
import Derived.Test.Qxb6601793aEq
import Derived.Deep.DeepCutAuto
namespace Go.Proofs.Qxb6601793a
open Go.RowKit Go.Deep Scc

/-- What the law asks of two nodes. -/
theorem law5_plain {n : Nat} {adj L : Nat → List Nat} {comp : Nat → Int} {members : List (List Nat)} (hC : CInv adj (fun v => v < n) comp members) (hL : ∀ x u, u ∈ L x ↔ x ∈ adj u) {k j : Nat} (hk : k < n) (hj : j < n) (hkj : k ≠ j)
    {fw bw : Bool} (hf : fw = true ↔ Rch (Edg adj) k j) (hb : bw = true ↔ Rch (Edg L) k j) :
    (0 ≤ comp k ∧ comp k = comp j ∧ fw = true ∧ bw = true) ∨
    (¬ (0 ≤ comp k ∧ comp k = comp j) ∧ (fw = false ∨ (fw = true ∧ bw = false)) ∧ (0 ≤ comp k → 0 ≤ comp j → comp k ≠ comp j → fw = true → comp j < comp k)) := by
  rw [turned hL] at hb
  by_cases h : 0 ≤ comp k ∧ comp k = comp j
  · have hm := hC.same k j hk hj h.1 h.2
    exact .inl ⟨h.1, h.2, hf.2 hm.1, hb.2 hm.2⟩
  · refine .inr ⟨h, ?_, ?_⟩
    · cases fw with
      | false => exact .inl rfl
      | true =>
        cases bw with
        | false => exact .inr ⟨rfl, rfl⟩
        | true =>
          have hm := hC.mutu k j hk ⟨hf.1 rfl, hb.1 rfl⟩ hkj
          exact absurd ⟨hm.2, hm.1⟩ h
    · intro h0 h1 hne ht
      have := hC.topo k j hk (hf.1 ht) h0 h1
      omega

set_option maxHeartbeats 40000000 in
set_option maxRecDepth 1000000 in
theorem law5_walk (hcomps : CompsSaid) (nN nO : Nat) (S : Nat → ByteArray) (rows : Nat → List Int) (W : World) (K : Nat → Prop) (v0 v1 : Value) (hnN : nN ≤ 9223372036854775807) (hnO : nO ≤ 9223372036854775807)
    (hS : ∀ i, (S i).size ≤ 9223372036854775807) (hrl : ∀ i, (rows i).length ≤ 9223372036854775807) (h0 : Sl W K v0 nN (fun i => .string (S i))) (h1 : MatZ W K v1 nO rows) :
    Calls Try.prog 5 #[v0, v1] W fun e w' => LawPost W e w' := by
  have HB : Hid (Calls Try.prog 19 #[v0, v1] W fun e w' => SomeBool W e w') := bytes19_any nN nO S rows W K v0 v1 hnN hnO hS hrl h0 h1
  have HF : Hid (Calls Try.prog 20 #[v0, v1, .int .i64 4096] W fun e w' => FitsPost 4096 nN nO rows W e w') := fits_any 4096 (by omega) (by omega) nN nO S rows W K v0 v1 hnN hnO hS hrl h0 h1
  go_enter Try.func5, Try.ntmps5
  go_wp2_with fail
  refine HB.out.mono ?_
  rintro e w' ⟨b1, rfl, rfl⟩
  cases b1
  · go_wp2
    go_ret
    exact ⟨rfl, Below.refl _ _⟩
  go_wp2_with fail
  refine HF.out.mono ?_
  rintro e w' ⟨b2, rfl, rfl, hfit⟩
  cases b2
  · go_wp2
    go_ret
    exact ⟨rfl, Below.refl _ _⟩
  obtain ⟨hmost, hnn, hr⟩ := hfit rfl
  subst hnn
  obtain ⟨n, hnn⟩ : ∃ n, n = nO := ⟨_, rfl⟩
  subst hnn
  obtain ⟨adj, hadjE⟩ : ∃ adj, adj = adjOf n rows := ⟨_, rfl⟩
  have hM0 : Mat w' K v1 n adj := by rw [hadjE]; exact adjOf_mat h1 (fun i hi => (hr i hi).2)
  have hadj : ∀ v y, y ∈ adj v → v < n ∧ y < n := by rw [hadjE]; exact adjOf_lt (fun i hi => (hr i hi).2)
  have hlen : ∀ v, v < n → (adj v).length ≤ 131072 := by rw [hadjE]; exact adjOf_len (fun i hi => (hr i hi).1)
  have hn : n ≤ 4096 := by omega
  obtain ⟨a0, c0, rfl⟩ := h0.shape
  obtain ⟨a1, c1, rfl⟩ := h1.shape
  clear hadjE hr hfit HB HF h1 hrl hmost
  go_upto_if 33 with fail
  go_cut [0, 5] (fun s0 _ wc => ∃ ao cap, s0 = .slice ao n cap ∧ Below w'.heap.size w' wc)
  case first =>
    as_aux_lemma =>
      cases a0 with
      | none =>
        go_wp2_with fail
        go_meet
        exact ⟨none, c0, rfl, Below.refl _ _⟩
      | some ad =>
        have hmk := run_make_row' (P := Try.prog) 24 9 (.string ⟨#[]⟩) 16 Try.underlying24 Try.info9 rfl .i64 .i64 n (by omega) (by omega)
        obtain ⟨Wm, hWm⟩ : ∃ Wm, Wm = w'.alloc (.cells (madeCells #[.string ⟨#[]⟩] n) 9) := ⟨_, rfl⟩
        have g1 : Wm.heap[w'.heap.size]? = some (.cells (madeCells #[.string ⟨#[]⟩] n).toList.toArray 9 (0, 0)) := by rw [hWm, heap_new _ _ _ rfl]
        have b1 : Below w'.heap.size w' Wm := by rw [hWm]; exact (Below.refl _ _).alloc (Nat.le_refl _) _
        have hpos : 0 < ((List.range n).map fun i => Value.string (S i)).length → some (⟨w'.heap.size, 0, none⟩ : Addr) = some ⟨w'.heap.size, 0, none⟩ ∧ ∃ ad', some ad = some ad' ∧ ∀ j v, ((List.range n).map fun i => Value.string (S i))[j]? = some v → Wm.cell? (ad'.add j) = some v := by
          intro _
          refine ⟨rfl, ad, rfl, fun j v hv => ?_⟩
          have hj : j < n := by
            rcases Nat.lt_or_ge j n with h | h
            · exact h
            · rw [List.getElem?_eq_none (by simpa using h)] at hv; simp at hv
          obtain ⟨b, o, cap, hv0, hb, _, hcell⟩ := h0.at hj
          simp only [Value.slice.injEq, Option.some.injEq] at hv0
          obtain ⟨rfl, _, _⟩ := hv0
          simp [hj] at hv
          subst hv
          rw [addr_add, b1.cell (p := ⟨b, o + j, none⟩) hb]
          exact hcell j hj
        have HWm : Hid (Wm = w'.alloc (.cells (madeCells #[.string ⟨#[]⟩] n) 9)) := hWm
        clear hWm
        go_upto_region 7 with fail
        go_wp2_with (rw [← HWm.out]; refine wpList_copy_splice rfl (.tmp 37) (.tmp 38) 24 24 rfl 9 Try.underlying24 Try.size9 (some ⟨w'.heap.size, 0, none⟩) (some ad) n n n c0 rfl rfl w'.heap.size 0 (madeCells #[.string ⟨#[]⟩] n).toList 9 g1 ((List.range n).map fun i => Value.string (S i)) (by simp) hpos (by simp [size_madeCells]) (by simp [Value.oneCell']) w'.heap.size w' b1 (Nat.le_refl _) ?_; intro w2 hw2 hb2)
        go_meet
        exact ⟨_, n, rfl, hb2⟩
  case rest =>
    obtain ⟨ao, cap, rfl, hbW⟩ := hcut
    clear h0 hS
    as_aux_lemma =>
      have hMc := hM0.below hbW
      have HZ : Hid (Calls Try.prog 21 #[.slice ao n cap, .slice a1 n c1] wc fun e w' => CompOutPost n adj wc e w') := zz_any hcomps n adj (by omega) (fun v _ y hy => (hadj v y hy).2) (fun v hv => Nat.le_trans (hlen v hv) (by omega)) K _ wc ao cap hMc
      go_wp2_with (go_at_call 21; refine HZ.out.mono ?_; rintro e w3 ⟨comp, members, bC, vm, rfl, hO⟩)
      obtain ⟨am, cm, hvm⟩ := hO.mem.shape
      subst hvm
      have hM3 := hMc.below hO.below
      have hb3 : Below w'.heap.size w' w3 := hbW.trans (hO.below.mono (hbW.size))
      have hml := hO.len
      clear HZ hM0 hMc hbW
      go_loopg [9, 10] n (fun g t i wx => w3 = wx ∧ ∃ k : Nat, k ≤ n ∧ g = n - k ∧ i = .int .i64 (k : Int) ∧ t = .int .i64 ((sumTo k (fun v => if 0 ≤ comp v then 1 else 0) : Nat) : Int))
      case atStart => exact ⟨rfl, 0, Nat.zero_le _, rfl, rfl, rfl⟩
      case round =>
        obtain ⟨rfl, k, hk, rfl, rfl, rfl⟩ := hrel
        by_cases hkn : k < n
        · as_aux_lemma =>
            have hkz : (k : Int) < (n : Int) := by omega
            have hck := hO.row.cell hkn
            obtain ⟨hci1, hci2⟩ := hO.cinv.compIn k hkn
            have hsk : sumTo k (fun v => if 0 ≤ comp v then 1 else 0) ≤ k * 1 := sumTo_le_mul k _ 1 (fun i _ => by split <;> omega)
            have HS : Hid (sumTo (k + 1) (fun v => if 0 ≤ comp v then 1 else 0) = sumTo k (fun v => if 0 ≤ comp v then 1 else 0) + if 0 ≤ comp k then 1 else 0) := rfl
            by_cases hc0 : 0 ≤ comp k
            · go_wp2
              go_roundg (n - (k + 1))
              case measure => go_light; omega
              case rel =>
                go_light
                exact ⟨rfl, k + 1, by omega, rfl, by simp, congrArg (Value.int .i64) (by rw [HS.out, if_pos hc0]; omega)⟩
            · have hc0' : comp k < 0 := by omega
              go_wp2
              go_roundg (n - (k + 1))
              case measure => go_light; omega
              case rel =>
                go_light
                exact ⟨rfl, k + 1, by omega, rfl, by simp, congrArg (Value.int .i64) (by rw [HS.out, if_neg (by omega)]; omega)⟩
        · as_aux_lemma =>
            obtain rfl : n = k := by omega
            have hkz : ¬ (n : Int) < (n : Int) := by omega
            have hsn : sumTo n (fun v => if 0 ≤ comp v then 1 else 0) ≤ n * 1 := sumTo_le_mul n _ 1 (fun i _ => by split <;> omega)
            have hsums := hO.cinv.sums
            generalize sumTo n (fun v => if 0 ≤ comp v then 1 else 0) = z at *
            have HSU : Hid (sumTo members.length (fun i => (members.getD i []).length) = z) := hsums
            clear hsums
            go_wp2
            go_loopg [11, 12] members.length (fun g t i wx => w3 = wx ∧ ∃ k : Nat, k ≤ members.length ∧ g = members.length - k ∧ i = .int .i64 (k : Int) ∧ t = .int .i64 ((sumTo k (fun i => (members.getD i []).length) : Nat) : Int))
            case atStart => exact ⟨rfl, 0, Nat.zero_le _, rfl, rfl, rfl⟩
            case round =>
              clear hkn hk hkz
              obtain ⟨rfl, k, hk, rfl, rfl, rfl⟩ := hrel
              by_cases hkm : k < members.length
              · as_aux_lemma =>
                  have hkz : (k : Int) < (members.length : Int) := by omega
                  obtain ⟨b, o, cap', ao', c', hv, hb, hcell, hrow⟩ := hO.mem.at hkm
                  simp only [Value.slice.injEq] at hv
                  obtain ⟨rfl, _, rfl⟩ := hv
                  obtain ⟨hl2, hasc, hmem⟩ := hO.cinv.member hkm
                  have hsk : sumTo (k + 1) (fun i => (members.getD i []).length) ≤ z := by rw [← HSU.out]; exact sumTo_mono _ _ (by omega)
                  have HS : Hid (sumTo (k + 1) (fun i => (members.getD i []).length) = sumTo k (fun i => (members.getD i []).length) + (members.getD k []).length) := rfl
                  have hsk2 : sumTo k (fun i => (members.getD i []).length) + (members.getD k []).length ≤ z := hsk
                  generalize hlg : members.getD k [] = l at *
                  have HL : Hid (members.getD k [] = l) := hlg
                  clear hlg hsk
                  generalize hyk : sumTo k (fun i => (members.getD i []).length) = y at *
                  have HY : Hid (sumTo k (fun i => (members.getD i []).length) = y) := hyk
                  clear hyk
                  go_wp2
                  go_loopg [14] l.length (fun g i wx => w3 = wx ∧ ∃ j : Nat, j ≤ l.length ∧ g = l.length - j ∧ i = .int .i64 (j : Int))
                  case atStart => exact ⟨rfl, 0, Nat.zero_le _, rfl, rfl⟩
                  case round =>
                    obtain ⟨rfl, j, hj, rfl, rfl⟩ := hrel
                    by_cases hjl : j < l.length
                    · as_aux_lemma =>
                        have hjz : (j : Int) < (l.length : Int) := by omega
                        obtain ⟨b', o', rfl, hb', hcj⟩ := hrow j hjl
                        obtain ⟨x, hx⟩ : ∃ x, x = l.getD j 0 := ⟨_, rfl⟩
                        obtain ⟨hxn, hxc⟩ := (hmem x).1 (by rw [hx]; exact mem_take_of_getD hjl)
                        have hxz : (x : Int) < (n : Int) := by omega
                        rw [← hx] at hcj
                        have hcx := hO.row.cell hxn
                        rw [hxc] at hcx
                        clear hxc
                        by_cases hj0 : 0 < j
                        · have hj0z : (0 : Int) < (j : Int) := by omega
                          obtain ⟨b2, o2, e2, _, hcp⟩ := hrow (j - 1) (by omega)
                          simp only [Option.some.injEq, Addr.mk.injEq, and_true] at e2
                          obtain ⟨rfl, rfl⟩ := e2
                          have hlt : l.getD (j - 1) 0 < x := by rw [hx]; exact asc_getD hasc (by omega) hjl
                          generalize l.getD (j - 1) 0 = p at *
                          clear hx hrow hmem hasc
                          go_wp2
                          go_roundg (l.length - (j + 1))
                          case measure => go_light; omega
                          case rel => go_light; exact ⟨rfl, j + 1, by omega, rfl, by simp⟩
                        · have hj0z : ¬ (0 : Int) < (j : Int) := by omega
                          clear hx hrow hmem hasc
                          go_wp2
                          go_roundg (l.length - (j + 1))
                          case measure => go_light; omega
                          case rel => go_light; exact ⟨rfl, j + 1, by omega, rfl, by simp⟩
                    · as_aux_lemma =>
                        have hjz : ¬ (j : Int) < (l.length : Int) := by omega
                        clear hrow hmem hasc
                        go_wp2
                        go_roundg (members.length - (k + 1))
                        case measure => go_light; omega
                        case rel => go_light; exact ⟨rfl, k + 1, by omega, rfl, by simp, congrArg (Value.int .i64) (by rw [HS.out]; omega)⟩
              · as_aux_lemma =>
                  obtain rfl : k = members.length := by omega
                  have hkz : ¬ (members.length : Int) < (members.length : Int) := by omega
                  rw [HSU.out]
                  have HR : Hid (Calls Try.prog 22 #[.slice a1 n c1, .int .i64 (n : Int)] w3 fun e w' => RevPost 131072 n adj w3 e w') := reverse_any 131072 n adj (by omega) (Nat.le_trans (Nat.mul_le_mul_right _ hn) (by decide)) (fun v _ y hy => (hadj v y hy).2) hlen K _ w3 hM3
                  have hmk26 := run_make_row' (P := Try.prog) 26 3 (.int .i64 0) 8 Try.underlying26 Try.info3 rfl .i64 .i64 n (by omega) (by omega)
                  have hmk32 := run_make_row' (P := Try.prog) 32 4 (.bool false) 1 Try.underlying32 Try.info4 rfl .i64 .i64 n (by omega) (by omega)
                  go_wp2_with (go_at_call 22; refine HR.out.mono ?_; rintro e w4 ⟨L, f, rfl, hR⟩)
                  simp only [Nat.add_assoc, Nat.reduceAdd]
                  clear hmk26 hmk32 HR
                  obtain ⟨W5, hW5⟩ : ∃ W5, W5 = ((w4.alloc (.cells (madeCells #[.bool false] n) 4)).alloc (.cells (madeCells #[.bool false] n) 4)).alloc (.cells (madeCells #[.int .i64 0] n) 3) := ⟨_, rfl⟩
                  have k5 : Kept (fun _ => False) w4 W5 := by rw [hW5]; exact (((Kept.refl _ _).alloc _).alloc _).alloc _
                  have r1 : W5.rowIs w4.heap.size 4 n (fun _ => .bool false) := by rw [hW5]; exact ((row_new _ _ _ _ _ rfl).alloc _).alloc _
                  have r2 : W5.rowIs (w4.heap.size + 1) 4 n (fun _ => .bool false) := by rw [hW5]; exact (row_new _ _ _ _ _ (by simp)).alloc _
                  have r3 : W5.rowIs (w4.heap.size + 2) 3 n (fun _ => .int .i64 0) := by rw [hW5]; exact row_new _ _ _ _ _ (by simp)
                  have hMo5 : Mat W5 (fun b => b < w4.heap.size) (.slice a1 n c1) n adj := ((hM3.below hR.below).widen (fun b hb _ => hb)).kept k5 (fun _ _ h => h)
                  have hMb5 : Mat W5 (fun b => b < w4.heap.size) (.slice (some ⟨w3.heap.size, 0, none⟩) n n) n L := (hR.mat.widen (fun b hb _ => hb)).kept k5 (fun _ _ h => h)
                  have hbC3 : bC < w3.heap.size := hO.row.lt
                  have hbC : bC < w4.heap.size := Nat.lt_of_lt_of_le hbC3 hR.below.size
                  have hC5 : W5.rowIs bC 3 n (fun i => .int .i64 (comp i)) := k5.row (hO.row.of_block (hR.below.block bC hbC3)) (fun h => h)
                  have hb5 : Below w'.heap.size w' W5 := (hb3.trans (hR.below.mono hb3.size)).trans (k5.below (Nat.le_trans hb3.size hR.below.size) (fun _ h => h.elim))
                  have hb5s : w'.heap.size ≤ w4.heap.size := Nat.le_trans hb3.size hR.below.size
                  have hLm : ∀ x u, u ∈ L x ↔ x ∈ adj u := fun x u => by
                    rw [hR.mem]
                    simp only [List.take_zero, List.not_mem_nil, and_false, or_false]
                    exact ⟨fun h => h.2, fun h => ⟨(hadj u x h).1, h⟩⟩
                  have hLl : ∀ v, v < n → (L v).length ≤ 1099511627776 := fun v _ => Nat.le_trans (hR.len v) (by have h1 : n * 131072 ≤ 4096 * 131072 := Nat.mul_le_mul_right _ hn; omega)
                  have hLa : ∀ v, v < n → ∀ y ∈ L v, y < n := fun v _ y hy => (hadj y v ((hLm v y).1 hy)).1
                  have hcinv := hO.cinv
                  have hF5 : w4.heap.size ≤ W5.heap.size := k5.size
                  rw [← hW5]
                  clear hW5 k5 hR hM3 hO HSU
                  go_loopg [20] n (fun g i wx => ∃ (k : Nat) (f1 f2 : Nat → Bool) (q : Nat → Int), k ≤ n ∧ g = n - k ∧ i = .int .i64 (k : Int) ∧ Kept (fun b => w4.heap.size ≤ b) W5 wx ∧ wx.rowIs w4.heap.size 4 n (fun i => .bool (f1 i)) ∧ wx.rowIs (w4.heap.size + 1) 4 n (fun i => .bool (f2 i)) ∧ wx.rowIs (w4.heap.size + 2) 3 n (fun i => .int .i64 (q i)))
                  case atStart => exact ⟨0, _, _, _, Nat.zero_le _, rfl, rfl, Kept.refl _ _, r1, r2, r3⟩
                  case round =>
                    clear r1 r2 r3
                    obtain ⟨k, f1, f2, q, hk, rfl, rfl, hKp, r1, r2, r3⟩ := hrel
                    by_cases hkn : k < n
                    · as_aux_lemma =>
                        have hkz : (k : Int) < (n : Int) := by omega
                        go_wp2_with fail
                        refine (reach_any n adj k hkn (by omega) (fun v _ y hy => (hadj v y hy).2) (fun v hv => Nat.le_trans (hlen v hv) (by omega)) (fun b => b < w4.heap.size) (.slice a1 n c1) wr w4.heap.size (w4.heap.size + 2) (hMo5.kept hKp (fun b hb h => by omega)) (by omega) (by omega) (by omega) f1 q r1 r3).mono ?_
                        rintro e w6 ⟨rfl, hK6, ⟨g1, r16, hg1⟩, q6, r36⟩
                        have hKp6 : Kept (fun b => w4.heap.size ≤ b) W5 w6 := hKp.trans (hK6.mono (fun b _ h => by rcases h with rfl | rfl <;> omega))
                        have r26 := hK6.row r2 (by omega)
                        go_wp2_with fail
                        refine (reach_any n L k hkn (by omega) hLa hLl (fun b => b < w4.heap.size) (.slice (some ⟨w3.heap.size, 0, none⟩) n n) w6 (w4.heap.size + 1) (w4.heap.size + 2) (hMb5.kept hKp6 (fun b hb h => by omega)) (by omega) (by omega) (by omega) f2 q6 r26 r36).mono ?_
                        rintro e w7 ⟨rfl, hK7, ⟨g2, r27, hg2⟩, q7, r37⟩
                        have hKp7 : Kept (fun b => w4.heap.size ≤ b) W5 w7 := hKp6.trans (hK7.mono (fun b _ h => by rcases h with rfl | rfl <;> omega))
                        have r17 := hK7.row r16 (by omega)
                        have rC7 := hKp7.row hC5 (by omega)
                        clear hK6 hK7 r16 r26 r36 hKp6 r1 r2 r3 hKp hMo5 hMb5
                        go_wp2_with fail
                        go_loopg [21] n (fun g i wx => ∃ (j m : Nat), j ≤ n ∧ g = n - j ∧ i = .int .i64 (j : Int) ∧ w7.drewN m = wx)
                        case atStart => exact ⟨0, 0, Nat.zero_le _, rfl, rfl, rfl⟩
                        case round =>
                          obtain ⟨j, m, hj, rfl, rfl, rfl⟩ := hrel
                          by_cases hjn : j < n
                          · as_aux_lemma =>
                              have hjz : (j : Int) < (n : Int) := by omega
                              by_cases hjk : k = j
                              · as_aux_lemma =>
                                  subst hjk
                                  go_wp2
                                  go_roundg (n - (k + 1))
                                  case measure => go_light; omega
                                  case rel => go_light; exact ⟨k + 1, m, by omega, rfl, by simp, rfl⟩
                              · have hjkb : ((k : Int) == (j : Int)) = false := beq_eq_false_iff_ne.2 (by omega)
                                have hpl := law5_plain hcinv hLm hkn hjn hjk (hg1 j hjn) (hg2 j hjn)
                                have cu := rC7.cell hkn
                                have cv := rC7.cell hjn
                                have cf := r17.cell hjn
                                have cb := r27.cell hjn
                                generalize comp k = u at *
                                generalize comp j = v at *
                                generalize g1 j = fw at *
                                generalize g2 j = bw at *
                                rcases hpl with ⟨hu, rfl, rfl, rfl⟩ | ⟨hne, hfb, htop⟩
                                · as_aux_lemma =>
                                    have hd : ¬ (u < 0) := by omega
                                    go_wp2_with fail
                                    go_quiet (fail)
                                    go_wp2_with fail
                                    go_quiet (fail)
                                    go_wp2
                                    go_roundg (n - (j + 1))
                                    case measure => go_light; omega
                                    case rel => go_light; exact ⟨j + 1, _, by omega, rfl, by simp, rfl⟩
                                · rcases hfb with rfl | ⟨rfl, rfl⟩
                                  · as_aux_lemma =>
                                      by_cases hu : 0 ≤ u
                                      · have huv : u ≠ v := fun e => hne ⟨hu, e⟩
                                        have huvb : (u == v) = false := beq_eq_false_iff_ne.2 huv
                                        have huvn : (u != v) = true := bne_iff_ne.2 huv
                                        have huvm : (!(u == v)) = true := by rw [huvb]; rfl
                                        by_cases hv : 0 ≤ v
                                        · clear htop hne huv
                                          go_wp2_with fail
                                          go_quiet (fail)
                                          go_wp2_with fail
                                          go_quiet (fail)
                                          go_wp2
                                          go_roundg (n - (j + 1))
                                          case measure => go_light; omega
                                          case rel => go_light; exact ⟨j + 1, _, by omega, rfl, by simp, rfl⟩
                                        · have hvd : decide (0 ≤ v) = false := decide_eq_false hv
                                          clear htop hne huv hv
                                          go_wp2_with fail
                                          go_quiet (fail)
                                          go_wp2_with fail
                                          go_quiet (fail)
                                          go_wp2
                                          go_roundg (n - (j + 1))
                                          case measure => go_light; omega
                                          case rel => go_light; exact ⟨j + 1, _, by omega, rfl, by simp, rfl⟩
                                      · have hud : decide (0 ≤ u) = false := decide_eq_false hu
                                        clear htop hne hu
                                        go_wp2_with fail
                                        go_quiet (fail)
                                        go_wp2_with fail
                                        go_quiet (fail)
                                        go_wp2
                                        go_roundg (n - (j + 1))
                                        case measure => go_light; omega
                                        case rel => go_light; exact ⟨j + 1, _, by omega, rfl, by simp, rfl⟩
                                  · as_aux_lemma =>
                                      by_cases hu : 0 ≤ u
                                      · have huv : u ≠ v := fun e => hne ⟨hu, e⟩
                                        have huvb : (u == v) = false := beq_eq_false_iff_ne.2 huv
                                        have huvn : (u != v) = true := bne_iff_ne.2 huv
                                        have huvm : (!(u == v)) = true := by rw [huvb]; rfl
                                        by_cases hv : 0 ≤ v
                                        · have hvu : v < u := htop hu hv huv rfl
                                          clear htop hne huv
                                          go_wp2_with fail
                                          go_quiet (fail)
                                          go_wp2_with fail
                                          go_quiet (fail)
                                          go_wp2
                                          go_roundg (n - (j + 1))
                                          case measure => go_light; omega
                                          case rel => go_light; exact ⟨j + 1, _, by omega, rfl, by simp, rfl⟩
                                        · have hvd : decide (0 ≤ v) = false := decide_eq_false hv
                                          clear htop hne huv hv
                                          go_wp2_with fail
                                          go_quiet (fail)
                                          go_wp2_with fail
                                          go_quiet (fail)
                                          go_wp2
                                          go_roundg (n - (j + 1))
                                          case measure => go_light; omega
                                          case rel => go_light; exact ⟨j + 1, _, by omega, rfl, by simp, rfl⟩
                                      · have hud : decide (0 ≤ u) = false := decide_eq_false hu
                                        clear htop hne hu
                                        go_wp2_with fail
                                        go_quiet (fail)
                                        go_wp2_with fail
                                        go_quiet (fail)
                                        go_wp2
                                        go_roundg (n - (j + 1))
                                        case measure => go_light; omega
                                        case rel => go_light; exact ⟨j + 1, _, by omega, rfl, by simp, rfl⟩
                          · as_aux_lemma =>
                              have hjz : ¬ (j : Int) < (n : Int) := by omega
                              go_wp2
                              go_roundg (n - (k + 1))
                              case measure => go_light; omega
                              case rel => go_light; exact ⟨k + 1, g1, g2, q7, by omega, rfl, by simp, hKp7.drewN _, r17, r27, r37⟩
                    · as_aux_lemma =>
                        have hkz : ¬ (k : Int) < (n : Int) := by omega
                        go_wp2
                        go_ret
                        exact ⟨rfl, hb5.trans (hKp.below (Nat.le_trans hb5s hF5) (fun b h => Nat.le_trans hb5s h))⟩

end Go.Proofs.Qxb6601793a
