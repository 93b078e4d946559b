import Derived.Test.Qxb6601793aG0
import Derived.Test.Qxb6601793aReg4
import Derived.Deep.DeepCutAuto
namespace Go.Proofs.Qxb6601793a
open Go.RowKit Go.Deep Scc

theorem Sl4.below {K : Nat → Prop} {w w' : World} {v : Value} {n : Nat} {F : Nat → Nat → ByteArray} (h : Sl4 w K v n F) (hb : Below w.heap.size w w') : Sl4 w' K v n F :=
  h.kept (S := fun _ => False) ⟨hb.os, hb.tape, hb.output, hb.size, fun k hk _ => hb.block k hk⟩ (fun _ _ h => h)
theorem Sl.below {K : Nat → Prop} {w w' : World} {v : Value} {n : Nat} {f : Nat → Value} (h : Sl w K v n f) (hb : Below w.heap.size w w') : Sl w' K v n f :=
  h.kept (S := fun _ => False) ⟨hb.os, hb.tape, hb.output, hb.size, fun k hk _ => hb.block k hk⟩ (fun _ _ h => h)
theorem Mat.below4 {K : Nat → Prop} {w w' : World} {v : Value} {n : Nat} {L : Nat → List Nat} (h : Mat w K v n L) (hb : Below w.heap.size w w') : Mat w' K v n L :=
  h.kept (S := fun _ => False) ⟨hb.os, hb.tape, hb.output, hb.size, fun k hk _ => hb.block k hk⟩ (fun _ _ h => h)

theorem twice_len {n : Nat} {S : Nat → Nat → List UInt8} (hS : ∀ i q, (S i q).length ≤ 9223372036854775807) : ∀ i q, (twiceS n S i q).length ≤ 9223372036854775807 := by
  intro i q
  simp only [twiceS]
  split
  · split
    · exact hS _ _
    · simp
  · exact hS _ _

/-- The list twice, j elements of it. -/
structure Tw (n : Nat) (S : Nat → Nat → List UInt8) (w1 : World) (j : Nat) (v : Value) (wx : World) : Prop where
  below : Below w1.heap.size w1 wx
  own : wx.ownsRow w1.heap.size 37 4 v j (flat4 (twiceS n S) j)

theorem Tw.start (n : Nat) (S : Nat → Nat → List UInt8) (w1 : World) (hn : n ≤ 16384) :
    Tw n S w1 0 (.slice (some ⟨w1.heap.size, 0, none⟩) 0 (2 * n)) (w1.alloc (.cells (madeCells #[.string ⟨#[]⟩, .string ⟨#[]⟩, .string ⟨#[]⟩, .string ⟨#[]⟩] (2 * n * 4)) 37)) :=
  ⟨(Below.refl _ _).alloc (Nat.le_refl _) _, rfl, .inr ⟨w1.heap.size, 2 * n, _, rfl, Nat.le_refl _, heap_alloc_new _ _, Nat.zero_le _, by have : maxLen = 9223372036854775807 := rfl; omega, by simp [madeCells], by simp [flat4]⟩⟩

theorem Tw.step {n : Nat} {S : Nat → Nat → List UInt8} {w1 : World} {j : Nat} {v : Value} {wx : World} (h : Tw n S w1 j v wx) {wy w2 : World} (k : Kept (fun _ => False) wx wy) {cs : List Value} (hcs : cells4 (twiceS n S j) = cs) {g cap : Nat}
    (ho : w2.ownsRow w1.heap.size 37 4 (.slice (some ⟨g, 0, none⟩) (j + 1) cap) (j + 1) (flat4 (twiceS n S) j ++ cs)) (hg : wy.grownBy w2 v.ownBlock) : Tw n S w1 (j + 1) (.slice (some ⟨g, 0, none⟩) (j + 1) cap) w2 := by
  have k2 : Kept (fun b => v.ownBlock = some b) wx w2 := (k.mono (fun _ _ e => e.elim)).grown hg (fun b e _ => e)
  refine ⟨h.below.trans (k2.below h.below.size (fun b e => (h.own.lt b e).1)), ?_⟩
  simp only [flat4, hcs]
  exact ho

theorem cells4_strip {n : Nat} {S : Nat → Nat → List UInt8} {j y : Nat} (h : j + (y + 1) = n) : cells4 (twiceS n S j) = [.string ⟨(S y 0).toArray⟩, .string ⟨(S y 1).toArray⟩, .string ⟨#[]⟩, .string ⟨#[]⟩] := by
  have e : n - 1 - j = y := by omega
  simp [cells4, twiceS, show j < n by omega, e]

theorem cells4_whole {n : Nat} {S : Nat → Nat → List UInt8} {k : Nat} : cells4 (twiceS n S (n + k)) = [.string ⟨(S k 0).toArray⟩, .string ⟨(S k 1).toArray⟩, .string ⟨(S k 2).toArray⟩, .string ⟨(S k 3).toArray⟩] := by
  simp [cells4, twiceS, show ¬ n + k < n by omega]

set_option maxHeartbeats 40000000 in
set_option maxRecDepth 1000000 in
theorem law4_walk (hz : ZgSaid) (n : Nat) (S : Nat → Nat → List UInt8) (W : World) (K : Nat → Prop) (v0 : Value) (hn : n ≤ 9223372036854775807) (hS : ∀ i q, (S i q).length ≤ 9223372036854775807) (h0 : Sl4 W K v0 n (fun i q => ⟨(S i q).toArray⟩)) :
    Calls Try.prog 4 #[v0] W fun e w' => TruthPost W e w' := by
  have hF : ∀ i q, ((fun i q => (⟨(S i q).toArray⟩ : ByteArray)) i q).size ≤ 9223372036854775807 := fun i q => by simpa [ByteArray.size] using hS i q
  have HB : Hid (Calls Try.prog 15 #[v0] W fun e w' => SomeBool4 W e w') := bytes15_any n _ W K v0 hn hF h0
  have HF : Hid (Calls Try.prog 9 #[v0] W fun e w' => FitN n W e w') := nfit_any n _ W K v0 hn hF h0
  clear hF
  go_enter Try.func4, Try.ntmps4
  go_wp2_with fail
  refine HB.out.mono ?_
  rintro e w' ⟨b1, rfl, rfl⟩
  cases b1
  · go_wp2
    go_ret
    exact ⟨rfl, Below.refl _ _⟩
  go_wp2_with fail
  refine HF.out.mono ?_
  rintro e w1 ⟨b2, rfl, hb1, hfit⟩
  cases b2
  · go_wp2
    go_ret
    exact ⟨rfl, hb1⟩
  have hn2 := hfit rfl
  have h1 := h0.below hb1
  clear hfit HB HF hn h0
  obtain ⟨a0, c0, hv0⟩ := h1.shape
  subst hv0
  have hmk : ∀ v : World, (Instr.makeSlice 29 (.int .i64 0) (.int .i64 (2 * (n : Int)))).run Try.prog v = .ok (.slice (some ⟨v.heap.size, 0, none⟩) 0 (2 * n)) (v.alloc (.cells (madeCells #[.string ⟨#[]⟩, .string ⟨#[]⟩, .string ⟨#[]⟩, .string ⟨#[]⟩] (2 * n * 4)) 37)) := by
    obtain ⟨i37, hi37, hz370, hz371, hz372⟩ := info_parts Try.info37
    intro v
    have h := run_make (P := Try.prog) v 29 37 i37 _ Try.underlying29 hi37 hz370 .i64 .i64 0 (2 * (n : Int)) (by omega) (by omega) (by rw [hz372]; omega) (by omega)
    rw [hz371, show (2 * (n : Int)).toNat = 2 * n by omega] at h
    exact h
  have hT := Tw.start n S w1 hn2
  go_wp2_with fail
  clear hmk
  go_loopg [4, 5] n (fun g v i wx => ∃ j : Nat, j ≤ n ∧ g = n - j ∧ i = .int .i64 ((n : Int) - 1 - (j : Int)) ∧ Tw n S w1 j v wx)
  case atStart => exact ⟨0, by omega, rfl, by simp, hT⟩
  case round =>
    clear hT
    obtain ⟨j, hj, rfl, rfl, hT⟩ := hrel
    by_cases hjn : j < n
    · as_aux_lemma =>
        obtain ⟨y, hxj⟩ : ∃ y, j + (y + 1) = n := ⟨n - 1 - j, by omega⟩
        have e1 : (n : Int) - 1 - (j : Int) = (y : Int) := by omega
        rw [e1]
        have hyz : (0 : Int) ≤ (y : Int) := by omega
        have hyn : y < n := by omega
        obtain ⟨b, o, cap, hv, hb, _, d0, d1, _, _⟩ := h1.at hyn
        simp only [Value.slice.injEq] at hv
        obtain ⟨rfl, _, rfl⟩ := hv
        rw [← hT.below.cell (p := ⟨b, o + y * 4, none⟩) hb] at d0
        rw [← hT.below.cell (p := ⟨b, o + y * 4 + 1, none⟩) hb] at d1
        have Hc : Hid (cells4 (twiceS n S j) = [.string ⟨(S y 0).toArray⟩, .string ⟨(S y 1).toArray⟩, .string ⟨#[]⟩, .string ⟨#[]⟩]) := cells4_strip hxj
        have Hxj : Hid (j + (y + 1) = n) := hxj
        have hsz := hT.below.size
        have hown := hT.own
        obtain ⟨ao, ca, hva⟩ := owns_slice hown
        subst hva
        clear e1 hxj
        go_upto_region 10 with fail
        refine reg10 _ _ wr w1.heap.size b o n c0 y j ⟨(S y 0).toArray⟩ ⟨(S y 1).toArray⟩ (.slice ao j ca) (flat4 (twiceS n S) j) rfl rfl rfl rfl (fun _ _ _ _ _ h => h) hb hsz hyn (by omega) d0 d1 hown ?_
        intro g cap1 w2 hown2 hgrow2
        have hT2 := hT.step (((Kept.refl (fun _ => False) wr).drew).alloc (.cells #[.string ⟨(S y 0).toArray⟩, .string ⟨(S y 1).toArray⟩, .string ⟨#[]⟩, .string ⟨#[]⟩] 37)) Hc.out hown2 hgrow2
        simp only [Act.put, List.setIfInBounds_toArray, List.set_cons_zero, List.set_cons_succ]
        go_wp2
        go_roundg (n - (j + 1))
        case measure => go_light; omega
        case rel =>
          go_light
          have := Hxj.out
          exact ⟨j + 1, by omega, rfl, by simp; omega, hT2⟩
    · as_aux_lemma =>
        have e1 : (n : Int) - 1 - (j : Int) = -1 := by omega
        rw [e1]
        have ej : j = n := by omega
        rw [ej] at hT
        clear ej e1
        go_wp2_with fail
        go_loopg [4, 6] n (fun g v i wx => ∃ k : Nat, k ≤ n ∧ g = n - k ∧ i = .int .i64 (k : Int) ∧ Tw n S w1 (n + k) v wx)
        case atStart => exact ⟨0, by omega, rfl, rfl, hT⟩
        case round =>
          clear hT
          obtain ⟨k, hk, rfl, rfl, hT⟩ := hrel
          by_cases hkn : k < n
          · as_aux_lemma =>
              have hkz : (k : Int) < (n : Int) := by omega
              obtain ⟨b, o, cap, hv, hb, _, d0, d1, d2, d3⟩ := h1.at hkn
              simp only [Value.slice.injEq] at hv
              obtain ⟨rfl, _, rfl⟩ := hv
              rw [← hT.below.cell (p := ⟨b, o + k * 4, none⟩) hb] at d0
              rw [← hT.below.cell (p := ⟨b, o + k * 4 + 1, none⟩) hb] at d1
              rw [← hT.below.cell (p := ⟨b, o + k * 4 + 2, none⟩) hb] at d2
              rw [← hT.below.cell (p := ⟨b, o + k * 4 + 3, none⟩) hb] at d3
              have Hc : Hid (cells4 (twiceS n S (n + k)) = [.string ⟨(S k 0).toArray⟩, .string ⟨(S k 1).toArray⟩, .string ⟨(S k 2).toArray⟩, .string ⟨(S k 3).toArray⟩]) := cells4_whole
              have hsz := hT.below.size
              have hown := (hT.own.alloc (.cells #[.string ⟨(S k 0).toArray⟩, .string ⟨(S k 1).toArray⟩, .string ⟨(S k 2).toArray⟩, .string ⟨(S k 3).toArray⟩] 35)).alloc (.cells #[.string ⟨(S k 0).toArray⟩, .string ⟨(S k 1).toArray⟩, .string ⟨(S k 2).toArray⟩, .string ⟨(S k 3).toArray⟩] 37)
              have hnew : ∀ i u, [Value.string ⟨(S k 0).toArray⟩, .string ⟨(S k 1).toArray⟩, .string ⟨(S k 2).toArray⟩, .string ⟨(S k 3).toArray⟩][i]? = some u → ((wr.alloc (.cells #[.string ⟨(S k 0).toArray⟩, .string ⟨(S k 1).toArray⟩, .string ⟨(S k 2).toArray⟩, .string ⟨(S k 3).toArray⟩] 35)).alloc (.cells #[.string ⟨(S k 0).toArray⟩, .string ⟨(S k 1).toArray⟩, .string ⟨(S k 2).toArray⟩, .string ⟨(S k 3).toArray⟩] 37)).cell? ((⟨wr.heap.size + 1, 0, none⟩ : Addr).add i) = some u := by
                have h := World.news_of_block (heap_alloc_new (wr.alloc (.cells #[.string ⟨(S k 0).toArray⟩, .string ⟨(S k 1).toArray⟩, .string ⟨(S k 2).toArray⟩, .string ⟨(S k 3).toArray⟩] 35)) (.cells #[.string ⟨(S k 0).toArray⟩, .string ⟨(S k 1).toArray⟩, .string ⟨(S k 2).toArray⟩, .string ⟨(S k 3).toArray⟩] 37))
                rw [show (wr.alloc (.cells #[.string ⟨(S k 0).toArray⟩, .string ⟨(S k 1).toArray⟩, .string ⟨(S k 2).toArray⟩, .string ⟨(S k 3).toArray⟩] 35)).heap.size = wr.heap.size + 1 by simp] at h
                exact h
              obtain ⟨i37, hi37, hz370, hz371, hz372⟩ := info_parts Try.info37
              have hmax : maxLen = 9223372036854775807 := rfl
              obtain ⟨ao, ca, hva⟩ := owns_slice hT.own
              subst hva
              have Hnew : Hid (∀ i u, [Value.string ⟨(S k 0).toArray⟩, .string ⟨(S k 1).toArray⟩, .string ⟨(S k 2).toArray⟩, .string ⟨(S k 3).toArray⟩][i]? = some u → ((wr.alloc (.cells #[.string ⟨(S k 0).toArray⟩, .string ⟨(S k 1).toArray⟩, .string ⟨(S k 2).toArray⟩, .string ⟨(S k 3).toArray⟩] 35)).alloc (.cells #[.string ⟨(S k 0).toArray⟩, .string ⟨(S k 1).toArray⟩, .string ⟨(S k 2).toArray⟩, .string ⟨(S k 3).toArray⟩] 37)).cell? ((⟨wr.heap.size + 1, 0, none⟩ : Addr).add i) = some u) := hnew
              clear hnew
              go_wp2_with (at_builtin; refine wpList_append_where _ rfl (.tmp 56) (.tmp 66) 29 rfl w1.heap.size 37 i37 (.agg #[.string ⟨#[]⟩, .string ⟨#[]⟩, .string ⟨#[]⟩, .string ⟨#[]⟩]) 4 64 Try.underlying29 hi37 hz370 hz371 hz372 rfl (by decide) (.slice ao (n + k) ca) (n + k) (flat4 (twiceS n S) (n + k)) rfl hown ⟨wr.heap.size + 1, 0, none⟩ 1 1 [.string ⟨(S k 0).toArray⟩, .string ⟨(S k 1).toArray⟩, .string ⟨(S k 2).toArray⟩, .string ⟨(S k 3).toArray⟩] rfl rfl Hnew.out (by simp [Value.oneCell']) (by decide) (by omega) (by omega) (by simp; omega) ?_; intro g cap1 w2 hown2 hgrow2 hwhere2)
              have hT2 := hT.step (((Kept.refl (fun _ => False) wr).alloc (.cells #[.string ⟨(S k 0).toArray⟩, .string ⟨(S k 1).toArray⟩, .string ⟨(S k 2).toArray⟩, .string ⟨(S k 3).toArray⟩] 35)).alloc (.cells #[.string ⟨(S k 0).toArray⟩, .string ⟨(S k 1).toArray⟩, .string ⟨(S k 2).toArray⟩, .string ⟨(S k 3).toArray⟩] 37)) Hc.out hown2 hgrow2
              go_roundg (n - (k + 1))
              case measure => go_light; omega
              case rel => go_light; exact ⟨k + 1, by omega, rfl, by simp, hT2⟩
          · as_aux_lemma =>
              have hkz : ¬ (k : Int) < (n : Int) := by omega
              have ek : k = n := by omega
              rw [ek] at hT
              clear ek
              obtain ⟨ao, ca, hva⟩ := owns_slice hT.own
              subst hva
              have h2 := h1.below hT.below
              have HN : Hid (Calls Try.prog 11 #[.slice a0 n c0] wr fun e w' => NudPost n (fun i q => ⟨(S i q).toArray⟩) wr e w') := nudges_any n _ wr K _ hn2 h2
              go_wp2_with fail
              refine HN.out.mono ?_
              rintro e w2 ⟨vq, rfl, hb2, hq⟩
              have HZ : Hid (Calls Try.prog 10 #[vq] w2 fun e w' => ZgPost n S w2 e w') := hz n S w2 _ vq (by omega) hS hq
              go_wp2_with fail
              refine HZ.out.mono ?_
              rintro e w3 ⟨N, O, I, F, vn, vo, vi, vf, rfl, hG⟩
              have hb3 := hb2.trans (hG.below.mono hb2.size)
              have h4t := (owns_sl4 hT.own).below hb3
              have HZ2 : Hid (Calls Try.prog 10 #[.slice ao (n + n) ca] w3 fun e w' => ZgPost (n + n) (twiceS n S) w3 e w') := hz (n + n) (twiceS n S) w3 _ _ (by omega) (twice_len hS) h4t
              go_wp2_with fail
              refine HZ2.out.mono ?_
              rintro e w4 ⟨N2, O2, I2, F2, vn2, vo2, vi2, vf2, rfl, hG2⟩
              obtain ⟨eN, eO, eI, eF⟩ := hG.spec.same hG2.spec (twice_pairs n S)
              subst eN
              have n1 := hG.names.below hG2.below
              have n2 := hG.out.below4 hG2.below
              have n3 := hG.inn.below4 hG2.below
              have hbW : Below w'.heap.size w' w4 := ((hb1.trans (hT.below.mono hb1.size)).trans (hb3.mono (Nat.le_trans hb1.size hT.below.size))).trans (hG2.below.mono (Nat.le_trans (Nat.le_trans hb1.size hT.below.size) hb3.size))
              have hnl := hG.spec.nl
              have HE1 : Hid (∀ q, Calls Try.prog 16 #[vn, vn2] (w4.drewN q) fun e w' => TruePost (w4.drewN q) e w') := fun q => eqstrings_any N2 (by omega) (w4.drewN q) _ _ vn vn2 n1 hG2.names
              have HE2 : Hid (∀ q, Calls Try.prog 17 #[vo, vo2] (w4.drewN q) fun e w' => TruePost (w4.drewN q) e w') := fun q => eqintss_any N2.length (by omega) O (fun i hi => Nat.le_trans (hG.spec.ol hi) (by omega)) (w4.drewN q) _ _ vo vo2 n2 (hG2.out.same (fun i hi => (eO i hi).symm))
              have HE3 : Hid (∀ q, Calls Try.prog 17 #[vi, vi2] (w4.drewN q) fun e w' => TruePost (w4.drewN q) e w') := fun q => eqintss_any N2.length (by omega) I (fun i hi => Nat.le_trans (hG.spec.il hi) (by omega)) (w4.drewN q) _ _ vi vi2 n3 (hG2.inn.same (fun i hi => (eI i hi).symm))
              have HE4 : Hid (∀ q, Calls Try.prog 18 #[vf, vf2] (w4.drewN q) fun e w' => TruePost (w4.drewN q) e w') := by
                have el : ((List.range (N2.length + 1)).map F).length = N2.length + 1 := by simp
                have eg : ∀ j, j < N2.length + 1 → ((List.range (N2.length + 1)).map F).getD j 0 = F j := fun j hj => by simp [List.getD, hj]
                refine fun q => eqints_any ((List.range (N2.length + 1)).map F) (by rw [el]; omega) (w4.drewN q) (fun b => w2.heap.size ≤ b) (fun b => w3.heap.size ≤ b) vf vf2 ?_ ?_
                · rw [el]
                  exact (hG.first.below hG2.below).congr (fun j hj => by rw [eg j hj])
                · rw [el]
                  exact hG2.first.congr (fun j hj => by rw [eg j hj, eF j (by omega)])
              clear HN HZ HZ2 hG hG2 eO eI eF hT h1 h2 hq hb2 hb3 h4t
              go_wp2_with fail
              refine (HE1.out 0).mono ?_
              rintro e w5 ⟨rfl, m5, rfl⟩
              go_wp2_with fail
              refine (HE2.out _).mono ?_
              rintro e w6 ⟨rfl, m6, rfl⟩
              go_wp2_with fail
              refine (HE3.out _).mono ?_
              rintro e w7 ⟨rfl, m7, rfl⟩
              go_wp2_with fail
              refine (HE4.out _).mono ?_
              rintro e w8 ⟨rfl, m8, rfl⟩
              go_wp2
              go_ret
              exact ⟨rfl, hbW.os, hbW.tape, hbW.output, hbW.size, hbW.block⟩

end Go.Proofs.Qxb6601793a
