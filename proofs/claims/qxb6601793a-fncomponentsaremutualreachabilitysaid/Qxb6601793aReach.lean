import Derived.Test.Qxb6601793aBase
import Derived.Test.Qxb6601793aGraph
namespace Go.Proofs.Qxb6601793a
open Go.RowKit Go.Deep Scc

set_option maxHeartbeats 400000 in
theorem reach_any (n : Nat) (adj : Nat → List Nat) (s : Nat) (hs : s < n) (hn : n ≤ 1099511627776) (hadj : ∀ v, v < n → ∀ y ∈ adj v, y < n) (hlen : ∀ v, v < n → (adj v).length ≤ 1099511627776)
    (K : Nat → Prop) (v0 : Value) (w : World) (bs bq : Nat) (hM : Mat w K v0 n adj) (hKs : ¬ K bs) (hKq : ¬ K bq) (hne : bs ≠ bq) (f0 : Nat → Bool) (q0 : Nat → Int)
    (hR : w.rowIs bs 4 n (fun i => .bool (f0 i))) (hQ : w.rowIs bq 3 n (fun i => .int .i64 (q0 i))) :
    Calls Try.prog 23 #[v0, .int .i64 s, .slice (some ⟨bs, 0, none⟩) n n, .slice (some ⟨bq, 0, none⟩) n n] w fun e w' =>
      e = .returned (.tuple #[]) ∧ Kept (fun b => b = bs ∨ b = bq) w w' ∧ (∃ f' : Nat → Bool, w'.rowIs bs 4 n (fun i => .bool (f' i)) ∧ ∀ i, i < n → (f' i = true ↔ Rch (Edg adj) s i)) ∧
      ∃ q' : Nat → Int, w'.rowIs bq 3 n (fun i => .int .i64 (q' i)) := by
  go_enter Try.func23, Try.ntmps23
  go_wp2
  go_loopg [8] n (fun g i wr => ∃ k : Nat, k ≤ n ∧ g = n - k ∧ i = .int .i64 k ∧ Kept (fun b => b = bs ∨ b = bq) w wr ∧ wr.rowIs bs 4 n (fun i => .bool (if i < k then false else f0 i)) ∧ wr.rowIs bq 3 n (fun i => .int .i64 (q0 i)))
  case atStart => exact ⟨0, Nat.zero_le _, rfl, rfl, Kept.refl _ _, hR.congr (fun i _ => by simp), hQ⟩
  case round =>
    obtain ⟨k, hk, rfl, rfl, hKp, hRr, hQr⟩ := hrel
    by_cases hlt : k < n
    · have hz : (k : Int) < (n : Int) := by omega
      have c1 := hRr.cell hlt
      have c2 := hRr.frozen k
      go_wp2
      go_roundg (n - (k + 1))
      case measure => go_light; omega
      case rel =>
        go_light
        exact ⟨k + 1, by omega, rfl, by simp, hKp.setCell (fun _ => .inl rfl) _, (hRr.set k _).congr (fun i _ => by
          by_cases e : i = k
          · subst e; simp
          · rw [if_neg e]; by_cases h2 : i < k
            · rw [if_pos h2, if_pos (by omega)]
            · rw [if_neg h2, if_neg (by omega)]), hQr.setOther (by simp; omega) _⟩
    · have hz : ¬ (k : Int) < (n : Int) := by omega
      obtain rfl : k = n := by omega
      have hRr' : wr.rowIs bs 4 k (fun i => .bool false) := hRr.congr (fun i hi => by rw [if_pos hi])
      have c1 := hRr'.cell hs
      have c2 := hRr.frozen s
      have d1 := (hQr.setOther (a := ⟨bs, s, none⟩) (by simp; omega) (.bool true)).cell (i := 0) (by omega)
      have d2 := (hQr.setOther (a := ⟨bs, s, none⟩) (by simp; omega) (.bool true)).frozen 0
      have hsz : (s : Int) < (k : Int) := by omega
      have hkz : (0 : Int) < (k : Int) := by omega
      go_wp2
      have hB0 := BInv.begin (adj := adj) hs
      have hK0 : Kept (fun b => b = bs ∨ b = bq) w ((wr.setCell ⟨bs, s, none⟩ (.bool true)).setCell ⟨bq, 0, none⟩ (.int .i64 s)) := (hKp.setCell (fun _ => .inl rfl) _).setCell (fun _ => .inr rfl) _
      have hS0 : ((wr.setCell ⟨bs, s, none⟩ (.bool true)).setCell ⟨bq, 0, none⟩ (.int .i64 s)).rowIs bs 4 k (fun i => .bool (upd (fun _ => false) s true i)) :=
        ((hRr'.set s _).setOther (by simp; omega) _).congr (fun i _ => by simp only [upd]; split <;> rfl)
      have hQ0 : ((wr.setCell ⟨bs, s, none⟩ (.bool true)).setCell ⟨bq, 0, none⟩ (.int .i64 s)).rowIs bq 3 k (fun i => .int .i64 (if i < ([s] : List Nat).length then ((([s] : List Nat).getD i 0 : Nat) : Int) else q0 i)) :=
        ((hQr.setOther (a := ⟨bs, s, none⟩) (by simp; omega) _).set 0 _).congr (fun i _ => by by_cases e : i = 0 <;> simp [e])
      clear c1 c2 d1 d2 hRr hRr' hQr hKp hR hQ
      go_loopg [9, 10] k (fun g t h wx => ∃ (hd : Nat) (q : List Nat) (seen : Nat → Bool), hd ≤ q.length ∧ g = k - hd ∧ t = .int .i64 q.length ∧ h = .int .i64 hd ∧ BInv k adj s seen q ∧
        (∀ j, j < hd → ∀ y ∈ adj (q.getD j 0), seen y = true) ∧ Kept (fun b => b = bs ∨ b = bq) w wx ∧ wx.rowIs bs 4 k (fun i => .bool (seen i)) ∧
        ∃ q1 : Nat → Int, wx.rowIs bq 3 k (fun i => .int .i64 (if i < q.length then ((q.getD i 0 : Nat) : Int) else q1 i)))
      case atStart => exact ⟨0, [s], _, by simp, rfl, rfl, rfl, hB0, fun j hj => absurd hj (by omega), hK0, hS0, q0, hQ0⟩
      case round =>
        clear hB0 hK0 hS0 hQ0
        obtain ⟨hd, q, seen, hhd, rfl, rfl, rfl, hB, hdone, hKp, hRr, q1, hQr⟩ := hrel
        have hqn := hB.len
        by_cases hlt : hd < q.length
        · have hz : (hd : Int) < (q.length : Int) := by omega
          have hz2 : (hd : Int) < (k : Int) := by omega
          have hx : q.getD hd 0 ∈ q := mem_take_of_getD hlt
          obtain ⟨x, hxe⟩ : ∃ x, x = q.getD hd 0 := ⟨_, rfl⟩
          have hxk : x < k := by rw [hxe]; exact hB.lt _ hx
          have c1 : wr.cell? ⟨bq, hd, none⟩ = some (.int .i64 x) := by rw [hQr.cell (by omega), if_pos hlt, hxe]
          rw [← hxe] at hx
          have HX : Hid (x = q.getD hd 0) := hxe
          clear hxe
          go_wp2
          go_loopg [9, 12] (adj x).length (fun g t j wx => ∃ (i : Nat) (q : List Nat) (seen : Nat → Bool), i ≤ (adj x).length ∧ g = (adj x).length - i ∧ t = .int .i64 q.length ∧ j = .int .i64 i ∧ BInv k adj s seen q ∧ hd < q.length ∧ x = q.getD hd 0 ∧
            (∀ j, j < hd → ∀ y ∈ adj (q.getD j 0), seen y = true) ∧ (∀ y ∈ (adj x).take i, seen y = true) ∧ Kept (fun b => b = bs ∨ b = bq) w wx ∧ wx.rowIs bs 4 k (fun i => .bool (seen i)) ∧
            ∃ q1 : Nat → Int, wx.rowIs bq 3 k (fun i => .int .i64 (if i < q.length then ((q.getD i 0 : Nat) : Int) else q1 i)))
          case atStart => exact ⟨0, q, seen, Nat.zero_le _, rfl, rfl, rfl, hB, hlt, HX.out, hdone, by simp, hKp, hRr, q1, hQr⟩
          case round =>
            clear hdone hKp hRr hQr c1 hB hz hqn hhd hlt HX hx
            obtain ⟨i, q', seen', hi, rfl, rfl, rfl, hB, hlt, hxe, hdone, htk, hKp, hRr, q2, hQr⟩ := hrel
            have hqn := hB.len
            obtain ⟨b, o, cap, ao, c, rfl, hb, hcell, hrow⟩ := (hM.kept hKp (fun b hb => by rintro (rfl | rfl) <;> contradiction)).at hxk
            have hl := hlen x hxk
            have hxz : (x : Int) < (k : Int) := by omega
            have HX : Hid (x = q'.getD hd 0) := hxe
            clear hxe
            by_cases hil : i < (adj x).length
            · have hiz : (i : Int) < ((adj x).length : Int) := by omega
              obtain ⟨b', o', rfl, hb', hc'⟩ := hrow i hil
              obtain ⟨y, hy⟩ : ∃ y, y = (adj x).getD i 0 := ⟨_, rfl⟩
              rw [← hy] at hc'
              have hyx : y ∈ adj x := by rw [hy]; exact mem_take_of_getD hil
              have hyk : y < k := hadj x hxk y hyx
              have hyz : (y : Int) < (k : Int) := by omega
              have HY : Hid (y = (adj x).getD i 0) := hy
              clear hy hrow
              have c1 := hRr.cell hyk
              have c2 := hRr.frozen y
              cases hsy : seen' y
              · have hroom := hB.room (by rw [HX.out]; exact mem_take_of_getD hlt) hyx hyk hsy
                have hrz : (q'.length : Int) < (k : Int) := by omega
                have hB' := hB.push (by rw [HX.out]; exact mem_take_of_getD hlt) hyx hyk hsy
                have d1 := (hQr.setOther (a := ⟨bs, y, none⟩) (by simp; omega) (.bool true)).cell hroom
                have d2 := (hQr.setOther (a := ⟨bs, y, none⟩) (by simp; omega) (.bool true)).frozen q'.length
                rw [hsy] at c1
                have HS : Hid (seen' y = false) := hsy
                clear hsy
                go_wp2
                go_roundg ((adj x).length - (i + 1))
                case measure => go_light; omega
                case rel =>
                  go_light
                  have hup : ∀ z, seen' z = true → upd seen' y true z = true := fun z hz => by simp only [upd]; split <;> simp [hz]
                  refine ⟨i + 1, q' ++ [y], upd seen' y true, by omega, rfl, by simp, by simp, hB', by simp; omega, ?_, ?_, ?_, (hKp.setCell (fun _ => .inl rfl) _).setCell (fun _ => .inr rfl) _, ?_, q2, ?_⟩
                  · rw [HX.out]; simp [List.getD, List.getElem?_append_left hlt]
                  · intro j hj z hz
                    refine hup z (hdone j hj z ?_)
                    simpa [List.getD, List.getElem?_append_left (show j < q'.length by omega)] using hz
                  · intro z hz
                    rw [take_succ_getD hil, ← HY.out] at hz
                    rcases List.mem_append.1 hz with h1 | h1
                    · exact hup z (htk z h1)
                    · simp at h1; subst h1; exact upd_same _ _ _
                  · exact ((hRr.set y _).setOther (by simp; omega) _).congr (fun i _ => by simp only [upd]; split <;> rfl)
                  · refine ((hQr.setOther (a := ⟨bs, y, none⟩) (by simp; omega) _).set q'.length _).congr (fun i _ => ?_)
                    by_cases e : i = q'.length
                    · subst e; simp
                    · rw [if_neg e]
                      by_cases e2 : i < q'.length
                      · rw [if_pos e2, if_pos (by simp; omega)]; simp [List.getD, List.getElem?_append_left e2]
                      · rw [if_neg e2, if_neg (by simp; omega)]
              · rw [hsy] at c1
                have HS : Hid (seen' y = true) := hsy
                clear hsy
                go_wp2
                go_roundg ((adj x).length - (i + 1))
                case measure => go_light; omega
                case rel =>
                  go_light
                  refine ⟨i + 1, q', seen', by omega, rfl, rfl, by simp, hB, hlt, HX.out, hdone, ?_, hKp, hRr, q2, hQr⟩
                  intro z hz
                  rw [take_succ_getD hil, ← HY.out] at hz
                  rcases List.mem_append.1 hz with h1 | h1
                  · exact htk z h1
                  · simp at h1; subst h1; exact HS.out
            · have hiz : ¬ (i : Int) < ((adj x).length : Int) := by omega
              go_wp2
              go_roundg (k - (hd + 1))
              case measure => go_light; omega
              case rel =>
                go_light
                refine ⟨hd + 1, q', seen', by omega, rfl, rfl, by simp, hB, ?_, hKp, hRr, q2, hQr⟩
                intro j hj z hz
                by_cases e : j = hd
                · subst e
                  rw [← HX.out] at hz
                  exact htk z (by rw [List.take_of_length_le (by omega)]; exact hz)
                · exact hdone j (by omega) z hz
        · have hz : ¬ (hd : Int) < (q.length : Int) := by omega
          go_wp2
          go_end0
          refine ⟨rfl, hKp, ⟨seen, hRr, fun i hi => hB.done hadj (fun x hx y hy => ?_) i hi⟩, _, hQr⟩
          obtain ⟨j, hj, rfl⟩ := List.getElem_of_mem hx
          exact hdone j (by omega) y (by simpa [List.getD, List.getElem?_eq_getElem hj] using hy)

end Go.Proofs.Qxb6601793a
