import Derived.Test.Qxb6605325aStep
namespace Go.Proofs.Qxb6605325a
open Go.RowKit
set_option linter.unusedVariables false

set_option maxRecDepth 20000 in
set_option maxHeartbeats 4000000 in
theorem step_open (p : Nat) (ta : Option Addr) (n cap : Nat) (S : Nat → ByteArray) (W : Nat → Int) (x : Option Addr) (l cx : Nat) (A : Nat → Nat) (c : ByteArray) (sn vl : Bool) (w : World) (hp : w.cell? ⟨p, 0, none⟩ = some (.slice ta n cap)) (h : Toks w ta n cap S W) (hn : n ≤ 256)
    (ha : Ats w x l A) (hl : l ≤ 257) (hA : ∀ k, k < l → A k ≤ n) (hb : ∀ k, k ≤ l → (stepL S W n c false vl A k).length ≤ 257) (hc : sn = false ∨ (c.toList == [46]) = false) :
    Calls Try.prog 16 #[.pointer (some ⟨p, 0, none⟩), .slice x l cx, .string c, .bool sn, .bool vl] w fun e w' => ∃ a c', e = .returned (.slice a (stepL S W n c false vl A l).length c') ∧ Ats w' a (stepL S W n c false vl A l).length (fun k => (stepL S W n c false vl A l).getD k 0) ∧ Below w.heap.size w w' := by
  have HT : Hid (Toks w ta n cap S W) := h
  have HA : Hid (Ats w x l A) := ha
  have HAn : Hid (∀ k, k < l → A k ≤ n) := hA
  have HBd : Hid (∀ k, k ≤ l → (stepL S W n c false vl A k).length ≤ 257) := hb
  have HP : Hid (w.cell? ⟨p, 0, none⟩ = some (.slice ta n cap)) := hp
  clear h ha hA hb hp
  rcases (show sn = false ∨ (sn = true ∧ (c.toList == [46]) = false) by cases sn; exact .inl rfl; exact .inr ⟨rfl, by simpa using hc⟩) with rfl | ⟨rfl, hdot⟩
  all_goals
    clear hc
    go_enter Try.func16, Try.ntmps16
    go_wp2
    go_loopw [26] (fun i wr => ∃ k : Nat, k ≤ l ∧ i = .int .i64 k ∧ Nx wr w.heap.size (stepL S W n c false vl A k) ∧ Below w.heap.size w wr) (fun i _ => l - (intOf i).toNat)
    case atStart => exact ⟨0, Nat.zero_le _, rfl, Nx.start w, (Below.refl _ _).alloc (Nat.le_refl _) _⟩
    case round =>
      obtain ⟨k, hk, rfl, hnx, hb⟩ := hrel
      by_cases hlt : k < l
      · obtain ⟨b, off, rfl, hcc⟩ := (Ats.later HA.out hb) (by omega)
        have hcx := hcc k hlt
        clear hcc
        have hAk := HAn.out k hlt
        have HNX : Hid (Nx wr w.heap.size (stepL S W n c false vl A k)) := hnx
        clear hnx
        go_wp2
        go_step3
        go_wp2
        go_step3
        go_wp2
        go_loopw [16] (fun i ws => ∃ (j : Nat) (cur : List Nat), j ≤ n ∧ i = .int .i64 j ∧ Nx ws w.heap.size cur ∧ inner S W c false vl (n - j) j cur = stepL S W n c false vl A (k + 1) ∧ Below w.heap.size w ws) (fun i _ => n - (intOf i).toNat)
        case atStart => exact ⟨A k, _, hAk, rfl, HNX.out, rfl, hb⟩
        case round =>
          obtain ⟨j, cur, hj, rfl, hnx, hin, hbs⟩ := hrel
          have HIN : Hid (inner S W c false vl (n - j) j cur = stepL S W n c false vl A (k + 1)) := hin
          have HN2 : Hid (Nx wr w.heap.size cur) := hnx
          have hpx := cell_later hbs HP.out
          have hcl : cur.length ≤ 257 := by
            have a1 := inner_le S W c false vl (n - j) j cur
            rw [hin] at a1
            have := HBd.out (k + 1) (by omega)
            omega
          clear hin hnx hcx
          by_cases hjn : j < n
          · obtain ⟨tb, toff, rfl, hcc⟩ := (Toks.later HT.out hbs).2 (by omega)
            have hcx := (hcc j hjn).1
            have hcy := (hcc j hjn).2
            clear hcc
            -- what the code does with this token, by its class
            have HU : Hid (stepL S W n c false vl A (k + 1) = inner S W c false vl ((n - (j + 1)) + 1) j cur) := by
              show _ = _; rw [← HIN.out, show n - j = (n - (j + 1)) + 1 by omega]
            clear HIN
            by_cases ht : (S j).toList.isEmpty = false
            · by_cases hm : ((S j).toList == c.toList) = true
              · have HS : Hid (addL cur (j + 1) = stepL S W n c false vl A (k + 1)) := by
                  show _ = _; rw [HU.out, inner, if_pos ht, if_pos hm]
                go_wp2_with fail
                rw [show ((j : Int) + 1) = ((j + 1 : Nat) : Int) by omega]
                refine (add_any w.heap.size (j + 1) cur _ (HN2.out.alloc _) (by omega)).mono ?_
                rintro e w1 ⟨rfl, hnx1, hb1⟩
                rw [HS.out] at hnx1
                have hb2 : Below w.heap.size w w1 := (hbs.alloc hbs.size _).trans hb1
                have HX1 : Hid (Nx w1 w.heap.size (stepL S W n c false vl A (k + 1))) := hnx1
                clear hnx1
                go_wp2
                rw [Exit.noGoto_normal]
                go_wp2
                go_roundw
                case rel => exact ⟨k + 1, by omega, by go_num, HX1.out, hb2⟩
                case measure => simp [intOf]; omega
              · have hm' : ((S j).toList == c.toList) = false := by simpa using hm
                have HS : Hid (cur = stepL S W n c false vl A (k + 1)) := by
                  show _ = _; rw [HU.out, inner, if_pos ht, if_neg hm]
                go_wp2
                rw [Exit.noGoto_normal]
                go_wp2
                go_roundw
                case rel => exact ⟨k + 1, by omega, by go_num, by rw [← HS.out]; exact HN2.out.alloc _, hbs.alloc hbs.size _⟩
                case measure => simp [intOf]; omega
            have ht' : (S j).toList.isEmpty = true := by simpa using ht
            have hsl : (c.toList == [47]) = true ∨ (c.toList == [47]) = false := by cases (c.toList == [47]) <;> simp
            by_cases h0 : W j = 0
            · have h0' : (W j == 0) = true := by simpa using h0
              rcases hsl with hsl | hsl
              · have HS : Hid (cur = stepL S W n c false vl A (k + 1)) := by
                  show _ = _; rw [HU.out, inner, if_neg ht, if_neg (by simp), if_pos h0, if_neg (by simp [hsl])]
                clear h0
                go_wp2
                rw [Exit.noGoto_normal]
                go_wp2
                go_roundw
                case rel => exact ⟨k + 1, by omega, by go_num, by rw [← HS.out]; exact HN2.out.alloc _, hbs.alloc hbs.size _⟩
                case measure => simp [intOf]; omega
              · have HS : Hid (addL cur (j + 1) = stepL S W n c false vl A (k + 1)) := by
                  show _ = _; rw [HU.out, inner, if_neg ht, if_neg (by simp), if_pos h0, if_pos hsl]
                clear h0
                go_wp2_with fail
                rw [show ((j : Int) + 1) = ((j + 1 : Nat) : Int) by omega]
                refine (add_any w.heap.size (j + 1) cur _ (HN2.out.alloc _) (by omega)).mono ?_
                rintro e w1 ⟨rfl, hnx1, hb1⟩
                rw [HS.out] at hnx1
                have hb2 : Below w.heap.size w w1 := (hbs.alloc hbs.size _).trans hb1
                have HX1 : Hid (Nx w1 w.heap.size (stepL S W n c false vl A (k + 1))) := hnx1
                clear hnx1
                go_wp2
                rw [Exit.noGoto_normal]
                go_wp2
                go_roundw
                case rel => exact ⟨k + 1, by omega, by go_num, HX1.out, hb2⟩
                case measure => simp [intOf]; omega
            have h0' : (W j == 0) = false := by simpa using h0
            -- the token may match nothing: the next one is tried too
            by_cases hadd : (W j = 1 ∧ (c.toList == [47]) = false) ∨ (W j = 2 ∧ ((c.toList == [47]) = false ∨ vl = false))
            · have HS : Hid (inner S W c false vl (n - (j + 1)) (j + 1) (addL cur j) = stepL S W n c false vl A (k + 1)) := by
                show _ = _; rw [HU.out, inner, if_neg ht, if_neg (by simp), if_neg h0]
                rcases hadd with ⟨e, e2⟩ | ⟨e, e2⟩
                · rw [if_pos e, if_pos e2]
                · rw [if_neg (by omega), if_pos e, if_pos e2]
              rcases (show (W j = 1 ∧ (c.toList == [47]) = false) ∨ (W j = 2 ∧ (c.toList == [47]) = false) ∨ (W j = 2 ∧ (c.toList == [47]) = true ∧ vl = false) by
                rcases hadd with h | ⟨h, h2⟩
                · exact .inl h
                · rcases hsl with q | q
                  · right; right; exact ⟨h, q, by simpa [q] using h2⟩
                  · right; left; exact ⟨h, q⟩) with ⟨e1, e2⟩ | ⟨e1, e2⟩ | ⟨e1, e2, e3⟩
              · have e1' : (W j == 1) = true := by simpa using e1
                clear e1 h0 hadd hsl
                go_wp2_with fail
                refine (add_any w.heap.size j cur _ (HN2.out.alloc _) (by omega)).mono ?_
                rintro e w1 ⟨rfl, hnx1, hb1⟩
                have hb2 : Below w.heap.size w w1 := (hbs.alloc hbs.size _).trans hb1
                have HX1 : Hid (Nx w1 w.heap.size (addL cur j)) := hnx1
                clear hnx1
                go_wp2
                go_roundw
                case rel => exact ⟨j + 1, _, by omega, by go_num, HX1.out, HS.out, hb2⟩
                case measure => simp [intOf]; omega
              · have e1' : (W j == 1) = false := by simp; omega
                have e1'' : (W j == 2) = true := by simpa using e1
                clear e1 h0 hadd hsl
                go_wp2_with fail
                refine (add_any w.heap.size j cur _ (HN2.out.alloc _) (by omega)).mono ?_
                rintro e w1 ⟨rfl, hnx1, hb1⟩
                have hb2 : Below w.heap.size w w1 := (hbs.alloc hbs.size _).trans hb1
                have HX1 : Hid (Nx w1 w.heap.size (addL cur j)) := hnx1
                clear hnx1
                go_wp2
                go_roundw
                case rel => exact ⟨j + 1, _, by omega, by go_num, HX1.out, HS.out, hb2⟩
                case measure => simp [intOf]; omega
              · have e1' : (W j == 1) = false := by simp; omega
                have e1'' : (W j == 2) = true := by simpa using e1
                subst e3
                clear e1 h0 hadd hsl
                go_wp2_with fail
                refine (add_any w.heap.size j cur _ (HN2.out.alloc _) (by omega)).mono ?_
                rintro e w1 ⟨rfl, hnx1, hb1⟩
                have hb2 : Below w.heap.size w w1 := (hbs.alloc hbs.size _).trans hb1
                have HX1 : Hid (Nx w1 w.heap.size (addL cur j)) := hnx1
                clear hnx1
                go_wp2
                go_roundw
                case rel => exact ⟨j + 1, _, by omega, by go_num, HX1.out, HS.out, hb2⟩
                case measure => simp [intOf]; omega
            · have HS : Hid (inner S W c false vl (n - (j + 1)) (j + 1) cur = stepL S W n c false vl A (k + 1)) := by
                show _ = _; rw [HU.out, inner, if_neg ht, if_neg (by simp), if_neg h0]
                by_cases q1 : W j = 1
                · rw [if_pos q1, if_neg (fun e => hadd (.inl ⟨q1, e⟩))]
                · rw [if_neg q1]
                  by_cases q2 : W j = 2
                  · rw [if_pos q2, if_neg (fun e => hadd (.inr ⟨q2, e⟩))]
                  · rw [if_neg q2]
              by_cases q1 : W j = 1
              · have hsl' : (c.toList == [47]) = true := by
                  rcases hsl with q | q
                  · exact q
                  · exact absurd (.inl ⟨q1, q⟩) hadd
                have q1' : (W j == 1) = true := by simpa using q1
                clear q1 h0 hadd hsl
                go_wp2
                go_roundw
                case rel => exact ⟨j + 1, _, by omega, by go_num, HN2.out.alloc _, HS.out, hbs.alloc hbs.size _⟩
                case measure => simp [intOf]; omega
              · have q1' : (W j == 1) = false := by simpa using q1
                by_cases q2 : W j = 2
                · have q2' : (W j == 2) = true := by simpa using q2
                  have hsl' : (c.toList == [47]) = true := by
                    rcases hsl with q | q
                    · exact q
                    · exact absurd (.inr ⟨q2, .inl q⟩) hadd
                  have hv : vl = true := by
                    cases vl
                    · exact absurd (.inr ⟨q2, .inr rfl⟩) hadd
                    · rfl
                  subst hv
                  clear q1 q2 h0 hadd hsl
                  go_wp2
                  go_roundw
                  case rel => exact ⟨j + 1, _, by omega, by go_num, HN2.out.alloc _, HS.out, hbs.alloc hbs.size _⟩
                  case measure => simp [intOf]; omega
                · have q2' : (W j == 2) = false := by simpa using q2
                  clear q1 q2 h0 hadd hsl
                  go_wp2
                  go_roundw
                  case rel => exact ⟨j + 1, _, by omega, by go_num, HN2.out.alloc _, HS.out, hbs.alloc hbs.size _⟩
                  case measure => simp [intOf]; omega
          · have HS : Hid (cur = stepL S W n c false vl A (k + 1)) := by
              show _ = _; rw [← HIN.out, show n - j = 0 by omega]; rfl
            go_wp2
            rw [Exit.noGoto_normal]
            go_wp2
            go_roundw
            case rel => exact ⟨k + 1, by omega, by go_num, by rw [← HS.out]; exact HN2.out, hbs⟩
            case measure => simp [intOf]; omega
      · have ek : k = l := by omega
        subst ek
        obtain ⟨a, c', hB, hO⟩ := hnx
        have hc1 := cell_of_one hB
        have HO : Hid (Ats wr a (stepL S W n c false vl A k).length (fun i => (stepL S W n c false vl A k).getD i 0)) := ats_of_own hO
        clear hB hO
        go_wp2
        go_ret
        exact ⟨a, c', rfl, HO.out, hb⟩
end Go.Proofs.Qxb6605325a
