import Derived.Test.Qxb6605323aWalkA
namespace Go.Proofs.Qxb6605323a
open Go.RowKit
set_option linter.unusedVariables false

set_option maxRecDepth 20000 in
set_option maxHeartbeats 1000000 in
theorem early5 (a0 a1 a2 a4 a5 a6 a7 a8 : Int) (x3 x9 : Option Addr) (l3 c3 l9 c9 : Nat) (w : World) (m3 : l3 ≤ maxLen) (m9 : l9 ≤ maxLen)
    (h : 1048576 < l3 + l9 ∨ 131072 < l3 ∨ 131072 < l9 ∨ 1048576 < 8 * l3 + 8 * l9 ∨ a7 < 0 ∨ 2147483648 < a7 ∨ 2147483648 < a0) :
    Calls Try.prog 5 #[.int .i64 a0, .int .i64 a1, .int .i64 a2, .slice x3 l3 c3, .int .i64 a4, .int .i64 a5, .int .i64 a6, .int .i64 a7, .int .i64 a8, .slice x9 l9 c9] w fun e w' => e = .returned (.bool true) ∧ Below w.heap.size w w' := by
  by_cases h1 : 1048576 < l3 + l9
  · clear h
    go_enter Try.func5, Try.ntmps5
    go_wp2_with (go_at_call 18; refine (bytes18_no _ _ _ _ _ _ _ _ _ _ _ _ _ _ _ h1 m3 m9).mono ?_; rintro e w' ⟨rfl, rfl⟩)
    go_ret
    exact ⟨rfl, Below.refl _ _⟩
  · have hy : l3 + l9 ≤ 1048576 := by omega
    clear m3 m9
    by_cases h2 : 131072 < l3
    · clear h
      go_enter Try.func5, Try.ntmps5
      go_wp2_with (go_at_call 18; refine (bytes18_yes _ _ _ _ _ _ _ _ _ _ _ _ _ _ _ hy).mono ?_; rintro e w' ⟨rfl, rfl⟩)
      go_ret
      exact ⟨rfl, Below.refl _ _⟩
    by_cases h3 : 131072 < l9
    · clear h
      go_enter Try.func5, Try.ntmps5
      go_wp2_with (go_at_call 18; refine (bytes18_yes _ _ _ _ _ _ _ _ _ _ _ _ _ _ _ hy).mono ?_; rintro e w' ⟨rfl, rfl⟩)
      go_ret
      exact ⟨rfl, Below.refl _ _⟩
    by_cases h4 : 1048576 < 8 * l3 + 8 * l9
    · clear h
      go_enter Try.func5, Try.ntmps5
      go_wp2_with (go_at_call 18; refine (bytes18_yes _ _ _ _ _ _ _ _ _ _ _ _ _ _ _ hy).mono ?_; rintro e w' ⟨rfl, rfl⟩)
      go_ret
      exact ⟨rfl, Below.refl _ _⟩
    by_cases h5 : a7 < 0
    · clear h
      go_enter Try.func5, Try.ntmps5
      go_wp2_with (go_at_call 18; refine (bytes18_yes _ _ _ _ _ _ _ _ _ _ _ _ _ _ _ hy).mono ?_; rintro e w' ⟨rfl, rfl⟩)
      go_ret
      exact ⟨rfl, Below.refl _ _⟩
    by_cases h6 : 2147483648 < a7
    · clear h
      go_enter Try.func5, Try.ntmps5
      go_wp2_with (go_at_call 18; refine (bytes18_yes _ _ _ _ _ _ _ _ _ _ _ _ _ _ _ hy).mono ?_; rintro e w' ⟨rfl, rfl⟩)
      go_ret
      exact ⟨rfl, Below.refl _ _⟩
    · have h7 : 2147483648 < a0 := by omega
      clear h
      go_enter Try.func5, Try.ntmps5
      go_wp2_with (go_at_call 18; refine (bytes18_yes _ _ _ _ _ _ _ _ _ _ _ _ _ _ _ hy).mono ?_; rintro e w' ⟨rfl, rfl⟩)
      go_ret
      exact ⟨rfl, Below.refl _ _⟩

set_option maxRecDepth 20000 in
set_option maxHeartbeats 1000000 in
theorem wide5 (a0 a1 a2 a4 a5 a6 a7 a8 : Int) (x3 x9 : Option Addr) (l3 c3 l9 c9 : Nat) (w : World)
    (hl3 : l3 ≤ 131072) (hl9 : l9 ≤ 131072) (hl : 8 * l3 + 8 * l9 ≤ 1048576) (hs : 0 ≤ a7) (hs2 : a7 ≤ 2147483648) (hp : 2 ≤ a0) (hp2 : a0 ≤ 2147483648) (hm : 4503599627370496 < a7 * (a0 - 1)) (hm2 : a7 * (a0 - 1) ≤ 4611686018427387904) :
    Calls Try.prog 5 #[.int .i64 a0, .int .i64 a1, .int .i64 a2, .slice x3 l3 c3, .int .i64 a4, .int .i64 a5, .int .i64 a6, .int .i64 a7, .int .i64 a8, .slice x9 l9 c9] w fun e w' => e = .returned (.bool true) ∧ Below w.heap.size w w' := by
  go_enter Try.func5, Try.ntmps5
  go_wp2_with (go_at_call 18; refine (bytes18_yes _ _ _ _ _ _ _ _ _ _ _ _ _ _ _ (by omega)).mono ?_; rintro e w' ⟨rfl, rfl⟩)
  go_ret
  exact ⟨rfl, Below.refl _ _⟩

theorem ord00 : FloatKind.f64.format.order 0 0 = some .eq := by decide +kernel

set_option maxRecDepth 20000 in
set_option maxHeartbeats 1000000 in
theorem zero5 (a0 a1 a2 a4 a5 a6 a7 a8 : Int) (x3 x9 : Option Addr) (l3 c3 l9 c9 : Nat) (z3 z9 : List Int) (w : World) (h3 : Cel w x3 l3 c3 (fun i => z3.getD i 0)) (h9 : Cel w x9 l9 c9 (fun i => z9.getD i 0)) (e3 : l3 ≤ z3.length) (e9 : l9 ≤ z9.length)
    (hl3 : l3 ≤ 131072) (hl9 : l9 ≤ 131072) (hl : 8 * l3 + 8 * l9 ≤ 1048576) (hs : 0 ≤ a7) (hs2 : a7 ≤ 2147483648) (hp2 : a0 ≤ 2147483648) (hz : a7 = 0 ∨ a0 < 2) :
    Calls Try.prog 5 #[.int .i64 a0, .int .i64 a1, .int .i64 a2, .slice x3 l3 c3, .int .i64 a4, .int .i64 a5, .int .i64 a6, .int .i64 a7, .int .i64 a8, .slice x9 l9 c9] w fun e w' => e = .returned (.bool true) ∧ Below w.heap.size w w' := by
  have ho := ord00
  rcases (show a0 < 2 ∨ (2 ≤ a0 ∧ a7 = 0) by omega) with hp | ⟨hp, rfl⟩
  all_goals
    go_enter Try.func5, Try.ntmps5
    go_wp2_with (go_at_call 18; refine (bytes18_yes _ _ _ _ _ _ _ _ _ _ _ _ _ _ _ (by omega)).mono ?_; rintro e w' ⟨rfl, rfl⟩)
    go_loop [22, 23, 24] (fun x d i => ∃ k : Nat, k ≤ l9 ∧ i = .int .i64 k ∧ x = .int .i64 0 ∧ d = .int .i64 0) (fun _ _ i => l9 - (intOf i).toNat)
    case atStart => exact ⟨0, Nat.zero_le _, rfl, rfl, rfl⟩
    case round =>
      obtain ⟨k, hk, rfl, rfl, rfl⟩ := hrel
      by_cases hlt : k < l9
      · obtain ⟨b, off, rfl, hcc⟩ := h9.2 (by omega)
        have hcx := hcc k hlt
        simp only at hcx
        clear hcc h3 hz
        obtain ⟨v, hv⟩ : ∃ v, v = z9.getD k 0 := ⟨_, rfl⟩
        rw [← hv] at hcx
        clear hv h9
        by_cases hneg : v < 0
        · go_wp2
          go_ret
          exact ⟨rfl, Below.refl _ _⟩
        · by_cases hk0 : k = 0
          · subst hk0
            rw [Nat.add_zero] at hcx
            go_wp2
            go_round
            case rel => exact ⟨1, by omega, by go_num, rfl, rfl⟩
            case measure => simp [intOf]; omega
          · by_cases hgt : 0 < v
            · go_wp2
              go_ret
              exact ⟨rfl, Below.refl _ _⟩
            · obtain rfl : v = 0 := by omega
              by_cases hk1 : k = 1
              · subst hk1
                go_wp2
                go_round
                case rel => exact ⟨2, by omega, by go_num, rfl, rfl⟩
                case measure => simp [intOf]; omega
              · go_wp2
                go_round
                case rel => exact ⟨k + 1, by omega, by go_num, rfl, rfl⟩
                case measure => simp [intOf]; omega
      · have e : k = l9 := by omega
        subst e
        clear hz
        go_wp2_with fail
        refine (clone64_any _ _ _ z3 _ h3 e3 (by omega)).mono ?_
        rintro e w1 ⟨a3', c3', rfl, hb1⟩
        go_wp2_with fail
        refine (cloneI_any _ _ _ z9 _ (h9.later hb1) e9 (by omega)).mono ?_
        rintro e w2 ⟨a9', c9', rfl, hb2, hcel⟩
        go_wp2_with fail
        refine (eff_none _ _ _ _ _ _ _ _ _ _ _ (by first | exact .inr hp | exact .inl rfl) (by omega)).mono ?_
        rintro e w3 ⟨rfl, hb3⟩
        go_wp2
        go_ret
        exact ⟨rfl, (hb1.trans (hb2.mono hb1.size)).trans (hb3.mono (Nat.le_trans hb1.size hb2.size))⟩

/-- ████ FUNCTION 5: every input. -/
theorem walk5 (a0 a1 a2 a4 a5 a6 a7 a8 : Int) (x3 x9 : Option Addr) (l3 c3 l9 c9 : Nat) (z3 z9 : List Int) (w : World) (w3 : IsRow .i64 w x3 l3 c3 z3) (w9 : IsRow .i64 w x9 l9 c9 z9) :
    Calls Try.prog 5 #[.int .i64 a0, .int .i64 a1, .int .i64 a2, .slice x3 l3 c3, .int .i64 a4, .int .i64 a5, .int .i64 a6, .int .i64 a7, .int .i64 a8, .slice x9 l9 c9] w fun e w' => e = .returned (.bool true) ∧ Below w.heap.size w w' := by
  obtain ⟨h3, e3, m3⟩ := w3.cel
  obtain ⟨h9, e9, m9⟩ := w9.cel
  by_cases h : 1048576 < l3 + l9 ∨ 131072 < l3 ∨ 131072 < l9 ∨ 1048576 < 8 * l3 + 8 * l9 ∨ a7 < 0 ∨ 2147483648 < a7 ∨ 2147483648 < a0
  · exact early5 _ _ _ _ _ _ _ _ _ _ _ _ _ _ _ m3 m9 h
  by_cases hz : a7 = 0 ∨ a0 < 2
  · exact zero5 _ _ _ _ _ _ _ _ _ _ _ _ _ _ z3 z9 _ h3 h9 e3 e9 (by omega) (by omega) (by omega) (by omega) (by omega) (by omega) hz
  have p0 : 0 < a7 * (a0 - 1) := Int.mul_pos (by omega) (by omega)
  have p1 : a7 * (a0 - 1) ≤ 2147483648 * 2147483648 := by
    have s1 : a7 * (a0 - 1) ≤ 2147483648 * (a0 - 1) := Int.mul_le_mul_of_nonneg_right (by omega) (by omega)
    omega
  by_cases hm : 4503599627370496 < a7 * (a0 - 1)
  · exact wide5 _ _ _ _ _ _ _ _ _ _ _ _ _ _ _ (by omega) (by omega) (by omega) (by omega) (by omega) (by omega) (by omega) hm (by omega)
  · exact main5 _ _ _ _ _ _ _ _ _ _ _ _ _ _ z3 z9 _ h3 h9 e3 e9 (by omega) (by omega) (by omega) (by omega) (by omega) (by omega) (by omega) p0 (by omega)
end Go.Proofs.Qxb6605323a
