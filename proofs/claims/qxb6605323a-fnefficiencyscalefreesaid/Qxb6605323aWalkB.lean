import Derived.Test.Qxb6605323aWalkA
import Derived.Test.Qxb6605323aLawB2
namespace Go.Proofs.Qxb6605323a
open Go.RowKit
set_option linter.unusedVariables false

set_option maxHeartbeats 400000 in
theorem bytes20_yes (a0 a1 a2 a4 a5 a6 a7 a8 : Value) (x3 x9 : Option Addr) (l3 c3 l9 c9 : Nat) (w : World) (h : l3 + l9 ≤ 1048576) :
    Calls Try.prog 20 #[a0, a1, a2, .slice x3 l3 c3, a4, a5, a6, a7, a8, .slice x9 l9 c9] w fun e w' => e = .returned (.bool true) ∧ w = w' := by
  go_enter Try.func20, Try.ntmps20
  go_wp2
  go_ret
  exact ⟨rfl, rfl⟩

set_option maxHeartbeats 400000 in
theorem bytes20_no (a0 a1 a2 a4 a5 a6 a7 a8 : Value) (x3 x9 : Option Addr) (l3 c3 l9 c9 : Nat) (w : World) (h : 1048576 < l3 + l9) (h3 : l3 ≤ maxLen) (h9 : l9 ≤ maxLen) :
    Calls Try.prog 20 #[a0, a1, a2, .slice x3 l3 c3, a4, a5, a6, a7, a8, .slice x9 l9 c9] w fun e w' => e = .returned (.bool false) ∧ w = w' := by
  unfold maxLen at h3 h9
  by_cases g3 : 1048576 < l3
  · go_enter Try.func20, Try.ntmps20
    go_wp2
    go_ret
    exact ⟨rfl, rfl⟩
  · by_cases g9 : 1048576 < l9
    · go_enter Try.func20, Try.ntmps20
      go_wp2
      go_ret
      exact ⟨rfl, rfl⟩
    · go_enter Try.func20, Try.ntmps20
      go_wp2
      go_ret
      exact ⟨rfl, rfl⟩

set_option maxRecDepth 20000 in
set_option maxHeartbeats 1000000 in
theorem early6 (a0 a1 a2 a4 a5 a6 a7 a8 : Int) (x3 x9 : Option Addr) (l3 c3 l9 c9 : Nat) (w : World) (m3 : l3 ≤ maxLen) (m9 : l9 ≤ maxLen)
    (h : 1048576 < l3 + l9 ∨ 131072 < l3 ∨ 131072 < l9 ∨ 1048576 < 8 * l3 + 8 * l9 ∨ a7 < -4611686018427387903 ∨ 4611686018427387903 < a7) :
    Calls Try.prog 6 #[.int .i64 a0, .int .i64 a1, .int .i64 a2, .slice x3 l3 c3, .int .i64 a4, .int .i64 a5, .int .i64 a6, .int .i64 a7, .int .i64 a8, .slice x9 l9 c9] w fun e w' => e = .returned (.bool true) ∧ Below w.heap.size w w' := by
  by_cases h1 : 1048576 < l3 + l9
  · clear h
    go_enter Try.func6, Try.ntmps6
    go_wp2_with (go_at_call 20; refine (bytes20_no _ _ _ _ _ _ _ _ _ _ _ _ _ _ _ h1 m3 m9).mono ?_; rintro e w' ⟨rfl, rfl⟩)
    go_ret
    exact ⟨rfl, Below.refl _ _⟩
  · have hy : l3 + l9 ≤ 1048576 := by omega
    clear m3 m9
    by_cases h2 : 131072 < l3
    · clear h
      go_enter Try.func6, Try.ntmps6
      go_wp2_with (go_at_call 20; refine (bytes20_yes _ _ _ _ _ _ _ _ _ _ _ _ _ _ _ hy).mono ?_; rintro e w' ⟨rfl, rfl⟩)
      go_ret
      exact ⟨rfl, Below.refl _ _⟩
    by_cases h3 : 131072 < l9
    · clear h
      go_enter Try.func6, Try.ntmps6
      go_wp2_with (go_at_call 20; refine (bytes20_yes _ _ _ _ _ _ _ _ _ _ _ _ _ _ _ hy).mono ?_; rintro e w' ⟨rfl, rfl⟩)
      go_ret
      exact ⟨rfl, Below.refl _ _⟩
    by_cases h4 : 1048576 < 8 * l3 + 8 * l9
    · clear h
      go_enter Try.func6, Try.ntmps6
      go_wp2_with (go_at_call 20; refine (bytes20_yes _ _ _ _ _ _ _ _ _ _ _ _ _ _ _ hy).mono ?_; rintro e w' ⟨rfl, rfl⟩)
      go_ret
      exact ⟨rfl, Below.refl _ _⟩
    by_cases h5 : a7 < -4611686018427387903
    · clear h
      go_enter Try.func6, Try.ntmps6
      go_wp2_with (go_at_call 20; refine (bytes20_yes _ _ _ _ _ _ _ _ _ _ _ _ _ _ _ hy).mono ?_; rintro e w' ⟨rfl, rfl⟩)
      go_ret
      exact ⟨rfl, Below.refl _ _⟩
    · have h6 : 4611686018427387903 < a7 := by omega
      clear h
      go_enter Try.func6, Try.ntmps6
      go_wp2_with (go_at_call 20; refine (bytes20_yes _ _ _ _ _ _ _ _ _ _ _ _ _ _ _ hy).mono ?_; rintro e w' ⟨rfl, rfl⟩)
      go_ret
      exact ⟨rfl, Below.refl _ _⟩

/-- The counts, as natural numbers; nought beyond the end. -/
def Dc (zs : List Int) (n k : Nat) : Nat := if k < n then (zs.getD k 0).toNat else 0
/-- The doubled counts, and a nought behind them. -/
def ys (zs : List Int) (n : Nat) : List Int := (zs.take n).map (2 * ·) ++ [0]
theorem ys_len (zs : List Int) (n : Nat) (h : n ≤ zs.length) : (ys zs n).length = n + 1 := by simp [ys]; omega
theorem ys_at (zs : List Int) (n k : Nat) (h : n ≤ zs.length) (hk : k < n) : (ys zs n)[k]?.getD 0 = 2 * zs.getD k 0 := by
  unfold ys
  rw [List.getElem?_append_left (by simp; omega)]
  simp [hk, List.getElem?_eq_getElem (show k < zs.length by omega)]
theorem ys_end (zs : List Int) (n : Nat) (h : n ≤ zs.length) : (ys zs n)[n]?.getD 0 = 0 := by
  unfold ys
  rw [List.getElem?_append_right (by simp; omega)]
  simp [show n - min n zs.length = 0 by omega]
theorem ys_take (zs : List Int) (n : Nat) (h : n ≤ zs.length) : (ys zs n).take n ++ List.replicate (n + 1 - n) 0 = ys zs n := by
  unfold ys
  rw [List.take_append_of_le_length (by simp; omega), List.take_of_length_le (by simp; omega)]
  simp [show n + 1 - n = 1 by omega]

end Go.Proofs.Qxb6605323a
