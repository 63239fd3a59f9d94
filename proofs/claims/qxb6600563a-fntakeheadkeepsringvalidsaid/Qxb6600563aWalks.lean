import Derived.Test.Qxb6600563aRows
import Derived.WalkKit
import Derived.WalkLawsBesides
import Derived.Below
import Derived.WalkSpells
import Derived.RegionTactic
import Derived.Deep.QuietTactic
import Derived.BigQuiet
namespace Go.Proofs.Qxb6600563a
open Go.RowKit
set_option linter.unusedVariables false

theorem wrap16 (x : Int) : IntKind.u16.wrap x = x % 65536 := by
  simp [IntKind.wrap, IntKind.signed, IntKind.bits]

set_option maxHeartbeats 400000 in
theorem take_eq (f t n : Int) (w : World) :
    Calls Try.prog 6 #[.agg #[.int .u16 f, .int .u16 f, .int .u16 t], .int .u16 n] w fun e w' => e = .returned (.agg #[.int .u16 (IntKind.u16.wrap (f + n)), .int .u16 (IntKind.u16.wrap (f + n)), .int .u16 t]) ∧ Below w.heap.size w w' := by
  go_enter Try.func6, Try.ntmps6
  go_wp2
  exact bodyPost_ret (v := .agg #[.int .u16 (IntKind.u16.wrap (f + n)), .int .u16 (IntKind.u16.wrap (f + n)), .int .u16 t]) (by simp [results, Try.results6, go_sem]) rfl ⟨rfl, ((Below.refl _ _).alloc (Nat.le_refl _) _).alloc (by simp) _⟩

set_option maxHeartbeats 400000 in
theorem take_ne (f h t n : Int) (w : World) (hne : (f == h) = false) :
    Calls Try.prog 6 #[.agg #[.int .u16 f, .int .u16 h, .int .u16 t], .int .u16 n] w fun e w' => e = .returned (.agg #[.int .u16 f, .int .u16 (IntKind.u16.wrap (h + n)), .int .u16 t]) ∧ Below w.heap.size w w' := by
  go_enter Try.func6, Try.ntmps6
  go_wp2
  exact bodyPost_ret (v := .agg #[.int .u16 f, .int .u16 (IntKind.u16.wrap (h + n)), .int .u16 t]) (by simp [results, Try.results6, go_sem]) rfl ⟨rfl, ((Below.refl _ _).alloc (Nat.le_refl _) _).alloc (by simp) _⟩

set_option maxHeartbeats 400000 in
theorem zz_any (f h t n f' h' : Int) (w : World) (hc : Calls Try.prog 6 #[.agg #[.int .u16 f, .int .u16 h, .int .u16 t], .int .u16 n] w fun e w' => e = .returned (.agg #[.int .u16 f', .int .u16 h', .int .u16 t]) ∧ Below w.heap.size w w') :
    Calls Try.prog 5 #[.int .u16 f, .int .u16 h, .int .u16 t, .int .u16 n] w fun e w' => e = .returned (.tuple #[.int .u16 f', .int .u16 h', .int .u16 t]) ∧ Below w.heap.size w w' := by
  have HC : Hid (_) := hc
  clear hc
  go_enter Try.func5, Try.ntmps5
  go_wp2_with fail
  refine Calls.mono HC.out ?_
  rintro e w1 ⟨rfl, hb⟩
  go_wp2
  go_quiet (fail)
  go_wp2
  go_ret3
  exact ⟨rfl, (hb.alloc hb.size _).trans ⟨rfl, rfl, rfl, Nat.le_refl _, fun _ _ => rfl⟩⟩

def R16 (x : Int) : Prop := 0 ≤ x ∧ x ≤ 65535
theorem wr16 (x : Int) : 0 ≤ IntKind.u16.wrap x ∧ IntKind.u16.wrap x ≤ 65535 := by rw [wrap16]; omega

set_option maxRecDepth 20000 in
set_option maxHeartbeats 1000000 in
theorem law (f h t n : Int) (w : World) (hf : R16 f) (hh : R16 h) (ht : R16 t) (hn : R16 n) :
    Calls Try.prog 4 #[.int .u16 f, .int .u16 h, .int .u16 t, .int .u16 n] w fun e w' => e = .returned (.bool true) ∧ Below w.heap.size w w' := by
  unfold R16 at hf hh ht hn
  have g0 := wr16 (h - f)
  have q0 := wr16 (t - h)
  by_cases c1 : 256 < IntKind.u16.wrap (h - f) + IntKind.u16.wrap (t - h)
  · go_enter Try.func4, Try.ntmps4
    go_wp2_with fail
    go_ret
    exact ⟨rfl, Below.refl _ _⟩
  by_cases c2 : IntKind.u16.wrap (t - h) < n
  · go_enter Try.func4, Try.ntmps4
    go_wp2_with fail
    go_ret
    exact ⟨rfl, Below.refl _ _⟩
  by_cases e : f = h
  · subst e
    have HZ : Hid (_) := zz_any f f t n (IntKind.u16.wrap (f + n)) (IntKind.u16.wrap (f + n)) w (take_eq f t n w)
    have z1 : IntKind.u16.wrap (IntKind.u16.wrap (f + n) - IntKind.u16.wrap (f + n)) = 0 := by rw [wrap16 (_ - _)]; omega
    have z2 : IntKind.u16.wrap (t - IntKind.u16.wrap (f + n)) = IntKind.u16.wrap (IntKind.u16.wrap (t - f) - n) := by simp only [wrap16] at *; omega
    have z3 : IntKind.u16.wrap (IntKind.u16.wrap (f + n) - f) = n := by simp only [wrap16] at *; omega
    have z4 := wr16 (IntKind.u16.wrap (t - f) - n)
    have z5 : IntKind.u16.wrap (IntKind.u16.wrap (t - f) - n) ≤ 256 := by simp only [wrap16] at *; omega
    go_enter Try.func4, Try.ntmps4
    go_wp2_with fail
    refine Calls.mono HZ.out ?_
    rintro e w1 ⟨rfl, hb⟩
    go_wp2
    go_ret
    exact ⟨rfl, hb⟩
  · have e' : (f == h) = false := by simpa using e
    have HZ : Hid (_) := zz_any f h t n f (IntKind.u16.wrap (h + n)) w (take_ne f h t n w e')
    have z1 : (f == IntKind.u16.wrap (h + n)) = false := by simp only [wrap16] at *; simp; omega
    have z2 : IntKind.u16.wrap (t - IntKind.u16.wrap (h + n)) = IntKind.u16.wrap (IntKind.u16.wrap (t - h) - n) := by simp only [wrap16] at *; omega
    have z3 : IntKind.u16.wrap (IntKind.u16.wrap (h + n) - h) = n := by simp only [wrap16] at *; omega
    have z4 := wr16 (IntKind.u16.wrap (t - h) - n)
    have z6 := wr16 (IntKind.u16.wrap (h + n) - f)
    have z5 : IntKind.u16.wrap (IntKind.u16.wrap (h + n) - f) + (IntKind.u16.wrap (t - h) - n) ≤ 256 := by simp only [wrap16] at *; omega
    go_enter Try.func4, Try.ntmps4
    go_wp2_with fail
    refine Calls.mono HZ.out ?_
    rintro e w1 ⟨rfl, hb⟩
    go_wp2
    go_ret
    exact ⟨rfl, hb⟩
end Go.Proofs.Qxb6600563a
