import Derived.Test.Qxb6605323aClone
namespace Go.Proofs.Qxb6605323a
open Go.RowKit
set_option linter.unusedVariables false

set_option maxHeartbeats 400000 in
theorem eff_none (p l c mi ma ho so re : Int) (vl vd : Value) (w : World) (h : so = 0 ∨ p < 2) (hs : so ≤ 9223372036854775807) :
    Calls Try.prog 19 #[.agg #[.int .i64 p, .int .i64 l, .int .i64 c, vl, .int .i64 mi, .int .i64 ma, .int .i64 ho, .int .i64 so, .int .i64 re, vd]] w fun e w' => e = .returned (.float .f64 0) ∧ Below w.heap.size w w' := by
  by_cases h0 : so = 0
  · subst h0
    go_enter Try.func19, Try.ntmps19
    go_wp2
    go_ret
    exact ⟨rfl, (Below.refl _ _).alloc (Nat.le_refl _) _⟩
  · have hp : p < 2 := by omega
    have h1 : (so == 0) = false := by simpa using h0
    go_enter Try.func19, Try.ntmps19
    go_wp2
    go_ret
    exact ⟨rfl, (Below.refl _ _).alloc (Nat.le_refl _) _⟩

set_option maxHeartbeats 400000 in
theorem eff_some (p l c mi ma ho so re : Int) (vl : Value) (ao : Option Addr) (len cap : Nat) (f : Nat → Int) (inv q : Nat → Nat) (dn r : Nat) (w : World)
    (h0 : so ≠ 0) (hp : 2 ≤ p) (hp2 : p ≤ 9223372036854775807) (hl : len ≤ 1048576)
    (hc : 0 < len → ∃ b off, ao = some ⟨b, off, none⟩ ∧ ∀ i, i < len → w.cell? ⟨b, off + i, none⟩ = some (.int .i64 (f i)))
    (i1 : inv 1 = 0)
    (hq : ∀ k, 1 ≤ k → k < len → Ieee.double.div (floatOfInt .f64 (f k)) (floatOfInt .f64 k) = some (q k))
    (hi : ∀ k, 1 ≤ k → k < len → Ieee.double.add (inv k) (q k) = some (inv (k + 1)))
    (hm : Ieee.double.mul (floatOfInt .f64 so) (floatOfInt .f64 (p - 1)) = some dn)
    (hr : Ieee.double.div (inv (max len 1)) dn = some r) :
    Calls Try.prog 19 #[.agg #[.int .i64 p, .int .i64 l, .int .i64 c, vl, .int .i64 mi, .int .i64 ma, .int .i64 ho, .int .i64 so, .int .i64 re, .slice ao len cap]] w fun e w' => e = .returned (.float .f64 r) ∧ Below w.heap.size w w' := by
  have h1 : (so == 0) = false := by simpa using h0
  have hmul : ∀ t w, (binOp .mul t (.float .f64 (floatOfInt .f64 so)) (.float .f64 (floatOfInt .f64 (p - 1)))).run Try.prog w = .ok (.float .f64 dn) w := fun t w => run_float_arith w .mul t .f64 _ _ dn hm
  have hdiv : ∀ t w, (binOp .quo t (.float .f64 (inv (max len 1))) (.float .f64 dn)).run Try.prog w = .ok (.float .f64 r) w := fun t w => run_float_arith w .quo t .f64 _ _ r hr
  go_enter Try.func19, Try.ntmps19
  go_wp2
  go_loop [3, 4] (fun s i => ∃ k : Nat, 1 ≤ k ∧ k ≤ max len 1 ∧ i = .int .i64 k ∧ s = .float .f64 (inv k)) (fun _ i => len - (intOf i).toNat)
  case atStart => exact ⟨1, by omega, by omega, rfl, by rw [i1]⟩
  case round =>
    obtain ⟨k, hk1, hk, rfl, rfl⟩ := hrel
    by_cases hlt : k < len
    · obtain ⟨b, off, rfl, hcc⟩ := hc (by omega)
      have hcx := hcc k hlt
      have hbl := World.block_lt_of_cell? _ _ hcx
      have hcx' : (w.alloc (.cells #[.int .i64 p, .int .i64 l, .int .i64 c, vl, .int .i64 mi, .int .i64 ma, .int .i64 ho, .int .i64 so, .int .i64 re, .slice (some ⟨b, off, none⟩) len cap] 38)).cell? ⟨b, off + k, none⟩ = some (.int .i64 (f k)) := by
        rw [World.cell?_alloc_lt _ _ _ hbl]; exact hcx
      have hd1 : ∀ t w, (binOp .quo t (.float .f64 (floatOfInt .f64 (f k))) (.float .f64 (floatOfInt .f64 k))).run Try.prog w = .ok (.float .f64 (q k)) w := fun t w => run_float_arith w .quo t .f64 _ _ _ (hq k hk1 hlt)
      have ha1 : ∀ t w, (binOp .add t (.float .f64 (inv k)) (.float .f64 (q k))).run Try.prog w = .ok (.float .f64 (inv (k + 1))) w := fun t w => run_float_arith w .add t .f64 _ _ _ (hi k hk1 hlt)
      clear hcc hcx hq hi hc hr hm
      go_wp2
      go_round
      case rel => exact ⟨k + 1, by omega, by omega, by go_num, rfl⟩
      case measure => simp [intOf]; omega
    · have e : k = max len 1 := by omega
      subst e
      go_wp2
      go_ret
      exact ⟨rfl, (Below.refl _ _).alloc (Nat.le_refl _) _⟩
end Go.Proofs.Qxb6605323a
