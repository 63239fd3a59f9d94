import Derived.Test.Qxb6605323aLawB
namespace Go.Proofs.Qxb6605323a.Fl
open Ieee

theorem inv_pad (D : Nat → Nat) (hD : ∀ k, D k ≤ 4611686018427387904) (k : Nat) (hk : k < 1048576) (h0 : D k = 0) : inv D (k + 1) = inv D (max k 1) := by
  by_cases z : k = 0
  · subst z; rfl
  · rw [show max k 1 = k by omega]
    have I := inv2_all D hD k (by omega) (by omega)
    have fi := two_fin I.two (I.le (by omega)) (by omega)
    have Q := quo2 D k (by omega) (by omega) (hD k)
    obtain ⟨r, hr, hR⟩ := add_rnd (inv D k) 0 fi.1 zero_lt_inf
    rw [inv_succ D k (by omega), Q.zero h0, hr]
    exact hR.exact fi.1 (by omega) (by rw [V_zero, Nat.mul_one, Nat.add_zero])

theorem xsum_pad (D : Nat → Nat) (k : Nat) (h0 : D k = 0) : xsum D (k + 1) = xsum D k := by
  by_cases z : k = 0
  · subst z; rfl
  · rw [xsum_succ D k (by omega), h0, Nat.add_zero]

/-- What the two calls of Efficiency need, and what the law needs of their one answer. -/
structure Facts (D : Nat → Nat) (n : Nat) (S P : Int) (E : Nat) : Prop where
  a : ∃ dn, double.mul (floatOfInt .f64 S) (floatOfInt .f64 (P - 1)) = some dn ∧ double.div (inv D (max n 1)) dn = some E
  b : ∃ dn, double.mul (floatOfInt .f64 (2 * S)) (floatOfInt .f64 (P - 1)) = some dn ∧ double.div (inv (fun i => 2 * D i) (max (n + 1) 1)) dn = some E
  refl : double.order E E = some .eq
  zero : xsum D n = 0 → double.order E 0 = some .eq ∧ ∃ J, double.div 4607182418800017408 E = some J ∧ double.order J J = some .eq
  pos : 0 < xsum D n → 0 < S → double.order E 0 = some .gt
  neg : 0 < xsum D n → S < 0 → double.order E 0 = some .lt

theorem facts (D : Nat → Nat) (hD : ∀ k, D k ≤ 4611686018427387904) (n : Nat) (hn : n < 1048576) (h0 : D n = 0) (S P : Int) (hS : S ≠ 0) (hP : 2 ≤ P) (hS1 : -4611686018427387903 ≤ S) (hS2 : S ≤ 4611686018427387903) (hP2 : P ≤ 9223372036854775807) :
    ∃ E, Facts D n S P E := by
  obtain ⟨p, hp⟩ : ∃ p : Nat, P - 1 = p := ⟨(P - 1).toNat, by omega⟩
  obtain ⟨sg, s, hsg, e1, e2, hs0, hs1⟩ : ∃ (sg : Bool) (s : Nat), (sg = decide (S < 0)) ∧ floatOfInt .f64 S = double.word sg (floatOfInt .f64 s) ∧ floatOfInt .f64 (2 * S) = double.word sg (floatOfInt .f64 (2 * s : Nat)) ∧ 1 ≤ s ∧ s ≤ 4611686018427387904 := by
    by_cases c : S < 0
    · obtain ⟨s, hs⟩ : ∃ s : Nat, S = -s := ⟨S.natAbs, by omega⟩
      refine ⟨true, s, by simp [c], ?_, ?_, by omega, by omega⟩
      · obtain ⟨r, ⟨h1, h2⟩, _⟩ := ofInt_rnd s
        rw [hs, h2, h1, show decide (0 < s) = true from decide_eq_true (by omega)]
      · obtain ⟨r, ⟨h1, h2⟩, _⟩ := ofInt_rnd (2 * s)
        rw [show 2 * S = -((2 * s : Nat) : Int) by omega, h2, h1, show decide (0 < 2 * s) = true from decide_eq_true (by omega)]
    · obtain ⟨s, hs⟩ : ∃ s : Nat, S = s := ⟨S.natAbs, by omega⟩
      refine ⟨false, s, by simp [c], ?_, ?_, by omega, by omega⟩
      · rw [hs, word_pos]
      · rw [show 2 * S = ((2 * s : Nat) : Int) by omega, word_pos]
  obtain ⟨dn, dn', g, gf, m1, d1, m2, d2, gz⟩ := scale D hD (n + 1) s p sg (by omega) (by omega) hs0 (by omega) hs1 (by omega)
  rw [inv_pad D hD n hn h0] at d1
  rw [xsum_pad D n h0] at gz
  have ow := order_words sg sg g g gf gf
  have oz := order_words sg false g 0 gf zero_lt_inf
  rw [word_pos] at oz
  refine ⟨double.word sg g, ⟨_, by rw [e1, hp]; exact m1, d1⟩, ⟨_, by rw [e2, hp]; exact m2, by rw [show max (n + 1) 1 = n + 1 by omega]; exact d2⟩, by rw [ow, cmp_eq], ?_, ?_, ?_⟩
  · intro z
    have g0 := gz.2 z
    subst g0
    refine ⟨?_, ?_⟩
    · rw [oz]
      have : sv sg 0 = sv false 0 := by cases sg <;> simp [sv, V_zero]
      rw [this, cmp_eq]
    · cases sg
      · exact ⟨9218868437227405312, by decide +kernel, by decide +kernel⟩
      · exact ⟨18442240474082181120, by decide +kernel, by decide +kernel⟩
  · intro z hS
    have g0 : 0 < g := by
      rcases Nat.eq_zero_or_pos g with h | h
      · have := gz.1 h; omega
      · exact h
    have : sg = false := by rw [hsg]; exact decide_eq_false (by omega)
    subst this
    rw [oz, cmp_gt]
    have := V_pos g0
    simp [sv, V_zero]; omega
  · intro z hS
    have g0 : 0 < g := by
      rcases Nat.eq_zero_or_pos g with h | h
      · have := gz.1 h; omega
      · exact h
    have : sg = true := by rw [hsg]; exact decide_eq_true hS
    subst this
    rw [oz, cmp_lt]
    have := V_pos g0
    simp [sv, V_zero]; omega

end Go.Proofs.Qxb6605323a.Fl
