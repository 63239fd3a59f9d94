/-
  The plain law of the second statement: twice the sources and twice the counts give the same quotient.
-/
import Derived.Test.Qxb6605323aLawA
namespace Go.Proofs.Qxb6605323a.Fl
open Ieee

def Lb : Nat := 1000 * 4503599627370496 + 4503599627370496
theorem Lb_V : ∃ s : Nat, s = 1000 ∧ V Lb = 4503599627370496 * 2 ^ s := by
  obtain ⟨s, hs⟩ : ∃ s : Nat, s = 1000 := ⟨_, rfl⟩
  refine ⟨s, hs, ?_⟩
  have : Lb = s * 4503599627370496 + 4503599627370496 := by rw [hs]; rfl
  rw [this, V_at _ _ (by omega) (by omega)]
theorem Lb_lt : Lb < inf := by decide +kernel
theorem Lb_lo : 9007199254740992 ≤ Lb := by decide +kernel
theorem Lb_up (k : Nat) (hk : k ≤ 1048576) : V Lb * k ≤ U := by
  obtain ⟨s, hs, hv⟩ := Lb_V
  have hE := uE_eq
  rw [hv, U_def, show uE = 52 + s + 22 by omega, Nat.pow_add, Nat.pow_add, show 2 ^ 52 = 4503599627370496 by decide, show 2 ^ 22 = 4194304 by decide]
  exact Nat.mul_le_mul_left _ (by omega)
theorem Lb_big : 2 ^ 126 ≤ V Lb := by
  obtain ⟨s, hs, hv⟩ := Lb_V
  rw [hv, show (4503599627370496 : Nat) = 2 ^ 52 by decide, ← Nat.pow_add]
  exact Nat.pow_le_pow_right (by omega) (by omega)

/-- The rung of 2 ^ e. -/
def Tw (e : Nat) : Nat := (e + 1022) * 4503599627370496 + 4503599627370496
theorem Tw_V (e : Nat) : V (Tw e) = 2 ^ e * U := V_two e
theorem Tw_fin {e : Nat} (h : e ≤ 500) : Tw e + 4503599627370496 < inf := by
  show _ < 9218868437227405312
  unfold Tw; omega
theorem Tw_lt {e : Nat} (h : e ≤ 500) : Tw e < inf := by have := Tw_fin h; generalize inf = I at *; omega
theorem Lb_Tw (e : Nat) : Lb ≤ Tw e := by unfold Lb Tw; omega

theorem le_Tw {r e : Nat} (h : V r ≤ 2 ^ e * U) : r ≤ Tw e := by
  by_cases c : r ≤ Tw e
  · exact c
  · have := V_strict (show Tw e < r by omega)
    rw [Tw_V] at this; omega

/-- b is a with twice the value; both nought, or a not too small. -/
def Two (a b : Nat) : Prop := (a = 0 ∧ b = 0) ∨ (Lb ≤ a ∧ b = a + 4503599627370496)
theorem Two.val {a b : Nat} (h : Two a b) : V b = 2 * V a := by
  rcases h with ⟨rfl, rfl⟩ | ⟨h, rfl⟩
  · rw [V_zero]
  · exact V_dbl (by have := Lb_lo; omega)
theorem Two.mk' {N D r r' : Nat} (h : IsRnd N D r) (h' : IsRnd (2 * N) D r') (hD : 0 < D) (e : Nat) (he : e ≤ 500) (hup : N ≤ 2 ^ e * U * D) (hlo : N = 0 ∨ V Lb * D ≤ N) : Two r r' := by
  rcases hlo with z | hlo
  · left
    subst z
    exact ⟨h.exact zero_lt_inf hD (by rw [V_zero, Nat.zero_mul]), h'.exact zero_lt_inf hD (by rw [V_zero, Nat.zero_mul])⟩
  · right
    have h1 : Lb ≤ r := h.ge (Nat.le_of_lt Lb_lt) hD hlo
    have h2 : r ≤ Tw e := h.le (Tw_lt he) hD (by rw [Tw_V]; exact hup)
    refine ⟨h1, h.dbl h' hD (Nat.le_trans Lb_lo h1) ?_⟩
    have := Tw_fin he
    generalize inf = I at *
    omega

/-- A whole number up to 2 ^ 64 made a double. -/
theorem ofInt_any (n : Nat) (hn : n ≤ 2 ^ 64) : ∃ r, floatOfInt .f64 n = r ∧ floatOfInt .f64 (-n) = double.word (decide (0 < n)) r ∧ IsRnd (n * U) 1 r ∧ r ≤ Tw 64 ∧ (0 < n → Tw 0 ≤ r) ∧ (n = 0 → r = 0) := by
  obtain ⟨r, ⟨h1, h2⟩, h3⟩ := ofInt_rnd n
  refine ⟨r, h1, h2, h3, h3.le (Tw_lt (by omega)) (by omega) ?_, fun h => h3.ge (Nat.le_of_lt (Tw_lt (by omega))) (by omega) ?_, fun h => ?_⟩
  · rw [Tw_V, Nat.mul_one]; exact Nat.mul_le_mul_right _ hn
  · rw [Tw_V, Nat.mul_one, Nat.pow_zero]; exact Nat.mul_le_mul_right _ h
  · subst h; exact h3.exact zero_lt_inf (by omega) (by rw [V_zero, Nat.zero_mul])

theorem ofInt_two (n : Nat) (hn : n ≤ 4611686018427387904) : Two (floatOfInt .f64 n) (floatOfInt .f64 (2 * n : Nat)) := by
  obtain ⟨r, ⟨h1, _⟩, h3⟩ := ofInt_rnd n
  obtain ⟨r', ⟨h1', _⟩, h3'⟩ := ofInt_rnd (2 * n)
  rw [h1, h1']
  rw [Nat.mul_assoc] at h3'
  refine Two.mk' h3 h3' (by omega) 64 (by omega) ?_ ?_
  · rw [Nat.mul_one]; exact Nat.mul_le_mul_right _ (Nat.le_trans hn (by decide))
  · by_cases z : n = 0
    · left; rw [z, Nat.zero_mul]
    · right
      have := Lb_up 1 (by omega)
      rw [Nat.mul_one] at *
      exact Nat.le_trans this (Nat.le_mul_of_pos_left U (by omega))

def B62 : Nat := 4611686018427387904 * U
theorem B62_eq : B62 = 2 ^ 62 * U := by unfold B62; rw [show 2 ^ 62 = 4611686018427387904 by decide]

structure Quo2 (D : Nat → Nat) (k : Nat) : Prop where
  d1 : double.div (floatOfInt .f64 (D k)) (floatOfInt .f64 k) = some (q D k)
  d2 : double.div (floatOfInt .f64 (2 * D k : Nat)) (floatOfInt .f64 k) = some (q (fun i => 2 * D i) k)
  two : Two (q D k) (q (fun i => 2 * D i) k)
  up : V (q D k) ≤ B62
  pos : 0 < D k → Lb ≤ q D k
  zero : D k = 0 → q D k = 0

theorem quo2 (D : Nat → Nat) (k : Nat) (h1 : 1 ≤ k) (hk : k ≤ 1048576) (hD : D k ≤ 4611686018427387904) : Quo2 D k := by
  obtain ⟨ra, ea, _, ia, ua, la, za⟩ := ofInt_any (D k) (Nat.le_trans hD (by decide))
  obtain ⟨rb, eb, _, ib, ub, lb, zb⟩ := ofInt_any (2 * D k) (by
    have : 2 ^ 64 = 18446744073709551616 := by decide
    omega)
  obtain ⟨fk, vk⟩ := ofInt_held k (by omega)
  have pk := ofInt_pos k h1 (by omega)
  have tw := ofInt_two (D k) hD
  have F64 := Tw_lt (show 64 ≤ 500 by omega)
  obtain ⟨r, hr, hI⟩ := div_pos (floatOfInt .f64 (D k)) _ (by rw [ea]; exact Nat.lt_of_le_of_lt ua F64) fk pk
  obtain ⟨r', hr', hI'⟩ := div_pos (floatOfInt .f64 (2 * D k : Nat)) _ (by rw [eb]; exact Nat.lt_of_le_of_lt ub F64) fk pk
  have hq : q D k = r := by unfold q; rw [hr]; rfl
  have hq' : q (fun i => 2 * D i) k = r' := by unfold q; rw [hr']; rfl
  rw [tw.val, Nat.mul_assoc, vk] at hI'
  rw [vk] at hI
  have kU : 0 < k * U := Nat.mul_pos h1 U_pos
  have va : V (floatOfInt .f64 (D k)) ≤ B62 := by
    have h := ofInt_rnd (D k)
    obtain ⟨x, ⟨hx, _⟩, hxI⟩ := h
    rw [hx, B62_eq, ← Tw_V]
    exact V_mono (hxI.le (Tw_lt (by omega)) (by omega) (by rw [Tw_V, Nat.mul_one]; exact Nat.mul_le_mul_right _ (Nat.le_trans hD (by decide))))
  have lo : 0 < D k → V Lb * (k * U) ≤ V (floatOfInt .f64 (D k)) * U := by
    intro h
    have a := Lb_up k hk
    have b : U ≤ V (floatOfInt .f64 (D k)) := by
      rw [ea]
      have := V_mono (la h)
      rw [Tw_V, Nat.pow_zero, Nat.one_mul] at this
      exact this
    rw [← Nat.mul_assoc]
    exact Nat.mul_le_mul_right _ (Nat.le_trans a b)
  have zz : D k = 0 → V (floatOfInt .f64 (D k)) = 0 := by
    intro h; rw [ea, za h, V_zero]
  have up : V (floatOfInt .f64 (D k)) * U ≤ 2 ^ 62 * U * (k * U) := by
    rw [B62_eq] at va
    exact Nat.mul_le_mul va (Nat.le_mul_of_pos_left U h1)
  refine ⟨by rw [hr, hq], by rw [hr', hq'], ?_, ?_, ?_, ?_⟩
  · rw [hq, hq']
    refine Two.mk' hI hI' kU 62 (by omega) up ?_
    by_cases z : D k = 0
    · left; rw [zz z, Nat.zero_mul]
    · right; exact lo (by omega)
  · rw [hq, B62_eq, ← Tw_V]
    exact V_mono (hI.le (Tw_lt (by omega)) kU (by rw [Tw_V]; exact up))
  · intro h; rw [hq]; exact hI.ge (Nat.le_of_lt Lb_lt) kU (lo h)
  · intro h; rw [hq]; exact hI.exact zero_lt_inf kU (by rw [zz h, V_zero, Nat.zero_mul, Nat.zero_mul])

structure Inv2 (D : Nat → Nat) (k : Nat) : Prop where
  two : Two (inv D k) (inv (fun i => 2 * D i) k)
  up : V (inv D k) ≤ k * B62
  pos : 0 < xsum D k → Lb ≤ inv D k
  zero : xsum D k = 0 → inv D k = 0

theorem B62_Tw82 (k : Nat) (hk : k ≤ 1048576) : k * B62 ≤ 2 ^ 82 * U := by
  rw [B62_eq, ← Nat.mul_assoc]
  refine Nat.mul_le_mul_right _ ?_
  rw [show 82 = 20 + 62 by omega, Nat.pow_add]
  exact Nat.mul_le_mul_right _ (by rw [show 2 ^ 20 = 1048576 by decide]; exact hk)

theorem Inv2.le {D : Nat → Nat} {k : Nat} (h : Inv2 D k) (hk : k ≤ 1048576) : inv D k ≤ Tw 82 := le_Tw (Nat.le_trans h.up (B62_Tw82 k hk))

theorem two_fin {a b e : Nat} (h : Two a b) (ha : a ≤ Tw e) (he : e ≤ 500) : a < inf ∧ b < inf := by
  have := Tw_fin he
  have z := zero_lt_inf
  generalize inf = I at *
  rcases h with ⟨rfl, rfl⟩ | ⟨_, rfl⟩
  · exact ⟨z, z⟩
  · omega

theorem inv2_step (D : Nat → Nat) (k : Nat) (h1 : 1 ≤ k) (hk : k < 1048576) (hD : D k ≤ 4611686018427387904) (I : Inv2 D k) :
    double.add (inv D k) (q D k) = some (inv D (k + 1)) ∧ double.add (inv (fun i => 2 * D i) k) (q (fun i => 2 * D i) k) = some (inv (fun i => 2 * D i) (k + 1)) ∧ Inv2 D (k + 1) := by
  have Q := quo2 D k h1 (by omega) hD
  have fi := two_fin I.two (I.le (by omega)) (by omega)
  have fq := two_fin Q.two (le_Tw (e := 62) (by rw [← B62_eq]; exact Q.up)) (by omega)
  obtain ⟨r, hr, hR⟩ := add_rnd _ _ fi.1 fq.1
  obtain ⟨r', hr', hR'⟩ := add_rnd _ _ fi.2 fq.2
  have hi : inv D (k + 1) = r := by rw [inv_succ D k h1, hr]; rfl
  have hi' : inv (fun i => 2 * D i) (k + 1) = r' := by rw [inv_succ _ k h1, hr']; rfl
  rw [I.two.val, Q.two.val, ← Nat.mul_add] at hR'
  have up : V (inv D k) + V (q D k) ≤ (k + 1) * B62 := by
    have := I.up; have := Q.up; rw [Nat.add_mul, Nat.one_mul]; omega
  have r1 : inv D k ≤ r := hR.ge (Nat.le_of_lt fi.1) (by omega) (by omega)
  have r2 : q D k ≤ r := hR.ge (Nat.le_of_lt fq.1) (by omega) (by omega)
  have xs := xsum_succ D k h1
  have hE := uE_eq
  refine ⟨by rw [hr, hi], by rw [hr', hi'], ?_, ?_, ?_, ?_⟩
  · rw [hi, hi']
    refine Two.mk' hR hR' (by omega) 82 (by omega) (by rw [Nat.mul_one]; exact Nat.le_trans up (B62_Tw82 _ (by omega))) ?_
    by_cases z : xsum D k = 0 ∧ D k = 0
    · left; rw [I.zero z.1, Q.zero z.2, V_zero]
    · right
      rw [Nat.mul_one]
      by_cases z1 : xsum D k = 0
      · have := V_mono (Q.pos (by omega)); omega
      · have := V_mono (I.pos (by omega)); omega
  · rw [hi]
    obtain ⟨c, hc, vc⟩ := held (k + 1) (62 + uE) (by omega) (by omega) (by omega)
    have e : (k + 1) * B62 = V c := by rw [vc, B62_eq, Nat.pow_add, ← U_def]
    rw [e]
    rw [e] at up
    exact V_mono (hR.le hc (by omega) (by rw [Nat.mul_one]; exact up))
  · intro z
    rw [xs] at z
    rw [hi]
    by_cases z1 : xsum D k = 0
    · exact Nat.le_trans (Q.pos (by omega)) r2
    · exact Nat.le_trans (I.pos (by omega)) r1
  · intro z
    rw [xs] at z
    rw [hi]
    exact hR.exact zero_lt_inf (by omega) (by rw [I.zero (by omega), Q.zero (by omega), V_zero])

theorem inv2_start (D : Nat → Nat) : Inv2 D 1 := ⟨.inl ⟨rfl, rfl⟩, by rw [inv_one, V_zero]; omega, by simp [xsum], fun _ => rfl⟩

theorem inv2_all (D : Nat → Nat) (hD : ∀ k, D k ≤ 4611686018427387904) : ∀ k, 1 ≤ k → k ≤ 1048576 → Inv2 D k := by
  intro k
  induction k with
  | zero => omega
  | succ k ih =>
    intro _ hk
    by_cases e : k = 0
    · subst e; exact inv2_start D
    · exact (inv2_step D k (by omega) (by omega) (hD k) (ih (by omega) (by omega))).2.2

/-- ████ THE PLAIN LAW. 's', 'p': how great the number of sources is, and of peers but one. -/
theorem scale (D : Nat → Nat) (hD : ∀ k, D k ≤ 4611686018427387904) (n s p : Nat) (sg : Bool) (hn1 : 1 ≤ n) (hn : n ≤ 1048576) (hs : 1 ≤ s) (hp : 1 ≤ p) (hs2 : s ≤ 4611686018427387904) (hp2 : p ≤ 9223372036854775808) :
    ∃ dn dn' g, g < inf ∧ double.mul (double.word sg (floatOfInt .f64 s)) (floatOfInt .f64 p) = some (double.word sg dn) ∧
      double.div (inv D n) (double.word sg dn) = some (double.word sg g) ∧
      double.mul (double.word sg (floatOfInt .f64 (2 * s : Nat))) (floatOfInt .f64 p) = some (double.word sg dn') ∧
      double.div (inv (fun i => 2 * D i) n) (double.word sg dn') = some (double.word sg g) ∧
      (g = 0 ↔ xsum D n = 0) := by
  have I := inv2_all D hD n hn1 hn
  have U0 := U_pos
  have P64 : 2 ^ 64 = 18446744073709551616 := by decide
  obtain ⟨rs, es, _, is, us, ls, zs⟩ := ofInt_any s (by omega)
  obtain ⟨rp, ep, _, ip, up, lp, zp⟩ := ofInt_any p (by omega)
  have tw := ofInt_two s hs2
  rw [es] at tw
  rw [es, ep]
  obtain ⟨rs', es'⟩ : ∃ x, floatOfInt .f64 (2 * s : Nat) = x := ⟨_, rfl⟩
  rw [es'] at tw ⊢
  have fs := two_fin tw us (by omega)
  have fp : rp < inf := Nat.lt_of_le_of_lt up (Tw_lt (by omega))
  obtain ⟨dn, hd, hR⟩ := mul_rnd sg false rs rp fs.1 fp
  obtain ⟨dn', hd', hR'⟩ := mul_rnd sg false rs' rp fs.2 fp
  rw [word_pos, Bool.xor_false] at hd hd'
  rw [tw.val, Nat.mul_assoc] at hR'
  have vs1 : U ≤ V rs := by have := V_mono (ls hs); rw [Tw_V, Nat.pow_zero, Nat.one_mul] at this; exact this
  have vp1 : U ≤ V rp := by have := V_mono (lp hp); rw [Tw_V, Nat.pow_zero, Nat.one_mul] at this; exact this
  have vs2 : V rs ≤ 2 ^ 64 * U := by have := V_mono us; rw [Tw_V] at this; exact this
  have vp2 : V rp ≤ 2 ^ 64 * U := by have := V_mono up; rw [Tw_V] at this; exact this
  have Lu := Lb_up 1 (by omega)
  rw [Nat.mul_one] at Lu
  have prodUp : V rs * V rp ≤ 2 ^ 128 * U * U := by
    have h := Nat.mul_le_mul vs2 vp2
    rw [show 2 ^ 64 * U * (2 ^ 64 * U) = 2 ^ 128 * U * U by
      rw [show (2 : Nat) ^ 128 = 2 ^ 64 * 2 ^ 64 by decide]
      generalize (2 : Nat) ^ 64 = y; generalize U = x
      rw [Nat.mul_assoc y x, ← Nat.mul_assoc x y x, Nat.mul_comm x y, Nat.mul_assoc y y x, Nat.mul_assoc y (y * x) x]] at h
    exact h
  have T := Two.mk' hR hR' U0 128 (by omega) prodUp (.inr (Nat.mul_le_mul (Nat.le_trans Lu vs1) vp1))
  have dn1 : Tw 0 ≤ dn := hR.ge (Nat.le_of_lt (Tw_lt (by omega))) U0 (by rw [Tw_V, Nat.pow_zero, Nat.one_mul]; exact Nat.mul_le_mul vs1 vp1)
  have dn2 : dn ≤ Tw 128 := hR.le (Tw_lt (by omega)) U0 (by rw [Tw_V]; exact prodUp)
  have fd := two_fin T dn2 (by omega)
  have fi := two_fin I.two (I.le hn) (by omega)
  have dnp : 0 < dn := by have := Lb_Tw 0; have := Lb_lo; omega
  have dnp' : 0 < dn' := by
    rcases T with ⟨h, _⟩ | ⟨_, h⟩ <;> omega
  obtain ⟨g, hg, gR⟩ := div_rnd false sg (inv D n) dn fi.1 fd.1 dnp
  obtain ⟨g', hg', gR'⟩ := div_rnd false sg (inv (fun i => 2 * D i) n) dn' fi.2 fd.2 dnp'
  rw [word_pos, Bool.false_xor] at hg hg'
  rw [I.two.val, T.val, Nat.mul_assoc] at gR'
  have Vd : 0 < V dn := V_pos dnp
  have same : g = g' := Nat.le_antisymm (gR.mono gR' Vd (by omega) (by rw [← Nat.mul_assoc, Nat.mul_comm _ 2, Nat.mul_assoc]; exact Nat.le_refl _)) (gR'.mono gR (by omega) Vd (by rw [← Nat.mul_assoc (V (inv D n) * U), Nat.mul_comm _ 2, Nat.mul_assoc 2]; exact Nat.le_refl _))
  subst same
  have vd1 : U ≤ V dn := by have := V_mono dn1; rw [Tw_V, Nat.pow_zero, Nat.one_mul] at this; exact this
  have vd2 : V dn ≤ 2 ^ 128 * U := by have := V_mono dn2; rw [Tw_V] at this; exact this
  have iu : V (inv D n) ≤ 2 ^ 82 * U := Nat.le_trans I.up (B62_Tw82 n hn)
  have gfin : g < inf := Nat.lt_of_le_of_lt (gR.le (Tw_lt (show 82 ≤ 500 by omega)) Vd (by rw [Tw_V]; exact Nat.mul_le_mul iu vd1)) (Tw_lt (by omega))
  refine ⟨dn, dn', g, gfin, hd, hg, hd', hg', ?_⟩
  constructor
  · intro z
    by_cases c : xsum D n = 0
    · exact c
    · exfalso
      have il := V_mono (I.pos (by omega))
      have big := Lb_big
      have : 1 ≤ g := gR.ge (by decide +kernel) Vd (by
        rw [V_low' (by omega), Nat.one_mul]
        have h4 : 2 ^ 128 ≤ V (inv D n) := by
          obtain ⟨s', hs', hv'⟩ := Lb_V
          have : 2 ^ 128 ≤ V Lb := by
            rw [hv', show (4503599627370496 : Nat) = 2 ^ 52 by decide, ← Nat.pow_add]
            exact Nat.pow_le_pow_right (by omega) (by omega)
          exact Nat.le_trans this il
        exact Nat.le_trans vd2 (Nat.mul_le_mul_right _ h4))
      omega
  · intro z
    exact gR.exact zero_lt_inf Vd (by rw [I.zero z, V_zero, Nat.zero_mul, Nat.zero_mul])

end Go.Proofs.Qxb6605323a.Fl
