/-
  The plain law of the first statement: the float sum of shares lies between two bounds.
-/
import Derived.Test.Qxb6605323aOrd
namespace Go.Proofs.Qxb6605323a.Fl
open Ieee

def q (D : Nat → Nat) (k : Nat) : Nat := (double.div (floatOfInt .f64 (D k)) (floatOfInt .f64 k)).getD 0
def inv (D : Nat → Nat) : Nat → Nat
  | 0 => 0
  | k + 1 => if k = 0 then 0 else (double.add (inv D k) (q D k)).getD 0
def xsum (D : Nat → Nat) : Nat → Nat
  | 0 => 0
  | k + 1 => if k = 0 then 0 else xsum D k + D k
def oneHop (D : Nat → Nat) (k : Nat) : Nat := if k ≤ 1 then 0 else D 1

theorem inv_one (D : Nat → Nat) : inv D 1 = 0 := rfl
theorem xsum_succ (D : Nat → Nat) (k : Nat) (h : 1 ≤ k) : xsum D (k + 1) = xsum D k + D k := by
  rw [xsum, if_neg (by omega)]
theorem inv_succ (D : Nat → Nat) (k : Nat) (h : 1 ≤ k) : inv D (k + 1) = (double.add (inv D k) (q D k)).getD 0 := by
  rw [inv, if_neg (by omega)]

def hE : Nat := 1073
theorem hE_eq : hE = 1073 := rfl
/-- One half. -/
def Hf : Nat := 2 ^ hE
theorem Hf_def : Hf = 2 ^ hE := rfl
theorem U_half : U = 2 * Hf := by
  have a := hE_eq; have b := uE_eq
  rw [U_def, show uE = hE + 1 by omega, Nat.pow_succ, Nat.mul_comm, Hf_def]
theorem U_big : 2 ^ 100 ≤ U := by
  rw [U_def]; exact Nat.pow_le_pow_right (by omega) (by have := uE_eq; omega)

theorem zero_lt_inf : 0 < inf := by decide +kernel

theorem ofInt_pos (n : Nat) (h0 : 0 < n) (hn : n ≤ 9007199254740992) : 0 < floatOfInt .f64 n := by
  have ⟨_, v⟩ := ofInt_held n hn
  have : 0 < V (floatOfInt .f64 n) := by rw [v]; exact Nat.mul_pos h0 U_pos
  rcases Nat.eq_zero_or_pos (floatOfInt .f64 n) with h | h
  · rw [h, V_zero] at this; omega
  · exact h

/-- A quotient of two that are not negative. -/
theorem div_pos (a b : Nat) (ha : a < inf) (hb : b < inf) (h0 : 0 < b) : ∃ r, double.div a b = some r ∧ IsRnd (V a * U) (V b) r := by
  have := div_rnd false false a b ha hb h0
  simpa [word_pos] using this

structure Quo (D : Nat → Nat) (k : Nat) : Prop where
  def_ : double.div (floatOfInt .f64 (D k)) (floatOfInt .f64 k) = some (q D k)
  fin : q D k < inf
  zero : D k = 0 → q D k = 0
  big : 0 < D k → 9007199254740992 ≤ q D k
  one : k = 1 → V (q D k) = D k * U
  two : 2 ≤ k → V (q D k) ≤ D k * Hf

theorem quo (D : Nat → Nat) (k : Nat) (h1 : 1 ≤ k) (hk : k ≤ 1048576) (hD : D k ≤ 4503599627370496) : Quo D k := by
  obtain ⟨fa, va⟩ := ofInt_held (D k) (by omega)
  obtain ⟨fb, vb⟩ := ofInt_held k (by omega)
  have pb := ofInt_pos k h1 (by omega)
  obtain ⟨r, hr, hI⟩ := div_pos _ _ fa fb pb
  have hq : q D k = r := by unfold q; rw [hr]; rfl
  rw [va, vb] at hI
  have hU := U_pos
  have hkU : 0 < k * U := Nat.mul_pos h1 hU
  have hh := hE_eq
  obtain ⟨c1, hc1, v1⟩ := held (D k) uE (by omega) (by have := uE_eq; omega) (by have := uE_eq; omega)
  rw [← U_def] at v1
  have hle : D k * U * U ≤ V c1 * (k * U) := by
    rw [v1]
    exact Nat.mul_le_mul_left _ (Nat.le_mul_of_pos_left U h1)
  refine ⟨by rw [hr, hq], by rw [hq]; exact Nat.lt_of_le_of_lt (hI.le hc1 hkU hle) hc1, ?_, ?_, ?_, ?_⟩
  · intro z
    rw [hq]
    exact hI.exact zero_lt_inf hkU (by rw [z, V_zero]; simp)
  · intro z
    rw [hq]
    refine hI.ge (by decide +kernel) hkU ?_
    rw [V_low' (by omega), ← Nat.mul_assoc]
    have b : 9007199254740992 * k ≤ U := by
      have := U_big
      have e : 2 ^ 100 = 1267650600228229401496703205376 := by decide
      omega
    have b2 : U ≤ D k * U := Nat.le_mul_of_pos_left U z
    exact Nat.mul_le_mul_right _ (by omega)
  · intro z
    subst z
    rw [hq, hI.exact hc1 hkU (by rw [v1, Nat.one_mul]), v1]
  · intro z
    obtain ⟨c2, hc2, v2⟩ := held (D k) hE (by omega) (by omega) (by omega)
    have : r ≤ c2 := hI.le hc2 hkU (by
      rw [v2, ← Nat.mul_assoc, show D k * 2 ^ hE * k = D k * (2 ^ hE * k) by rw [Nat.mul_assoc]]
      refine Nat.mul_le_mul_right _ (Nat.mul_le_mul_left _ ?_)
      rw [U_half, Nat.mul_comm 2]
      exact Nat.mul_le_mul_left _ z)
    rw [hq, show D k * Hf = V c2 by rw [v2, Hf_def]]
    exact V_mono this

structure Inv (D : Nat → Nat) (k : Nat) : Prop where
  fin : inv D k < inf
  hi : V (inv D k) ≤ (oneHop D k + xsum D k) * Hf
  lo : oneHop D k * U ≤ V (inv D k)
  zero : xsum D k = 0 → inv D k = 0
  pos : 0 < xsum D k → 9007199254740992 ≤ inv D k

theorem inv_step (D : Nat → Nat) (k : Nat) (h1 : 1 ≤ k) (hk : k ≤ 1048576) (I : Inv D k) (hx : xsum D (k + 1) ≤ 4503599627370496) :
    double.add (inv D k) (q D k) = some (inv D (k + 1)) ∧ Inv D (k + 1) := by
  rw [xsum_succ D k h1] at hx
  have Q := quo D k h1 hk (by omega)
  obtain ⟨r, hr, hR⟩ := add_rnd _ _ I.fin Q.fin
  have hi : inv D (k + 1) = r := by rw [inv_succ D k h1, hr]; rfl
  have hh := hE_eq
  have f1 : k = 1 → oneHop D k = 0 ∧ xsum D k = 0 ∧ inv D k = 0 := by intro e; subst e; exact ⟨rfl, rfl, rfl⟩
  have f2 : oneHop D (k + 1) = D 1 := by unfold oneHop; rw [if_neg (by omega)]
  have f3 : 2 ≤ k → oneHop D k = D 1 := by intro e; unfold oneHop; rw [if_neg (by omega)]
  have fx : 2 ≤ k → D 1 ≤ xsum D k := by
    clear f1 f2 f3 Q I hr hR hi hx hk
    intro e
    induction k with
    | zero => omega
    | succ n ih =>
      by_cases e1 : n = 1
      · subst e1; simp [xsum]
      · have := ih (by omega) (by omega); rw [xsum_succ D n (by omega)]; omega
  have up : V (inv D k) + V (q D k) ≤ (D 1 + (xsum D k + D k)) * Hf := by
    by_cases e : k = 1
    · have := f1 e
      rw [this.2.2, V_zero, Q.one e, this.2.1]
      subst e
      rw [U_half, Nat.zero_add, Nat.zero_add, ← Nat.mul_assoc, Nat.mul_comm (D 1) 2]
      exact Nat.mul_le_mul_right _ (by omega)
    · have a := I.hi
      have b := Q.two (by omega)
      rw [f3 (by omega)] at a
      rw [show (D 1 + (xsum D k + D k)) * Hf = (D 1 + xsum D k) * Hf + D k * Hf by rw [← Nat.add_mul, Nat.add_assoc]]
      omega
  have hsum : D 1 + (xsum D k + D k) ≤ 9007199254740992 := by
    by_cases e : k = 1
    · subst e; omega
    · have := fx (by omega); omega
  obtain ⟨c, hc, vc⟩ := held (D 1 + (xsum D k + D k)) hE hsum (by omega) (by omega)
  have rc : r ≤ c := hR.le hc (by omega) (by rw [vc, Nat.mul_one, ← Hf_def]; exact up)
  have r1 : inv D k ≤ r := hR.ge (Nat.le_of_lt I.fin) (by omega) (by omega)
  have r2 : q D k ≤ r := hR.ge (Nat.le_of_lt Q.fin) (by omega) (by omega)
  refine ⟨by rw [hr, hi], ?_, ?_, ?_, ?_, ?_⟩
  · rw [hi]; exact Nat.lt_of_le_of_lt rc hc
  · rw [hi, f2, xsum_succ D k h1, show (D 1 + (xsum D k + D k)) * Hf = V c by rw [vc, Hf_def]]
    exact V_mono rc
  · rw [hi, f2]
    by_cases e : k = 1
    · have := Q.one e; subst e; rw [← this]; exact V_mono r2
    · have := I.lo; rw [f3 (by omega)] at this; exact Nat.le_trans this (V_mono r1)
  · intro z
    rw [xsum_succ D k h1] at z
    rw [hi]
    refine hR.exact zero_lt_inf (by omega) ?_
    rw [I.zero (by omega), Q.zero (by omega), V_zero]
  · intro z
    rw [xsum_succ D k h1] at z
    rw [hi]
    by_cases e : 0 < xsum D k
    · exact Nat.le_trans (I.pos e) r1
    · exact Nat.le_trans (Q.big (by omega)) r2

theorem inv_start (D : Nat → Nat) : Inv D 1 := ⟨zero_lt_inf, by simp [inv, V_zero], by simp [oneHop], fun _ => rfl, by simp [xsum]⟩

theorem xsum_mono (D : Nat → Nat) {j k : Nat} (h : j ≤ k) : xsum D j ≤ xsum D k := by
  induction k with
  | zero => have : j = 0 := by omega
            subst this; exact Nat.le_refl _
  | succ n ih =>
    by_cases e : j = n + 1
    · subst e; exact Nat.le_refl _
    · have := ih (by omega)
      rw [xsum]; split
      · rename_i z; subst z; have : j = 0 := by omega
        subst this; exact Nat.le_refl _
      · omega

theorem inv_all (D : Nat → Nat) (n : Nat) (hn : n ≤ 1048576) (hx : xsum D n ≤ 4503599627370496) : ∀ k, 1 ≤ k → k ≤ n → Inv D k := by
  intro k
  induction k with
  | zero => omega
  | succ k ih =>
    intro _ hk
    by_cases e : k = 0
    · subst e; exact inv_start D
    · exact (inv_step D k (by omega) (by omega) (ih (by omega) (by omega)) (Nat.le_trans (xsum_mono D hk) hx)).2

theorem inv_defs (D : Nat → Nat) (n : Nat) (hn : n ≤ 1048576) (hx : xsum D n ≤ 4503599627370496) (k : Nat) (h1 : 1 ≤ k) (hk : k < n) :
    double.div (floatOfInt .f64 (D k)) (floatOfInt .f64 k) = some (q D k) ∧ double.add (inv D k) (q D k) = some (inv D (k + 1)) := by
  have hs : xsum D (k + 1) ≤ 4503599627370496 := Nat.le_trans (xsum_mono D hk) hx
  refine ⟨(quo D k h1 (by omega) ?_).def_, (inv_step D k h1 (by omega) (inv_all D n hn hx k h1 (by omega)) hs).1⟩
  rw [xsum_succ D k h1] at hs; omega

theorem oneHop_le (D : Nat → Nat) (k : Nat) : oneHop D k ≤ xsum D k := by
  unfold oneHop; split
  · omega
  · have := xsum_mono D (show 2 ≤ k by omega)
    have e : xsum D 2 = D 1 := by simp [xsum]
    omega

/-- ████ THE PLAIN LAW. -/
theorem bounds (D : Nat → Nat) (n s p : Nat) (hn1 : 1 ≤ n) (hn : n ≤ 1048576) (hs : 1 ≤ s) (hp : 1 ≤ p) (hs2 : s ≤ 2147483648) (hp2 : p ≤ 2147483648) (hm : s * p ≤ 4503599627370496) (hx : xsum D n ≤ s * p) :
    ∃ g lo hm hi, double.mul (floatOfInt .f64 s) (floatOfInt .f64 p) = some (floatOfInt .f64 (s * p : Nat)) ∧
      double.div (inv D n) (floatOfInt .f64 (s * p : Nat)) = some g ∧
      double.div (floatOfInt .f64 (oneHop D n)) (floatOfInt .f64 (s * p : Nat)) = some lo ∧
      double.div (floatOfInt .f64 (oneHop D n + xsum D n : Nat)) 4611686018427387904 = some hm ∧
      double.div hm (floatOfInt .f64 (s * p : Nat)) = some hi ∧
      (double.order g 0 == some .eq) = decide (xsum D n = 0) ∧
      (double.order g lo == some .gt || double.order g lo == some .eq) = true ∧
      (double.order g hi == some .lt || double.order g hi == some .eq) = true := by
  have hm0 : 0 < s * p := Nat.mul_pos hs hp
  have I := inv_all D n hn (by omega) n hn1 (Nat.le_refl _)
  obtain ⟨fs, vs⟩ := ofInt_held s (by omega)
  obtain ⟨fp, vp⟩ := ofInt_held p (by omega)
  obtain ⟨fm, vm⟩ := ofInt_held (s * p) (by omega)
  have pm := ofInt_pos (s * p) hm0 (by omega)
  have hfl := oneHop_le D n
  obtain ⟨ff, vf⟩ := ofInt_held (oneHop D n) (by omega)
  obtain ⟨fh, vh⟩ := ofInt_held (oneHop D n + xsum D n) (by omega)
  obtain ⟨f1, v1⟩ := ofInt_held 1 (by omega)
  have hU := U_pos
  have hh := hE_eq
  have mU : 0 < s * p * U := Nat.mul_pos hm0 hU
  -- the product
  obtain ⟨r, hr, hR⟩ := mul_rnd false false _ _ fs fp
  rw [word_pos, word_pos] at hr
  have hr2 : r = floatOfInt .f64 (s * p : Nat) := hR.exact fm hU (by
    rw [vs, vp, vm]
    generalize U = u
    rw [Nat.mul_assoc, Nat.mul_left_comm u, ← Nat.mul_assoc, Nat.mul_assoc (s * p)])
  -- the two
  have t2 : (4611686018427387904 : Nat) = (1 + 1022) * 4503599627370496 + 4503599627370496 := by omega
  have vt : V 4611686018427387904 = 2 * U := by rw [t2, V_two]
  obtain ⟨hmid, hmd, hmR⟩ := div_pos (floatOfInt .f64 (oneHop D n + xsum D n : Nat)) 4611686018427387904 fh (by decide +kernel) (by omega)
  obtain ⟨c, hc, vc⟩ := held (oneHop D n + xsum D n) hE (by omega) (by omega) (by omega)
  have hmc : hmid = c := hmR.exact hc (by rw [vt]; omega) (by
    rw [vh, vt, vc]
    have : U = 2 * 2 ^ hE := by rw [U_half, Hf_def]
    rw [Nat.mul_assoc _ U U, Nat.mul_assoc _ (2 ^ hE), show 2 ^ hE * (2 * U) = U * U by rw [← Nat.mul_assoc, Nat.mul_comm (2 ^ hE) 2, ← this]])
  subst hmc
  obtain ⟨g, hg, gR⟩ := div_pos (inv D n) _ I.fin fm pm
  obtain ⟨lo, hlo, loR⟩ := div_pos (floatOfInt .f64 (oneHop D n)) _ ff fm pm
  obtain ⟨hi, hhi, hiR⟩ := div_pos hmid _ hc fm pm
  have mV : 0 < V (floatOfInt .f64 (s * p : Nat)) := by rw [vm]; exact mU
  have hgle : g ≤ hi := gR.mono hiR mV mV (Nat.mul_le_mul_right _ (Nat.mul_le_mul_right _ (by rw [vc, ← Hf_def]; exact I.hi)))
  have hlog : lo ≤ g := loR.mono gR mV mV (Nat.mul_le_mul_right _ (Nat.mul_le_mul_right _ (by rw [vf]; exact I.lo)))
  have hifin : hi < inf := Nat.lt_of_le_of_lt (hiR.le f1 mV (by
    rw [vc, v1, vm, Nat.one_mul, Nat.mul_comm U, ← Hf_def]
    refine Nat.mul_le_mul_right _ ?_
    rw [U_half, ← Nat.mul_assoc]
    exact Nat.mul_le_mul_right _ (by omega))) f1
  have gfin : g < inf := Nat.lt_of_le_of_lt hgle hifin
  refine ⟨g, lo, hmid, hi, by rw [hr, hr2, show (false ^^ false) = false from rfl, word_pos], hg, hlo, hmd, hhi, ?_, order_ge hlog gfin, order_le hgle hifin⟩
  rw [order_zero gfin]
  by_cases z : xsum D n = 0
  · have : g = 0 := gR.exact zero_lt_inf mV (by rw [I.zero z, V_zero]; simp)
    simp [z, this]
  · have : 1 ≤ g := gR.ge (by decide +kernel) mV (by
      rw [V_low' (by omega), vm, Nat.one_mul]
      refine Nat.mul_le_mul_right _ ?_
      have := V_mono (I.pos (by omega))
      rw [V_low' (by omega)] at this
      omega)
    have h0 : ¬ g = 0 := by omega
    simp [z, h0]

end Go.Proofs.Qxb6605323a.Fl
