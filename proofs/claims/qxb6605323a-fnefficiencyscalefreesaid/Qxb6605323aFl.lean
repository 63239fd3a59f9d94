/-
  Plain mathematics on doubles: rounding to a rung is told by thresholds. Nothing of the program in sight.
-/
import Ieee.Arith
namespace Go.Proofs.Qxb6605323a.Fl
open Ieee

/-- The value of rung k of a double, in units of 2 ^ -1074. -/
def V (k : Nat) : Nat := if k < 4503599627370496 then k else (4503599627370496 + k % 4503599627370496) * 2 ^ (k / 4503599627370496 - 1)
/-- Twice the midpoint between rung k and the next one. -/
def M (k : Nat) : Nat := V k + V (k + 1)
/-- The rung of infinity. -/
def inf : Nat := 9218868437227405312

theorem V_low {c : Nat} (h : c < 9007199254740992) : V c = c := by
  unfold V
  split
  · rfl
  · have : c / 4503599627370496 - 1 = 0 := by omega
    rw [this]; simp; omega

theorem V_at0 (s c : Nat) (h : 4503599627370496 ≤ c) (h2 : c < 9007199254740992) : V (s * 4503599627370496 + c) = c * 2 ^ s := by
  unfold V
  rw [if_neg (by omega)]
  have e1 : (s * 4503599627370496 + c) / 4503599627370496 - 1 = s := by omega
  have e2 : 4503599627370496 + (s * 4503599627370496 + c) % 4503599627370496 = c := by omega
  rw [e1, e2]

theorem V_at (s c : Nat) (h : 4503599627370496 ≤ c) (h2 : c ≤ 9007199254740992) : V (s * 4503599627370496 + c) = c * 2 ^ s := by
  by_cases e : c = 9007199254740992
  · have : s * 4503599627370496 + c = (s + 1) * 4503599627370496 + 4503599627370496 := by omega
    rw [this, V_at0 _ _ (by omega) (by omega), e, Nat.pow_succ]
    omega
  · exact V_at0 s c h (by omega)

theorem V_low' {c : Nat} (h : c ≤ 9007199254740992) : V c = c := by
  by_cases e : c < 9007199254740992
  · exact V_low e
  · have : c = 0 * 4503599627370496 + 9007199254740992 := by omega
    rw [this, V_at _ _ (by omega) (by omega)]

theorem M_at (s c : Nat) (h : 4503599627370496 ≤ c) (h2 : c < 9007199254740992) : M (s * 4503599627370496 + c) = (2 * c + 1) * 2 ^ s := by
  unfold M
  rw [V_at s c h (by omega), Nat.add_assoc, V_at s (c + 1) (by omega) (by omega), ← Nat.add_mul]
  congr 1; omega

theorem M_low {c : Nat} (h : c < 9007199254740992) : M c = 2 * c + 1 := by
  unfold M; rw [V_low h, V_low' (by omega)]; omega

/-- Every rung from 2^52 on stands so. -/
theorem split_rung {k : Nat} (h : 4503599627370496 ≤ k) : ∃ s c, k = s * 4503599627370496 + c ∧ 4503599627370496 ≤ c ∧ c < 9007199254740992 :=
  ⟨k / 4503599627370496 - 1, 4503599627370496 + k % 4503599627370496, by omega, by omega, by omega⟩

theorem V_lt_succ (k : Nat) : V k < V (k + 1) := by
  by_cases h : k < 4503599627370496
  · rw [V_low (by omega), V_low (by omega)]; omega
  · obtain ⟨s, c, rfl, h1, h2⟩ := split_rung (by omega : 4503599627370496 ≤ k)
    rw [V_at s c h1 (by omega), Nat.add_assoc, V_at s (c + 1) (by omega) (by omega)]
    exact (Nat.mul_lt_mul_right (Nat.two_pow_pos s)).2 (by omega)

theorem V_mono {k l : Nat} (h : k ≤ l) : V k ≤ V l := by
  induction l with
  | zero => have : k = 0 := by omega
            rw [this]; exact Nat.le_refl _
  | succ l ih =>
    by_cases e : k = l + 1
    · rw [e]; exact Nat.le_refl _
    · exact Nat.le_trans (ih (by omega)) (Nat.le_of_lt (V_lt_succ l))

theorem V_strict {k l : Nat} (h : k < l) : V k < V l := Nat.lt_of_lt_of_le (V_lt_succ k) (V_mono h)

theorem M_lt_two {k l : Nat} (h : k < l) : M k < 2 * V l := by
  have := V_lt_succ k; have := V_mono (show k + 1 ≤ l from h); unfold M; omega

theorem M_gt_two {k l : Nat} (h : l ≤ k) : 2 * V l < M k := by
  have := V_lt_succ k; have := V_mono h; unfold M; omega

theorem V_dbl {k : Nat} (h : 4503599627370496 ≤ k) : V (k + 4503599627370496) = 2 * V k := by
  obtain ⟨s, c, rfl, h1, h2⟩ := split_rung h
  have : s * 4503599627370496 + c + 4503599627370496 = (s + 1) * 4503599627370496 + c := by omega
  rw [this, V_at _ _ h1 (by omega), V_at _ _ h1 (by omega), Nat.pow_succ]
  rw [← Nat.mul_assoc, Nat.mul_comm]

theorem M_dbl {k : Nat} (h : 4503599627370496 ≤ k) : M (k + 4503599627370496) = 2 * M k := by
  unfold M
  rw [V_dbl h, show k + 4503599627370496 + 1 = k + 1 + 4503599627370496 by omega, V_dbl (by omega)]; omega

/-! ### cut -/
theorem cut_even (neg : Bool) (n d : Nat) : Toward.even.cut neg n d = n / 2 ^ d + (if 2 ^ d < 2 * (n % 2 ^ d) ∨ (2 ^ d = 2 * (n % 2 ^ d) ∧ n / 2 ^ d % 2 = 1) then 1 else 0) := by
  unfold Toward.cut
  simp only [Nat.shiftLeft_eq, Nat.one_mul]
  by_cases h : d ≤ n.log2 + 2
  · rw [Nat.min_eq_left h]
    congr 1
    split
    · rename_i hh
      rcases hh with hh | ⟨hh, h2⟩
      · simp [hh]
      · simp [← hh, h2]
    · rename_i hh
      have h1 : ¬ 2 ^ d < 2 * (n % 2 ^ d) := fun x => hh (.inl x)
      by_cases e : 2 ^ d = 2 * (n % 2 ^ d)
      · have h2 : ¬ n / 2 ^ d % 2 = 1 := fun x => hh (.inr ⟨e, x⟩)
        simp [h1, h2]
      · simp [h1, e]
  · rw [Nat.min_eq_right (by omega)]
    have l : n < 2 ^ (n.log2 + 1) := Nat.lt_log2_self
    have e2 : 2 ^ (n.log2 + 2) = 2 * 2 ^ (n.log2 + 1) := by rw [Nat.pow_succ 2 (n.log2 + 1)]; omega
    have l3 : 2 ^ (n.log2 + 2) ≤ 2 ^ d := Nat.pow_le_pow_right (by omega) (by omega)
    generalize 2 ^ (n.log2 + 1) = g1 at *
    generalize 2 ^ (n.log2 + 2) = g2 at *
    generalize 2 ^ d = g3 at *
    have b1 : n / g2 = 0 := Nat.div_eq_of_lt (by omega)
    have b2 : n % g2 = n := Nat.mod_eq_of_lt (by omega)
    have b3 : n / g3 = 0 := Nat.div_eq_of_lt (by omega)
    have b4 : n % g3 = n := Nat.mod_eq_of_lt (by omega)
    rw [b1, b2, b3, b4, if_neg (by omega)]
    have a1 : ¬ g2 < 2 * n := by omega
    simp [a1]

theorem cut_thr (neg : Bool) (n d c : Nat) : c < Toward.even.cut neg n d ↔ (2 * c + 1) * 2 ^ d < 2 * n ∨ ((2 * c + 1) * 2 ^ d = 2 * n ∧ c % 2 = 1) := by
  rw [cut_even]
  have hg : 0 < 2 ^ d := Nat.two_pow_pos d
  generalize 2 ^ d = g at *
  have hd := Nat.div_add_mod n g
  have hm := Nat.mod_lt n hg
  generalize n / g = q at *
  generalize n % g = r at *
  have e0 : (2 * c + 1) * g = 2 * (g * c) + g := by rw [Nat.add_mul, Nat.one_mul, Nat.mul_assoc, Nat.mul_comm c g]
  rw [e0]
  rcases Nat.lt_trichotomy c q with h | h | h
  · have : g * (c + 1) ≤ g * q := Nat.mul_le_mul_left g h
    rw [Nat.mul_add] at this
    constructor
    · intro _; left; omega
    · intro _; omega
  · subst h
    split <;> omega
  · have : g * (q + 1) ≤ g * c := Nat.mul_le_mul_left g h
    rw [Nat.mul_add] at this
    constructor
    · intro hh; split at hh <;> omega
    · intro hh; omega

theorem kept_thr (neg : Bool) (mag : Nat) (place last B : Int) (hp : 0 ≤ place + B) (hl : 0 ≤ last + B) (c : Nat) :
    c < Toward.even.cut neg (mag <<< (place - last).toNat) (last - place).toNat ↔ (2 * c + 1) * 2 ^ (last + B).toNat < 2 * (mag * 2 ^ (place + B).toNat) ∨ ((2 * c + 1) * 2 ^ (last + B).toNat = 2 * (mag * 2 ^ (place + B).toNat) ∧ c % 2 = 1) := by
  rw [cut_thr, Nat.shiftLeft_eq]
  by_cases h : last ≤ place
  · have e1 : (last - place).toNat = 0 := by omega
    have e2 : (place + B).toNat = (place - last).toNat + (last + B).toNat := by omega
    rw [e1, e2, Nat.pow_zero, Nat.pow_add]
    have hg := Nat.two_pow_pos (last + B).toNat
    generalize 2 ^ (last + B).toNat = g at *
    rw [← Nat.mul_assoc mag, ← Nat.mul_assoc 2 _ g, Nat.mul_lt_mul_right hg, Nat.mul_one]
    constructor
    · rintro (h | ⟨h, h'⟩)
      · exact .inl h
      · exact .inr ⟨by rw [h], h'⟩
    · rintro (h | ⟨h, h'⟩)
      · exact .inl h
      · exact .inr ⟨Nat.mul_right_cancel hg h, h'⟩
  · have e1 : (place - last).toNat = 0 := by omega
    have e2 : (last + B).toNat = (last - place).toNat + (place + B).toNat := by omega
    rw [e1, e2, Nat.pow_zero, Nat.mul_one, Nat.pow_add]
    have hg := Nat.two_pow_pos (place + B).toNat
    generalize 2 ^ (place + B).toNat = g at *
    rw [← Nat.mul_assoc 2 _ g, ← Nat.mul_assoc (2 * c + 1), Nat.mul_lt_mul_right hg]
    constructor
    · rintro (h | ⟨h, h'⟩)
      · exact .inl h
      · exact .inr ⟨by rw [h], h'⟩
    · rintro (h | ⟨h, h'⟩)
      · exact .inl h
      · exact .inr ⟨Nat.mul_right_cancel hg h, h'⟩

theorem lt_min_left {k a i : Nat} (h : k < i) : k < min a i ↔ k < a := by omega

/-- The rung that 'nearest' finds. -/
def R (mag : Nat) (place : Int) : Nat :=
  if mag = 0 then 0 else
  min ((max (place + mag.log2 - 52) (-1074) + 1074).toNat * 4503599627370496 + Toward.even.cut false (mag <<< (place - max (place + mag.log2 - 52) (-1074)).toNat) (max (place + mag.log2 - 52) (-1074) - place).toNat) inf

theorem cut_neg (a b : Bool) (n d : Nat) : Toward.even.cut a n d = Toward.even.cut b n d := rfl

theorem nearest_eq (neg : Bool) (mag : Nat) (place : Int) : double.nearest neg mag place = double.word neg (R mag place) := by
  unfold Format.nearest R
  split
  · rfl
  · have h1 : double.leastPlace = -1074 := by decide +kernel
    have h2 : double.fractionBits = 52 := rfl
    have h3 : double.binade = 4503599627370496 := by decide +kernel
    have h4 : double.infRung = inf := by decide +kernel
    simp only [h1, h2, h3, h4]
    rw [cut_neg neg false]
    congr 4 <;> omega

/-- ████ The thresholds: b is room for places below 2 ^ -1075. -/
theorem R_thr (mag : Nat) (place : Int) (b : Nat) (hb : 0 ≤ place + 1075 + b) (k : Nat) (hk : k < inf) :
    k < R mag place ↔ M k * 2 ^ b < mag * 2 ^ (place + 1075 + b).toNat ∨ (M k * 2 ^ b = mag * 2 ^ (place + 1075 + b).toNat ∧ k % 2 = 1) := by
  by_cases h0 : mag = 0
  · subst h0
    have : 0 < M k * 2 ^ b := Nat.mul_pos (by have := V_lt_succ k; unfold M; omega) (Nat.two_pow_pos b)
    simp only [R, if_pos, Nat.zero_mul]; omega
  unfold R
  rw [if_neg h0]
  have L1 : 2 ^ mag.log2 ≤ mag := Nat.log2_self_le h0
  have L2 : mag < 2 ^ (mag.log2 + 1) := Nat.lt_log2_self
  generalize hL : mag.log2 = L at *
  obtain ⟨s, hs⟩ : ∃ s : Nat, max (place + L - 52) (-1074) = (s : Int) - 1074 := ⟨(max (place + L - 52) (-1074) + 1074).toNat, by omega⟩
  have hs1 : place + L - 52 ≤ s - 1074 := by omega
  have hs2 : place + L - 52 = s - 1074 ∨ s = 0 := by omega
  rw [hs]
  have hkt := fun c => kept_thr false mag place ((s : Int) - 1074) (1075 + b) (by omega) (by omega) c
  have e1 : ((s : Int) - 1074 + (1075 + b)).toNat = s + 1 + b := by omega
  have e2 : (place + (1075 + b)).toNat = (place + 1075 + b).toNat := by omega
  have e3 : ((s : Int) - 1074 + 1074).toNat = s := by omega
  rw [e3]
  have U : mag * 2 ^ (place + 1075 + b).toNat < 2 ^ (s + b) * 18014398509481984 := by
    have a1 : mag * 2 ^ (place + 1075 + b).toNat < 2 ^ (L + 1) * 2 ^ (place + 1075 + b).toNat := (Nat.mul_lt_mul_right (Nat.two_pow_pos _)).2 L2
    rw [← Nat.pow_add] at a1
    have a2 : 2 ^ (L + 1 + (place + 1075 + b).toNat) ≤ 2 ^ (s + b + 54) := Nat.pow_le_pow_right (by omega) (by omega)
    rw [Nat.pow_add 2 (s + b) 54, show 2 ^ 54 = 18014398509481984 from by decide] at a2
    exact Nat.lt_of_lt_of_le a1 a2
  have D : s = 0 ∨ 2 ^ (s + b) * 9007199254740992 ≤ mag * 2 ^ (place + 1075 + b).toNat := by
    rcases hs2 with hs2 | hs2
    · right
      have a1 : 2 ^ L * 2 ^ (place + 1075 + b).toNat ≤ mag * 2 ^ (place + 1075 + b).toNat := Nat.mul_le_mul_right _ L1
      rw [← Nat.pow_add] at a1
      have a2 : 2 ^ (s + b + 53) ≤ 2 ^ (L + (place + 1075 + b).toNat) := Nat.pow_le_pow_right (by omega) (by omega)
      rw [Nat.pow_add 2 (s + b) 53, show 2 ^ 53 = 9007199254740992 from by decide] at a2
      exact Nat.le_trans a2 a1
    · exact .inl hs2
  have K : ∀ c, c < Toward.even.cut false (mag <<< (place - ((s : Int) - 1074)).toNat) ((s : Int) - 1074 - place).toNat ↔ (2 * c + 1) * 2 ^ (s + b) < mag * 2 ^ (place + 1075 + b).toNat ∨ ((2 * c + 1) * 2 ^ (s + b) = mag * 2 ^ (place + 1075 + b).toNat ∧ c % 2 = 1) := by
    intro c
    rw [hkt c, e1, e2, show s + 1 + b = (s + b) + 1 by omega, Nat.pow_succ]
    have : (2 * c + 1) * (2 ^ (s + b) * 2) = 2 * ((2 * c + 1) * 2 ^ (s + b)) := by
      rw [← Nat.mul_assoc, Nat.mul_comm]
    rw [this]; omega
  clear hkt
  generalize Toward.even.cut false (mag <<< (place - ((s : Int) - 1074)).toNat) ((s : Int) - 1074 - place).toNat = kept at *
  have G : 0 < 2 ^ (s + b) := Nat.two_pow_pos _
  have kmax : kept ≤ 9007199254740992 := by
    have := K 9007199254740992
    omega
  have kmin : s = 0 ∨ 4503599627370496 ≤ kept := by
    rcases D with D | D
    · exact .inl D
    · right
      have := K 4503599627370495
      omega
  have lk : k < min (s * 4503599627370496 + kept) inf ↔ k < s * 4503599627370496 + kept := lt_min_left hk
  rw [lk]
  clear lk hk
  by_cases hk1 : s * 4503599627370496 + 9007199254740992 ≤ k
  · -- too high
    have m1 := M_gt_two hk1
    rw [V_at s _ (by omega) (by omega)] at m1
    have m2 : 2 * (9007199254740992 * 2 ^ s) * 2 ^ b < M k * 2 ^ b := (Nat.mul_lt_mul_right (Nat.two_pow_pos b)).2 m1
    have m3 : 2 * (9007199254740992 * 2 ^ s) * 2 ^ b = 2 ^ (s + b) * 18014398509481984 := by
      rw [Nat.pow_add]
      generalize 2 ^ s = x; generalize 2 ^ b = y
      rw [← Nat.mul_assoc 2, Nat.mul_assoc, Nat.mul_comm]
    omega
  · by_cases hk2 : s = 0 ∨ s * 4503599627370496 + 4503599627370496 ≤ k
    · -- in reach
      obtain ⟨c, hc⟩ : ∃ c, k = s * 4503599627370496 + c := ⟨k - s * 4503599627370496, by omega⟩
      have m1 : M k = (2 * c + 1) * 2 ^ s := by
        by_cases z : s = 0
        · subst z; rw [hc, Nat.zero_mul, Nat.zero_add, M_low (by omega)]; simp
        · rw [hc]; exact M_at s c (by omega) (by omega)
      have par : k % 2 = c % 2 := by omega
      rw [m1, Nat.mul_assoc, ← Nat.pow_add, par, ← K c]
      omega
    · -- below
      have m1 := M_lt_two (show k < s * 4503599627370496 + 4503599627370496 by omega)
      rw [V_at s _ (by omega) (by omega)] at m1
      have m2 : M k * 2 ^ b < 2 * (4503599627370496 * 2 ^ s) * 2 ^ b := (Nat.mul_lt_mul_right (Nat.two_pow_pos b)).2 m1
      have m3 : 2 * (4503599627370496 * 2 ^ s) * 2 ^ b = 2 ^ (s + b) * 9007199254740992 := by
        rw [Nat.pow_add]
        generalize 2 ^ s = x; generalize 2 ^ b = y
        rw [← Nat.mul_assoc 2, Nat.mul_assoc, Nat.mul_comm]
      omega

theorem R_le (mag : Nat) (place : Int) : R mag place ≤ inf := by
  unfold R; split
  · exact Nat.zero_le _
  · exact Nat.min_le_right _ _

end Go.Proofs.Qxb6605323a.Fl
