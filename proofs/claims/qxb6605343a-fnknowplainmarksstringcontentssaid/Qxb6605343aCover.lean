import Derived.Test.Qxb6605343aBits
namespace Go.Proofs.Qxb6605343a
open Go.RowKit
set_option linter.unusedVariables false

/-- Does string i cover a byte? -/
def act (V E : Nat → Int) (P : Nat → Bool) (i : Nat) : Bool := P i && decide (V i + 1 < E i - 1)
/-- The difference array after the first k strings. -/
def cvr (V E : Nat → Int) (P : Nat → Bool) : Nat → Nat → Int
  | 0, _ => 0
  | i + 1, j => cvr V E P i j + (if act V E P i = true then (if (j : Int) = V i + 1 then 1 else 0) - (if (j : Int) = E i - 1 then 1 else 0) else 0)
def dsum (f : Nat → Int) : Nat → Int
  | 0 => 0
  | b + 1 => dsum f b + f b
def cnt (V E : Nat → Int) (P : Nat → Bool) : Nat → Nat → Nat
  | 0, _ => 0
  | i + 1, c => cnt V E P i c + (if P i && (decide (V i < c) && decide ((c : Int) < E i - 1)) then 1 else 0)

theorem cvr_bound (V E : Nat → Int) (P : Nat → Bool) : ∀ (k j : Nat), -(k : Int) ≤ cvr V E P k j ∧ cvr V E P k j ≤ k
  | 0, j => by simp [cvr]
  | k + 1, j => by
    have := cvr_bound V E P k j
    rw [cvr]
    repeat' split
    all_goals omega
theorem cnt_le (V E : Nat → Int) (P : Nat → Bool) : ∀ k c, cnt V E P k c ≤ k
  | 0, j => by simp [cnt]
  | k + 1, j => by
    have := cnt_le V E P k j
    rw [cnt]
    split <;> omega
theorem cnt_cov (V E : Nat → Int) (P : Nat → Bool) : ∀ k c, decide (0 < cnt V E P k c) = cov V E P k c
  | 0, c => by simp [cnt, cov]
  | k + 1, c => by
    rw [cnt, cov, ← cnt_cov V E P k c]
    by_cases h : (P k && (decide (V k < c) && decide ((c : Int) < E k - 1))) = true
    · rw [if_pos h, h, Bool.or_true]
      exact decide_eq_true (by omega)
    · rw [if_neg h]
      have : (P k && (decide (V k < c) && decide ((c : Int) < E k - 1))) = false := by simpa using h
      rw [this, Bool.or_false, Nat.add_zero]
theorem dsum_zero : ∀ b, dsum (fun _ => 0) b = 0
  | 0 => rfl
  | b + 1 => by rw [dsum, dsum_zero b]; rfl
theorem dsum_add (f g : Nat → Int) : ∀ b, dsum (fun j => f j + g j) b = dsum f b + dsum g b
  | 0 => by simp [dsum]
  | b + 1 => by rw [dsum, dsum, dsum, dsum_add f g b]; omega
theorem dsum_one (a : Int) (h0 : 0 ≤ a) : ∀ b : Nat, dsum (fun j => if (j : Int) = a then 1 else 0) b = if a < b then 1 else 0
  | 0 => by rw [dsum, if_neg (by omega)]
  | b + 1 => by
    rw [dsum, dsum_one a h0 b]
    by_cases h1 : a < b
    · rw [if_pos h1, if_neg (by omega), if_pos (by omega)]; rfl
    · by_cases h2 : (b : Int) = a
      · rw [if_neg h1, if_pos h2, if_pos (by omega)]; rfl
      · rw [if_neg h1, if_neg h2, if_neg (by omega)]; rfl
theorem dsum_neg (f : Nat → Int) : ∀ b, dsum (fun j => - f j) b = - dsum f b
  | 0 => by simp [dsum]
  | b + 1 => by rw [dsum, dsum, dsum_neg f b]; omega
theorem dsum_cvr (V E : Nat → Int) (P : Nat → Bool) : ∀ k, (∀ i, i < k → P i = true → 0 ≤ V i) → ∀ c, dsum (cvr V E P k) (c + 1) = cnt V E P k c
  | 0, _, c => by
    have : cvr V E P 0 = fun _ => 0 := rfl
    rw [this, dsum_zero]; rfl
  | k + 1, h, c => by
    have e : cvr V E P (k + 1) = fun j => cvr V E P k j + (if act V E P k = true then (if (j : Int) = V k + 1 then 1 else 0) - (if (j : Int) = E k - 1 then 1 else 0) else 0) := rfl
    rw [e, dsum_add, dsum_cvr V E P k (fun i hi => h i (by omega)) c, cnt]
    by_cases ha : act V E P k = true
    · have ha' := ha
      unfold act at ha'
      rw [Bool.and_eq_true, decide_eq_true_eq] at ha'
      have hv := h k (by omega) ha'.1
      have e2 : (fun j : Nat => if act V E P k = true then (if (j : Int) = V k + 1 then (1 : Int) else 0) - (if (j : Int) = E k - 1 then 1 else 0) else 0) = fun j : Nat => (if (j : Int) = V k + 1 then (1 : Int) else 0) + -(if (j : Int) = E k - 1 then 1 else 0) := by
        funext j; rw [if_pos ha]; omega
      rw [e2, dsum_add, dsum_neg, dsum_one _ (by omega), dsum_one _ (by omega), ha'.1, Bool.true_and]
      by_cases h1 : V k < c
      · by_cases h2 : (c : Int) < E k - 1
        · rw [if_pos (by omega), if_neg (by omega), decide_eq_true h1, decide_eq_true h2, if_pos (by simp)]; omega
        · rw [if_pos (by omega), if_pos (by omega), decide_eq_true h1, decide_eq_false h2, if_neg (by simp)]; omega
      · rw [if_neg (by omega), if_neg (by omega), decide_eq_false h1, if_neg (by simp)]; omega
    · have e2 : (fun j : Nat => if act V E P k = true then (if (j : Int) = V k + 1 then (1 : Int) else 0) - (if (j : Int) = E k - 1 then 1 else 0) else 0) = fun _ => 0 := by
        funext j; rw [if_neg ha]
      rw [e2, dsum_zero]
      have : (P k && (decide (V k < c) && decide ((c : Int) < E k - 1))) = false := by
        cases hp : P k
        · rfl
        · unfold act at ha
          rw [hp, Bool.true_and, decide_eq_true_eq] at ha
          rw [Bool.true_and]
          by_cases h1 : V k < c
          · rw [decide_eq_false (show ¬ (c : Int) < E k - 1 by omega), Bool.and_false]
          · rw [decide_eq_false h1, Bool.false_and]
      rw [this, if_neg (by simp)]; omega
theorem dsum_bound (V E : Nat → Int) (P : Nat → Bool) (k : Nat) (h : ∀ i, i < k → P i = true → 0 ≤ V i) (b : Nat) : 0 ≤ dsum (cvr V E P k) b ∧ dsum (cvr V E P k) b ≤ k := by
  cases b with
  | zero => simp [dsum]
  | succ c => rw [dsum_cvr V E P k h c]; have := cnt_le V E P k c; omega

theorem bit_all : ((List.range 8).all fun R => decide (2 ^ (8 * R + 7) < 18446744073709551616)) = true := by decide
theorem WOK.bit {f : Nat → Bool} {Z : Nat → Nat} {N b J R : Nat} (h : WOK f Z N) (hJ : J = b / 8) (hR : R = b % 8) (hJN : J < N) : WOK (fun c => f c || decide (c = b)) (upd Z J (Z J ||| 2 ^ (8 * R + 7))) N := by
  refine WOK.or (p := fun c => decide (c = b)) h hJN ?_ (fun x hx => ?_) (fun c hc => ?_)
  · have := List.all_eq_true.1 bit_all R (List.mem_range.2 (by omega))
    exact of_decide_eq_true this
  · rw [Nat.testBit_two_pow]
    show _ = (decide (x % 8 = 7) && decide (8 * J + x / 8 = b))
    rw [← Bool.decide_and]
    apply decide_eq_decide.2
    omega
  · have := of_decide_eq_true hc
    omega
theorem bit_wrap {R : Nat} (h : R < 8) : IntKind.u64.wrap ((2 : Int) ^ (8 * R + 7)) = ((2 ^ (8 * R + 7) : Nat) : Int) := by
  have e : (2 : Int) ^ (8 * R + 7) = ((2 ^ (8 * R + 7) : Nat) : Int) := by rw [Int.natCast_pow]; rfl
  have hb : 2 ^ (8 * R + 7) < 18446744073709551616 := of_decide_eq_true (List.all_eq_true.1 bit_all R (List.mem_range.2 h))
  rw [e, IntKind.wrap_u64]
  generalize 2 ^ (8 * R + 7) = m at hb
  omega
theorem bit_lt {R : Nat} (h : R < 8) : 2 ^ (8 * R + 7) < 18446744073709551616 := of_decide_eq_true (List.all_eq_true.1 bit_all R (List.mem_range.2 h))
theorem WOK.setb {V E : Nat → Int} {P : Nat → Bool} {m b J R W cn : Nat} {Y : Nat → Nat} (h : WOK (fun c => decide (c < b) && cov V E P m c) Y W) (hJ : J = b / 8) (hR : R = b % 8) (hJW : J < W) (hc : decide (0 < cn) = cov V E P m b) (hp : 0 < cn) :
    WOK (fun c => decide (c < b + 1) && cov V E P m c) (upd Y J (Y J ||| 2 ^ (8 * R + 7))) W := by
  refine (h.bit hJ hR hJW).ext (fun c _ => ?_)
  rw [decide_eq_true hp] at hc
  by_cases e : c = b
  · subst e
    rw [decide_eq_true rfl, ← hc, decide_eq_true (Nat.lt_succ_self _), Bool.or_true]; rfl
  · rw [decide_eq_false e, Bool.or_false]
    by_cases h1 : c < b
    · rw [decide_eq_true h1, decide_eq_true (show c < b + 1 by omega)]
    · rw [decide_eq_false h1, decide_eq_false (show ¬ c < b + 1 by omega)]
theorem WOK.skipb {V E : Nat → Int} {P : Nat → Bool} {m b W cn : Nat} {Y : Nat → Nat} (h : WOK (fun c => decide (c < b) && cov V E P m c) Y W) (hc : decide (0 < cn) = cov V E P m b) (hp : ¬ 0 < cn) :
    WOK (fun c => decide (c < b + 1) && cov V E P m c) Y W := by
  refine h.ext (fun c _ => ?_)
  rw [decide_eq_false hp] at hc
  by_cases e : c = b
  · subst e; rw [← hc, Bool.and_false, Bool.and_false]
  · by_cases h1 : c < b
    · rw [decide_eq_true h1, decide_eq_true (show c < b + 1 by omega)]
    · rw [decide_eq_false h1, decide_eq_false (show ¬ c < b + 1 by omega)]
end Go.Proofs.Qxb6605343a
