import Derived.Test.Qxb6605343aLay
import Derived.Laws.BitsAllLaws
namespace Go.Proofs.Qxb6605343a
open Go.RowKit
set_option linter.unusedVariables false

theorem and_not7 (x : Nat) (hx : x < 18446744073709551616) : x &&& 18446744073709551608 = x - x % 8 := by
  have e1 : x - x % 8 = (x >>> 3) <<< 3 := by rw [Nat.shiftRight_eq_div_pow, Nat.shiftLeft_eq]; omega
  have e2 : 18446744073709551608 = (2 ^ 61 - 1) <<< 3 := by decide
  rw [e1, e2]
  apply Nat.eq_of_testBit_eq
  intro i
  rw [Nat.testBit_and, Nat.testBit_shiftLeft, Nat.testBit_shiftLeft, Nat.testBit_shiftRight, Nat.testBit_two_pow_sub_one]
  by_cases h3 : 3 ≤ i
  · rw [show 3 + (i - 3) = i by omega, decide_eq_true (show i ≥ 3 from h3), Bool.true_and, Bool.true_and]
    by_cases h : i < 64
    · rw [decide_eq_true (show i - 3 < 61 by omega), Bool.and_true]
    · have : x.testBit i = false := Nat.testBit_lt_two_pow (Nat.lt_of_lt_of_le hx (by
        have : 2 ^ 64 ≤ 2 ^ i := Nat.pow_le_pow_right (by omega) (by omega)
        simpa using this))
      rw [this, Bool.false_and]
  · rw [decide_eq_false (show ¬ i ≥ 3 from h3), Bool.false_and, Bool.and_false, Bool.false_and]
theorem i64_andNot7 (x : Nat) (hx : x < 9223372036854775808) : bits .andNot .i64 (x : Int) 7 = ((x - x % 8 : Nat) : Int) := by
  show IntKind.i64.wrap ((BitVec.ofInt 64 (x : Int) &&& ~~~BitVec.ofInt 64 7).toNat : Int) = _
  have h1 : (BitVec.ofInt 64 7).toNat = 7 := by decide
  rw [BitVec.toNat_and, BitVec.toNat_not, ofInt_u64 x (by omega), h1, show 2 ^ 64 - 1 - 7 = 18446744073709551608 by decide, and_not7 x (by omega)]
  rw [IntKind.wrap_i64]
  omega
def msk (R T : Nat) : Nat := 9259542123273814144 / 2 ^ (8 * (8 - (T - R))) * 2 ^ (8 * R)
theorem msk_all : ((List.range 8).all fun R => (List.range 9).all fun T => !(decide (R < T)) || (decide (msk R T < 18446744073709551616) && (List.range 64).all fun b => (msk R T).testBit b == (decide (b % 8 = 7) && (decide (R ≤ b / 8) && decide (b / 8 < T))))) = true := by kernel_rfl
theorem msk_bits {R T : Nat} (h1 : R < T) (h2 : T ≤ 8) : msk R T < 18446744073709551616 ∧ ∀ b, b < 64 → (msk R T).testBit b = (decide (b % 8 = 7) && (decide (R ≤ b / 8) && decide (b / 8 < T))) := by
  have h := List.all_eq_true.1 (List.all_eq_true.1 msk_all R (List.mem_range.2 (by omega))) T (List.mem_range.2 (by omega))
  rw [decide_eq_true h1, Bool.not_true, Bool.false_or, Bool.and_eq_true, decide_eq_true_eq] at h
  refine ⟨h.1, fun b hb => ?_⟩
  have := List.all_eq_true.1 h.2 b (List.mem_range.2 hb)
  exact eq_of_beq this
theorem tops_int (k l : Nat) : (9259542123273814144 : Int) / 2 ^ k * 2 ^ l = ((9259542123273814144 / 2 ^ k * 2 ^ l : Nat) : Int) := by
  rw [Int.natCast_mul, Int.natCast_ediv, Int.natCast_pow, Int.natCast_pow]; rfl
theorem tops_wrap {R T : Nat} (h1 : R < T) (h2 : T ≤ 8) : IntKind.u64.wrap ((9259542123273814144 : Int) / 2 ^ (8 * (8 - (T - R))) * 2 ^ (8 * R)) = ((msk R T : Nat) : Int) := by
  rw [tops_int, IntKind.wrap_u64]
  have h := (msk_bits h1 h2).1
  have e : (9259542123273814144 / 2 ^ (8 * (8 - (T - R))) * 2 ^ (8 * R) : Nat) = msk R T := rfl
  rw [e]
  generalize msk R T = m at h
  omega
/-- One step of the inner loop. -/
theorem WOK.step {V E : Nat → Int} {P : Nat → Bool} {k v a J R T W : Nat} {e : Int} {Y : Nat → Nat} (h : WOK (fun c => cov V E P k c || (decide (v < c) && (decide ((c : Int) < e - 1) && decide (c < a)))) Y W)
    (hJ : J = a / 8) (hR : R = a % 8) (hT : (T : Int) = (if 8 < e - 1 - (a - a % 8 : Nat) then 8 else e - 1 - (a - a % 8 : Nat))) (hv : v < a) (h1 : R < T) (h2 : T ≤ 8) (hJW : J < W) (hae : (a : Int) < e - 1) :
    WOK (fun c => cov V E P k c || (decide (v < c) && (decide ((c : Int) < e - 1) && decide (c < 8 * J + 8)))) (upd Y J (Y J ||| msk R T)) W := by
  have hm := msk_bits h1 h2
  have := WOK.or (p := fun c => decide (8 * J + R ≤ c) && decide (c < 8 * J + T)) h hJW hm.1 (fun b hb => by
    rw [hm.2 b hb]
    congr 1
    show _ = (decide (8 * J + R ≤ 8 * J + b / 8) && decide (8 * J + b / 8 < 8 * J + T))
    congr 1
    · apply decide_eq_decide.2; omega
    · apply decide_eq_decide.2; omega) (fun c hc => by
    simp only [Bool.and_eq_true, decide_eq_true_eq] at hc; omega)
  refine this.ext (fun c _ => ?_)
  show ((cov V E P k c || (decide (v < c) && (decide ((c : Int) < e - 1) && decide (c < a)))) || (decide (8 * J + R ≤ c) && decide (c < 8 * J + T))) = _
  cases cov V E P k c
  · rw [Bool.false_or, Bool.false_or, Bool.eq_iff_iff]
    simp only [Bool.or_eq_true, Bool.and_eq_true, decide_eq_true_eq]
    split at hT <;> omega
  · rfl
theorem WOK.stop {V E : Nat → Int} {P : Nat → Bool} {k v a W : Nat} {e : Int} {Y : Nat → Nat} (h : WOK (fun c => cov V E P k c || (decide (v < c) && (decide ((c : Int) < e - 1) && decide (c < a)))) Y W)
    (hV : V k = v) (hE : E k = e) (hP : P k = true) (hae : ¬ (a : Int) < e - 1) : WOK (cov V E P (k + 1)) Y W := by
  refine h.ext (fun c _ => ?_)
  rw [cov, hV, hE, hP, Bool.true_and]
  congr 1
  rw [Bool.eq_iff_iff]
  simp only [Bool.and_eq_true, decide_eq_true_eq]
  omega
end Go.Proofs.Qxb6605343a
