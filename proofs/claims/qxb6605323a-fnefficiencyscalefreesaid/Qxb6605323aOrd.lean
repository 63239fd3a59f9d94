/-
  Plain mathematics on doubles, third part: the order of words; whole numbers that a double holds.
-/
import Derived.Test.Qxb6605323aNum
namespace Go.Proofs.Qxb6605323a.Fl
open Ieee

def sv (s : Bool) (a : Nat) : Int := if s then -(V a : Int) else (V a : Int)

theorem cmp_scale (x y : Int) (g : Nat) (hg : 0 < g) : compare (x * g) (y * g) = compare x y := by
  have hg' : (0 : Int) < (g : Int) := by omega
  show compareOfLessAndEq (x * g) (y * g) = compareOfLessAndEq x y
  unfold compareOfLessAndEq
  have e1 : x * g < y * g ↔ x < y := Int.mul_lt_mul_right hg'
  have e2 : x * g = y * g ↔ x = y := ⟨fun h => Int.eq_of_mul_eq_mul_right (by omega) h, fun h => by rw [h]⟩
  simp only [e1, e2]

theorem signed_scale (s : Bool) (m k a : Nat) (i base : Int) (hk : k = (i - base).toNat) (h1 : -1074 ≤ base) (h2 : base ≤ i) (hv : m * 2 ^ (i + 1074).toNat = V a) :
    signed s m k * ((2 ^ (base + 1074).toNat : Nat) : Int) = sv s a := by
  have p1 : m * 2 ^ (i + 1074).toNat = m * 2 ^ k * 2 ^ (base + 1074).toNat := mul_pow_add _ _ _ _ (by omega)
  unfold signed sv
  rw [Nat.shiftLeft_eq, ← hv, p1]
  generalize 2 ^ k = x; generalize 2 ^ (base + 1074).toNat = y
  cases s
  · simp
  · simp [Int.neg_mul]

theorem order_words (s t : Bool) (a b : Nat) (ha : a < inf) (hb : b < inf) : double.order (double.word s a) (double.word t b) = some (compare (sv s a) (sv t b)) := by
  obtain ⟨m, i, e1, l1, u1, v1, b1, z1⟩ := read_word s a ha
  obtain ⟨n, j, e2, l2, u2, v2, b2, z2⟩ := read_word t b hb
  unfold Format.order
  rw [e1, e2]
  simp only [Datum.order]
  rw [← signed_scale s m (i - min i j).toNat a i (min i j) rfl (by omega) (by omega) v1, ← signed_scale t n (j - min i j).toNat b j (min i j) rfl (by omega) (by omega) v2]
  rw [cmp_scale _ _ _ (Nat.two_pow_pos _)]

theorem cmp_lt {x y : Int} (h : x < y) : compare x y = .lt := by
  show compareOfLessAndEq x y = _
  unfold compareOfLessAndEq; rw [if_pos h]
theorem cmp_eq (x : Int) : compare x x = .eq := by
  show compareOfLessAndEq x x = _
  unfold compareOfLessAndEq; rw [if_neg (by omega), if_pos rfl]
theorem cmp_gt {x y : Int} (h : y < x) : compare x y = .gt := by
  show compareOfLessAndEq x y = _
  unfold compareOfLessAndEq; rw [if_neg (by omega), if_neg (by omega)]

theorem V_zero : V 0 = 0 := rfl
theorem V_pos {a : Nat} (h : 0 < a) : 0 < V a := by have := V_strict h; rw [V_zero] at this; exact this

theorem order_lt {a b : Nat} (h : a < b) (hb : b < inf) : double.order a b = some .lt := by
  have := order_words false false a b (Nat.lt_trans h hb) hb
  rw [word_pos, word_pos] at this
  rw [this, cmp_lt]; have := V_strict h; simp [sv]; omega
theorem order_eq {a : Nat} (ha : a < inf) : double.order a a = some .eq := by
  have := order_words false false a a ha ha
  rw [word_pos] at this
  rw [this, cmp_eq]
theorem order_gt {a b : Nat} (h : b < a) (ha : a < inf) : double.order a b = some .gt := by
  have := order_words false false a b ha (Nat.lt_trans h ha)
  rw [word_pos, word_pos] at this
  rw [this, cmp_gt]; have := V_strict h; simp [sv]; omega

theorem order_le {a b : Nat} (h : a ≤ b) (hb : b < inf) : (double.order a b == some .lt || double.order a b == some .eq) = true := by
  rcases Nat.lt_or_eq_of_le h with h | h
  · rw [order_lt h hb]; rfl
  · subst h; rw [order_eq hb]; rfl
theorem order_ge {a b : Nat} (h : b ≤ a) (ha : a < inf) : (double.order a b == some .gt || double.order a b == some .eq) = true := by
  rcases Nat.lt_or_eq_of_le h with h | h
  · rw [order_gt h ha]; rfl
  · subst h; rw [order_eq ha]; rfl
theorem order_zero {a : Nat} (ha : a < inf) : (double.order a 0 == some .eq) = decide (a = 0) := by
  by_cases h : a = 0
  · subst h; rw [order_eq ha]; rfl
  · rw [order_gt (by omega) ha]; simp [h]

/-- Whole numbers up to 2 ^ 53, scaled, are held. -/
theorem held (n E : Nat) (hn : n ≤ 9007199254740992) (h1 : 52 ≤ E) (h2 : E ≤ 2000) : ∃ c, c < inf ∧ V c = n * 2 ^ E := by
  by_cases z : n = 0
  · exact ⟨0, by decide +kernel, by rw [z]; simp [V_zero]⟩
  have L1 : 2 ^ n.log2 ≤ n := Nat.log2_self_le z
  have L2 : n < 2 ^ (n.log2 + 1) := Nat.lt_log2_self
  by_cases t : n = 9007199254740992
  · refine ⟨E * 4503599627370496 + 9007199254740992, ?_, by rw [t, V_at _ _ (by omega) (by omega)]⟩
    show _ < 9218868437227405312
    omega
  have hl : n.log2 ≤ 52 := by
    have := (Nat.log2_lt (k := 53) z).2 (by omega); omega
  have a1 : 2 ^ n.log2 * 2 ^ (52 - n.log2) = 4503599627370496 := by rw [← Nat.pow_add, show n.log2 + (52 - n.log2) = 52 by omega]
  have a2 : 2 ^ (n.log2 + 1) * 2 ^ (52 - n.log2) = 9007199254740992 := by rw [← Nat.pow_add, show n.log2 + 1 + (52 - n.log2) = 53 by omega]
  have c1 : 4503599627370496 ≤ n * 2 ^ (52 - n.log2) := by rw [← a1]; exact Nat.mul_le_mul_right _ L1
  have c2 : n * 2 ^ (52 - n.log2) ≤ 9007199254740992 := by rw [← a2]; exact Nat.mul_le_mul_right _ (by omega)
  refine ⟨(E - (52 - n.log2)) * 4503599627370496 + n * 2 ^ (52 - n.log2), ?_, ?_⟩
  · show _ < 9218868437227405312
    generalize n * 2 ^ (52 - n.log2) = x at *
    omega
  · rw [V_at _ _ c1 c2, Nat.mul_assoc, ← Nat.pow_add, show 52 - n.log2 + (E - (52 - n.log2)) = E by omega]

/-- A whole number up to 2 ^ 53, made a double, is that number. -/
theorem ofInt_held (n : Nat) (hn : n ≤ 9007199254740992) : floatOfInt .f64 n < inf ∧ V (floatOfInt .f64 n) = n * U := by
  obtain ⟨r, ⟨h1, _⟩, h2⟩ := ofInt_rnd n
  have hE := uE_eq
  obtain ⟨c, hc, hv⟩ := held n uE hn (by omega) (by omega)
  have : r = c := h2.exact hc (by omega) (by rw [hv, Nat.mul_one, U_def])
  rw [h1, this]
  exact ⟨hc, by rw [hv, U_def]⟩

/-- The rung of 2 ^ e. -/
theorem V_two (e : Nat) : V ((e + 1022) * 4503599627370496 + 4503599627370496) = 2 ^ e * U := by
  rw [V_at _ _ (by omega) (by omega), U_def, ← Nat.pow_add, show 4503599627370496 = 2 ^ 52 by decide, ← Nat.pow_add]
  have hE := uE_eq
  rw [show 52 + (e + 1022) = e + uE by omega]

end Go.Proofs.Qxb6605323a.Fl
