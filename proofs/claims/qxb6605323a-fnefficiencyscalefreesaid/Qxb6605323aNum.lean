/-
  Plain mathematics on doubles, second part: what each operation rounds. Nothing of the program in sight.
-/
import Derived.Test.Qxb6605323aFl
import Derived.Laws.FloatArith
namespace Go.Proofs.Qxb6605323a.Fl
open Ieee

/-- 2 ^ 1074: one, in units of 2 ^ -1074. -/
def uE : Nat := 1074
theorem uE_eq : uE = 1074 := rfl
def U : Nat := 2 ^ uE
theorem U_pos : 0 < U := Nat.two_pow_pos _
theorem U_def : U = 2 ^ uE := rfl

/-- r is the rung nearest to N / D (units of 2 ^ -1074), ties to even. -/
def IsRnd (N D r : Nat) : Prop := r ≤ inf ∧ ∀ k, k < inf → (k < r ↔ M k * D < 2 * N ∨ (M k * D = 2 * N ∧ k % 2 = 1))

theorem R_isRnd (mag : Nat) (place : Int) (b N D : Nat) (hb : 0 ≤ place + 1075 + b) (hD : 0 < D) (h : mag * 2 ^ (place + 1075 + b).toNat * D = 2 * N * 2 ^ b) : IsRnd N D (R mag place) := by
  refine ⟨R_le _ _, fun k hk => ?_⟩
  rw [R_thr mag place b hb k hk]
  have hg := Nat.two_pow_pos b
  generalize mag * 2 ^ (place + 1075 + b).toNat = X at *
  generalize 2 ^ b = g at *
  have e1 : M k * g < X ↔ M k * D < 2 * N := by
    rw [← Nat.mul_lt_mul_right hD (b := M k * g), h, show M k * g * D = M k * D * g by rw [Nat.mul_assoc, Nat.mul_comm g D, ← Nat.mul_assoc], Nat.mul_lt_mul_right hg]
  have e2 : M k * g = X ↔ M k * D = 2 * N := by
    constructor
    · intro e
      apply Nat.mul_right_cancel hg
      rw [← h, ← e, Nat.mul_assoc, Nat.mul_comm D g, ← Nat.mul_assoc]
    · intro e
      apply Nat.mul_right_cancel hD
      rw [h, ← e, Nat.mul_assoc, Nat.mul_comm g D, ← Nat.mul_assoc]
  rw [e1, e2]

theorem IsRnd.mono {N D r N' D' r' : Nat} (h : IsRnd N D r) (h' : IsRnd N' D' r') (hD : 0 < D) (hD' : 0 < D') (hle : N * D' ≤ N' * D) : r ≤ r' := by
  by_cases e : r ≤ r'
  · exact e
  · have hk : r' < inf := Nat.lt_of_lt_of_le (by omega) h.1
    have a := (h.2 r' hk).1 (by omega)
    have b := mt (h'.2 r' hk).2 (by omega)
    exfalso; apply b
    have hle2 : 2 * N * D' ≤ 2 * N' * D := by rw [Nat.mul_assoc, Nat.mul_assoc]; omega
    rcases a with a | ⟨a, p⟩
    · left
      have a1 : M r' * D * D' < 2 * N * D' := (Nat.mul_lt_mul_right hD').2 a
      have a2 : M r' * D * D' < 2 * N' * D := Nat.lt_of_lt_of_le a1 hle2
      rw [show M r' * D * D' = M r' * D' * D by rw [Nat.mul_assoc, Nat.mul_comm D D', ← Nat.mul_assoc]] at a2
      exact (Nat.mul_lt_mul_right hD).1 a2
    · have a1 : M r' * D' * D ≤ 2 * N' * D := by
        rw [Nat.mul_assoc, Nat.mul_comm D' D, ← Nat.mul_assoc, a]; exact hle2
      have a2 := (Nat.mul_le_mul_right_iff hD).1 a1
      rcases Nat.lt_or_eq_of_le a2 with a3 | a3
      · exact .inl a3
      · exact .inr ⟨a3, p⟩

theorem IsRnd.uniq {N D r r' : Nat} (h : IsRnd N D r) (h' : IsRnd N D r') (hD : 0 < D) : r = r' :=
  Nat.le_antisymm (h.mono h' hD hD (Nat.le_refl _)) (h'.mono h hD hD (Nat.le_refl _))

theorem IsRnd.ge {N D r c : Nat} (h : IsRnd N D r) (hc : c ≤ inf) (hD : 0 < D) (hle : V c * D ≤ N) : c ≤ r := by
  by_cases e : c ≤ r
  · exact e
  · exfalso
    obtain ⟨k, rfl⟩ : ∃ k, c = k + 1 := ⟨c - 1, by omega⟩
    have hk : k < inf := Nat.lt_of_lt_of_le (by omega) hc
    have : k < r := (h.2 k hk).2 (.inl (by
      have m := (Nat.mul_lt_mul_right hD).2 (M_lt_two (show k < k + 1 by omega))
      rw [Nat.mul_assoc] at m; omega))
    omega

theorem IsRnd.le {N D r c : Nat} (h : IsRnd N D r) (hc : c < inf) (hD : 0 < D) (hle : N ≤ V c * D) : r ≤ c := by
  by_cases e : r ≤ c
  · exact e
  · exfalso
    have a := (h.2 c hc).1 (by omega)
    have m := (Nat.mul_lt_mul_right hD).2 (M_gt_two (Nat.le_refl c))
    rw [Nat.mul_assoc] at m
    omega

theorem IsRnd.exact {N D r c : Nat} (h : IsRnd N D r) (hc : c < inf) (hD : 0 < D) (he : N = V c * D) : r = c :=
  Nat.le_antisymm (h.le hc hD (Nat.le_of_eq he)) (h.ge (Nat.le_of_lt hc) hD (Nat.le_of_eq he.symm))

/-- Twice the number, a binade up. -/
theorem IsRnd.dbl {N D r r' : Nat} (h : IsRnd N D r) (h' : IsRnd (2 * N) D r') (hD : 0 < D) (hlo : 9007199254740992 ≤ r) (hhi : r + 4503599627370496 ≤ inf) : r' = r + 4503599627370496 := by
  have hm : r ≤ r' := h.mono h' hD hD (by rw [Nat.mul_assoc]; omega)
  have key : ∀ k, k < inf → (k < r' ↔ k < r + 4503599627370496) := by
    intro k hk
    by_cases hk2 : k < 9007199254740992
    · omega
    · obtain ⟨j, rfl⟩ : ∃ j, k = j + 4503599627370496 := ⟨k - 4503599627370496, by omega⟩
      have hj : j < inf := Nat.lt_of_le_of_lt (Nat.le_add_right _ _) hk
      rw [h'.2 _ hk, M_dbl (by omega), show (j + 4503599627370496) % 2 = j % 2 by omega, Nat.mul_assoc]
      have := h.2 j hj
      omega
  have hle := h'.1
  generalize inf = I at *
  by_cases e1 : r' < r + 4503599627370496
  · have := (key r' (by omega)).2 e1; omega
  · by_cases e2 : r + 4503599627370496 < r'
    · have := (key (r + 4503599627370496) (by omega)).1 e2; omega
    · omega

/-! ### Reading and writing words -/
theorem word_pos (r : Nat) : double.word false r = r := rfl
theorem signW : double.signWeight = 9223372036854775808 := by decide +kernel
theorem binadeW : double.binade = 4503599627370496 := by decide +kernel
theorem infW : double.infRung = 9218868437227405312 := by decide +kernel
theorem leastW : double.leastPlace = -1074 := by decide +kernel

theorem read_word (neg : Bool) (r : Nat) (h : r < inf) : ∃ (m : Nat) (p : Int), double.read (double.word neg r) = .number neg m p ∧ -1074 ≤ p ∧ p ≤ 971 ∧ m * 2 ^ (p + 1074).toNat = V r ∧ m < 9007199254740992 ∧ (m = 0 ↔ r = 0) := by
  have h' : r < 9218868437227405312 := h
  have e1 : (double.word neg r / 9223372036854775808 % 2 == 1) = neg := by
    unfold Format.word; rw [signW]; cases neg
    · simp; omega
    · simp; omega
  have e2 : double.word neg r % 9223372036854775808 = r := by
    unfold Format.word; rw [signW]; cases neg
    · simp; omega
    · simp; omega
  unfold Format.read
  simp only [signW, binadeW, infW, leastW, e1, e2]
  by_cases hlow : r < 4503599627370496
  · rw [if_pos hlow]
    refine ⟨r, -1074, rfl, by omega, by omega, ?_, by omega, Iff.rfl⟩
    rw [V_low (by omega)]; simp
  · rw [if_neg hlow, if_pos h']
    refine ⟨_, _, rfl, by omega, by omega, ?_, by omega, by omega⟩
    have : (-1074 + ((r / 4503599627370496 - 1 : Nat) : Int) + 1074).toNat = r / 4503599627370496 - 1 := by omega
    rw [this]
    unfold V; rw [if_neg hlow]

theorem write_number (neg : Bool) (m : Nat) (p : Int) : double.write (.number neg m p) = double.word neg (R m p) := nearest_eq neg m p

theorem mul_pow_add (m a b c : Nat) (h : c = a + b) : m * 2 ^ c = m * 2 ^ a * 2 ^ b := by rw [h, Nat.pow_add, Nat.mul_assoc]

/-- A sum of two numbers that are not negative. -/
theorem add_rnd (a b : Nat) (ha : a < inf) (hb : b < inf) : ∃ r, double.add a b = some r ∧ IsRnd (V a + V b) 1 r := by
  obtain ⟨m, i, e1, l1, u1, v1, b1, z1⟩ := read_word false a ha
  obtain ⟨n, j, e2, l2, u2, v2, b2, z2⟩ := read_word false b hb
  rw [word_pos] at e1 e2
  refine ⟨R (m * 2 ^ (i - min i j).toNat + n * 2 ^ (j - min i j).toNat) (min i j), ?_, ?_⟩
  · unfold Format.add
    rw [e1, e2]
    have hs : ∀ (x y : Nat), ((x : Int) + (y : Int)).natAbs = x + y := by intro x y; omega
    have hn : ∀ (x y : Nat), ¬ ((x : Int) + (y : Int) < 0) := by intro x y; omega
    simp only [Datum.sum, signed, Option.map_some, Bool.false_eq_true, if_false, hs, Nat.shiftLeft_eq, Bool.false_and, hn, decide_false, ite_self]
    rw [write_number, word_pos]
  · refine R_isRnd _ _ 0 _ _ (by omega) (by omega) ?_
    have e3 : (min i j + 1075 + (0 : Nat)).toNat = (min i j + 1074).toNat + 1 := by omega
    have p1 : m * 2 ^ (i + 1074).toNat = m * 2 ^ (i - min i j).toNat * 2 ^ (min i j + 1074).toNat := mul_pow_add _ _ _ _ (by omega)
    have p2 : n * 2 ^ (j + 1074).toNat = n * 2 ^ (j - min i j).toNat * 2 ^ (min i j + 1074).toNat := mul_pow_add _ _ _ _ (by omega)
    rw [e3, Nat.pow_succ, ← v1, ← v2, p1, p2, ← Nat.add_mul, Nat.pow_zero, Nat.mul_one, Nat.mul_one, ← Nat.mul_assoc, Nat.mul_comm]

/-- A product. -/
theorem mul_rnd (s t : Bool) (a b : Nat) (ha : a < inf) (hb : b < inf) : ∃ r, double.mul (double.word s a) (double.word t b) = some (double.word (s ^^ t) r) ∧ IsRnd (V a * V b) U r := by
  obtain ⟨m, i, e1, l1, u1, v1, b1, z1⟩ := read_word s a ha
  obtain ⟨n, j, e2, l2, u2, v2, b2, z2⟩ := read_word t b hb
  refine ⟨R (m * n) (i + j), ?_, ?_⟩
  · unfold Format.mul
    rw [e1, e2]
    simp only [Datum.product, Option.map_some, write_number]
  · have hE := uE_eq
    refine R_isRnd _ _ uE _ _ (by omega) U_pos ?_
    have e3 : (i + j + 1075 + uE).toNat = (i + 1074).toNat + (j + 1074).toNat + 1 := by omega
    rw [e3, Nat.pow_succ, Nat.pow_add, ← v1, ← v2, ← U_def]
    generalize 2 ^ (i + 1074).toNat = x; generalize 2 ^ (j + 1074).toNat = y
    congr 1
    rw [← Nat.mul_assoc, Nat.mul_comm _ 2]
    congr 1
    rw [Nat.mul_assoc, Nat.mul_assoc, Nat.mul_left_comm n]

/-- An integer made a double. -/
theorem ofInt_rnd (n : Nat) : ∃ r, (floatOfInt .f64 n = r ∧ floatOfInt .f64 (-n) = double.word (decide (0 < n)) r) ∧ IsRnd (n * U) 1 r := by
  refine ⟨R n 0, ⟨?_, ?_⟩, ?_⟩
  · unfold floatOfInt FloatKind.nearest FloatKind.encode FloatKind.format
    simp only [write_number]
    have : (decide ((n : Int) < 0)) = false := decide_eq_false (by omega)
    rw [this, word_pos]; rfl
  · unfold floatOfInt FloatKind.nearest FloatKind.encode FloatKind.format
    simp only [write_number]
    have : (decide (-(n : Int) < 0)) = decide (0 < n) := by rw [Bool.eq_iff_iff, decide_eq_true_iff, decide_eq_true_iff]; omega
    rw [this, Int.natAbs_neg, Int.natAbs_natCast]
  · refine R_isRnd _ _ 0 _ _ (by omega) (by omega) ?_
    have e3 : ((0 : Int) + 1075 + (0 : Nat)).toNat = uE + 1 := by have := uE_eq; omega
    rw [e3, Nat.pow_succ, ← U_def, Nat.pow_zero, Nat.mul_one, Nat.mul_one, ← Nat.mul_assoc, Nat.mul_comm]

theorem M_form (k : Nat) : ∃ c s, M k = c * 2 ^ s ∧ c < 18014398509481984 := by
  by_cases h : k < 4503599627370496
  · exact ⟨2 * k + 1, 0, by rw [M_low (by omega)]; simp, by omega⟩
  · obtain ⟨s, c, rfl, h1, h2⟩ := split_rung (by omega : 4503599627370496 ≤ k)
    exact ⟨2 * c + 1, s, M_at s c h1 h2, by omega⟩

/-- A quotient cut off with a mark for what is left over stands to Y as the quotient does. -/
theorem sticky (Y A n rem t e b c s : Nat) (hn : 0 < n) (ht : t = A * n + rem) (hr : rem < n) (hY : Y = c * 2 ^ (s + b)) (hc : c < 18014398509481984) (hA : 9007199254740992 ≤ A) :
    (Y < (2 * A + (rem != 0).toNat) * 2 ^ e ↔ Y * n < t * 2 ^ (e + 1)) ∧ (Y = (2 * A + (rem != 0).toNat) * 2 ^ e ↔ Y * n = t * 2 ^ (e + 1)) := by
  have hg := Nat.two_pow_pos e
  by_cases hs : e + 1 ≤ s + b
  · obtain ⟨d, hd⟩ : ∃ d, s + b = d + (e + 1) := ⟨s + b - (e + 1), by omega⟩
    rw [hd, Nat.pow_add, ← Nat.mul_assoc] at hY
    generalize c * 2 ^ d = z at hY
    have hg1 := Nat.two_pow_pos (e + 1)
    have q1 : Y < (2 * A + (rem != 0).toNat) * 2 ^ e ↔ 2 * z < 2 * A + (rem != 0).toNat := by
      rw [hY, Nat.pow_succ, Nat.mul_comm (2 ^ e) 2, ← Nat.mul_assoc, Nat.mul_lt_mul_right hg, Nat.mul_comm z 2]
    have q2 : Y = (2 * A + (rem != 0).toNat) * 2 ^ e ↔ 2 * z = 2 * A + (rem != 0).toNat := by
      rw [hY, Nat.pow_succ, Nat.mul_comm (2 ^ e) 2, ← Nat.mul_assoc, Nat.mul_comm z 2]
      exact ⟨fun h => Nat.mul_right_cancel hg h, fun h => by rw [h]⟩
    have q3 : Y * n < t * 2 ^ (e + 1) ↔ z * n < t := by
      rw [hY, Nat.mul_assoc, Nat.mul_comm (2 ^ (e + 1)) n, ← Nat.mul_assoc, Nat.mul_lt_mul_right hg1]
    have q4 : Y * n = t * 2 ^ (e + 1) ↔ z * n = t := by
      rw [hY, Nat.mul_assoc, Nat.mul_comm (2 ^ (e + 1)) n, ← Nat.mul_assoc]
      exact ⟨fun h => Nat.mul_right_cancel hg1 h, fun h => by rw [h]⟩
    rw [q1, q2, q3, q4, ht]
    clear q1 q2 q3 q4 hY ht hg hg1 hA hc
    have hb : (rem != 0).toNat = if rem = 0 then 0 else 1 := by by_cases h : rem = 0 <;> simp [h]
    rw [hb]
    rcases Nat.lt_trichotomy z A with h | h | h
    · have : (z + 1) * n ≤ A * n := Nat.mul_le_mul_right n h
      rw [Nat.add_mul, Nat.one_mul] at this
      split <;> omega
    · subst h; split <;> omega
    · have : (A + 1) * n ≤ z * n := Nat.mul_le_mul_right n h
      rw [Nat.add_mul, Nat.one_mul] at this
      split <;> omega
  · have h1 : 2 ^ (s + b) ≤ 2 ^ e := Nat.pow_le_pow_right (by omega) (by omega)
    have h2 : Y < 18014398509481984 * 2 ^ e := by
      rw [hY]
      exact Nat.lt_of_lt_of_le ((Nat.mul_lt_mul_right (Nat.two_pow_pos _)).2 hc) (Nat.mul_le_mul_left _ h1)
    have h3 : 18014398509481984 * 2 ^ e ≤ 2 * A * 2 ^ e := Nat.mul_le_mul_right _ (by omega)
    have h4 : Y < 2 * A * 2 ^ e := by omega
    have h5 : Y < (2 * A + (rem != 0).toNat) * 2 ^ e := Nat.lt_of_lt_of_le h4 (Nat.mul_le_mul_right _ (by omega))
    have h6 : Y * n < t * 2 ^ (e + 1) := by
      have a1 : Y * n < 2 * A * 2 ^ e * n := (Nat.mul_lt_mul_right hn).2 h4
      have a2 : 2 * A * 2 ^ e * n ≤ t * 2 ^ (e + 1) := by
        rw [Nat.pow_succ, ht, show 2 * A * 2 ^ e * n = A * n * (2 ^ e * 2) by
          generalize 2 ^ e = g
          rw [Nat.mul_assoc 2 A g, Nat.mul_assoc 2, Nat.mul_comm (2 : Nat), Nat.mul_assoc A g n, Nat.mul_comm g n, ← Nat.mul_assoc A n g, Nat.mul_assoc (A * n)]]
        exact Nat.mul_le_mul_right _ (by omega)
      omega
    constructor
    · exact ⟨fun _ => h6, fun _ => h5⟩
    · constructor
      · intro h; omega
      · intro h; omega

/-- A quotient. -/
theorem div_rnd (s t : Bool) (a b : Nat) (ha : a < inf) (hb : b < inf) (h0 : 0 < b) : ∃ r, double.div (double.word s a) (double.word t b) = some (double.word (s ^^ t) r) ∧ IsRnd (V a * U) (V b) r := by
  obtain ⟨m, i, e1, l1, u1, v1, b1, z1⟩ := read_word s a ha
  obtain ⟨n, j, e2, l2, u2, v2, b2, z2⟩ := read_word t b hb
  have hn : n ≠ 0 := by omega
  have hVb : 0 < V b := by have := V_strict h0; omega
  obtain ⟨more, hmore⟩ : ∃ x, x = 54 + n.log2 - m.log2 := ⟨_, rfl⟩
  refine ⟨R (2 * (m <<< more / n) + (m <<< more % n != 0).toNat) (i - j - more - 1), ?_, ?_⟩
  · unfold Format.div
    rw [e1, e2]
    simp only [Datum.quotient, if_neg hn, show double.fractionBits + 2 = 54 from rfl, ← hmore, Option.map_some, write_number]
  · rw [Nat.shiftLeft_eq]
    obtain ⟨B, hB⟩ : ∃ B : Nat, B = 2000 := ⟨_, rfl⟩
    have hE := uE_eq
    refine ⟨R_le _ _, fun k hk => ?_⟩
    by_cases hm0 : m = 0
    · subst hm0
      have hV : V a = 0 := by rw [← v1]; simp
      have hr0 : R (2 * (0 * 2 ^ more / n) + (0 * 2 ^ more % n != 0).toNat) (i - j - more - 1) = 0 := by simp [R]
      rw [hr0, hV]
      have : 0 < M k * V b := Nat.mul_pos (by have := V_lt_succ k; unfold M; omega) hVb
      simp only [Nat.zero_mul]; omega
    have hl : n.log2 ≤ 52 := by
      have := (Nat.log2_lt (k := 53) hn).2 b2; omega
    have hmr : more ≤ 106 := by omega
    have h1 := R_thr (2 * (m * 2 ^ more / n) + (m * 2 ^ more % n != 0).toNat) (i - j - more - 1) B (by omega) k hk
    rw [h1]
    obtain ⟨c, s', hM, hc⟩ := M_form k
    have hA : 9007199254740992 ≤ m * 2 ^ more / n := by
      rw [Nat.le_div_iff_mul_le (by omega)]
      have a1 : 2 ^ m.log2 ≤ m := Nat.log2_self_le hm0
      have a2 : n < 2 ^ (n.log2 + 1) := Nat.lt_log2_self
      have a3 : 2 ^ m.log2 * 2 ^ more ≤ m * 2 ^ more := Nat.mul_le_mul_right _ a1
      rw [← Nat.pow_add] at a3
      have a4 : 2 ^ (53 + (n.log2 + 1)) ≤ 2 ^ (m.log2 + more) := Nat.pow_le_pow_right (by omega) (by omega)
      rw [Nat.pow_add, show 2 ^ 53 = 9007199254740992 from by decide] at a4
      have a5 : 9007199254740992 * n ≤ 9007199254740992 * 2 ^ (n.log2 + 1) := Nat.mul_le_mul_left _ (by omega)
      omega
    have st := sticky (M k * 2 ^ B) (m * 2 ^ more / n) n (m * 2 ^ more % n) (m * 2 ^ more) (i - j - more - 1 + 1075 + B).toNat B c s' (by omega) (by rw [Nat.mul_comm (m * 2 ^ more / n)]; exact (Nat.div_add_mod _ _).symm) (Nat.mod_lt _ (by omega)) (by rw [hM, Nat.pow_add, Nat.mul_assoc]) hc hA
    rw [st.1, st.2]
    have e3 : (i - j - more - 1 + 1075 + B).toNat + 1 + more + (j + 1074).toNat = (i + 1074).toNat + uE + 1 + B := by omega
    generalize (i - j - more - 1 + 1075 + B).toNat = e at *
    have hp : 0 < 2 ^ (j + 1074).toNat := Nat.two_pow_pos _
    have hq : 0 < 2 ^ B := Nat.two_pow_pos _
    have L : M k * 2 ^ B * n * 2 ^ (j + 1074).toNat = M k * V b * 2 ^ B := by
      rw [← v2]
      generalize 2 ^ B = x; generalize 2 ^ (j + 1074).toNat = y
      rw [Nat.mul_assoc, Nat.mul_assoc, Nat.mul_assoc, Nat.mul_comm x]
    have Rr : m * 2 ^ more * 2 ^ (e + 1) * 2 ^ (j + 1074).toNat = 2 * (V a * U) * 2 ^ B := by
      rw [← v1, U_def, Nat.mul_assoc m, Nat.mul_assoc m, ← Nat.pow_add, ← Nat.pow_add, Nat.mul_assoc m, ← Nat.pow_add]
      rw [show more + (e + 1) + (j + 1074).toNat = (i + 1074).toNat + uE + 1 + B by omega, Nat.pow_add 2 _ B, Nat.pow_succ]
      generalize 2 ^ ((i + 1074).toNat + uE) = x; generalize 2 ^ B = y
      rw [← Nat.mul_assoc, ← Nat.mul_assoc, Nat.mul_comm (m * x) 2]
    constructor
    · rintro (h | ⟨h, p⟩)
      · left
        have := (Nat.mul_lt_mul_right hp).2 h
        rw [L, Rr] at this
        exact (Nat.mul_lt_mul_right hq).1 this
      · right
        refine ⟨?_, p⟩
        have := congrArg (· * 2 ^ (j + 1074).toNat) h
        simp only [L, Rr] at this
        exact Nat.mul_right_cancel hq this
    · rintro (h | ⟨h, p⟩)
      · left
        have := (Nat.mul_lt_mul_right hq).2 h
        rw [← L, ← Rr] at this
        exact (Nat.mul_lt_mul_right hp).1 this
      · right
        refine ⟨?_, p⟩
        have := congrArg (· * 2 ^ B) h
        simp only [← L, ← Rr] at this
        exact Nat.mul_right_cancel hp this

end Go.Proofs.Qxb6605323a.Fl
