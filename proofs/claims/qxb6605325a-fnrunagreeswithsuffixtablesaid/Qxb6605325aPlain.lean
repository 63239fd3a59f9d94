import Derived.Test.Qxb6605325aStep
namespace Go.Proofs.Qxb6605325a

def goodL (n : Nat) (l : List Nat) : Prop := l.Nodup ∧ ∀ x ∈ l, x ≤ n

theorem goodL_len : ∀ (n : Nat) (l : List Nat), goodL n l → l.length ≤ n + 1 := by
  intro n
  induction n with
  | zero =>
    intro l h
    match l, h with
    | [], _ => simp
    | [_], _ => simp
    | x :: y :: r, h =>
      have h1 := h.2 x (by simp)
      have h2 := h.2 y (by simp)
      have := h.1
      simp at this
      omega
  | succ n ih =>
    intro l h
    have hd : (l.erase (n + 1)).Nodup := h.1.erase _
    have he := ih (l.erase (n + 1)) ⟨hd, fun x hx => by
      have h1 := (h.1.mem_erase_iff).1 hx
      have := h.2 x h1.2
      omega⟩
    by_cases hm : n + 1 ∈ l
    · rw [List.length_erase_of_mem hm] at he; omega
    · rw [List.erase_of_not_mem hm] at he; omega

theorem addL_good {n : Nat} {l : List Nat} {j : Nat} (h : goodL n l) (hj : j ≤ n) : goodL n (addL l j) := by
  unfold addL
  split
  · exact h
  · rename_i hn
    refine ⟨?_, ?_⟩
    · rw [List.nodup_append]
      exact ⟨h.1, by simp, fun a ha b hb => by simp at hb; subst hb; exact fun e => hn (e ▸ ha)⟩
    · intro x hx
      rw [List.mem_append] at hx
      rcases hx with hx | hx
      · exact h.2 x hx
      · simp at hx; omega

theorem inner_good (S : Nat → ByteArray) (W : Nat → Int) (c : ByteArray) (h vl : Bool) (n : Nat) : ∀ (f j : Nat) (l : List Nat), j + f ≤ n → goodL n l → goodL n (inner S W c h vl f j l) := by
  intro f
  induction f with
  | zero => intro j l _ hg; exact hg
  | succ f ih =>
    intro j l hj hg
    have a1 := addL_good (j := j + 1) hg (by omega)
    have a2 := addL_good (j := j) hg (by omega)
    rw [inner]
    split
    · split
      · exact a1
      · exact hg
    · split
      · exact hg
      · split
        · split
          · exact a1
          · exact hg
        · split
          · refine ih _ _ (by omega) ?_
            split
            · exact a2
            · exact hg
          · split
            · refine ih _ _ (by omega) ?_
              split
              · exact a2
              · exact hg
            · exact ih _ _ (by omega) hg

theorem stepL_good (S : Nat → ByteArray) (W : Nat → Int) (n : Nat) (c : ByteArray) (h vl : Bool) (A : Nat → Nat) (l : Nat) (hA : ∀ k, k < l → A k ≤ n) : ∀ k, k ≤ l → goodL n (stepL S W n c h vl A k) := by
  intro k
  induction k with
  | zero => intro _; exact ⟨by simp [stepL], by simp [stepL]⟩
  | succ k ih =>
    intro hk
    have := hA k (by omega)
    exact inner_good S W c h vl n _ _ _ (by omega) (ih (by omega))

/-! ### The table -/
def cellB (S : Nat → ByteArray) (W : Nat → Int) (i : Nat) (c : ByteArray) (h vl skip eat adv : Bool) : Bool :=
  if (S i).toList.isEmpty = false then ((S i).toList == c.toList) && adv
  else if h = true then false
  else if W i = 0 then !(c.toList == [47]) && adv
  else if W i = 1 then skip || (!(c.toList == [47]) && eat)
  else if W i = 2 then skip || ((!(c.toList == [47]) || !vl) && eat)
  else skip
def row0 (S : Nat → ByteArray) (W : Nat → Int) (n : Nat) : Nat → Bool
  | 0 => true
  | b + 1 => !hardB (S (n - (b + 1))) (W (n - (b + 1))) && row0 S W n b
def rowS (S : Nat → ByteArray) (W : Nat → Int) (n : Nat) (c : ByteArray) (h vl : Bool) (prev : Nat → Bool) : Nat → Bool
  | 0 => false
  | b + 1 => cellB S W (n - (b + 1)) c h vl (rowS S W n c h vl prev b) (prev (b + 1)) (prev b)
/-- T a b: do the last b tokens match the last a characters? -/
def T (S : Nat → ByteArray) (W : Nat → Int) (n m : Nat) (C : Nat → ByteArray) (Hd Vl : Nat → Bool) : Nat → Nat → Bool
  | 0 => row0 S W n
  | a + 1 => rowS S W n (C (m - (a + 1))) (Hd (m - (a + 1))) (Vl (m - (a + 1))) (T S W n m C Hd Vl a)

theorem addL_any (P : Nat → Bool) (l : List Nat) (j : Nat) : (addL l j).any P = (l.any P || P j) := by
  unfold addL
  split
  · rename_i h
    rw [Bool.eq_iff_iff]
    simp only [List.any_eq_true, Bool.or_eq_true]
    constructor
    · exact fun h => .inl h
    · rintro (h1 | h1)
      · exact h1
      · exact ⟨j, h, h1⟩
  · simp

theorem inner_any (S : Nat → ByteArray) (W : Nat → Int) (n : Nat) (c : ByteArray) (h vl : Bool) (prev : Nat → Bool) : ∀ (b : Nat) (l : List Nat), b ≤ n →
    (inner S W c h vl b (n - b) l).any (fun x => prev (n - x)) = (l.any (fun x => prev (n - x)) || rowS S W n c h vl prev b) := by
  intro b
  induction b with
  | zero => intro l _; simp [inner, rowS]
  | succ b ih =>
    intro l hb
    have e1 : n - (b + 1) + 1 = n - b := by omega
    have e2 : n - (n - b) = b := by omega
    have e3 : n - (n - (b + 1)) = b + 1 := by omega
    have IH := fun l => ih l (by omega)
    have x1 := addL_any (fun x => prev (n - x)) l (n - b)
    have x2 := addL_any (fun x => prev (n - x)) l (n - (b + 1))
    simp only [e2] at x1
    simp only [e3] at x2
    rw [inner, rowS]
    unfold cellB
    rw [e1]
    by_cases ht : (S (n - (b + 1))).toList.isEmpty = false
    · rw [if_pos ht, if_pos ht]
      by_cases hm : ((S (n - (b + 1))).toList == c.toList) = true
      · rw [if_pos hm, x1, hm, Bool.true_and]
      · rw [if_neg hm]
        have hm' : ((S (n - (b + 1))).toList == c.toList) = false := by simpa using hm
        rw [hm']; simp
    · rw [if_neg ht, if_neg ht]
      by_cases hh : h = true
      · rw [if_pos hh, if_pos hh]; simp
      · rw [if_neg hh, if_neg hh]
        by_cases h0 : W (n - (b + 1)) = 0
        · rw [if_pos h0, if_pos h0]
          cases hs : (c.toList == [47])
          · simp [x1]
          · simp
        · rw [if_neg h0, if_neg h0]
          by_cases h1 : W (n - (b + 1)) = 1
          · rw [if_pos h1, if_pos h1, IH]
            cases hs : (c.toList == [47])
            · simp only [if_true, Bool.not_false, Bool.true_and, x2]
              cases l.any (fun x => prev (n - x)) <;> cases prev (b + 1) <;> simp
            · simp
          · rw [if_neg h1, if_neg h1]
            by_cases h2 : W (n - (b + 1)) = 2
            · rw [if_pos h2, if_pos h2, IH]
              cases hs : (c.toList == [47]) <;> cases vl
              · simp only [true_or, if_true, Bool.not_false, Bool.true_or, Bool.true_and, x2]
                cases l.any (fun x => prev (n - x)) <;> cases prev (b + 1) <;> simp
              · simp only [true_or, if_true, Bool.not_false, Bool.true_or, Bool.true_and, x2]
                cases l.any (fun x => prev (n - x)) <;> cases prev (b + 1) <;> simp
              · simp only [or_true, if_true, Bool.not_false, Bool.or_true, Bool.true_and, x2]
                cases l.any (fun x => prev (n - x)) <;> cases prev (b + 1) <;> simp
              · simp
            · rw [if_neg h2, if_neg h2, IH]

theorem stepL_any (S : Nat → ByteArray) (W : Nat → Int) (n : Nat) (c : ByteArray) (h vl : Bool) (prev : Nat → Bool) (A : Nat → Nat) (l : Nat) (hA : ∀ k, k < l → A k ≤ n) : ∀ k, k ≤ l →
    (stepL S W n c h vl A k).any (fun x => prev (n - x)) = (List.range k).any (fun i => rowS S W n c h vl prev (n - A i)) := by
  intro k
  induction k with
  | zero => intro _; simp [stepL]
  | succ k ih =>
    intro hk
    have hk2 := hA k (by omega)
    have := inner_any S W n c h vl prev (n - A k) (stepL S W n c h vl A k) (by omega)
    rw [show n - (n - A k) = A k by omega] at this
    rw [stepL, this, ih (by omega), List.range_succ, List.any_append]
    simp

/-- A list by its indices. -/
theorem any_idx (l : List Nat) (P : Nat → Bool) : (List.range l.length).any (fun i => P (l.getD i 0)) = l.any P := by
  rw [Bool.eq_iff_iff]
  simp only [List.any_eq_true, List.mem_range]
  constructor
  · rintro ⟨i, hi, h⟩
    exact ⟨l[i], List.getElem_mem hi, by simpa [List.getElem?_eq_getElem hi] using h⟩
  · rintro ⟨x, hx, h⟩
    obtain ⟨i, hi, e⟩ := List.getElem_of_mem hx
    exact ⟨i, hi, by simp [List.getElem?_eq_getElem hi, e, h]⟩

/-- The states behind k characters. -/
def Rn (S : Nat → ByteArray) (W : Nat → Int) (n : Nat) (C : Nat → ByteArray) (Hd Vl : Nat → Bool) : Nat → List Nat
  | 0 => [0]
  | k + 1 => stepL S W n (C k) (Hd k) (Vl k) (fun i => (Rn S W n C Hd Vl k).getD i 0) (Rn S W n C Hd Vl k).length

theorem Rn_good (S : Nat → ByteArray) (W : Nat → Int) (n : Nat) (C : Nat → ByteArray) (Hd Vl : Nat → Bool) : ∀ k, goodL n (Rn S W n C Hd Vl k) := by
  intro k
  induction k with
  | zero => exact ⟨by simp [Rn], by simp [Rn]⟩
  | succ k ih =>
    refine stepL_good S W n _ _ _ _ _ (fun i hi => ?_) _ (Nat.le_refl _)
    simp only [List.getD_eq_getElem?_getD, List.getElem?_eq_getElem hi, Option.getD_some]
    exact ih.2 _ (List.getElem_mem hi)

theorem row0_past (S : Nat → ByteArray) (W : Nat → Int) (n : Nat) : ∀ b, b ≤ n → row0 S W n b = past S W n (n - b) := by
  intro b
  induction b with
  | zero => intro _; simp [row0, past, anyB]
  | succ b ih =>
    intro hb
    rw [row0, ih (by omega), Bool.eq_iff_iff]
    unfold past
    simp only [Bool.and_eq_true, Bool.not_eq_true', ← Bool.not_eq_true, anyB_true]
    constructor
    · rintro ⟨h1, h2⟩ ⟨j, hj, hh⟩
      by_cases e : j = 0
      · subst e; exact h1 hh
      · exact h2 ⟨j - 1, by omega, by rw [show n - b + (j - 1) = n - (b + 1) + j by omega]; exact hh⟩
    · intro h
      refine ⟨fun hh => h ⟨0, by omega, hh⟩, ?_⟩
      rintro ⟨j, hj, hh⟩
      exact h ⟨j + 1, by omega, by rw [show n - (b + 1) + (j + 1) = n - b + j by omega]; exact hh⟩

/-- ████ THE PLAIN LAW. -/
theorem run_table (S : Nat → ByteArray) (W : Nat → Int) (n m : Nat) (C : Nat → ByteArray) (Hd Vl : Nat → Bool) :
    accB S W n (fun i => (Rn S W n C Hd Vl m).getD i 0) (Rn S W n C Hd Vl m).length = T S W n m C Hd Vl m n := by
  have key : ∀ a, a ≤ m → (Rn S W n C Hd Vl (m - a)).any (fun x => T S W n m C Hd Vl a (n - x)) = accB S W n (fun i => (Rn S W n C Hd Vl m).getD i 0) (Rn S W n C Hd Vl m).length := by
    intro a
    induction a with
    | zero =>
      intro _
      unfold accB
      rw [any_idx _ (fun x => past S W n x), Nat.sub_zero, Bool.eq_iff_iff]
      simp only [List.any_eq_true]
      have hg := (Rn_good S W n C Hd Vl m).2
      constructor
      · rintro ⟨x, hx, h⟩
        refine ⟨x, hx, ?_⟩
        rw [T, row0_past S W n _ (by omega), show n - (n - x) = x by have := hg x hx; omega] at h
        exact h
      · rintro ⟨x, hx, h⟩
        refine ⟨x, hx, ?_⟩
        rw [T, row0_past S W n _ (by omega), show n - (n - x) = x by have := hg x hx; omega]
        exact h
    | succ a ih =>
      intro ha
      rw [← ih (by omega)]
      have e : m - a = (m - (a + 1)) + 1 := by omega
      rw [e, Rn]
      have hA : ∀ i, i < (Rn S W n C Hd Vl (m - (a + 1))).length → (fun i => (Rn S W n C Hd Vl (m - (a + 1))).getD i 0) i ≤ n := by
        intro i hi
        simp only [List.getD_eq_getElem?_getD, List.getElem?_eq_getElem hi, Option.getD_some]
        exact (Rn_good S W n C Hd Vl _).2 _ (List.getElem_mem hi)
      rw [stepL_any S W n _ _ _ (T S W n m C Hd Vl a) _ _ hA _ (Nat.le_refl _)]
      rw [any_idx (Rn S W n C Hd Vl (m - (a + 1))) (fun x => rowS S W n (C (m - (a + 1))) (Hd (m - (a + 1))) (Vl (m - (a + 1))) (T S W n m C Hd Vl a) (n - x))]
      rfl
  rw [← key m (Nat.le_refl _), Nat.sub_self]
  simp [Rn]

end Go.Proofs.Qxb6605325a
