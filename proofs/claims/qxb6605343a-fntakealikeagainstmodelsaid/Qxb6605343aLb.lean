import Derived.Test.Qxb6605343aZu
namespace Go.Proofs.Qxb6605343a
open Go.RowKit
set_option linter.unusedVariables false
attribute [local go_sem ↓] Go.wp_at_zero Go.wp_at_succ

def IsBoo (e : Ending) : Prop := ∃ b, e = .returned (.bool b)
set_option maxHeartbeats 1000000 in
theorem bytes15_any (f a s : Value) (pa : Option Addr) (n cp : Nat) (la : Option Addr) (nl cl : Nat) (cs : Array Value) (pr : Value) (w : World) (h1 : n ≤ maxLen) (h2 : nl ≤ maxLen) :
    Calls Try.prog 15 #[f, a, s, .slice pa n cp, .slice la nl cl, .agg cs, pr] w fun e w' => IsBoo e ∧ Below w.heap.size w w' := by
  unfold maxLen at h1 h2
  by_cases c1 : 1048576 < n
  · go_enter Try.func15, Try.ntmps15; go_wp2; go_ret; exact ⟨⟨_, rfl⟩, (Below.refl _ _).alloc (Nat.le_refl _) _⟩
  by_cases c2 : 1048576 < nl
  · go_enter Try.func15, Try.ntmps15; go_wp2; go_ret; exact ⟨⟨_, rfl⟩, (Below.refl _ _).alloc (Nat.le_refl _) _⟩
  by_cases c3 : 1048576 < n + nl
  · go_enter Try.func15, Try.ntmps15; go_wp2; go_ret; exact ⟨⟨_, rfl⟩, (Below.refl _ _).alloc (Nat.le_refl _) _⟩
  go_enter Try.func15, Try.ntmps15; go_wp2; go_ret; exact ⟨⟨_, rfl⟩, (Below.refl _ _).alloc (Nat.le_refl _) _⟩

/-- The cells of sixteen keyed members, four each. -/
def kx (K : Nat → Int × Int × Bool × Int) (j : Nat) : Value :=
  if j % 4 = 0 then .int .i64 (K (j / 4)).1 else if j % 4 = 1 then .int .i64 (K (j / 4)).2.1 else if j % 4 = 2 then .bool (K (j / 4)).2.2.1 else .int .i64 (K (j / 4)).2.2.2
theorem kx0 (K : Nat → Int × Int × Bool × Int) (k : Nat) : kx K (k * 4) = .int .i64 (K k).1 := by
  have e : k * 4 / 4 = k := by omega
  unfold kx; rw [if_pos (by omega), e]
theorem kx1 (K : Nat → Int × Int × Bool × Int) (k : Nat) : kx K (k * 4 + 1) = .int .i64 (K k).2.1 := by
  have e : (k * 4 + 1) / 4 = k := by omega
  unfold kx; rw [if_neg (by omega), if_pos (by omega), e]
theorem kx2 (K : Nat → Int × Int × Bool × Int) (k : Nat) : kx K (k * 4 + 2) = .bool (K k).2.2.1 := by
  have e : (k * 4 + 2) / 4 = k := by omega
  unfold kx; rw [if_neg (by omega), if_neg (by omega), if_pos (by omega), e]
theorem kx3 (K : Nat → Int × Int × Bool × Int) (k : Nat) : kx K (k * 4 + 3) = .int .i64 (K k).2.2.2 := by
  have e : (k * 4 + 3) / 4 = k := by omega
  unfold kx; rw [if_neg (by omega), if_neg (by omega), if_neg (by omega), e]
theorem Try.siz43 : (Try.prog.info? 43).map (·.size) = some 64 := by kernel_rfl

/-! The plain law. -/
/-- The last of the m places from first on that key k names. -/
def lst (Y : Nat → Int) (first : Nat) : Nat → Nat → Option Nat
  | 0, _ => none
  | m + 1, k => if Y (first + m) = (k : Int) then some (first + m) else lst Y first m k
theorem km_lst (V E D Y : Nat → Int) (P : Nat → Bool) (s : Int) (K : Nat → Int × Int × Bool × Int) (first k : Nat) : ∀ m, km V E D Y P s K first m k = (match lst Y first m k with | some j => nv V E D P s j | none => K k)
  | 0 => rfl
  | m + 1 => by
    unfold km lst
    by_cases h : Y (first + m) = (k : Int)
    · rw [if_pos h, if_pos h]
    · rw [if_neg h, if_neg h]; exact km_lst V E D Y P s K first k m
theorem lst_some (Y : Nat → Int) (first k : Nat) : ∀ m j, lst Y first m k = some j → first ≤ j ∧ j < first + m ∧ Y j = (k : Int)
  | 0, j, h => by cases h
  | m + 1, j, h => by
    unfold lst at h
    by_cases c : Y (first + m) = (k : Int)
    · rw [if_pos c] at h; cases h; exact ⟨by omega, by omega, c⟩
    · rw [if_neg c] at h
      obtain ⟨h1, h2, h3⟩ := lst_some Y first k m j h
      exact ⟨h1, by omega, h3⟩
/-- What is wanted of present when the keys below k are looked at. -/
def wpk (Y : Nat → Int) (first m pr : Nat) : Nat → Nat
  | 0 => pr
  | k + 1 => if (lst Y first m k).isSome = true then wpk Y first m pr k ||| 2 ^ k else wpk Y first m pr k
theorem wpk_lt (Y : Nat → Int) (first m pr : Nat) (h : pr < 65536) : ∀ k, k ≤ 16 → wpk Y first m pr k < 65536
  | 0, _ => h
  | k + 1, hk => by
    have h1 := wpk_lt Y first m pr h k (by omega)
    have h2 := bit16 (k := k) (by omega)
    unfold wpk
    split
    · have e : (2 : Nat) ^ 16 = 65536 := by decide
      rw [← e] at h1 h2 ⊢
      exact Nat.or_lt_two_pow h1 h2
    · exact h1
theorem wpk_bit (Y : Nat → Int) (first m pr b : Nat) : ∀ k, (wpk Y first m pr k).testBit b = (pr.testBit b || (decide (b < k) && (lst Y first m b).isSome))
  | 0 => by simp [wpk]
  | k + 1 => by
    have h := wpk_bit Y first m pr b k
    unfold wpk
    by_cases hb : b = k
    · subst hb
      cases hl : (lst Y first m b).isSome
      · rw [if_neg (by simp), h, hl]; simp
      · rw [if_pos rfl, Nat.testBit_or, h, Nat.testBit_two_pow_self]; simp
    · have e : decide (b < k + 1) = decide (b < k) := by
        by_cases c : b < k
        · rw [decide_eq_true c, decide_eq_true (by omega)]
        · rw [decide_eq_false c, decide_eq_false (by omega)]
      rw [e]
      split
      · rw [Nat.testBit_or, h, Nat.testBit_two_pow_of_ne (fun x => hb x.symm), Bool.or_false]
      · exact h
theorem prm_bit (Y : Nat → Int) (first pr b : Nat) : ∀ m, (∀ j, first ≤ j → j < first + m → 0 ≤ Y j) → (prm Y first pr m).testBit b = (pr.testBit b || (lst Y first m b).isSome)
  | 0, _ => by simp [prm, lst]
  | m + 1, hm => by
    have h := prm_bit Y first pr b m (fun j a c => hm j a (by omega))
    have h0 := hm (first + m) (by omega) (by omega)
    unfold prm lst
    rw [Nat.testBit_or, h]
    by_cases c : Y (first + m) = (b : Int)
    · rw [if_pos c]
      have e : (Y (first + m)).toNat = b := by omega
      rw [e, Nat.testBit_two_pow_self]; simp
    · rw [if_neg c]
      have e : (Y (first + m)).toNat ≠ b := by omega
      rw [Nat.testBit_two_pow_of_ne e, Bool.or_false]
theorem prm_wpk (Y : Nat → Int) (first m pr : Nat) (h : ∀ j, first ≤ j → j < first + m → 0 ≤ Y j ∧ Y j < 16) : prm Y first pr m = wpk Y first m pr 16 := by
  apply Nat.eq_of_testBit_eq
  intro b
  rw [prm_bit Y first pr b m (fun j a c => (h j a c).1), wpk_bit]
  by_cases hb : b < 16
  · rw [decide_eq_true hb, Bool.true_and]
  · rw [decide_eq_false hb, Bool.false_and]
    cases hl : lst Y first m b with
    | none => rfl
    | some j =>
      obtain ⟨h1, h2, h3⟩ := lst_some Y first b m j hl
      have := h j h1 h2
      omega
theorem tkb_tk1 (D Y : Nat → Int) (P : Nat → Bool) (i : Nat) : tk1 (D i) (Y i) (P i) = tkb D Y P i := rfl
theorem tkb_nonneg {D Y : Nat → Int} {P : Nat → Bool} {i : Nat} (h : tkb D Y P i = true) : 0 ≤ Y i := by
  unfold tkb at h
  by_cases c : Y i < 0
  · rw [decide_eq_true c] at h; simp at h
  · omega
end Go.Proofs.Qxb6605343a
