import Derived.Test.Qxb6605323aEff
import Derived.Test.Qxb6605323aLawA
namespace Go.Proofs.Qxb6605323a
open Go.RowKit
open Go.WideShapes (add_plain)
set_option linter.unusedVariables false

set_option maxHeartbeats 400000 in
theorem bytes18_yes (a0 a1 a2 a4 a5 a6 a7 a8 : Value) (x3 x9 : Option Addr) (l3 c3 l9 c9 : Nat) (w : World) (h : l3 + l9 ≤ 1048576) :
    Calls Try.prog 18 #[a0, a1, a2, .slice x3 l3 c3, a4, a5, a6, a7, a8, .slice x9 l9 c9] w fun e w' => e = .returned (.bool true) ∧ w = w' := by
  go_enter Try.func18, Try.ntmps18
  go_wp2
  go_ret
  exact ⟨rfl, rfl⟩

set_option maxHeartbeats 400000 in
theorem bytes18_no (a0 a1 a2 a4 a5 a6 a7 a8 : Value) (x3 x9 : Option Addr) (l3 c3 l9 c9 : Nat) (w : World) (h : 1048576 < l3 + l9) (h3 : l3 ≤ maxLen) (h9 : l9 ≤ maxLen) :
    Calls Try.prog 18 #[a0, a1, a2, .slice x3 l3 c3, a4, a5, a6, a7, a8, .slice x9 l9 c9] w fun e w' => e = .returned (.bool false) ∧ w = w' := by
  unfold maxLen at h3 h9
  by_cases g3 : 1048576 < l3
  · go_enter Try.func18, Try.ntmps18
    go_wp2
    go_ret
    exact ⟨rfl, rfl⟩
  · by_cases g9 : 1048576 < l9
    · go_enter Try.func18, Try.ntmps18
      go_wp2
      go_ret
      exact ⟨rfl, rfl⟩
    · go_enter Try.func18, Try.ntmps18
      go_wp2
      go_ret
      exact ⟨rfl, rfl⟩

/-- What the walk is told of a slice of integers. -/
def Cel (w : World) (a : Option Addr) (len cap : Nat) (f : Nat → Int) : Prop :=
  (a = none → len = 0 ∧ cap = 0) ∧ (0 < len → ∃ b off, a = some ⟨b, off, none⟩ ∧ ∀ i, i < len → w.cell? ⟨b, off + i, none⟩ = some (.int .i64 (f i)))

theorem Cel.later {w w' : World} {a : Option Addr} {len cap : Nat} {f : Nat → Int} (h : Cel w a len cap f) (hb : Below w.heap.size w w') : Cel w' a len cap f :=
  ⟨h.1, fun h0 => by
    obtain ⟨b, off, e, hc⟩ := h.2 h0
    exact ⟨b, off, e, fun i hi => cell_later hb (hc i hi)⟩⟩

theorem IsRow.cel {w : World} {a : Option Addr} {len cap : Nat} {zs : List Int} (h : IsRow .i64 w a len cap zs) : Cel w a len cap (fun i => zs.getD i 0) ∧ len ≤ zs.length ∧ len ≤ maxLen := by
  rcases h with ⟨rfl, rfl, rfl, rfl⟩ | ⟨x, rfl, hl, hm, hz, hc, _⟩
  · exact ⟨⟨fun _ => ⟨rfl, rfl⟩, fun h => by omega⟩, by simp, by simp⟩
  · refine ⟨⟨fun h => (by cases h), fun h => ?_⟩, by omega, by omega⟩
    obtain ⟨b, off, spot⟩ := x
    have hspot : spot = none := by simpa [Addr.add] using World.cell?_spot (hc 0 (by omega))
    subst hspot
    exact ⟨b, off, rfl, fun i hi => by rw [← add_plain]; exact hc i (by omega)⟩

theorem clone64_any (a : Option Addr) (len cap : Nat) (zs : List Int) (w : World) (h : Cel w a len cap (fun i => zs.getD i 0)) (hz : len ≤ zs.length) (hl : len ≤ 1048576) :
    Calls Try.prog 10 #[.slice a len cap] w fun e w' => ∃ a' c', e = .returned (.slice a' len c') ∧ Below w.heap.size w w' := by
  match a, h with
  | none, h =>
    obtain ⟨rfl, rfl⟩ := h.1 rfl
    exact (clone64_nil w).mono fun e w' ⟨he, hw⟩ => ⟨_, _, he, by rw [hw]; exact Below.refl _ _⟩
  | some x, h =>
    exact (clone64_some x len cap zs w hl hz (fun h0 => by
      obtain ⟨b, off, e, hc⟩ := h.2 h0
      exact ⟨b, off, by simpa using e, hc⟩)).mono fun e w' ⟨he, _, hb⟩ => ⟨_, _, he, hb⟩

theorem cloneI_any (a : Option Addr) (len cap : Nat) (zs : List Int) (w : World) (h : Cel w a len cap (fun i => zs.getD i 0)) (hz : len ≤ zs.length) (hl : len ≤ 1048576) :
    Calls Try.prog 11 #[.slice a len cap] w fun e w' => ∃ a' c', e = .returned (.slice a' len c') ∧ Below w.heap.size w w' ∧ Cel w' a' len c' (fun i => zs.getD i 0) := by
  match a, h with
  | none, h =>
    obtain ⟨rfl, rfl⟩ := h.1 rfl
    exact (cloneI_nil w).mono fun e w' ⟨he, hw⟩ => ⟨_, _, he, by rw [hw]; exact Below.refl _ _, ⟨fun _ => ⟨rfl, rfl⟩, fun h => by omega⟩⟩
  | some x, h =>
    refine (cloneI_some x len cap zs w hl hz (fun h0 => by
      obtain ⟨b, off, e, hc⟩ := h.2 h0
      exact ⟨b, off, by simpa using e, hc⟩)).mono fun e w' ⟨he, ho, hb⟩ => ⟨_, _, he, hb, ⟨fun h => (by cases h), fun _ => ⟨_, 0, rfl, fun i hi => ?_⟩⟩⟩
    rw [Nat.zero_add, ho.cellAt i (by omega)]
    simp [hi, List.getElem?_eq_getElem (show i < zs.length by omega)]

theorem ret_bool {a b : Bool} (h : a = b) : Ending.returned (.bool a) = .returned (.bool b) := by rw [h]

/-- The counts, as natural numbers. -/
def Dn (zs : List Int) (k : Nat) : Nat := (zs.getD k 0).toNat

open Fl in
set_option maxRecDepth 20000 in
set_option maxHeartbeats 1000000 in
theorem main5 (a0 a1 a2 a4 a5 a6 a7 a8 : Int) (x3 x9 : Option Addr) (l3 c3 l9 c9 : Nat) (z3 z9 : List Int) (w : World) (h3 : Cel w x3 l3 c3 (fun i => z3.getD i 0)) (h9 : Cel w x9 l9 c9 (fun i => z9.getD i 0)) (e3 : l3 ≤ z3.length) (e9 : l9 ≤ z9.length)
    (hl3 : l3 ≤ 131072) (hl9 : l9 ≤ 131072) (hl : 8 * l3 + 8 * l9 ≤ 1048576) (hs : 0 < a7) (hs2 : a7 ≤ 2147483648) (hp : 2 ≤ a0) (hp2 : a0 ≤ 2147483648) (hm0 : 0 < a7 * (a0 - 1)) (hm : a7 * (a0 - 1) ≤ 4503599627370496) :
    Calls Try.prog 5 #[.int .i64 a0, .int .i64 a1, .int .i64 a2, .slice x3 l3 c3, .int .i64 a4, .int .i64 a5, .int .i64 a6, .int .i64 a7, .int .i64 a8, .slice x9 l9 c9] w fun e w' => e = .returned (.bool true) ∧ Below w.heap.size w w' := by
  go_enter Try.func5, Try.ntmps5
  go_wp2_with fail
  refine (bytes18_yes _ _ _ _ _ _ _ _ _ _ _ _ _ _ _ (by omega)).mono ?_; rintro e w' ⟨rfl, rfl⟩
  go_wp2
  go_loop [22, 23, 24] (fun x d i => ∃ k : Nat, k ≤ l9 ∧ i = .int .i64 k ∧ (∀ j, j < k → 0 ≤ z9.getD j 0) ∧ (xsum (Dn z9) k : Int) ≤ a7 * (a0 - 1) ∧ x = .int .i64 (xsum (Dn z9) k) ∧ d = .int .i64 (oneHop (Dn z9) k)) (fun _ _ i => l9 - (intOf i).toNat)
  case atStart => exact ⟨0, Nat.zero_le _, rfl, fun j h => by omega, by simp [xsum]; omega, rfl, rfl⟩
  case round =>
    obtain ⟨k, hk, rfl, hnn, hxm, rfl, rfl⟩ := hrel
    by_cases hlt : k < l9
    · obtain ⟨b, off, rfl, hcc⟩ := h9.2 (by omega)
      have hcx := hcc k hlt
      simp only at hcx
      clear hcc h3
      obtain ⟨v, hv⟩ : ∃ v, v = z9.getD k 0 := ⟨_, rfl⟩
      rw [← hv] at hcx
      have HV : Hid (v = z9.getD k 0) := hv
      have HN : Hid (∀ j, j < k → 0 ≤ z9.getD j 0) := hnn
      clear hv hnn h9
      by_cases hneg : v < 0
      · go_wp2
        go_ret
        exact ⟨rfl, Below.refl _ _⟩
      · have hx0 : Hid (1 ≤ k → (xsum (Dn z9) (k + 1) : Int) = xsum (Dn z9) k + v) := by
          intro h1
          rw [xsum_succ _ _ h1]
          have := HV.out
          unfold Dn; omega
        have hx1 : Hid (∀ j, j < k + 1 → 0 ≤ z9.getD j 0) := by
          intro j hj
          by_cases e : j = k
          · subst e; rw [← HV.out]; omega
          · exact HN.out j (by omega)
        by_cases hk0 : k = 0
        · subst hk0
          rw [Nat.add_zero] at hcx
          go_wp2
          go_round
          case rel => exact ⟨1, by omega, by go_num, hx1.out, by simp [xsum]; omega, rfl, rfl⟩
          case measure => simp [intOf]; omega
        · by_cases hgt : a7 * (a0 - 1) - xsum (Dn z9) k < v
          · go_wp2
            go_ret
            exact ⟨rfl, Below.refl _ _⟩
          · by_cases hk1 : k = 1
            · subst hk1
              have HX := hx0.out (by omega)
              have H1 : Hid (v = (oneHop (Dn z9) 2 : Nat)) := by
                have := HV.out
                have e : oneHop (Dn z9) 2 = Dn z9 1 := rfl
                rw [e]; unfold Dn; show v = _; omega
              have HX : Hid (_) := HX
              go_wp2
              go_round
              case rel => exact ⟨2, by omega, by go_num, hx1.out, by rw [HX.out]; omega, by rw [HX.out], by rw [← H1.out]⟩
              case measure => simp [intOf]; omega
            · have HX : Hid (_) := hx0.out (by omega)
              have H1 : Hid (oneHop (Dn z9) (k + 1) = oneHop (Dn z9) k) := by
                show oneHop (Dn z9) (k + 1) = oneHop (Dn z9) k
                unfold oneHop; rw [if_neg (by omega), if_neg (by omega)]
              go_wp2
              go_round
              case rel => exact ⟨k + 1, by omega, by go_num, hx1.out, by rw [HX.out]; omega, by rw [HX.out], by rw [H1.out]⟩
              case measure => simp [intOf]; omega
    · have e : k = l9 := by omega
      subst e
      obtain ⟨s, hs'⟩ : ∃ s : Nat, a7 = s := ⟨a7.toNat, by omega⟩
      obtain ⟨p, hp'⟩ : ∃ p : Nat, a0 - 1 = p := ⟨(a0 - 1).toNat, by omega⟩
      have hsp : a7 * (a0 - 1) = ((s * p : Nat) : Int) := by rw [hs', hp']; simp
      have hn : max k 1 ≤ 1048576 := by omega
      have xe : xsum (Dn z9) (max k 1) = xsum (Dn z9) k := by
        by_cases z : k = 0
        · subst z; rfl
        · rw [show max k 1 = k by omega]
      have oe : oneHop (Dn z9) (max k 1) = oneHop (Dn z9) k := by
        by_cases z : k = 0
        · subst z; rfl
        · rw [show max k 1 = k by omega]
      have B := bounds (Dn z9) (max k 1) s p (by omega) hn (by omega) (by omega) (by omega) (by omega) (by omega) (by rw [xe]; omega)
      have F := inv_defs (Dn z9) (max k 1) hn (by rw [xe]; omega)
      rw [← hsp, ← hs', ← hp', xe, oe] at B
      obtain ⟨g, lo, hmid, hi, b1, b2, b3, b4, b5, b6, b7, b8⟩ := B
      have q3 : ∀ t w, (binOp .quo t (.float .f64 (floatOfInt .f64 (oneHop (Dn z9) k))) (.float .f64 (floatOfInt .f64 (a7 * (a0 - 1))))).run Try.prog w = .ok (.float .f64 lo) w := fun t w => run_float_arith w .quo t .f64 _ _ _ b3
      have q4 : ∀ t w, (binOp .quo t (.float .f64 (floatOfInt .f64 (oneHop (Dn z9) k + xsum (Dn z9) k))) (.float .f64 4611686018427387904)).run Try.prog w = .ok (.float .f64 hmid) w := fun t w => run_float_arith w .quo t .f64 _ _ _ (by have := b4; simp only [Int.natCast_add] at this; exact this)
      have q5 : ∀ t w, (binOp .quo t (.float .f64 hmid) (.float .f64 (floatOfInt .f64 (a7 * (a0 - 1))))).run Try.prog w = .ok (.float .f64 hi) w := fun t w => run_float_arith w .quo t .f64 _ _ _ b5
      have ho := oneHop_le (Dn z9) k
      have t6 : (FloatKind.f64.format.order g 0 == some .eq) = ((xsum (Dn z9) k : Int) == 0) := by
        rw [show (((xsum (Dn z9) k : Nat) : Int) == 0) = decide (xsum (Dn z9) k = 0) by rw [Bool.eq_iff_iff]; simp]; exact b6
      have t7 : FloatKind.f64.format.order g lo = some .gt ∨ FloatKind.f64.format.order g lo = some .eq := by have := b7; simp at this; exact this
      have t8 : FloatKind.f64.format.order g hi = some .lt ∨ FloatKind.f64.format.order g hi = some .eq := by have := b8; simp at this; exact this
      have HT : Hid (((FloatKind.f64.format.order g lo == some .gt || FloatKind.f64.format.order g lo == some .eq) && (FloatKind.f64.format.order g hi == some .lt || FloatKind.f64.format.order g hi == some .eq)) = true) := by
        show (_ && _) = true
        rw [Bool.and_eq_true]; exact ⟨b7, b8⟩
      have HF : Hid (_) := F
      have HB1 : Hid (_) := b1
      have HB2 : Hid (_) := b2
      clear hsp hs' hp' xe oe F b1 b2 b3 b4 b5 b6 b7 b8
      go_wp2_with fail
      refine (clone64_any _ _ _ z3 _ h3 e3 (by omega)).mono ?_
      rintro e w1 ⟨a3', c3', rfl, hb1⟩
      go_wp2_with fail
      refine (cloneI_any _ _ _ z9 _ (h9.later hb1) e9 (by omega)).mono ?_
      rintro e w2 ⟨a9', c9', rfl, hb2, hcel⟩
      go_wp2_with fail
      refine (eff_some _ _ _ _ _ _ _ _ _ _ _ _ (fun i => z9.getD i 0) (inv (Dn z9)) (q (Dn z9)) (floatOfInt .f64 (a7 * (a0 - 1))) g _ (by omega) hp (by omega) (by omega) hcel.2 rfl ?_ ?_ HB1.out HB2.out).mono ?_
      · intro k' h1 h2
        have := (HF.out k' h1 (by omega)).1
        have e : ((Dn z9 k' : Nat) : Int) = z9.getD k' 0 := by
          have := hnn k' h2
          unfold Dn; omega
        rw [e] at this
        exact this
      · intro k' h1 h2
        exact (HF.out k' h1 (by omega)).2
      rintro e w3 ⟨rfl, hb3⟩
      go_wp2
      go_ret
      exact ⟨ret_bool HT.out, (hb1.trans (hb2.mono hb1.size)).trans (hb3.mono (Nat.le_trans hb1.size hb2.size))⟩
end Go.Proofs.Qxb6605323a
