import Derived.Test.Qxb6605323aWalkB2
namespace Go.Proofs.Qxb6605323a
open Go.RowKit
set_option linter.unusedVariables false

theorem ord00' : FloatKind.f64.format.order 0 0 = some .eq := by decide +kernel
theorem one_zero : Ieee.double.div 4607182418800017408 0 = some 9218868437227405312 := by decide +kernel
theorem ordII : FloatKind.f64.format.order 9218868437227405312 9218868437227405312 = some .eq := by decide +kernel

theorem Dc_le (zs : List Int) (n : Nat) (h : good zs n) (k : Nat) : Dc zs n k ≤ 4611686018427387904 := by
  unfold Dc; split
  · rename_i hk; have := h k hk; omega
  · omega

open Fl in
theorem ans1 (a0 a7 : Int) (z9 : List Int) (l9 : Nat) (hl : l9 ≤ 131072) (hg : good z9 l9) (E : Nat) (h7 : a7 ≠ 0) (h0 : 2 ≤ a0) (h02 : a0 ≤ 9223372036854775807) (F : Facts (Dc z9 l9) l9 a7 a0 E) : Ans1 a0 a7 z9 l9 E := by
  intro a1 a2 a4 a5 a6 a8 v3 x c w hc
  obtain ⟨dn, hm, hd⟩ := F.a
  have hD := Dc_le z9 l9 hg
  refine eff_some _ _ _ _ _ _ _ _ _ _ _ _ (fun i => z9.getD i 0) (inv (Dc z9 l9)) (q (Dc z9 l9)) dn E w h7 h0 h02 (by omega) hc.2 rfl ?_ ?_ hm hd
  · intro k h1 h2
    have := (quo2 (Dc z9 l9) k h1 (by omega) (hD k)).d1
    have e : ((Dc z9 l9 k : Nat) : Int) = z9.getD k 0 := by
      have := hg k h2
      unfold Dc; rw [if_pos h2]; omega
    rw [e] at this
    exact this
  · intro k h1 h2
    exact (inv2_step (Dc z9 l9) k h1 (by omega) (hD k) (inv2_all _ hD k h1 (by omega))).1

open Fl in
theorem ans2 (a0 a7 : Int) (z9 : List Int) (l9 : Nat) (hl : l9 ≤ 131072) (e9 : l9 ≤ z9.length) (hg : good z9 l9) (E : Nat) (h7 : a7 ≠ 0) (h0 : 2 ≤ a0) (h02 : a0 ≤ 9223372036854775807) (F : Facts (Dc z9 l9) l9 a7 a0 E) : Ans2 a0 a7 z9 l9 E := by
  intro b v3 w hc
  obtain ⟨dn, hm, hd⟩ := F.b
  have hD := Dc_le z9 l9 hg
  refine eff_some _ _ _ _ _ _ _ _ _ _ _ _ (fun i => (ys z9 l9)[i]?.getD 0) (inv (fun i => 2 * Dc z9 l9 i)) (q (fun i => 2 * Dc z9 l9 i)) dn E w (by omega) h0 h02 (by omega) (fun _ => ⟨b, 0, rfl, fun i hi => by rw [Nat.zero_add]; exact hc i hi⟩) rfl ?_ ?_ hm hd
  · intro k h1 h2
    have := (quo2 (Dc z9 l9) k h1 (by omega) (hD k)).d2
    have e : ((2 * Dc z9 l9 k : Nat) : Int) = (ys z9 l9)[k]?.getD 0 := by
      by_cases hk : k < l9
      · rw [ys_at z9 l9 k e9 hk]
        have := hg k hk
        unfold Dc; rw [if_pos hk]; omega
      · obtain rfl : k = l9 := by omega
        rw [ys_end z9 k e9]
        unfold Dc; rw [if_neg (by omega)]; rfl
    rw [e] at this
    exact this
  · intro k h1 h2
    exact (inv2_step (Dc z9 l9) k h1 (by omega) (hD k) (inv2_all _ hD k h1 (by omega))).2.1

open Fl in
/-- ████ FUNCTION 6: every input. -/
theorem walk6 (a0 a1 a2 a4 a5 a6 a7 a8 : Int) (x3 x9 : Option Addr) (l3 c3 l9 c9 : Nat) (z3 z9 : List Int) (w : World) (w0 : (Lit.int .i64 a0).wf = true) (w3 : IsRow .i64 w x3 l3 c3 z3) (w9 : IsRow .i64 w x9 l9 c9 z9) :
    Calls Try.prog 6 #[.int .i64 a0, .int .i64 a1, .int .i64 a2, .slice x3 l3 c3, .int .i64 a4, .int .i64 a5, .int .i64 a6, .int .i64 a7, .int .i64 a8, .slice x9 l9 c9] w fun e w' => e = .returned (.bool true) ∧ Below w.heap.size w w' := by
  obtain ⟨h3, e3, m3⟩ := w3.cel
  obtain ⟨h9, e9, m9⟩ := w9.cel
  have b0 : a0 ≤ 9223372036854775807 := by
    have : IntKind.i64.max = 9223372036854775807 := by decide +kernel
    simp [Lit.wf] at w0
    omega
  by_cases h : 1048576 < l3 + l9 ∨ 131072 < l3 ∨ 131072 < l9 ∨ 1048576 < 8 * l3 + 8 * l9 ∨ a7 < -4611686018427387903 ∨ 4611686018427387903 < a7
  · exact early6 _ _ _ _ _ _ _ _ _ _ _ _ _ _ _ m3 m9 h
  by_cases hg : good z9 l9
  · by_cases hz : a7 = 0 ∨ a0 < 2
    · refine good6 _ _ _ _ _ _ _ _ _ _ _ _ _ _ z3 z9 _ h3 h9 e3 e9 (by omega) (by omega) (by omega) (by omega) (by omega) hg 0 ?_ ?_ ord00' (.inl ⟨by omega, ord00', _, one_zero, ordII⟩)
      · intro a1 a2 a4 a5 a6 a8 v3 x c w hc
        exact eff_none _ _ _ _ _ _ _ _ _ _ w hz (by omega)
      · intro b v3 w hc
        exact eff_none _ _ _ _ _ _ _ _ _ _ w (by omega) (by omega)
    · obtain ⟨E, F⟩ := facts (Dc z9 l9) (Dc_le z9 l9 hg) l9 (by omega) (by unfold Dc; rw [if_neg (by omega)]) a7 a0 (by omega) (by omega) (by omega) (by omega) b0
      refine good6 _ _ _ _ _ _ _ _ _ _ _ _ _ _ z3 z9 _ h3 h9 e3 e9 (by omega) (by omega) (by omega) (by omega) (by omega) hg E (ans1 a0 a7 z9 l9 (by omega) hg E (by omega) (by omega) b0 F) (ans2 a0 a7 z9 l9 (by omega) e9 hg E (by omega) (by omega) b0 F) F.refl ?_
      by_cases hx : xsum (Dc z9 l9) l9 = 0
      · obtain ⟨o, J, j1, j2⟩ := F.zero hx
        exact .inl ⟨.inr (.inr hx), o, J, j1, j2⟩
      · right
        by_cases hs : 0 < a7
        · exact .inl ⟨by omega, by omega, hs, F.pos (by omega) hs⟩
        · exact .inr ⟨by omega, by omega, by omega, F.neg (by omega) (by omega)⟩
  · exact bad6 _ _ _ _ _ _ _ _ _ _ _ _ _ _ z9 _ h9 (by omega) (by omega) (by omega) (by omega) (by omega) hg
end Go.Proofs.Qxb6605323a
