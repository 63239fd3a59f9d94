import Derived.Test.Qxb6605323aWalkB
namespace Go.Proofs.Qxb6605323a
open Go.RowKit
set_option linter.unusedVariables false

def good (zs : List Int) (n : Nat) : Prop := ∀ j, j < n → 0 ≤ zs.getD j 0 ∧ zs.getD j 0 ≤ 4611686018427387903

set_option maxRecDepth 20000 in
set_option maxHeartbeats 1000000 in
theorem bad6 (a0 a1 a2 a4 a5 a6 a7 a8 : Int) (x3 x9 : Option Addr) (l3 c3 l9 c9 : Nat) (z9 : List Int) (w : World) (h9 : Cel w x9 l9 c9 (fun i => z9.getD i 0))
    (hl3 : l3 ≤ 131072) (hl9 : l9 ≤ 131072) (hl : 8 * l3 + 8 * l9 ≤ 1048576) (hs : -4611686018427387903 ≤ a7) (hs2 : a7 ≤ 4611686018427387903) (hg : ¬ good z9 l9) :
    Calls Try.prog 6 #[.int .i64 a0, .int .i64 a1, .int .i64 a2, .slice x3 l3 c3, .int .i64 a4, .int .i64 a5, .int .i64 a6, .int .i64 a7, .int .i64 a8, .slice x9 l9 c9] w fun e w' => e = .returned (.bool true) ∧ Below w.heap.size w w' := by
  have HG : Hid (¬ good z9 l9) := hg
  clear hg
  go_enter Try.func6, Try.ntmps6
  go_wp2_with (go_at_call 20; refine (bytes20_yes _ _ _ _ _ _ _ _ _ _ _ _ _ _ _ (by omega)).mono ?_; rintro e w' ⟨rfl, rfl⟩)
  go_loop [21, 22] (fun ps i => ∃ (k : Nat) (b : Bool), k ≤ l9 ∧ i = .int .i64 k ∧ good z9 k ∧ ps = .bool b) (fun _ i => l9 - (intOf i).toNat)
  case atStart => exact ⟨0, false, Nat.zero_le _, rfl, fun j h => by omega, rfl⟩
  case round =>
    obtain ⟨k, pb, hk, rfl, hgk, rfl⟩ := hrel
    by_cases hlt : k < l9
    · obtain ⟨b, off, rfl, hcc⟩ := h9.2 (by omega)
      have hcx := hcc k hlt
      simp only at hcx
      clear hcc
      obtain ⟨v, hv⟩ : ∃ v, v = z9.getD k 0 := ⟨_, rfl⟩
      rw [← hv] at hcx
      have HV : Hid (v = z9.getD k 0) := hv
      clear hv h9
      by_cases hneg : v < 0
      · go_wp2
        go_ret
        exact ⟨rfl, Below.refl _ _⟩
      by_cases hbig : 4611686018427387903 < v
      · go_wp2
        go_ret
        exact ⟨rfl, Below.refl _ _⟩
      have hg1 : good z9 (k + 1) := by
        intro j hj
        by_cases e : j = k
        · subst e; rw [← HV.out]; omega
        · exact hgk j (by omega)
      by_cases hk0 : k = 0
      · subst hk0
        rw [Nat.add_zero] at hcx
        go_wp2
        go_round
        case rel => exact ⟨1, pb, by omega, by go_num, hg1, rfl⟩
        case measure => simp [intOf]; omega
      · by_cases hp : 0 < v
        · go_wp2
          go_round
          case rel => exact ⟨k + 1, true, by omega, by go_num, hg1, rfl⟩
          case measure => simp [intOf]; omega
        · go_wp2
          go_round
          case rel => exact ⟨k + 1, pb, by omega, by go_num, hg1, rfl⟩
          case measure => simp [intOf]; omega
    · have e : k = l9 := by omega
      subst e
      exact absurd hgk HG.out

/-- The first call of Efficiency answers E; the second, on the doubled report, too. -/
def Ans1 (a0 a7 : Int) (z9 : List Int) (l9 : Nat) (E : Nat) : Prop :=
  ∀ (a1 a2 a4 a5 a6 a8 : Int) (v3 : Value) (x : Option Addr) (c : Nat) (w : World), Cel w x l9 c (fun i => z9.getD i 0) →
    Calls Try.prog 19 #[.agg #[.int .i64 a0, .int .i64 a1, .int .i64 a2, v3, .int .i64 a4, .int .i64 a5, .int .i64 a6, .int .i64 a7, .int .i64 a8, .slice x l9 c]] w fun e w' => e = .returned (.float .f64 E) ∧ Below w.heap.size w w'
def Ans2 (a0 a7 : Int) (z9 : List Int) (l9 : Nat) (E : Nat) : Prop :=
  ∀ (b : Nat) (v3 : Value) (w : World), (∀ i, i < l9 + 1 → w.cell? ⟨b, i, none⟩ = some (.int .i64 ((ys z9 l9)[i]?.getD 0))) →
    Calls Try.prog 19 #[.agg #[.int .i64 a0, .int .i64 0, .int .i64 0, v3, .int .i64 0, .int .i64 0, .int .i64 0, .int .i64 (2 * a7), .int .i64 0, .slice (some ⟨b, 0, none⟩) (l9 + 1) (l9 + 1)]] w fun e w' => e = .returned (.float .f64 E) ∧ Below w.heap.size w w'

open Fl in
set_option maxRecDepth 20000 in
set_option maxHeartbeats 2000000 in
theorem good6 (a0 a1 a2 a4 a5 a6 a7 a8 : Int) (x3 x9 : Option Addr) (l3 c3 l9 c9 : Nat) (z3 z9 : List Int) (w : World) (h3 : Cel w x3 l3 c3 (fun i => z3.getD i 0)) (h9 : Cel w x9 l9 c9 (fun i => z9.getD i 0)) (e3 : l3 ≤ z3.length) (e9 : l9 ≤ z9.length)
    (hl3 : l3 ≤ 131072) (hl9 : l9 ≤ 131072) (hl : 8 * l3 + 8 * l9 ≤ 1048576) (hs : -4611686018427387903 ≤ a7) (hs2 : a7 ≤ 4611686018427387903) (hg : good z9 l9)
    (E : Nat) (c1 : Ans1 a0 a7 z9 l9 E) (c2 : Ans2 a0 a7 z9 l9 E) (hEE : FloatKind.f64.format.order E E = some .eq)
    (hfin : ((a7 = 0 ∨ a0 < 2 ∨ xsum (Dc z9 l9) l9 = 0) ∧ FloatKind.f64.format.order E 0 = some .eq ∧ ∃ J, Ieee.double.div 4607182418800017408 E = some J ∧ FloatKind.f64.format.order J J = some .eq) ∨
      (2 ≤ a0 ∧ 0 < xsum (Dc z9 l9) l9 ∧ 0 < a7 ∧ FloatKind.f64.format.order E 0 = some .gt) ∨
      (2 ≤ a0 ∧ 0 < xsum (Dc z9 l9) l9 ∧ a7 < 0 ∧ FloatKind.f64.format.order E 0 = some .lt)) :
    Calls Try.prog 6 #[.int .i64 a0, .int .i64 a1, .int .i64 a2, .slice x3 l3 c3, .int .i64 a4, .int .i64 a5, .int .i64 a6, .int .i64 a7, .int .i64 a8, .slice x9 l9 c9] w fun e w' => e = .returned (.bool true) ∧ Below w.heap.size w w' := by
  have HG : Hid (good z9 l9) := hg
  have HE : Hid (_) := hEE
  have HF : Hid (_) := hfin
  have C1 : Hid (_) := c1
  have C2 : Hid (_) := c2
  clear hg hEE hfin c1 c2
  obtain ⟨i0, hi, hz0, hz1, hz2⟩ := info_parts Try.info3
  go_enter Try.func6, Try.ntmps6
  go_wp2_with (go_at_call 20; refine (bytes20_yes _ _ _ _ _ _ _ _ _ _ _ _ _ _ _ (by omega)).mono ?_; rintro e w' ⟨rfl, rfl⟩)
  go_loop [21, 22] (fun ps i => ∃ (k : Nat), k ≤ l9 ∧ i = .int .i64 k ∧ ps = .bool (decide (0 < xsum (Dc z9 l9) k))) (fun _ i => l9 - (intOf i).toNat)
  case atStart => exact ⟨0, Nat.zero_le _, rfl, rfl⟩
  case round =>
    obtain ⟨k, hk, rfl, rfl⟩ := hrel
    by_cases hlt : k < l9
    · obtain ⟨b, off, rfl, hcc⟩ := h9.2 (by omega)
      have hcx := hcc k hlt
      simp only at hcx
      clear hcc
      obtain ⟨v, hv⟩ : ∃ v, v = z9.getD k 0 := ⟨_, rfl⟩
      rw [← hv] at hcx
      have hv0 : 0 ≤ v := by rw [hv]; exact (HG.out k hlt).1
      have hv1 : v ≤ 4611686018427387903 := by rw [hv]; exact (HG.out k hlt).2
      have HX : Hid (1 ≤ k → (xsum (Dc z9 l9) (k + 1) : Int) = xsum (Dc z9 l9) k + v) := by
        intro h1
        rw [xsum_succ _ _ h1]
        have : Dc z9 l9 k = v.toNat := by unfold Dc; rw [if_pos hlt, hv]
        omega
      clear hv h9
      by_cases hk0 : k = 0
      · subst hk0
        rw [Nat.add_zero] at hcx
        go_wp2
        go_round
        case rel => exact ⟨1, by omega, by go_num, rfl⟩
        case measure => simp [intOf]; omega
      · by_cases hp : 0 < v
        · have HP : Hid (decide (0 < xsum (Dc z9 l9) (k + 1)) = true) := by
            have := HX.out (by omega)
            exact decide_eq_true (by omega)
          go_wp2
          go_round
          case rel => exact ⟨k + 1, by omega, by go_num, by rw [HP.out]⟩
          case measure => simp [intOf]; omega
        · have HP : Hid (xsum (Dc z9 l9) (k + 1) = xsum (Dc z9 l9) k) := by
            have := HX.out (by omega)
            show xsum (Dc z9 l9) (k + 1) = xsum (Dc z9 l9) k
            omega
          go_wp2
          go_round
          case rel => exact ⟨k + 1, by omega, by go_num, by rw [HP.out]⟩
          case measure => simp [intOf]; omega
    · have e : k = l9 := by omega
      subst e
      go_wp2_with fail
      refine (clone64_any _ _ _ z3 _ h3 e3 (by omega)).mono ?_
      rintro e w1 ⟨a3', c3', rfl, hb1⟩
      go_wp2_with fail
      refine (cloneI_any _ _ _ z9 _ (h9.later hb1) e9 (by omega)).mono ?_
      rintro e w2 ⟨a9', c9', rfl, hb2, hcel⟩
      go_wp2_with fail
      refine (C1.out _ _ _ _ _ _ _ _ _ _ hcel).mono ?_
      rintro e w3 ⟨rfl, hb3⟩
      have hcel3 := hcel.later hb3
      have HB3 : Hid (Below w.heap.size w w3) := (hb1.trans (hb2.mono hb1.size)).trans (hb3.mono (Nat.le_trans hb1.size hb2.size))
      clear hcel hb1 hb2 hb3 h3 h9
      go_wp2_with (at_make; refine wpList_make_full _ rfl _ _ 23 rfl w3.heap.size 3 i0 _ 1 Try.underlying23 hi hz0 hz1 _ _ _ _ (k + 1) rfl rfl (by omega) (by omega) (by rw [hz2]; omega) (by unfold maxLen; omega) (Nat.le_refl _) ?_; intro w4 hown hgrow)
      go_loopw [25] (fun i wr => ∃ j : Nat, j ≤ k ∧ i = .int .i64 j ∧ wr.ownsRow w3.heap.size 3 1 (.slice (some ⟨w3.heap.size, 0, none⟩) (k + 1) (k + 1)) (k + 1) (((ys z9 k).take j ++ List.replicate (k + 1 - j) 0).map (Value.int .i64)) ∧ Below w3.heap.size w3 wr) (fun i _ => k - (intOf i).toNat)
      case atStart => exact ⟨0, Nat.zero_le _, rfl, by simpa [Value.cells, toList_madeCells_one] using hown, (Below.refl _ _).grown hgrow (Nat.le_refl _) (fun k h => by cases h)⟩
      case round =>
        obtain ⟨j, hj, rfl, ho, hb⟩ := hrel
        by_cases hjt : j < k
        · obtain ⟨b, off, rfl, hcc⟩ := hcel3.2 (by omega)
          have hcx := cell_later hb (hcc j hjt)
          simp only at hcx
          have hf := ho.frozenAt j
          obtain ⟨u, hcell⟩ : ∃ u, wr.cell? ⟨w3.heap.size, j, none⟩ = some u := ⟨_, (ho.cellAt j (by omega)).trans (List.getElem?_eq_getElem (by simp [ys_len _ _ e9]; omega))⟩
          have hst := (ho.stored j (.int .i64 ((ys z9 k)[j]?.getD 0))).1
          rw [set_step (ys z9 k) j (k + 1) (by omega) (by rw [ys_len _ _ e9]; omega), ys_at z9 k j e9 hjt] at hst
          obtain ⟨v, hv⟩ : ∃ v, v = z9.getD j 0 := ⟨_, rfl⟩
          have hv0 : 0 ≤ v := by rw [hv]; exact (HG.out j hjt).1
          have hv1 : v ≤ 4611686018427387903 := by rw [hv]; exact (HG.out j hjt).2
          rw [← hv] at hcx hst
          have HB := hb.setCell (p := ⟨w3.heap.size, j, none⟩) (Nat.le_refl _) (.int .i64 (2 * v))
          clear hcc hown hgrow hv hcel3
          go_wp2
          go_roundw
          case rel => exact ⟨j + 1, by omega, by go_num, hst, HB⟩
          case measure => simp [intOf]; omega
        · have ej : j = k := by omega
          subst ej
          rw [ys_take z9 j e9] at ho
          have hcy : ∀ i, i < j + 1 → wr.cell? ⟨w3.heap.size, i, none⟩ = some (.int .i64 ((ys z9 j)[i]?.getD 0)) := by
            intro i hi
            rw [ho.cellAt i (by omega), List.getElem?_map, List.getElem?_eq_getElem (by rw [ys_len _ _ e9]; omega)]
            rfl
          have HY : Hid (_) := hcy
          have HB4 : Hid (Below w.heap.size w wr) := HB3.out.trans (hb.mono HB3.out.size)
          clear hcy ho hb hown hgrow hcel3
          go_wp2_with fail
          refine (C2.out _ _ _ HY.out).mono ?_
          rintro e w5 ⟨rfl, hb5⟩
          have HB5 : Hid (Below w.heap.size w w5) := HB4.out.trans (hb5.mono HB4.out.size)
          clear hb5
          have hEE := HE.out
          rcases HF.out with ⟨hz, o0, J, hJ, oJ⟩ | ⟨hp, hx, hs, o0⟩ | ⟨hp, hx, hs, o0⟩
          · have qJ : ∀ t w, (binOp .quo t (.float .f64 4607182418800017408) (.float .f64 E)).run Try.prog w = .ok (.float .f64 J) w := fun t w => run_float_arith w .quo t .f64 _ _ _ hJ
            clear hJ HF C1 C2
            by_cases z0 : a7 = 0 ∨ a0 < 2
            · rcases (show a7 = 0 ∨ (a7 ≠ 0 ∧ a0 < 2) by omega) with rfl | ⟨z1, z2⟩
              · clear hz z0
                go_wp2
                go_ret
                exact ⟨rfl, HB5.out⟩
              · have z3 : (a7 == 0) = false := by simpa using z1
                clear hz z0
                go_wp2
                go_ret
                exact ⟨rfl, HB5.out⟩
            · have hx : xsum (Dc z9 j) j = 0 := by omega
              have z1 : (a7 == 0) = false := by simp; omega
              have z2 : 2 ≤ a0 := by omega
              clear hz
              by_cases z4 : 0 < a7
              · go_wp2
                go_ret
                exact ⟨rfl, HB5.out⟩
              · go_wp2
                go_ret
                exact ⟨rfl, HB5.out⟩
          · have z1 : (a7 == 0) = false := by simp; omega
            clear HF C1 C2
            go_wp2
            go_ret
            exact ⟨rfl, HB5.out⟩
          · have z1 : (a7 == 0) = false := by simp; omega
            clear HF C1 C2
            go_wp2
            go_ret
            exact ⟨rfl, HB5.out⟩
end Go.Proofs.Qxb6605323a
