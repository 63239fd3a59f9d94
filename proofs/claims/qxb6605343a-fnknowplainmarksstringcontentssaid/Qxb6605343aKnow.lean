import Derived.Test.Qxb6605343aBits
import Derived.BigRegion
namespace Go.Proofs.Qxb6605343a
open Go.RowKit
set_option linter.unusedVariables false
attribute [local go_sem ↓] Go.wp_at_zero Go.wp_at_succ

set_option maxRecDepth 20000 in
set_option maxHeartbeats 4000000 in
theorem know_any (ob qb n : Nat) (la : Option Addr) (nl cl : Nat) (pa : Option Addr) (np : Nat) (xs : List Value) (V E : Nat → Int) (P : Nat → Bool) (B W : Nat) (w : World)
    (hst : St w w B ob qb n la nl cl V E P) (h74 : w.cell? ⟨ob, 74, none⟩ = some (.slice pa np np)) (hown : w.ownsRow B 38 1 (.slice pa np np) np xs)
    (hB : B ≤ w.heap.size) (hob : B ≤ ob) (hqo : qb ≠ ob) (hql : qb < w.heap.size) (hpo : ∀ g, pa = some ⟨g, 0, none⟩ → g ≠ ob ∧ g ≠ qb)
    (hW : (nl : Int) / 8 + 1 = W) (hnl : nl ≤ 1048576) (hnp : np ≤ 1048576) (hn : n ≤ 1048576) (hP : ∀ i, i < n → P i = true → 0 ≤ V i ∧ V i ≤ E i ∧ E i ≤ nl) :
    Calls Try.prog 21 #[.pointer (some ⟨ob, 0, none⟩)] w fun e w' => e = .returned (.tuple #[]) ∧ (∃ (g cap : Nat) (X : Nat → Nat), w'.cell? ⟨ob, 74, none⟩ = some (.slice (some ⟨g, 0, none⟩) W cap) ∧ w'.cell? ⟨ob, 73, none⟩ = some (.bool true) ∧ w'.ownsRow B 38 1 (.slice (some ⟨g, 0, none⟩) W cap) W (vrow (fun j => .int .u64 (X j)) W) ∧ WOK (cov V E P n) X W) ∧ Below B w w' := by
  have HST : Hid (St w w B ob qb n la nl cl V E P) := hst
  have c1 := hst.line
  have HP : Hid (∀ i, i < n → P i = true → 0 ≤ V i ∧ V i ≤ E i ∧ E i ≤ nl) := hP
  clear hst hP
  go_enter Try.func21, Try.ntmps21
  go_upto_if 22 with fail
  go_cut [] (fun wd => ∃ (g L cap : Nat) (ys : List Value), W ≤ cap ∧ L ≤ cap ∧ wd.cell? ⟨ob, 74, none⟩ = some (.slice (some ⟨g, 0, none⟩) L cap) ∧ wd.ownsRow B 38 1 (.slice (some ⟨g, 0, none⟩) L cap) L ys ∧ St w wd B ob qb n la nl cl V E P ∧ g ≠ ob ∧ g ≠ qb)
  case first =>
    by_cases hg : np < W
    · have hgi : (np : Int) < (W : Int) := by omega
      obtain ⟨M, hM⟩ : ∃ M : Nat, W = np + M := ⟨W - np, by omega⟩
      have hM0 : 0 < M := by omega
      have hWb : W ≤ 131073 := by omega
      have hMi : (W : Int) - np = M := by omega
      have HM : Hid (W = np + M) := hM
      clear hM
      obtain ⟨i0, hi, hz0, hz1, hz2⟩ := info_parts Try.info38
      have h3 := Try.underlying3
      have hnp0 : (0 : Int) ≤ (np : Int) := by omega
      have hnpp : (np : Int) ≤ (np : Int) := by omega
      have hf74 := HST.out.f74
      have hlt := HST.out.lt
      have HOW : Hid (w.ownsRow B 38 1 (.slice pa np np) np xs) := hown
      clear hown
      go_upto_region 2 with fail
      go_region_law ((refine step_append_zeros _ (by rfl) _ _ _ _ (by rfl) B 38 i0 _ _ _ Try.underlying30 Try.underlying3 hi hz0 hz1 (by rfl) pa np M _ xs (by rfl) (by rfl) (by first | exact hMi | (rw [IntKind.wrap_i64]; have := HM.out; omega)) HOW.out hM0 (by unfold maxLen; have := HM.out; omega) (by rw [hz2]; have := HM.out; omega) hB _ rfl ?_; intro cap w1 ys hcap hown1 hgrow; have c74 := hgrow.cell h74 (by simp); have f74 := (World.frozen?_of_block (hgrow.block ob hlt (by simp))).trans hf74))
      all_goals
        go_wp2_with fail
        go_meet
        case rel =>
          have hM := HM.out
          refine ⟨w.heap.size, np + M, cap, ys, by omega, hcap, World.cell?_setCell_same _ _ _ c74, own_set_ne hown1 (by show w.heap.size ≠ ob; omega) _, ?_, by omega, ?_⟩
          · exact (HST.out.drew.grown hgrow hB (fun k e => by cases e) (by simp) (by simp)).set74 hob hqo _
          · omega
    · have hgd : decide (np < W) = false := decide_eq_false hg
      obtain ⟨g, rfl⟩ : ∃ g, pa = some ⟨g, 0, none⟩ := by
        rcases hown.2 with ⟨_, h0⟩ | ⟨g, cp, cur, e, r⟩
        · omega
        · simp only [Value.slice.injEq] at e; exact ⟨g, e.1⟩
      go_wp2_with fail
      go_meet
      case rel => exact ⟨g, np, np, xs, by omega, Nat.le_refl _, h74, hown, HST.out, (hpo g rfl).1, (hpo g rfl).2⟩
  case rest =>
    obtain ⟨g, L, cap, ys, hWc, hLc, hc74, hown2, hst2, hgo, hgq⟩ := hcut
    have HO2 : Hid (wc.ownsRow B 38 1 (.slice (some ⟨g, 0, none⟩) L cap) L ys) := hown2
    have HST2 : Hid (St w wc B ob qb n la nl cl V E P) := hst2
    have f74 := hst2.f74
    have hWi : (W : Int) ≤ (cap : Int) := by omega
    obtain ⟨zs, hown3⟩ := own_cut hown2 hWc
    have HO3 : Hid ((wc.setCell ⟨ob, 74, none⟩ (.slice (some ⟨g, 0, none⟩) W cap)).ownsRow B 38 1 (.slice (some ⟨g, 0, none⟩) W cap) W zs) := own_set_ne hown3 hgo _
    obtain ⟨i0, hi, hz0, hz1, hz2⟩ := info_parts Try.info38
    have hW0 : 0 < W := by omega
    clear hown hown2 hst2 hown3 HST c1 h74
    obtain ⟨w3, hclr, hown4, hgrow4⟩ := run_clear_own (P := Try.prog) (wc.setCell ⟨ob, 74, none⟩ (.slice (some ⟨g, 0, none⟩) W cap)) 30 0 B 38 i0 _ Try.underlying30 hi hz0 rfl rfl g W cap _ hW0 HO3.out
    have hWN : W ≤ 131073 := by omega
    have hST3 : St w w3 B ob qb n la nl cl V E P := (HST2.out.set74 hob hqo (.slice (some ⟨g, 0, none⟩) W cap)).grown hgrow4 (Nat.le_trans hob (Nat.le_of_lt (by simpa using HST2.out.lt))) (fun k e => by cases e; exact own_base HO2.out) (by simp; omega) (by simp; omega)
    have HST3 : Hid (St w w3 B ob qb n la nl cl V E P) := hST3
    have c71 := hST3.places
    have c74 : w3.cell? ⟨ob, 74, none⟩ = some (.slice (some ⟨g, 0, none⟩) W cap) := hgrow4.cell (World.cell?_setCell_same _ _ _ hc74) (by simp; omega)
    have HO4 : Hid (w3.ownsRow B 38 1 (.slice (some ⟨g, 0, none⟩) W cap) W (vrow (fun j => .int .u64 ((fun _ => 0 : Nat → Nat) j)) W)) := hown4
    clear HO2 HST2 HO3 hgrow4 hown4 hST3
    go_wp2
    clear hclr
    go_loopw [62] (fun i wr => ∃ (k : Nat) (X : Nat → Nat), k ≤ n ∧ i = .int .i64 k ∧ wr.cell? ⟨ob, 74, none⟩ = some (.slice (some ⟨g, 0, none⟩) W cap) ∧ wr.ownsRow B 38 1 (.slice (some ⟨g, 0, none⟩) W cap) W (vrow (fun j => .int .u64 (X j)) W) ∧ WOK (cov V E P k) X W ∧ St w wr B ob qb n la nl cl V E P) (fun i _ => n - (intOf i).toNat)
    case atStart => exact ⟨0, fun _ => 0, Nat.zero_le _, rfl, c74, HO4.out, (WOK.zero W).ext (fun _ _ => rfl), HST3.out⟩
    case round =>
      clear HO4 HST3 c71 c74
      obtain ⟨k, X, hk, rfl, d74, dow, dwo, dst⟩ := hrel
      have DO : Hid (wr.ownsRow B 38 1 (.slice (some ⟨g, 0, none⟩) W cap) W (vrow (fun j => .int .u64 (X j)) W)) := dow
      have DW : Hid (WOK (cov V E P k) X W) := dwo
      have DS : Hid (St w wr B ob qb n la nl cl V E P) := dst
      have d71 := dst.places
      clear dow dwo
      by_cases hlt : k < n
      · have hpl := dst.pl k hlt
        obtain ⟨p1, p2, p4⟩ := hpl
        clear dst
        have hlti : (k : Int) < (n : Int) := by omega
        cases hpk : P k
        · rw [hpk] at p4
          go_wp2
          go_roundw
          case rel => exact ⟨k + 1, X, by omega, by go_num, d74, DO.out, DW.out.ext (fun c _ => by rw [cov, hpk]; simp), DS.out⟩
          case measure => simp [intOf]; omega
        · rw [hpk] at p4
          obtain ⟨q1, q2, q3⟩ := HP.out k hlt hpk
          obtain ⟨v, hv⟩ : ∃ v : Nat, V k = v := ⟨(V k).toNat, by omega⟩
          obtain ⟨e, he⟩ : ∃ e : Int, E k = e := ⟨_, rfl⟩
          rw [hv] at p1 q1 q2
          rw [he] at p2 q2 q3
          have HV : Hid (V k = v) := hv
          have HE : Hid (E k = e) := he
          clear hv he
          have hq1 : (v : Int) ≤ 1048576 := by omega
          have hq2 : e ≤ 1048576 := by omega
          have hq3 : 0 ≤ e := by omega
          go_wp2
          go_quiet (fail)
          go_wp2
          go_loopw [5] (fun i ws => ∃ (a : Nat) (Y : Nat → Nat), v < a ∧ a ≤ 1048592 ∧ i = .int .i64 a ∧ ws.cell? ⟨ob, 74, none⟩ = some (.slice (some ⟨g, 0, none⟩) W cap) ∧ ws.ownsRow B 38 1 (.slice (some ⟨g, 0, none⟩) W cap) W (vrow (fun j => .int .u64 (Y j)) W) ∧ WOK (fun c => cov V E P k c || (decide (v < c) && (decide ((c : Int) < e - 1) && decide (c < a)))) Y W ∧ St w ws B ob qb n la nl cl V E P) (fun i _ => (e - 1 - intOf i).toNat)
          case atStart => exact ⟨v + 1, X, by omega, by omega, by go_num, d74, DO.out, DW.out.ext (fun c _ => by
            by_cases h : v < c
            · rw [decide_eq_false (show ¬ c < v + 1 by omega)]; simp
            · rw [decide_eq_false h]; simp), ⟨DS.out.line, DS.out.places, DS.out.known, DS.out.f73, DS.out.f74, DS.out.pl, ⟨DS.out.below.os, DS.out.below.tape, DS.out.below.output, DS.out.below.size, DS.out.below.block⟩, DS.out.lt⟩⟩
          case round =>
            clear d74 DO DW DS d71 p1 p2 p4
            obtain ⟨a, Y, ha0, ha1, rfl, d74, dow, dwo, dst⟩ := hrel
            have DO : Hid (wr.ownsRow B 38 1 (.slice (some ⟨g, 0, none⟩) W cap) W (vrow (fun j => .int .u64 (Y j)) W)) := dow
            have DW : Hid (WOK (fun c => cov V E P k c || (decide (v < c) && (decide ((c : Int) < e - 1) && decide (c < a)))) Y W) := dwo
            have DS : Hid (St w wr B ob qb n la nl cl V E P) := dst
            clear dow dwo dst
            by_cases hae : (a : Int) < e - 1
            · obtain ⟨J, hJ⟩ : ∃ J : Nat, J = a / 8 := ⟨_, rfl⟩
              obtain ⟨R, hR⟩ : ∃ R : Nat, R = a % 8 := ⟨_, rfl⟩
              have hJi : (a : Int) / 8 = J := by omega
              have hRi : (a : Int) % 8 = R := by omega
              have hJW : J < W := by omega
              have hJWi : (J : Int) < (W : Int) := by omega
              have hcell := vrow_cell DO.out J hJW
              have hfz := DO.out.frozenAt J
              obtain ⟨T, hT⟩ : ∃ T : Nat, (T : Int) = (if 8 < e - 1 - (a - a % 8 : Nat) then 8 else e - 1 - (a - a % 8 : Nat)) := ⟨(if 8 < e - 1 - (a - a % 8 : Nat) then 8 else e - 1 - (a - a % 8 : Nat)).toNat, by split <;> omega⟩
              have hTR : R < T ∧ T ≤ 8 := by split at hT <;> omega
              go_upto_region 14 with fail
              rw [i64_andNot7 a (by omega), show wrap64 (e - 1 - ((a - a % 8 : Nat) : Int)) = e - 1 - ((a - a % 8 : Nat) : Int) by (unfold wrap64; omega), ← hT, hRi]
              obtain ⟨hT0, hT8⟩ := hTR
              have H_T : Hid ((T : Int) = (if 8 < e - 1 - (a - a % 8 : Nat) then 8 else e - 1 - (a - a % 8 : Nat))) := hT
              have H_J : Hid (J = a / 8) := hJ
              have H_R : Hid (R = a % 8) := hR
              clear hT hJ hR hRi
              go_region
              go_wp2
              rw [tops_wrap hT0 hT8, u64_or_nat _ _ (DW.out J hJW).1 (msk_bits hT0 hT8).1, i64_andNot7 a (by omega), show wrap64 (((a - a % 8 : Nat) : Int) + 8) = ((8 * J + 8 : Nat) : Int) by (have := H_J.out; unfold wrap64; omega)]
              go_roundw
              case rel =>
                refine ⟨8 * J + 8, upd Y J (Y J ||| msk R T), by have := H_J.out; omega, by have := H_J.out; omega, rfl, ?_, ?_, WOK.step DW.out H_J.out H_R.out H_T.out ha0 hT0 hT8 hJW hae, ?_⟩
                · exact (World.cell?_setCell_other wr _ _ _ (by intro e; injection e with e1; exact hgo e1)).trans d74
                · have := (DO.out.stored J (.int .u64 ((Y J ||| msk R T : Nat) : Int))).1
                  rw [vrow_set, vrow_ext (Y := fun j => .int .u64 ((upd Y J (Y J ||| msk R T) j : Nat) : Int))] at this
                  · exact this
                  · intro j _
                    unfold upd
                    by_cases e : j = J
                    · rw [if_pos e, if_pos e]
                    · rw [if_neg e, if_neg e]
                · exact (DS.out.grown (DO.out.stored J (.int .u64 ((Y J ||| msk R T : Nat) : Int))).2 (Nat.le_trans hob (Nat.le_of_lt DS.out.lt)) (fun k e => by cases e; exact own_base DO.out) (by simp; omega) (by simp; omega)).drew
              case measure => simp [intOf]; have := H_J.out; omega
            · go_wp2
              go_roundw
              case rel => exact ⟨k + 1, Y, by omega, by go_num, d74, DO.out, WOK.stop DW.out HV.out HE.out hpk hae, DS.out⟩
              case measure => simp [intOf]; omega
      · have e0 : k = n := by omega
        subst e0
        have k73 := DS.out.known
        have kf73 := DS.out.f73
        go_wp2
        refine bodyPost_end (results_none rfl _ _ _) rfl ?_
        refine ⟨rfl, ⟨g, cap, X, (World.cell?_setCell_other wr _ _ _ (by simp)).trans d74, World.cell?_setCell_same wr _ _ k73, own_set_ne DO.out hgo _, DW.out⟩, DS.out.below.setCell hob _⟩
end Go.Proofs.Qxb6605343a
