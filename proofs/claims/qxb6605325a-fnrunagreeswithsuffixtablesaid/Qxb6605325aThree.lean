import Derived.Test.Qxb6605325aChars
import Derived.Test.Qxb6605325aTab
namespace Go.Proofs.Qxb6605325a
open Go.RowKit
set_option linter.unusedVariables false

set_option maxHeartbeats 400000 in
theorem bytes5_any (a : Option Addr) (len cap : Nat) (S : Nat → ByteArray) (W : Nat → Int) (s : ByteArray) (x : Option Addr) (l c : Nat) (w : World) (h : Toks w a len cap S W) (hl : len ≤ maxLen) (hs : s.size ≤ maxLen) (hx : l ≤ maxLen) :
    Calls Try.prog 5 #[.slice a len cap, .string s, .slice x l c] w fun e w' => IsBool e ∧ w = w' := by
  unfold maxLen at hl hx hs
  by_cases h1 : 1048576 < len
  · go_enter Try.func5, Try.ntmps5
    go_wp2
    go_ret
    exact ⟨⟨_, rfl⟩, rfl⟩
  · go_enter Try.func5, Try.ntmps5
    go_wp2
    go_loop [7, 8] (fun t i => ∃ (k : Nat) (n : Int), k ≤ len ∧ i = .int .i64 k ∧ t = .int .i64 n ∧ 0 ≤ n ∧ n ≤ 1048576) (fun _ i => len - (intOf i).toNat)
    case atStart => exact ⟨0, len, Nat.zero_le _, rfl, by first | rfl | go_num, by omega, by omega⟩
    case round =>
      obtain ⟨k, n, hk, rfl, rfl, hn0, hn1⟩ := hrel
      by_cases hlt : k < len
      · obtain ⟨b, off, rfl, hcc⟩ := h.2 (by omega)
        have hcx := (hcc k hlt).1
        clear hcc h
        by_cases hs : (1048576 : Int) < (S k).size
        · go_wp2
          go_ret
          exact ⟨⟨_, rfl⟩, rfl⟩
        · by_cases ht : (1048576 : Int) < n + (S k).size
          · go_wp2
            go_ret
            exact ⟨⟨_, rfl⟩, rfl⟩
          · go_wp2
            go_round
            case rel => exact ⟨k + 1, _, by omega, by go_num, rfl, by omega, by omega⟩
            case measure => simp [intOf]; omega
      · by_cases h2 : (1048576 : Int) < s.size
        · go_wp2
          go_ret
          exact ⟨⟨_, rfl⟩, rfl⟩
        by_cases h3 : (1048576 : Int) < n + s.size
        · go_wp2
          go_ret
          exact ⟨⟨_, rfl⟩, rfl⟩
        by_cases h4 : 1048576 < l
        · go_wp2
          go_ret
          exact ⟨⟨_, rfl⟩, rfl⟩
        by_cases h5 : (1048576 : Int) < n + s.size + l
        · go_wp2
          go_ret
          exact ⟨⟨_, rfl⟩, rfl⟩
        · go_wp2
          go_ret
          exact ⟨⟨_, rfl⟩, rfl⟩

theorem bdn (w : World) (k : Nat) : Below w.heap.size w (w.drewN k) := ⟨rfl, rfl, rfl, Nat.le_refl _, fun _ _ => rfl⟩

set_option maxRecDepth 20000 in
set_option maxHeartbeats 1000000 in
theorem three_early (ta : Option Addr) (n cap : Nat) (S : Nat → ByteArray) (W : Nat → Int) (s : ByteArray) (x : Option Addr) (l c : Nat) (w : World) (h : Toks w ta n cap S W) (hn : n ≤ maxLen) (hs : s.size ≤ maxLen) (hl : l ≤ maxLen) (hb : 256 < n ∨ 256 < s.size ∨ 65536 < l) :
    Calls Try.prog 3 #[.slice ta n cap, .string s, .slice x l c] w fun e w' => e = .returned (.bool true) ∧ Below w.heap.size w w' := by
  have HB : Hid (Calls Try.prog 5 #[.slice ta n cap, .string s, .slice x l c] w fun e w' => IsBool e ∧ w = w') := bytes5_any ta n cap S W s x l c w h hn hs hl
  unfold maxLen at hn hl hs
  rcases (show 256 < n ∨ (n ≤ 256 ∧ 256 < s.size) ∨ (n ≤ 256 ∧ s.size ≤ 256 ∧ 65536 < l) by omega) with h1 | ⟨h1, h2⟩ | ⟨h1, h2, h3⟩
  all_goals
    clear hb h
    go_enter Try.func3, Try.ntmps3
    go_wp2_with fail
    refine Calls.mono HB.out ?_
    rintro e w' ⟨⟨b, rfl⟩, rfl⟩
    cases b
    · go_wp2
      go_ret
      exact ⟨rfl, Below.refl _ _⟩
    · go_wp2
      go_ret
      exact ⟨rfl, Below.refl _ _⟩

set_option maxRecDepth 20000 in
set_option maxHeartbeats 2000000 in
theorem three_main (ta : Option Addr) (n cap : Nat) (S : Nat → ByteArray) (W : Nat → Int) (s : ByteArray) (x : Option Addr) (l c : Nat) (Lk : Nat → Bool) (w : World) (h : Toks w ta n cap S W) (hn : n ≤ 256) (hs : s.size ≤ 256) (hl : l ≤ 65536) (hlk : Lnk w x l Lk) :
    Calls Try.prog 3 #[.slice ta n cap, .string s, .slice x l c] w fun e w' => e = .returned (.bool true) ∧ Below w.heap.size w w' := by
  have HB : Hid (Calls Try.prog 5 #[.slice ta n cap, .string s, .slice x l c] w fun e w' => IsBool e ∧ w = w') := bytes5_any ta n cap S W s x l c w h (by unfold maxLen; omega) (by unfold maxLen; omega) (by unfold maxLen; omega)
  have HT : Hid (Toks w ta n cap S W) := h
  have HL : Hid (Lnk w x l Lk) := hlk
  clear h hlk
  go_enter Try.func3, Try.ntmps3
  go_wp2_with fail
  refine Calls.mono HB.out ?_
  rintro e w' ⟨⟨b, rfl⟩, rfl⟩
  cases b
  · go_wp2
    go_ret
    exact ⟨rfl, Below.refl _ _⟩
  go_wp2_with fail
  refine (tokBytes_any _ _ _ S W _ HT.out (by omega)).mono ?_
  rintro e w' ⟨mm, rfl, hm0, hm1, rfl⟩
  by_cases hbig : 1048576 < mm + s.size + l
  · go_wp2
    go_ret
    exact ⟨rfl, Below.refl _ _⟩
  go_wp2_with fail
  refine (charStarts_any s _ hs).mono ?_
  rintro e w1 ⟨sa, m, sc, st, rfl, hst, hms, hst1, hst2, hb1⟩
  have HST : Hid (Ats w1 sa (m + 1) st) := hst
  have HS1 : Hid (∀ k, k ≤ m → st k ≤ s.size) := hst1
  have HS2 : Hid (∀ k, k < m → st k ≤ st (k + 1)) := hst2
  clear hst hst1 hst2
  go_wp2_with fail
  refine (toZZ_any _ _ _ S W _ (Toks.later HT.out hb1) (by omega)).mono ?_
  rintro e w2 ⟨za, zc, rfl, hz, hb2⟩
  have HZ : Hid (Toks w2 za n zc S W) := hz
  have hb02 : Below w.heap.size w w2 := hb1.trans (hb2.mono hb1.size)
  have HST2 : Hid (Ats w2 sa (m + 1) st) := Ats.later HST.out hb2
  clear hz
  go_wp2
  go_loopw [10, 11] (fun v i wr => ∃ (k : Nat) (a : Option Addr) (c' : Nat), k ≤ m ∧ i = .int .i64 k ∧ v = .slice a (Rn S W n (chr s st) (hdn s st) (vln l Lk) k).length c' ∧ Ats wr a (Rn S W n (chr s st) (hdn s st) (vln l Lk) k).length (fun i => (Rn S W n (chr s st) (hdn s st) (vln l Lk) k).getD i 0) ∧ Below w2.heap.size w2 wr) (fun _ i _ => m - (intOf i).toNat)
  case atStart =>
    refine ⟨0, _, _, Nat.zero_le _, rfl, rfl, fun _ => ⟨w2.heap.size, 0, rfl, fun i hi => ?_⟩, (Below.refl _ _).alloc (Nat.le_refl _) _⟩
    have e : i = 0 := by simp [Rn] at hi; exact hi
    subst e
    simp [Rn]
  case round =>
    obtain ⟨k, a, c', hk, rfl, rfl, hat, hb⟩ := hrel
    have hgl := goodL_len n _ (Rn_good S W n (chr s st) (hdn s st) (vln l Lk) k)
    have HR : Hid (∀ i, i < (Rn S W n (chr s st) (hdn s st) (vln l Lk) k).length → (Rn S W n (chr s st) (hdn s st) (vln l Lk) k).getD i 0 ≤ n) := by
      intro i hi
      simp only [List.getD_eq_getElem?_getD, List.getElem?_eq_getElem hi, Option.getD_some]
      exact (Rn_good S W n (chr s st) (hdn s st) (vln l Lk) k).2 _ (List.getElem_mem hi)
    have HRS : Hid (Rn S W n (chr s st) (hdn s st) (vln l Lk) (k + 1) = stepL S W n (chr s st k) (hdn s st k) (vln l Lk k) (fun i => (Rn S W n (chr s st) (hdn s st) (vln l Lk) k).getD i 0) (Rn S W n (chr s st) (hdn s st) (vln l Lk) k).length) := rfl
    have HAT : Hid (Ats wr a (Rn S W n (chr s st) (hdn s st) (vln l Lk) k).length (fun i => (Rn S W n (chr s st) (hdn s st) (vln l Lk) k).getD i 0)) := hat
    have HRT : Hid (accB S W n (fun i => (Rn S W n (chr s st) (hdn s st) (vln l Lk) m).getD i 0) (Rn S W n (chr s st) (hdn s st) (vln l Lk) m).length = T S W n m (chr s st) (hdn s st) (vln l Lk) m n) := run_table S W n m (chr s st) (hdn s st) (vln l Lk)
    clear hat
    obtain ⟨Rk, hRk⟩ : ∃ Rk, Rk = Rn S W n (chr s st) (hdn s st) (vln l Lk) k := ⟨_, rfl⟩
    have HRk : Hid (Rk = Rn S W n (chr s st) (hdn s st) (vln l Lk) k) := hRk
    rw [← hRk] at hgl HR HRS HAT ⊢
    clear hRk
    have hbw : Below w.heap.size w wr := hb02.trans (hb.mono hb02.size)
    by_cases hlt : k < m
    · obtain ⟨sb, soff, e1, hss⟩ := (Ats.later HST2.out hb) (by omega)
      subst e1
      have hs0 := hss k (by omega)
      have hs1 := hss (k + 1) (by omega)
      have hq1 := HS1.out (k + 1) (by omega)
      have hq2 := HS2.out k hlt
      obtain ⟨lv, hlv⟩ : ∃ lv, vln l Lk k = lv := ⟨_, rfl⟩
      have HVL : Hid (vln l Lk k = lv) := hlv
      clear hlv
      obtain ⟨pp, hpp⟩ : ∃ pp, pp = k - 1 := ⟨_, rfl⟩
      have hsm := hss pp (by omega)
      have HPP : Hid (pp = k - 1) := hpp
      obtain ⟨sn, hsn⟩ : ∃ sn, (decide (k = 0) || ((chr s st (k - 1)).toList == [47])) = sn := ⟨_, rfl⟩
      have HSN : Hid ((decide (k = 0) || ((chr s st (k - 1)).toList == [47])) = sn) := hsn
      have HHD : Hid (hidB sn (chr s st k) = hdn s st k) := by
        show _ = _; unfold hidB hdn; rw [hsn, Bool.and_comm]
      clear hsn hpp hss
      by_cases hk0 : k = 0
      · have hk0' : ((k : Int) == 0) = true := by simp [hk0]
        obtain rfl : sn = true := by have := HSN.out; rw [decide_eq_true hk0] at this; simpa using this.symm
        clear hk0
        by_cases hkl : k < l
        · skip
          obtain ⟨lb, loff, rfl, hlc⟩ := (Lnk.later HL.out hbw) (by omega)
          have hlp := hlc k hkl
          have hpli : (k : Int) < (l : Int) := by omega
          have hlvv : Lk k = lv := by have := HVL.out; unfold vln at this; rw [decide_eq_true hkl] at this; simpa using this
          rw [hlvv] at hlp
          clear hlc hlvv
          go_wp2
          go_quiet (fail)
          go_wp2
          go_quiet (fail)
          go_wp2_with fail
          have HE : stepL S W n (s.extract (st k) (st (k + 1))) (hidB true (s.extract (st k) (st (k + 1)))) lv (fun i => Rk.getD i 0) Rk.length = Rn S W n (chr s st) (hdn s st) (vln l Lk) (k + 1) := by
            have := HRS.out
            rw [← HHD.out, HVL.out] at this
            exact this.symm
          have HE' : Hid (_) := HE
          clear HE
          refine (zzstep_any _ _ _ S W _ _ _ (fun i => Rk.getD i 0) _ _ _ _ (Toks.later (Toks.later HZ.out hb) (bdn _ _)) hn (Ats.later HAT.out (bdn _ _)) (by omega) HR.out).mono ?_
          rintro e w3 ⟨a3, c3, rfl, hat3, hb3⟩
          have HEE := HE'.out
          rw [HEE] at hat3 ⊢
          clear HEE
          have HAT3 : Hid (Ats w3 a3 (Rn S W n (chr s st) (hdn s st) (vln l Lk) (k + 1)).length (fun i => (Rn S W n (chr s st) (hdn s st) (vln l Lk) (k + 1)).getD i 0)) := hat3
          have hb4 : Below w2.heap.size w2 w3 := (hb.trans ((bdn wr _).mono hb.size)).trans (hb3.mono hb.size)
          clear hat3 hb3
          go_wp2
          go_roundw
          case rel => exact ⟨k + 1, a3, c3, by omega, by go_num, rfl, HAT3.out, hb4⟩
          case measure => simp [intOf]; omega
        · skip
          obtain rfl : lv = false := by have := HVL.out; unfold vln at this; rw [decide_eq_false hkl] at this; simpa using this.symm
          have hpli : ¬ (k : Int) < (l : Int) := by omega
          go_wp2
          go_quiet (fail)
          go_wp2
          go_quiet (fail)
          go_wp2_with fail
          have HE : stepL S W n (s.extract (st k) (st (k + 1))) (hidB true (s.extract (st k) (st (k + 1)))) false (fun i => Rk.getD i 0) Rk.length = Rn S W n (chr s st) (hdn s st) (vln l Lk) (k + 1) := by
            have := HRS.out
            rw [← HHD.out, HVL.out] at this
            exact this.symm
          have HE' : Hid (_) := HE
          clear HE
          refine (zzstep_any _ _ _ S W _ _ _ (fun i => Rk.getD i 0) _ _ _ _ (Toks.later (Toks.later HZ.out hb) (bdn _ _)) hn (Ats.later HAT.out (bdn _ _)) (by omega) HR.out).mono ?_
          rintro e w3 ⟨a3, c3, rfl, hat3, hb3⟩
          have HEE := HE'.out
          rw [HEE] at hat3 ⊢
          clear HEE
          have HAT3 : Hid (Ats w3 a3 (Rn S W n (chr s st) (hdn s st) (vln l Lk) (k + 1)).length (fun i => (Rn S W n (chr s st) (hdn s st) (vln l Lk) (k + 1)).getD i 0)) := hat3
          have hb4 : Below w2.heap.size w2 w3 := (hb.trans ((bdn wr _).mono hb.size)).trans (hb3.mono hb.size)
          clear hat3 hb3
          go_wp2
          go_roundw
          case rel => exact ⟨k + 1, a3, c3, by omega, by go_num, rfl, HAT3.out, hb4⟩
          case measure => simp [intOf]; omega
      · have hk0' : ((k : Int) == 0) = false := by simp [hk0]
        have hpi : (k : Int) - 1 = pp := by have := HPP.out; omega
        have hq3 : st pp ≤ st k := by have := HS2.out pp (by have := HPP.out; omega); rw [show pp + 1 = k by have := HPP.out; omega] at this; exact this
        have hsq : ((s.extract (st pp) (st k)).toList == [47]) = sn := by
          have := HSN.out
          rw [decide_eq_false hk0, ← HPP.out] at this
          unfold chr at this
          rw [show pp + 1 = k by have := HPP.out; omega] at this
          simpa using this
        clear hk0
        by_cases hkl : k < l
        · skip
          obtain ⟨lb, loff, rfl, hlc⟩ := (Lnk.later HL.out hbw) (by omega)
          have hlp := hlc k hkl
          have hpli : (k : Int) < (l : Int) := by omega
          have hlvv : Lk k = lv := by have := HVL.out; unfold vln at this; rw [decide_eq_true hkl] at this; simpa using this
          rw [hlvv] at hlp
          clear hlc hlvv
          go_wp2
          go_quiet (fail)
          go_wp2
          go_quiet (fail)
          go_wp2_with fail
          have HE : stepL S W n (s.extract (st k) (st (k + 1))) (hidB sn (s.extract (st k) (st (k + 1)))) lv (fun i => Rk.getD i 0) Rk.length = Rn S W n (chr s st) (hdn s st) (vln l Lk) (k + 1) := by
            have := HRS.out
            rw [← HHD.out, HVL.out] at this
            exact this.symm
          have HE' : Hid (_) := HE
          clear HE
          refine (zzstep_any _ _ _ S W _ _ _ (fun i => Rk.getD i 0) _ _ _ _ (Toks.later (Toks.later HZ.out hb) (bdn _ _)) hn (Ats.later HAT.out (bdn _ _)) (by omega) HR.out).mono ?_
          rintro e w3 ⟨a3, c3, rfl, hat3, hb3⟩
          have HEE := HE'.out
          rw [HEE] at hat3 ⊢
          clear HEE
          have HAT3 : Hid (Ats w3 a3 (Rn S W n (chr s st) (hdn s st) (vln l Lk) (k + 1)).length (fun i => (Rn S W n (chr s st) (hdn s st) (vln l Lk) (k + 1)).getD i 0)) := hat3
          have hb4 : Below w2.heap.size w2 w3 := (hb.trans ((bdn wr _).mono hb.size)).trans (hb3.mono hb.size)
          clear hat3 hb3
          go_wp2
          go_roundw
          case rel => exact ⟨k + 1, a3, c3, by omega, by go_num, rfl, HAT3.out, hb4⟩
          case measure => simp [intOf]; omega
        · skip
          obtain rfl : lv = false := by have := HVL.out; unfold vln at this; rw [decide_eq_false hkl] at this; simpa using this.symm
          have hpli : ¬ (k : Int) < (l : Int) := by omega
          go_wp2
          go_quiet (fail)
          go_wp2
          go_quiet (fail)
          go_wp2_with fail
          have HE : stepL S W n (s.extract (st k) (st (k + 1))) (hidB sn (s.extract (st k) (st (k + 1)))) false (fun i => Rk.getD i 0) Rk.length = Rn S W n (chr s st) (hdn s st) (vln l Lk) (k + 1) := by
            have := HRS.out
            rw [← HHD.out, HVL.out] at this
            exact this.symm
          have HE' : Hid (_) := HE
          clear HE
          refine (zzstep_any _ _ _ S W _ _ _ (fun i => Rk.getD i 0) _ _ _ _ (Toks.later (Toks.later HZ.out hb) (bdn _ _)) hn (Ats.later HAT.out (bdn _ _)) (by omega) HR.out).mono ?_
          rintro e w3 ⟨a3, c3, rfl, hat3, hb3⟩
          have HEE := HE'.out
          rw [HEE] at hat3 ⊢
          clear HEE
          have HAT3 : Hid (Ats w3 a3 (Rn S W n (chr s st) (hdn s st) (vln l Lk) (k + 1)).length (fun i => (Rn S W n (chr s st) (hdn s st) (vln l Lk) (k + 1)).getD i 0)) := hat3
          have hb4 : Below w2.heap.size w2 w3 := (hb.trans ((bdn wr _).mono hb.size)).trans (hb3.mono hb.size)
          clear hat3 hb3
          go_wp2
          go_roundw
          case rel => exact ⟨k + 1, a3, c3, by omega, by go_num, rfl, HAT3.out, hb4⟩
          case measure => simp [intOf]; omega
    · have ek : k = m := by omega
      subst ek
      have HRT' : Hid (accB S W n (fun i => Rk.getD i 0) Rk.length = T S W n k (chr s st) (hdn s st) (vln l Lk) k n) := by
        show _ = _; rw [HRk.out]; exact HRT.out
      go_wp2_with fail
      refine (zzaccepts_any _ _ _ S W _ _ _ (fun i => Rk.getD i 0) _ (Toks.later HZ.out hb) (by omega) HAT.out (by omega) HR.out).mono ?_
      rintro e w3 ⟨rfl, hb3⟩
      rw [HRT'.out]
      have hb4 : Below w2.heap.size w2 w3 := hb.trans (hb3.mono hb.size)
      have hb5 : Below w.heap.size w w3 := hb02.trans (hb4.mono hb02.size)
      go_wp2_with fail
      refine (suffix_any _ _ _ S W s _ k _ st _ _ _ Lk _ (Toks.later HT.out hb5) hn (Ats.later HST2.out hb4) (by omega) hs HS1.out HS2.out (Lnk.later HL.out hb5) hl).mono ?_
      rintro e w4 ⟨rfl, hb6⟩
      have hb7 : Below w.heap.size w w4 := hb5.trans (hb6.mono hb5.size)
      clear hb6
      go_wp2
      go_ret
      exact ⟨ret_bool (by simp), hb7⟩
end Go.Proofs.Qxb6605325a
