import Derived.Test.Qxb6605343aZzk
import Derived.Test.Qxb6605343aCover
namespace Go.Proofs.Qxb6605343a
open Go.RowKit
set_option linter.unusedVariables false
attribute [local go_sem ↓] Go.wp_at_zero Go.wp_at_succ

def IsBool (e : Ending) : Prop := ∃ b, e = .returned (.bool b)

set_option maxHeartbeats 1000000 in
theorem bytes9_any (la : Option Addr) (nl cl : Nat) (va : Option Addr) (nv cv : Nat) (ea : Option Addr) (ne ce : Nat) (ba : Option Addr) (nb cb : Nat) (pa : Option Addr) (np cp : Nat) (w : World)
    (h1 : nl ≤ maxLen) (h2 : nv ≤ maxLen) (h3 : ne ≤ maxLen) (h4 : nb ≤ maxLen) (h5 : np ≤ maxLen) :
    Calls Try.prog 9 #[.slice la nl cl, .slice va nv cv, .slice ea ne ce, .slice ba nb cb, .slice pa np cp] w fun e w' => IsBool e ∧ w = w' := by
  unfold maxLen at h1 h2 h3 h4 h5
  by_cases c1 : 1048576 < nl
  · go_enter Try.func9, Try.ntmps9; go_wp2; go_ret; exact ⟨⟨_, rfl⟩, rfl⟩
  by_cases c2 : 1048576 < nv
  · go_enter Try.func9, Try.ntmps9; go_wp2; go_ret; exact ⟨⟨_, rfl⟩, rfl⟩
  by_cases c3 : 1048576 < nl + nv
  · go_enter Try.func9, Try.ntmps9; go_wp2; go_ret; exact ⟨⟨_, rfl⟩, rfl⟩
  by_cases c4 : 1048576 < ne
  · go_enter Try.func9, Try.ntmps9; go_wp2; go_ret; exact ⟨⟨_, rfl⟩, rfl⟩
  by_cases c5 : 1048576 < nl + nv + ne
  · go_enter Try.func9, Try.ntmps9; go_wp2; go_ret; exact ⟨⟨_, rfl⟩, rfl⟩
  by_cases c6 : 1048576 < nb
  · go_enter Try.func9, Try.ntmps9; go_wp2; go_ret; exact ⟨⟨_, rfl⟩, rfl⟩
  by_cases c7 : 1048576 < nl + nv + ne + nb
  · go_enter Try.func9, Try.ntmps9; go_wp2; go_ret; exact ⟨⟨_, rfl⟩, rfl⟩
  by_cases c8 : 1048576 < np
  · go_enter Try.func9, Try.ntmps9; go_wp2; go_ret; exact ⟨⟨_, rfl⟩, rfl⟩
  by_cases c9 : 1048576 < nl + nv + ne + nb + np
  · go_enter Try.func9, Try.ntmps9; go_wp2; go_ret; exact ⟨⟨_, rfl⟩, rfl⟩
  go_enter Try.func9, Try.ntmps9; go_wp2; go_ret; exact ⟨⟨_, rfl⟩, rfl⟩

set_option maxRecDepth 20000 in
set_option maxHeartbeats 8000000 in
theorem lawK_main (la : Option Addr) (nl cl : Nat) (va : Option Addr) (n cv : Nat) (ea : Option Addr) (ce : Nat) (ba : Option Addr) (cb : Nat) (pa : Option Addr) (np cp : Nat) (L V E : Nat → Int) (P : Nat → Bool) (D : Nat → Int) (w : World)
    (h1 : nl ≤ 1048576) (h2 : n ≤ 131072) (h5 : np ≤ 131072) (h6 : (nl : Int) + 8 * n + 8 * n + n + 8 * np ≤ 1048576)
    (z1 : la = none → nl = 0) (z2 : va = none → n = 0) (z3 : ea = none → n = 0) (z4 : ba = none → n = 0) (z5 : pa = none → np = 0)
    (r1 : Row w la nl (fun i => .int .u8 (L i))) (r2 : Row w va n (fun i => .int .i64 (V i))) (r3 : Row w ea n (fun i => .int .i64 (E i))) (r4 : Row w ba n (fun i => .bool (P i))) (r5 : Row w pa np (fun i => .int .u64 (D i)))
    (hBY : Calls Try.prog 9 #[.slice la nl cl, .slice va n cv, .slice ea n ce, .slice ba n cb, .slice pa np cp] w fun e w' => e = .returned (.bool true) ∧ w = w') :
    Calls Try.prog 4 #[.slice la nl cl, .slice va n cv, .slice ea n ce, .slice ba n cb, .slice pa np cp] w fun e w' => e = .returned (.bool true) ∧ Below w.heap.size w w' := by
  have R1 : Hid (Row w la nl (fun i => .int .u8 (L i))) := r1
  have R2 : Hid (Row w va n (fun i => .int .i64 (V i))) := r2
  have R3 : Hid (Row w ea n (fun i => .int .i64 (E i))) := r3
  have R4 : Hid (Row w ba n (fun i => .bool (P i))) := r4
  have R5 : Hid (Row w pa np (fun i => .int .u64 (D i))) := r5
  have Z : Hid ((la = none → nl = 0) ∧ (va = none → n = 0) ∧ (ea = none → n = 0) ∧ (ba = none → n = 0) ∧ (pa = none → np = 0)) := ⟨z1, z2, z3, z4, z5⟩
  clear r1 r2 r3 r4 r5 z1 z2 z3 z4 z5
  go_enter Try.func4, Try.ntmps4
  go_wp2_with fail
  refine hBY.mono ?_
  rintro e w' ⟨rfl, rfl⟩
  clear hBY
  go_wp2
  go_loopw [11] (fun i wr => ∃ k : Nat, k ≤ n ∧ i = .int .i64 k ∧ (∀ i, i < k → P i = true → 0 ≤ V i ∧ V i ≤ E i ∧ E i ≤ nl) ∧ Below w.heap.size w wr) (fun i _ => n - (intOf i).toNat)
  case atStart => exact ⟨0, Nat.zero_le _, rfl, fun i hi => by omega, Below.refl _ _⟩
  case round =>
    obtain ⟨k, hk, rfl, hok, hb⟩ := hrel
    have HK : Hid (∀ i, i < k → P i = true → 0 ≤ V i ∧ V i ≤ E i ∧ E i ≤ nl) := hok
    clear hok
    by_cases hlt : k < n
    · obtain ⟨vb, vo, rfl, hvc⟩ := R2.out (by omega)
      obtain ⟨eb, eo, rfl, hec⟩ := R3.out (by omega)
      obtain ⟨bb, bo, rfl, hbc⟩ := R4.out (by omega)
      have v1 : wr.cell? ⟨vb, vo + k, none⟩ = some (.int .i64 (V k)) := cell_later hb (hvc k hlt)
      have v2 : wr.cell? ⟨eb, eo + k, none⟩ = some (.int .i64 (E k)) := cell_later hb (hec k hlt)
      have v3 : wr.cell? ⟨bb, bo + k, none⟩ = some (.bool (P k)) := cell_later hb (hbc k hlt)
      obtain ⟨pk, hpk⟩ : ∃ pk, P k = pk := ⟨_, rfl⟩
      obtain ⟨vk, hvk⟩ : ∃ x, V k = x := ⟨_, rfl⟩
      obtain ⟨ek, hek⟩ : ∃ x, E k = x := ⟨_, rfl⟩
      rw [hvk] at v1
      rw [hek] at v2
      rw [hpk] at v3
      have HPK : Hid (P k = pk) := hpk
      have HVK : Hid (V k = vk) := hvk
      have HEK : Hid (E k = ek) := hek
      have hlti : (k : Int) < (n : Int) := by omega
      clear hvc hec hbc hpk hvk hek
      cases pk
      · go_wp2
        go_quiet (fail)
        go_wp2
        go_roundw
        case rel => exact ⟨k + 1, by omega, by go_num, fun i hi hp => by
          by_cases e : i = k
          · subst e; rw [HPK.out] at hp; cases hp
          · exact HK.out i (by omega) hp, ⟨hb.os, hb.tape, hb.output, hb.size, hb.block⟩⟩
        case measure => simp [intOf]; omega
      by_cases q1 : vk < 0
      · go_wp2
        go_quiet (fail)
        go_wp2
        go_ret
        exact ⟨rfl, ⟨hb.os, hb.tape, hb.output, hb.size, hb.block⟩⟩
      have q1' : decide (vk < 0) = false := decide_eq_false q1
      by_cases q2 : ek < vk
      · go_wp2
        go_quiet (fail)
        go_wp2
        go_ret
        exact ⟨rfl, ⟨hb.os, hb.tape, hb.output, hb.size, hb.block⟩⟩
      have q2' : decide (ek < vk) = false := decide_eq_false q2
      by_cases q3 : (nl : Int) < ek
      · go_wp2
        go_quiet (fail)
        go_wp2
        go_ret
        exact ⟨rfl, ⟨hb.os, hb.tape, hb.output, hb.size, hb.block⟩⟩
      have q3' : decide ((nl : Int) < ek) = false := decide_eq_false q3
      go_wp2
      go_quiet (fail)
      go_wp2
      go_roundw
      case rel => exact ⟨k + 1, by omega, by go_num, fun i hi hp => by
          by_cases e : i = k
          · subst e; rw [HVK.out, HEK.out]; omega
          · exact HK.out i (by omega) hp, ⟨hb.os, hb.tape, hb.output, hb.size, hb.block⟩⟩
      case measure => simp [intOf]; omega
    · have e0 : k = n := by omega
      subst e0
      obtain ⟨y1, y2, y3, y4, y5⟩ := Z.out
      have HB : Hid (Below w.heap.size w wr) := hb
      go_wp2_with fail
      refine (cloneBytes_any la nl cl L wr y1 (by omega) (R1.out.later hb)).mono ?_
      rintro e w1 ⟨⟨a1, rfl, o1⟩, b1⟩
      have hb1 : Below w.heap.size w w1 := hb.trans (b1.mono hb.size)
      go_wp2_with fail
      refine (cloneInts_any va k cv V w1 y2 (by omega) (R2.out.later hb1)).mono ?_
      rintro e w2 ⟨⟨a2, rfl, o2⟩, b2⟩
      have hb2 : Below w.heap.size w w2 := hb1.trans (b2.mono hb1.size)
      go_wp2_with fail
      refine (cloneInts_any ea k ce E w2 y3 (by omega) (R3.out.later hb2)).mono ?_
      rintro e w3 ⟨⟨a3, rfl, o3⟩, b3⟩
      have hb3 : Below w.heap.size w w3 := hb2.trans (b3.mono hb2.size)
      go_wp2_with fail
      refine (cloneBools_any ba k cb P w3 y4 (by omega) (R4.out.later hb3)).mono ?_
      rintro e w4 ⟨⟨a4, rfl, o4⟩, b4⟩
      have hb4 : Below w.heap.size w w4 := hb3.trans (b4.mono hb3.size)
      go_wp2_with fail
      refine (cloneWords_any pa np cp D w4 y5 (by omega) (R5.out.later hb4)).mono ?_
      rintro e w5 ⟨⟨a5, rfl, o5⟩, b5⟩
      have O2 : Row w4 a2 k (fun i => .int .i64 (V i)) := (Row.ofOwn (own_below (own_below o2 b3) b4))
      have O3 : Row w4 a3 k (fun i => .int .i64 (E i)) := (Row.ofOwn (own_below o3 b4))
      have O4 : Row w4 a4 k (fun i => .bool (P i)) := (Row.ofOwn o4)
      have O5 : Hid (w5.ownsRow w4.heap.size 38 1 (.slice a5 np np) np (vrow (fun i => .int .u64 (D i)) np)) := o5
      obtain ⟨W, hW⟩ : ∃ W : Nat, (nl : Int) / 8 + 1 = W := ⟨nl / 8 + 1, by omega⟩
      have HO2 : Hid (Row w4 a2 k (fun i => .int .i64 (V i))) := O2
      have HO3 : Hid (Row w4 a3 k (fun i => .int .i64 (E i))) := O3
      have HO4 : Hid (Row w4 a4 k (fun i => .bool (P i))) := O4
      have HB4 : Hid (Below w.heap.size w w4) := hb4
      have HB5 : Hid (Below w4.heap.size w4 w5) := b5
      clear O2 O3 O4 o1 o2 o3 o4 o5 b1 b2 b3 b4 b5 hb hb1 hb2 hb3 hb4 y1 y2 y3 y4 y5
      go_wp2_with fail
      refine (zzknow_any a1 nl nl a2 k a3 k a4 k a5 np _ k V E P w4.heap.size W w5 (HO2.out.later HB5.out) (HO3.out.later HB5.out) (HO4.out.later HB5.out) O5.out HB5.out.size hW h1 (by omega) (by omega) HK.out).mono ?_
      rintro e w6 ⟨⟨g, cap, X, rfl, ko, kw⟩, kb⟩
      have KO : Hid (w6.ownsRow w4.heap.size 38 1 (.slice (some ⟨g, 0, none⟩) W cap) W (vrow (fun j => .int .u64 (X j)) W)) := ko
      have KW : Hid (WOK (cov V E P k) X W) := kw
      have HB6 : Hid (Below w4.heap.size w4 w6) := HB5.out.trans kb
      clear ko kw kb
      obtain ⟨C, hC⟩ : ∃ C : Nat, (8 : Int) * W + 1 = C := ⟨8 * W + 1, by omega⟩
      have hWb : W ≤ 131073 := by omega
      have hCb : C ≤ 1048585 := by omega
      have hW0 : ((W : Int) != W) = false := by simp
      obtain ⟨i0, hi, hz0, hz1, hz2⟩ := info_parts Try.info3
      go_wp2_with (at_make; refine wpList_make_full _ rfl _ _ 28 rfl w6.heap.size 3 i0 _ 1 Try.underlying28 hi hz0 hz1 _ _ _ _ C rfl rfl (by first | exact hC | rfl) (by first | exact hC | rfl) (by rw [hz2]; omega) (by unfold maxLen; omega) (Nat.le_refl _) ?_; intro w7 hown7 hgrow7)
      have HO7 : Hid (w7.ownsRow w6.heap.size 3 1 (.slice (some ⟨w6.heap.size, 0, none⟩) C C) C (vrow (fun j => .int .i64 (cvr V E P 0 j)) C)) := by
        show World.ownsRow _ _ _ _ _ _ _
        have e : vrow (fun j => Value.int .i64 (cvr V E P 0 j)) C = (madeCells (Value.int .i64 0).cells (C * 1)).toList := by
          simp [vrow, cvr, Value.cells, toList_madeCells_one, List.map_const']
        rw [e]; exact hown7
      have HB7 : Hid (Below w6.heap.size w6 w7) := (Below.refl _ _).grown hgrow7 (Nat.le_refl _) (fun k h => by cases h)
      clear hown7 hgrow7
      go_loopw [16] (fun i wr => ∃ m : Nat, m ≤ k ∧ i = .int .i64 m ∧ wr.ownsRow w6.heap.size 3 1 (.slice (some ⟨w6.heap.size, 0, none⟩) C C) C (vrow (fun j => .int .i64 (cvr V E P m j)) C) ∧ Below w6.heap.size w6 wr) (fun i _ => k - (intOf i).toNat)
      case atStart => exact ⟨0, Nat.zero_le _, rfl, HO7.out, HB7.out⟩
      case round =>
        clear HO7 HB7
        obtain ⟨m, hm, rfl, dow, hb⟩ := hrel
        have DO : Hid (wr.ownsRow w6.heap.size 3 1 (.slice (some ⟨w6.heap.size, 0, none⟩) C C) C (vrow (fun j => .int .i64 (cvr V E P m j)) C)) := dow
        clear dow
        by_cases hlt : m < k
        · obtain ⟨vb, vo, rfl, hvc⟩ := (HO2.out.later HB6.out) (by omega)
          obtain ⟨eb, eo, rfl, hec⟩ := (HO3.out.later HB6.out) (by omega)
          obtain ⟨bb, bo, rfl, hbc⟩ := (HO4.out.later HB6.out) (by omega)
          have v1 : wr.cell? ⟨vb, vo + m, none⟩ = some (.int .i64 (V m)) := cell_later hb (hvc m hlt)
          have v2 : wr.cell? ⟨eb, eo + m, none⟩ = some (.int .i64 (E m)) := cell_later hb (hec m hlt)
          have v3 : wr.cell? ⟨bb, bo + m, none⟩ = some (.bool (P m)) := cell_later hb (hbc m hlt)
          have n1 : vb ≠ w6.heap.size := Nat.ne_of_lt (World.block_lt_of_cell? _ _ (hvc m hlt))
          have n2 : eb ≠ w6.heap.size := Nat.ne_of_lt (World.block_lt_of_cell? _ _ (hec m hlt))
          have n3 : bb ≠ w6.heap.size := Nat.ne_of_lt (World.block_lt_of_cell? _ _ (hbc m hlt))
          have hlti : (m : Int) < (k : Int) := by omega
          clear hvc hec hbc
          by_cases hact : act V E P m = true
          · have ha := hact
            unfold act at ha
            rw [Bool.and_eq_true, decide_eq_true_eq] at ha
            obtain ⟨ha1, ha2⟩ := ha
            obtain ⟨t1, t2, t3⟩ := HK.out m hlt ha1
            obtain ⟨A, hA⟩ : ∃ A : Nat, V m + 1 = A := ⟨(V m + 1).toNat, by omega⟩
            obtain ⟨F, hF⟩ : ∃ F : Nat, E m - 1 = F := ⟨(E m - 1).toNat, by omega⟩
            have hAC : A < C := by omega
            have hFC : F < C := by omega
            have hAF : A ≠ F := by omega
            have hFA : F ≠ A := by omega
            have hafi : (A : Int) < (F : Int) := by omega
            have hACi : (A : Int) < (C : Int) := by omega
            have hFCi : (F : Int) < (C : Int) := by omega
            have cA := vrow_cell DO.out A hAC
            have cF := vrow_cell DO.out F hFC
            have fA := DO.out.frozenAt A
            have fF := DO.out.frozenAt F
            have bA := cvr_bound V E P m A
            have bF := cvr_bound V E P m F
            obtain ⟨ca, hca⟩ : ∃ ca, cvr V E P m A = ca := ⟨_, rfl⟩
            obtain ⟨cf, hcf⟩ : ∃ cf, cvr V E P m F = cf := ⟨_, rfl⟩
            rw [hca] at cA bA
            rw [hcf] at cF bF
            have HCA : Hid (cvr V E P m A = ca) := hca
            have HCF : Hid (cvr V E P m F = cf) := hcf
            have HAC : Hid (act V E P m = true) := hact
            have HA : Hid (V m + 1 = A) := hA
            have HF : Hid (E m - 1 = F) := hF
            have bA1 : -131072 ≤ ca := by omega
            have bA2 : ca ≤ 131072 := by omega
            have bF1 : -131072 ≤ cf := by omega
            have bF2 : cf ≤ 131072 := by omega
            obtain ⟨vm, hvm⟩ : ∃ vm, V m = vm := ⟨_, rfl⟩
            obtain ⟨em, hem⟩ : ∃ em, E m = em := ⟨_, rfl⟩
            rw [hvm] at v1 hA t1 t2
            rw [hem] at v2 hF t2 t3
            rw [ha1] at v3
            clear hca hcf hact ha1 ha2 hvm hem bA bF
            go_wp2
            go_quiet (fail)
            go_wp2
            go_roundw
            case rel =>
              refine ⟨m + 1, by omega, by go_num, ?_, ?_⟩
              · have := ((DO.out.stored A (.int .i64 (ca + 1))).1.stored F (.int .i64 (cf - 1))).1
                rw [vrow_set, vrow_set, vrow_ext (Y := fun j => .int .i64 (cvr V E P (m + 1) j))] at this
                · exact this
                · intro j _
                  have h1 := HA.out
                  have h2 := HF.out
                  show upd (upd _ A _) F _ j = Value.int .i64 (cvr V E P (m + 1) j)
                  rw [cvr, if_pos HAC.out, h1, h2]
                  unfold upd
                  by_cases e1 : j = F
                  · subst e1
                    rw [if_pos rfl, if_neg (by omega), if_pos rfl, HCF.out]
                    congr 1
                  · rw [if_neg e1]
                    by_cases e2 : j = A
                    · subst e2
                      rw [if_pos rfl, if_pos rfl, if_neg (by omega), HCA.out]
                      congr 1
                    · rw [if_neg e2, if_neg (by omega), if_neg (by omega), Int.sub_zero, Int.add_zero]
              · exact ⟨hb.os, hb.tape, hb.output, by simpa using hb.size, ((hb.setCell (p := ⟨w6.heap.size, A, none⟩) (Nat.le_refl _) (.int .i64 (ca + 1))).setCell (p := ⟨w6.heap.size, F, none⟩) (Nat.le_refl _) (.int .i64 (cf - 1))).block⟩
            case measure => simp [intOf]; omega
          · have HNX : Hid (wr.ownsRow w6.heap.size 3 1 (.slice (some ⟨w6.heap.size, 0, none⟩) C C) C (vrow (fun j => .int .i64 (cvr V E P (m + 1) j)) C)) := by
              have := DO.out
              rw [vrow_ext (Y := fun j => .int .i64 (cvr V E P (m + 1) j))] at this
              · exact this
              · intro j _
                show Value.int .i64 (cvr V E P m j) = .int .i64 (cvr V E P (m + 1) j)
                rw [cvr, if_neg hact, Int.add_zero]
            cases hpm : P m
            · rw [hpm] at v3
              clear hact
              go_wp2
              go_quiet (fail)
              go_wp2
              go_roundw
              case rel => exact ⟨m + 1, by omega, by go_num, HNX.out, ⟨hb.os, hb.tape, hb.output, hb.size, hb.block⟩⟩
              case measure => simp [intOf]; omega
            · obtain ⟨t1, t2, t3⟩ := HK.out m hlt hpm
              have hna : ¬ (V m + 1 < E m - 1) := fun h => hact (by unfold act; rw [hpm, decide_eq_true h]; rfl)
              have hnd : decide (V m + 1 < E m - 1) = false := decide_eq_false hna
              obtain ⟨vm, hvm⟩ : ∃ vm, V m = vm := ⟨_, rfl⟩
              obtain ⟨em, hem⟩ : ∃ em, E m = em := ⟨_, rfl⟩
              rw [hvm] at v1 t1 t2 hna hnd
              rw [hem] at v2 t2 t3 hna hnd
              rw [hpm] at v3
              clear hact hpm hvm hem
              go_wp2
              go_quiet (fail)
              go_wp2
              go_roundw
              case rel => exact ⟨m + 1, by omega, by go_num, HNX.out, ⟨hb.os, hb.tape, hb.output, hb.size, hb.block⟩⟩
              case measure => simp [intOf]; omega
        · have e0 : m = k := by omega
          subst e0
          obtain ⟨i8, hi8, hy0, hy1, hy2⟩ := info_parts Try.info38
          obtain ⟨wx, hwx⟩ : ∃ wx, wx = wr := ⟨_, rfl⟩
          subst hwx
          have HX : Hid (Below w6.heap.size w6 wx) := hb
          go_wp2_with (at_make; refine wpList_make_full _ rfl _ _ 30 rfl wx.heap.size 38 i8 _ 1 Try.underlying30 hi8 hy0 hy1 _ _ _ _ W rfl rfl rfl rfl (by rw [hy2]; omega) (by unfold maxLen; omega) (Nat.le_refl _) ?_; intro w8 hown8 hgrow8)
          have HO8 : Hid (w8.ownsRow wx.heap.size 38 1 (.slice (some ⟨wx.heap.size, 0, none⟩) W W) W (vrow (fun j => .int .u64 ((fun _ => 0 : Nat → Nat) j)) W)) := by
            show World.ownsRow _ _ _ _ _ _ _
            have e : vrow (fun j => Value.int .u64 (((fun _ => 0 : Nat → Nat) j : Nat) : Int)) W = (madeCells (Value.int .u64 0).cells (W * 1)).toList := by
              simp [vrow, Value.cells, toList_madeCells_one, List.map_const']
            rw [e]; exact hown8
          have HB8 : Hid (Below wx.heap.size wx w8) := (Below.refl _ _).grown hgrow8 (Nat.le_refl _) (fun k h => by cases h)
          clear hown8 hgrow8 hb
          have h8W : (8 : Int) * W ≤ 1048584 := by omega
          have HV0 : Hid (∀ i, i < m → P i = true → 0 ≤ V i) := fun i hi hp => (HK.out i hi hp).1
          go_loopw [18, 19] (fun d i wr => ∃ (b : Nat) (Z : Nat → Nat), b ≤ 8 * W ∧ i = .int .i64 b ∧ d = .int .i64 (dsum (cvr V E P m) b) ∧ wr.ownsRow wx.heap.size 38 1 (.slice (some ⟨wx.heap.size, 0, none⟩) W W) W (vrow (fun j => .int .u64 (Z j)) W) ∧ WOK (fun c => decide (c < b) && cov V E P m c) Z W ∧ Below wx.heap.size wx wr) (fun _ i _ => 8 * W - (intOf i).toNat)
          case atStart => exact ⟨0, fun _ => 0, Nat.zero_le _, rfl, rfl, HO8.out, (WOK.zero W).ext (fun c _ => by simp), HB8.out⟩
          case round =>
            clear HO8 HB8
            obtain ⟨b, Y, hbW, rfl, rfl, dow, dwo, hb⟩ := hrel
            have YO : Hid (wr.ownsRow wx.heap.size 38 1 (.slice (some ⟨wx.heap.size, 0, none⟩) W W) W (vrow (fun j => .int .u64 (Y j)) W)) := dow
            have YW : Hid (WOK (fun c => decide (c < b) && cov V E P m c) Y W) := dwo
            clear dow dwo
            have db := dsum_bound V E P m HV0.out b
            obtain ⟨dd, hdd⟩ : ∃ dd, dsum (cvr V E P m) b = dd := ⟨_, rfl⟩
            by_cases hlt : b < 8 * W
            · have hbi : (b : Int) < 8 * (W : Int) := by omega
              have hbC : b < C := by omega
              have hbCi : (b : Int) < (C : Int) := by omega
              have cb := cell_later hb (vrow_cell DO.out b hbC)
              have bb1 := cvr_bound V E P m b
              have hs1 := dsum_cvr V E P m HV0.out b
              have hs2 := cnt_cov V E P m b
              have hs3 := cnt_le V E P m b
              have hs4 : dsum (cvr V E P m) (b + 1) = dsum (cvr V E P m) b + cvr V E P m b := rfl
              rw [hdd] at db hs4
              rw [hs1] at hs4
              obtain ⟨cc, hcc⟩ : ∃ cc, cvr V E P m b = cc := ⟨_, rfl⟩
              obtain ⟨cn, hcn⟩ : ∃ cn, cnt V E P m b = cn := ⟨_, rfl⟩
              rw [hcc] at cb bb1 hs4
              rw [hcn] at hs1 hs2 hs3 hs4
              rw [hdd]
              have HS1 : Hid (dsum (cvr V E P m) (b + 1) = cn) := hs1
              have HS2 : Hid (decide (0 < cn) = cov V E P m b) := hs2
              have hsum : dd + cc = cn := by omega
              clear hs1 hs2 hcc hcn hdd hs4
              by_cases hpos : 0 < cn
              · obtain ⟨J, hJ⟩ : ∃ J : Nat, J = b / 8 := ⟨_, rfl⟩
                obtain ⟨R, hR⟩ : ∃ R : Nat, R = b % 8 := ⟨_, rfl⟩
                have hJi : (b : Int) / 8 = J := by omega
                have hRi : (b : Int) % 8 = R := by omega
                have hJW : J < W := by omega
                have hJWi : (J : Int) < (W : Int) := by omega
                have hcell := vrow_cell YO.out J hJW
                have hfz := YO.out.frozenAt J
                have hR8 : (R : Int) < 8 := by omega
                have HJ : Hid (J = b / 8) := hJ
                have HR : Hid (R = b % 8) := hR
                have hposi : (0 : Int) < dd + cc := by omega
                clear hJ hR
                go_wp2
                have hR8' : R < 8 := by omega
                rw [bit_wrap hR8', u64_or_nat _ _ (YW.out J hJW).1 (bit_lt hR8')]
                go_roundw
                case rel =>
                  refine ⟨b + 1, upd Y J (Y J ||| 2 ^ (8 * R + 7)), by omega, by go_num, by rw [HS1.out], ?_, YW.out.setb HJ.out HR.out hJW HS2.out hpos, hb.setCell (Nat.le_refl _) _⟩
                  have := (YO.out.stored J (.int .u64 ((Y J ||| 2 ^ (8 * R + 7) : Nat) : Int))).1
                  rw [vrow_set, vrow_ext (Y := fun j => .int .u64 ((upd Y J (Y J ||| 2 ^ (8 * R + 7)) j : Nat) : Int))] at this
                  · exact this
                  · intro j _
                    unfold upd
                    by_cases e : j = J
                    · rw [if_pos e, if_pos e]
                    · rw [if_neg e, if_neg e]
                case measure => simp [intOf]; omega
              · have hposi : ¬ (0 : Int) < dd + cc := by omega
                go_wp2
                go_roundw
                case rel => exact ⟨b + 1, Y, by omega, by go_num, by rw [HS1.out], YO.out, YW.out.skipb HS2.out hpos, hb⟩
                case measure => simp [intOf]; omega
            · have e0 : b = 8 * W := by omega
              have YF : Hid (WOK (cov V E P m) Y W) := YW.out.ext (fun c hc => by rw [decide_eq_true (show c < b by omega)]; rfl)
              obtain ⟨wy, hwy⟩ : ∃ wy, wy = wr := ⟨_, rfl⟩
              subst hwy
              have HY : Hid (Below wx.heap.size wx wy) := hb
              clear hb db hdd
              go_wp2
              go_loopw [20] (fun i wr => ∃ j : Nat, j ≤ W ∧ i = .int .i64 j ∧ Below wy.heap.size wy wr) (fun i _ => W - (intOf i).toNat)
              case atStart => exact ⟨0, Nat.zero_le _, rfl, Below.refl _ _⟩
              case round =>
                obtain ⟨j, hj, rfl, hb⟩ := hrel
                by_cases hlt : j < W
                · have hji : (j : Int) < (W : Int) := by omega
                  have g1 := cell_later hb (cell_later HY.out (cell_later HX.out (vrow_cell KO.out j hlt)))
                  have g2 := cell_later hb (vrow_cell YO.out j hlt)
                  have hs := KW.out.same YF.out j hlt
                  rw [hs] at g1
                  obtain ⟨y, hy⟩ : ∃ y : Nat, Y j = y := ⟨_, rfl⟩
                  rw [hy] at g1 g2
                  clear hs hy
                  go_wp2
                  go_quiet (fail)
                  go_wp2
                  go_roundw
                  case rel => exact ⟨j + 1, by omega, by go_num, ⟨hb.os, hb.tape, hb.output, hb.size, hb.block⟩⟩
                  case measure => simp [intOf]; omega
                · go_wp2
                  go_ret
                  refine ⟨rfl, ?_⟩
                  have q6 : Below w.heap.size w w6 := HB4.out.trans (HB6.out.mono HB4.out.size)
                  have qx : Below w.heap.size w wx := q6.trans (HX.out.mono q6.size)
                  have qy : Below w.heap.size w wy := qx.trans (HY.out.mono qx.size)
                  exact qy.trans (hb.mono qy.size)
end Go.Proofs.Qxb6605343a
