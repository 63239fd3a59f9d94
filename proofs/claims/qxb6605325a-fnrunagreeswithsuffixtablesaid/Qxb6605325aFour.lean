import Derived.Test.Qxb6605325aAcc
namespace Go.Proofs.Qxb6605325a
open Go.RowKit
set_option linter.unusedVariables false

/-- The last hard token among the first k; -1 where there is none. -/
def lastH (S : Nat → ByteArray) (W : Nat → Int) : Nat → Int
  | 0 => -1
  | k + 1 => if hardB (S k) (W k) = true then k else lastH S W k
def wantB (f : Nat → Int) (last : Int) (l : Nat) : Bool := (List.range l).any (fun j => decide (last < f j))
theorem wantB_true {f : Nat → Int} {last : Int} {l : Nat} : wantB f last l = true ↔ ∃ j, j < l ∧ last < f j := by
  simp [wantB]

theorem lastH_bd (S : Nat → ByteArray) (W : Nat → Int) (k : Nat) : -1 ≤ lastH S W k ∧ lastH S W k < k := by
  induction k with
  | zero => simp [lastH]
  | succ k ih => simp only [lastH]; split <;> omega

theorem lastH_spec (S : Nat → ByteArray) (W : Nat → Int) (k : Nat) : (∀ j : Nat, lastH S W k < j → j < k → hardB (S j) (W j) = false) ∧ (∀ j : Nat, lastH S W k = j → j < k ∧ hardB (S j) (W j) = true) := by
  induction k with
  | zero => exact ⟨fun j _ h => by omega, fun j h => by simp [lastH] at h⟩
  | succ k ih =>
    simp only [lastH]
    split
    · rename_i hh
      exact ⟨fun j h1 h2 => by omega, fun j h => by
        obtain rfl : k = j := by omega
        exact ⟨by omega, hh⟩⟩
    · rename_i hh
      refine ⟨fun j h1 h2 => ?_, fun j h => ?_⟩
      · by_cases e : j = k
        · subst e; simpa using hh
        · exact ih.1 j h1 (by omega)
      · have := ih.2 j h; exact ⟨by omega, this.2⟩

theorem past_last (S : Nat → ByteArray) (W : Nat → Int) (n i : Nat) (hi : i ≤ n) : past S W n i = decide (lastH S W n < i) := by
  have sp := lastH_spec S W n
  have bd := lastH_bd S W n
  rw [Bool.eq_iff_iff, decide_eq_true_iff]
  unfold past
  rw [Bool.not_eq_true', ← Bool.not_eq_true, anyB_true]
  constructor
  · intro h
    by_cases c : lastH S W n < i
    · exact c
    · exfalso; apply h
      obtain ⟨j, hj⟩ : ∃ j : Nat, lastH S W n = j := ⟨(lastH S W n).toNat, by omega⟩
      have := sp.2 j hj
      exact ⟨j - i, by omega, by rw [show i + (j - i) = j by omega]; exact this.2⟩
  · rintro h ⟨j, hj, hh⟩
    rw [sp.1 (i + j) (by omega) (by omega)] at hh; cases hh

theorem acc_want (S : Nat → ByteArray) (W : Nat → Int) (n l : Nat) (f : Nat → Int) (h : ∀ k, k < l → 0 ≤ f k ∧ f k ≤ n) : accB S W n (fun k => (f k).toNat) l = wantB f (lastH S W n) l := by
  rw [Bool.eq_iff_iff, accB_true, wantB_true]
  constructor
  · rintro ⟨k, hk, hp⟩
    have := h k hk
    rw [past_last S W n _ (by omega), decide_eq_true_iff] at hp
    exact ⟨k, hk, by omega⟩
  · rintro ⟨k, hk, hp⟩
    have := h k hk
    exact ⟨k, hk, by rw [past_last S W n _ (by omega), decide_eq_true_iff]; omega⟩

/-- A slice of ints. -/
def Ints (w : World) (a : Option Addr) (len : Nat) (f : Nat → Int) : Prop :=
  0 < len → ∃ b off, a = some ⟨b, off, none⟩ ∧ ∀ i, i < len → w.cell? ⟨b, off + i, none⟩ = some (.int .i64 (f i))
theorem Ints.later {w w' : World} {a : Option Addr} {len : Nat} {f : Nat → Int} (h : Ints w a len f) (hb : Below w.heap.size w w') : Ints w' a len f := fun h0 => by
  obtain ⟨b, off, e, hc⟩ := h h0
  exact ⟨b, off, e, fun i hi => cell_later hb (hc i hi)⟩
theorem Ints.ats {w : World} {a : Option Addr} {len : Nat} {f : Nat → Int} (h : Ints w a len f) (hf : ∀ k, k < len → 0 ≤ f k) : Ats w a len (fun k => (f k).toNat) := fun h0 => by
  obtain ⟨b, off, e, hc⟩ := h h0
  refine ⟨b, off, e, fun i hi => ?_⟩
  rw [show (((f i).toNat : Nat) : Int) = f i by have := hf i hi; omega]
  exact hc i hi

theorem Try.info3 : (Try.prog.info? 3).map (fun i => (i.zero, i.size, i.bytes)) = some (some (.int .i64 0), 1, 8) := by kernel_rfl
theorem Try.size3 : (Try.prog.info? 3).map (·.size) = some 1 := by kernel_rfl

set_option maxRecDepth 20000 in
set_option maxHeartbeats 1000000 in
theorem four_early (ta : Option Addr) (n cap : Nat) (S : Nat → ByteArray) (W : Nat → Int) (x : Option Addr) (l c : Nat) (w : World) (h : Toks w ta n cap S W) (hn : n ≤ maxLen) (hl : l ≤ maxLen) (hb : 4096 < n ∨ 4096 < l) :
    Calls Try.prog 4 #[.slice ta n cap, .slice x l c] w fun e w' => e = .returned (.bool true) ∧ Below w.heap.size w w' := by
  have HB : Hid (_) := bytes12_any ta n cap S W x l c w h hn hl
  unfold maxLen at hn hl
  rcases (show 4096 < n ∨ (n ≤ 4096 ∧ 4096 < l) by omega) with h1 | ⟨h1, h2⟩
  all_goals
    clear hb
    go_enter Try.func4, Try.ntmps4
    go_wp2_with fail
    refine Calls.mono HB.out ?_
    rintro e w' ⟨⟨b, rfl⟩, rfl⟩
    cases b
    · go_wp2
      go_ret
      exact ⟨rfl, Below.refl _ _⟩
    · go_wp2
      go_ret
      exact ⟨rfl, Below.refl _ _⟩

/-- The row of numbers that 'copy' lays. -/
def rowOf (f : Nat → Int) (l : Nat) : List Value := (List.range l).map (fun i => .int .i64 (f i))
theorem rowOf_len (f : Nat → Int) (l : Nat) : (rowOf f l).length = l := by simp [rowOf]
theorem rowOf_get {f : Nat → Int} {l j : Nat} {v : Value} (h : (rowOf f l)[j]? = some v) : j < l ∧ v = .int .i64 (f j) := by
  unfold rowOf at h
  rw [List.getElem?_map] at h
  by_cases c : j < l
  · rw [List.getElem?_range c] at h
    simp at h
    exact ⟨c, h.symm⟩
  · rw [List.getElem?_eq_none (by simpa using c)] at h; cases h
theorem rowOf_one (f : Nat → Int) (l : Nat) : ∀ v ∈ rowOf f l, v.oneCell' = true := by
  intro v hv
  unfold rowOf at hv
  simp at hv
  obtain ⟨i, _, rfl⟩ := hv
  rfl

theorem ints_of_row {w : World} {g l : Nat} {f : Nat → Int} {cur : List Value} (hc : cur.length = l) (h : w.heap[g]? = some (.cells (splice cur 0 (rowOf f l)).toArray 3 (0, 0))) (hl : l ≤ 4096) : Ints w (some ⟨g, 0, none⟩) l f := by
  have e : splice cur 0 (rowOf f l) = rowOf f l := by
    unfold splice
    rw [List.take_zero, List.nil_append, rowOf_len, List.drop_eq_nil_of_le (by omega), List.append_nil]
  rw [e] at h
  have ho : w.ownsRow g 3 1 (.slice (some ⟨g, 0, none⟩) l l) l (rowOf f l) := by
    refine ⟨by rw [rowOf_len]; omega, .inr ⟨g, l, (rowOf f l).toArray, rfl, Nat.le_refl _, h, Nat.le_refl _, by unfold maxLen; omega, by simp [rowOf_len], by simpa using List.take_of_length_le (by rw [rowOf_len]; omega)⟩⟩
  intro h0
  refine ⟨g, 0, rfl, fun i hi => ?_⟩
  rw [Nat.zero_add, ho.cellAt i (by omega)]
  unfold rowOf
  rw [List.getElem?_map, List.getElem?_range hi]; rfl

theorem copy_in (w w1 : World) (ad : Addr) (l c : Nat) (f : Nat → Int) (hl : l ≤ 4096) (hb1 : Below w.heap.size w w1) (hi : Ints w1 (some ad) l f)
    (hown : w1.ownsRow w.heap.size 3 1 (.slice (some ⟨w.heap.size, 0, none⟩) l l) l (madeCells (Value.int .i64 0).cells (l * 1)).toList) :
    ∃ w2, (Builtin.copy_ #[26, 26] 3 #[.slice (some ⟨w.heap.size, 0, none⟩) l l, .slice (some ad) l c]).run Try.prog w1 = .ok (goInt l) w2 ∧ Ints w2 (some ⟨w.heap.size, 0, none⟩) l f ∧ Below w.heap.size w w2 := by
  obtain ⟨cur, hcl, hg⟩ : ∃ cur : Array Value, cur.size = l ∧ w1.heap[w.heap.size]? = some (.cells cur 3 (0, 0)) := by
    rcases hown.2 with ⟨e, _⟩ | ⟨g, cp, cur, e, _, hh, _, _, hsz, _⟩
    · cases e
    · simp at e
      obtain ⟨rfl, rfl⟩ := e
      exact ⟨cur, by simpa using hsz, hh⟩
  have hsrc : ∀ j v, (rowOf f l)[j]? = some v → w1.cell? (ad.add j) = some v := by
    intro j v hv
    obtain ⟨hj, rfl⟩ := rowOf_get hv
    obtain ⟨b, off, e, hc⟩ := hi (by omega)
    obtain rfl : ad = ⟨b, off, none⟩ := by simpa using e
    rw [Go.WideShapes.add_plain]
    exact hc j hj
  have hrun := run_copy_row (P := Try.prog) w1 26 26 3 3 w.heap.size 0 l l ad l c cur 3 (rowOf f l) Try.underlying26 Try.size3 hg (by rw [rowOf_len]; simp) hsrc (by rw [rowOf_len]; omega) (rowOf_one f l)
  rw [rowOf_len] at hrun
  refine ⟨_, hrun, ?_, below_setRow hb1 (Nat.le_refl _) _⟩
  refine ints_of_row (cur := cur.toList) (by simpa using hcl) ?_ hl
  have := setRow_heap w1 w.heap.size _ (List.take 0 cur.toList ++ rowOf f l ++ List.drop (0 + l) cur.toList).toArray 3 _ hg
  unfold splice
  rw [rowOf_len, ← List.append_assoc]
  exact this

set_option maxRecDepth 20000 in
set_option maxHeartbeats 2000000 in
theorem four_main (ta : Option Addr) (n cap : Nat) (S : Nat → ByteArray) (W : Nat → Int) (x : Option Addr) (l c : Nat) (f : Nat → Int) (w : World) (h : Toks w ta n cap S W) (hn : n ≤ 4096) (hl : l ≤ 4096) (hi : Ints w x l f) (hx : x = none → l = 0 ∧ c = 0) :
    Calls Try.prog 4 #[.slice ta n cap, .slice x l c] w fun e w' => e = .returned (.bool true) ∧ Below w.heap.size w w' := by
  have HB : Hid (_) := bytes12_any ta n cap S W x l c w h (by unfold maxLen; omega) (by unfold maxLen; omega)
  have HT : Hid (_) := h
  have HI : Hid (_) := hi
  clear h hi
  obtain ⟨i0, hi0, hz0, hz1, hz2⟩ := info_parts Try.info3
  rcases x with _ | ad
  · obtain ⟨rfl, rfl⟩ := hx rfl
    have hnil := fun w => run_neq_slice_nil_any (P := Try.prog) w 26 3 none 0 0 0 0 Try.underlying26
    go_enter Try.func4, Try.ntmps4
    go_wp2_with fail
    refine Calls.mono HB.out ?_
    rintro e w' ⟨⟨b, rfl⟩, rfl⟩
    cases b
    · go_wp2
      go_ret
      exact ⟨rfl, Below.refl _ _⟩
    go_wp2_with fail
    refine (tokBytes_any _ _ _ S W _ HT.out hn).mono ?_
    rintro e w' ⟨m, rfl, hm0, hm1, rfl⟩
    by_cases hbig : 1048576 < m
    · go_wp2
      go_ret
      exact ⟨rfl, Below.refl _ _⟩
    go_wp2
    go_loop [7] (fun i => i = .int .i64 0) (fun _ => 0)
    case atStart => rfl
    case round =>
      subst hrel
      go_wp2
      go_loopw [8, 9] (fun la i wr => ∃ k : Nat, k ≤ n ∧ i = .int .i64 k ∧ la = .int .i64 (lastH S W k) ∧ Below w.heap.size w wr) (fun _ i _ => n - (intOf i).toNat)
      case atStart => exact ⟨0, Nat.zero_le _, rfl, rfl, Below.refl _ _⟩
      case round =>
        obtain ⟨k, hk, rfl, rfl, hb⟩ := hrel
        by_cases hlt : k < n
        · obtain ⟨b, off, rfl, hcc⟩ := (Toks.later HT.out hb).2 (by omega)
          have hcx := (hcc k hlt).1
          have hcy := (hcc k hlt).2
          clear hcc
          obtain ⟨t, ht⟩ : ∃ t, hardB (S k) (W k) = t := ⟨_, rfl⟩
          have HL : Hid (lastH S W (k + 1) = if t = true then (k : Int) else lastH S W k) := by show _ = _; rw [lastH, ht]
          cases t
          · go_wp2_with (go_at_call 13; refine (hard_any _ _ _).mono ?_; rintro e w1 ⟨rfl, hb1⟩)
            go_roundw
            case rel => exact ⟨k + 1, by omega, by go_num, by rw [HL.out]; rfl, hb.trans (hb1.mono hb.size)⟩
            case measure => simp [intOf]; omega
          · go_wp2_with (go_at_call 13; refine (hard_any _ _ _).mono ?_; rintro e w1 ⟨rfl, hb1⟩)
            go_roundw
            case rel => exact ⟨k + 1, by omega, by go_num, by rw [HL.out]; rfl, hb.trans (hb1.mono hb.size)⟩
            case measure => simp [intOf]; omega
        · have e : k = n := by omega
          subst e
          go_wp2
          go_loop [10, 11] (fun wa i => i = .int .i64 0 ∧ wa = .bool false) (fun _ _ => 0)
          case atStart => exact ⟨rfl, rfl⟩
          case round =>
            obtain ⟨rfl, rfl⟩ := hrel
            go_wp2_with fail
            refine (toZZ_any _ _ _ S W _ (Toks.later HT.out hb) hn).mono ?_
            rintro e w3 ⟨a', c', rfl, ht3, hb3⟩
            go_wp2_with fail
            refine (zzaccepts_any _ _ _ S W none 0 0 (fun _ => 0) _ ht3 hn (fun h => by omega) (by omega) (fun k h => by omega)).mono ?_
            rintro e w4 ⟨rfl, hb4⟩
            go_wp2
            go_ret
            exact ⟨ret_bool (by simp [accB]), (hb.trans (hb3.mono hb.size)).trans (hb4.mono (Nat.le_trans hb.size hb3.size))⟩
  · have hnil := fun w => run_neq_slice_nil_any (P := Try.prog) w 26 3 (some ad) l c 0 0 Try.underlying26
    go_enter Try.func4, Try.ntmps4
    go_wp2_with fail
    refine Calls.mono HB.out ?_
    rintro e w' ⟨⟨b, rfl⟩, rfl⟩
    cases b
    · go_wp2
      go_ret
      exact ⟨rfl, Below.refl _ _⟩
    go_wp2_with fail
    refine (tokBytes_any _ _ _ S W _ HT.out hn).mono ?_
    rintro e w' ⟨m, rfl, hm0, hm1, rfl⟩
    by_cases hbig : 1048576 < m + 8 * l
    · go_wp2
      go_ret
      exact ⟨rfl, Below.refl _ _⟩
    go_wp2_with (at_make; refine wpList_make_full _ rfl _ _ 26 rfl w.heap.size 3 i0 _ 1 Try.underlying26 hi0 hz0 hz1 _ _ _ _ l rfl rfl rfl rfl (by rw [hz2]; omega) (by unfold maxLen; omega) (Nat.le_refl _) ?_; intro w1 hown hgrow; have hb1 : Below w.heap.size w w1 := (Below.refl _ _).grown hgrow (Nat.le_refl _) (fun k h => by cases h); obtain ⟨w2, hrun, hi2, hb2⟩ := copy_in w w1 ad l c f hl hb1 (Ints.later HI.out hb1) hown; have HI2 : Hid (_) := hi2; clear hown hgrow hb1 hi2)
    go_loop [7] (fun i => ∃ k : Nat, k ≤ l ∧ i = .int .i64 k ∧ (∀ j, j < k → 0 ≤ f j ∧ f j ≤ n)) (fun i => l - (intOf i).toNat)
    case atStart => exact ⟨0, Nat.zero_le _, rfl, fun j h => by omega⟩
    case round =>
      obtain ⟨k, hk, rfl, hgood⟩ := hrel
      by_cases hlt : k < l
      · obtain ⟨b, off, e, hcc⟩ := HI2.out (by omega)
        simp only [Option.some.injEq, Addr.mk.injEq] at e
        obtain ⟨rfl, rfl, _⟩ := e
        have hcx := hcc k hlt
        rw [Nat.zero_add] at hcx
        have HG : Hid (_) := hgood
        clear hcc hgood
        by_cases h1 : f k < 0
        · go_wp2
          go_ret
          exact ⟨rfl, hb2⟩
        by_cases h2 : (n : Int) < f k
        · go_wp2
          go_ret
          exact ⟨rfl, hb2⟩
        go_wp2
        go_round
        case rel => exact ⟨k + 1, by omega, by go_num, fun j hj => by
            by_cases e : j = k
            · subst e; omega
            · exact HG.out j (by omega)⟩
        case measure => simp [intOf]; omega
      · have ek : k = l := by omega
        subst ek
        have HG : Hid (_) := hgood
        clear hgood
        go_wp2
        go_loopw [8, 9] (fun la i wr => ∃ j : Nat, j ≤ n ∧ i = .int .i64 j ∧ la = .int .i64 (lastH S W j) ∧ Below w2.heap.size w2 wr) (fun _ i _ => n - (intOf i).toNat)
        case atStart => exact ⟨0, Nat.zero_le _, rfl, rfl, Below.refl _ _⟩
        case round =>
          obtain ⟨j, hj, rfl, rfl, hb⟩ := hrel
          have hb0 : Below w.heap.size w wr := hb2.trans (hb.mono hb2.size)
          by_cases hlt : j < n
          · obtain ⟨b, off, rfl, hcc⟩ := (Toks.later HT.out hb0).2 (by omega)
            have hcx := (hcc j hlt).1
            have hcy := (hcc j hlt).2
            clear hcc
            obtain ⟨t, ht⟩ : ∃ t, hardB (S j) (W j) = t := ⟨_, rfl⟩
            have HL : Hid (lastH S W (j + 1) = if t = true then (j : Int) else lastH S W j) := by show _ = _; rw [lastH, ht]
            cases t
            · go_wp2_with (go_at_call 13; refine (hard_any _ _ _).mono ?_; rintro e w1 ⟨rfl, hb1⟩)
              go_roundw
              case rel => exact ⟨j + 1, by omega, by go_num, by rw [HL.out]; rfl, hb.trans (hb1.mono hb.size)⟩
              case measure => simp [intOf]; omega
            · go_wp2_with (go_at_call 13; refine (hard_any _ _ _).mono ?_; rintro e w1 ⟨rfl, hb1⟩)
              go_roundw
              case rel => exact ⟨j + 1, by omega, by go_num, by rw [HL.out]; rfl, hb.trans (hb1.mono hb.size)⟩
              case measure => simp [intOf]; omega
          · have e : j = n := by omega
            subst e
            obtain ⟨La, hLa⟩ : ∃ La, La = lastH S W j := ⟨_, rfl⟩
            have hbd := lastH_bd S W j
            rw [← hLa] at hbd
            have HLa : Hid (_) := hLa
            rw [← hLa]
            clear hLa
            go_wp2
            go_loop [10, 11] (fun wa i => ∃ q : Nat, q ≤ k ∧ i = .int .i64 q ∧ wa = .bool (wantB f La q)) (fun _ i => k - (intOf i).toNat)
            case atStart => exact ⟨0, Nat.zero_le _, rfl, rfl⟩
            case round =>
              obtain ⟨q, hq, rfl, rfl⟩ := hrel
              by_cases hlq : q < k
              · obtain ⟨b, off, e, hcc⟩ := Ints.later HI2.out hb (by omega)
                simp only [Option.some.injEq, Addr.mk.injEq] at e
                obtain ⟨rfl, rfl, _⟩ := e
                have hcx := hcc q hlq
                rw [Nat.zero_add] at hcx
                clear hcc
                have HW : Hid (wantB f La (q + 1) = (wantB f La q || decide (La < f q))) := by
                  show _ = _; unfold wantB; rw [List.range_succ, List.any_append]; simp
                by_cases hgt : La < f q
                · go_wp2
                  go_round
                  case rel => exact ⟨q + 1, by omega, by go_num, by rw [HW.out]; simp [hgt]⟩
                  case measure => simp [intOf]; omega
                · go_wp2
                  go_round
                  case rel => exact ⟨q + 1, by omega, by go_num, by rw [HW.out]; simp [hgt]⟩
                  case measure => simp [intOf]; omega
              · have eq : q = k := by omega
                subst eq
                go_wp2_with fail
                refine (toZZ_any _ _ _ S W _ (Toks.later HT.out hb0) hn).mono ?_
                rintro e w3 ⟨a', c', rfl, ht3, hb3⟩
                go_wp2_with fail
                refine (zzaccepts_any _ _ _ S W _ q _ (fun k => (f k).toNat) _ ht3 hn (Ints.ats (Ints.later (Ints.later HI2.out hb) hb3) (fun k hk => (HG.out k hk).1)) (by omega) (fun k hk => by have := HG.out k hk; omega)).mono ?_
                rintro e w4 ⟨rfl, hb4⟩
                have hacc := acc_want S W j q f HG.out
                rw [← HLa.out] at hacc
                rw [hacc]
                clear hacc
                go_wp2
                go_ret
                exact ⟨ret_bool (by simp), (hb0.trans (hb3.mono hb0.size)).trans (hb4.mono (Nat.le_trans hb0.size hb3.size))⟩
end Go.Proofs.Qxb6605325a
