import Derived.Test.Qxb6605343aRow
namespace Go.Proofs.Qxb6605343a
open Go.RowKit
set_option linter.unusedVariables false

set_option maxHeartbeats 400000 in
theorem cloneBytes_any (a : Option Addr) (len cap : Nat) (B : Nat → Int) (w : World) (hnil : a = none → len = 0) (hl : len ≤ 1048576) (hc : Row w a len (fun i => .int .u8 (B i))) :
    Calls Try.prog 10 #[.slice a len cap] w fun e w' => (∃ a', e = .returned (.slice a' len len) ∧ w'.ownsRow w.heap.size 5 1 (.slice a' len len) len (vrow (fun i => .int .u8 (B i)) len)) ∧ Below w.heap.size w w' := by
  cases a with
  | none =>
    obtain rfl := hnil rfl
    have hn := fun w => Lib.run_eql_slice_nil (P := Try.prog) w 27 5 none 0 cap 0 0 Try.underlying27
    clear hc
    go_enter Try.func10, Try.ntmps10
    go_wp2
    go_ret
    exact ⟨⟨none, rfl, World.ownsRow_nil _ _ _ _⟩, Below.refl _ _⟩
  | some x =>
    have hn := fun w => Lib.run_eql_slice_nil (P := Try.prog) w 27 5 (some x) len cap 0 0 Try.underlying27
    obtain ⟨i0, hi, hz0, hz1, hz2⟩ := info_parts Try.info5
    have HC : Hid (Row w (some x) len (fun i => .int .u8 (B i))) := hc
    clear hc hnil
    go_enter Try.func10, Try.ntmps10
    go_wp2_with (at_make; refine wpList_make_full _ rfl _ _ 27 rfl w.heap.size 5 i0 _ 1 Try.underlying27 hi hz0 hz1 _ _ _ _ len rfl rfl rfl rfl (by rw [hz2]; omega) (by unfold maxLen; omega) (Nat.le_refl _) ?_; intro w1 hown hgrow)
    have HG : Hid (Below w.heap.size w w1) := (Below.refl _ _).grown hgrow (Nat.le_refl _) (fun k h => by cases h)
    have HO1 : Hid (w1.ownsRow w.heap.size 5 1 (.slice (some ⟨w.heap.size, 0, none⟩) len len) len (vrow (fun i => if i < 0 then .int .u8 (B i) else .int .u8 0) len)) := by
      show World.ownsRow _ _ _ _ _ _ _
      have e : vrow (fun i => if i < 0 then .int .u8 (B i) else .int .u8 0) len = (madeCells (.int .u8 0 : Value).cells (len * 1)).toList := by
        simp [vrow, Value.cells, toList_madeCells_one, List.map_const']
      rw [e]; exact hown
    clear hown hgrow
    go_loopw [4] (fun i wr => ∃ k : Nat, k ≤ len ∧ i = .int .i64 k ∧ wr.ownsRow w.heap.size 5 1 (.slice (some ⟨w.heap.size, 0, none⟩) len len) len (vrow (fun i => if i < k then .int .u8 (B i) else .int .u8 0) len) ∧ Below w.heap.size w wr) (fun i _ => len - (intOf i).toNat)
    case atStart => exact ⟨0, Nat.zero_le _, rfl, HO1.out, HG.out⟩
    case round =>
      obtain ⟨k, hk, rfl, ho, hb⟩ := hrel
      have HO : Hid (wr.ownsRow w.heap.size 5 1 (.slice (some ⟨w.heap.size, 0, none⟩) len len) len (vrow (fun i => if i < k then .int .u8 (B i) else .int .u8 0) len)) := ho
      clear ho HO1 HG
      by_cases hlt : k < len
      · obtain ⟨b, off, e, hcc⟩ := HC.out (by omega)
        cases e
        have hcx : wr.cell? ⟨b, off + k, none⟩ = some (.int .u8 (B k)) := cell_later hb (hcc k hlt)
        clear hcc
        have hf := HO.out.frozenAt k
        have hcell := vrow_cell HO.out k hlt
        rw [if_neg (Nat.lt_irrefl k)] at hcell
        have HS : Hid ((wr.setCell ⟨w.heap.size, k, none⟩ (.int .u8 (B k))).ownsRow w.heap.size 5 1 (.slice (some ⟨w.heap.size, 0, none⟩) len len) len (vrow (fun i => if i < k + 1 then .int .u8 (B i) else .int .u8 0) len)) := by
          have := (HO.out.stored k (.int .u8 (B k))).1
          rw [vrow_set, vrow_ext (Y := fun i => if i < k + 1 then .int .u8 (B i) else .int .u8 0)] at this
          · exact this
          · intro j hj
            unfold upd
            by_cases e : j = k
            · subst e; rw [if_pos rfl, if_pos (Nat.lt_succ_self _)]
            · rw [if_neg e]
              show (if j < k then .int .u8 (B j) else .int .u8 0 : Value) = (if j < k + 1 then .int .u8 (B j) else .int .u8 0)
              by_cases h : j < k
              · rw [if_pos h, if_pos (by omega)]
              · rw [if_neg h, if_neg (by omega)]
        have HB := hb.setCell (p := ⟨w.heap.size, k, none⟩) (Nat.le_refl _) (.int .u8 (B k))
        go_wp2
        go_roundw
        case rel => exact ⟨k + 1, by omega, by go_num, HS.out, HB⟩
        case measure => simp [intOf]; omega
      · have e : k = len := by omega
        subst e
        have HS : Hid (wr.ownsRow w.heap.size 5 1 (.slice (some ⟨w.heap.size, 0, none⟩) k k) k (vrow (fun i => .int .u8 (B i)) k)) := by
          have := HO.out
          rw [vrow_ext (Y := fun i => .int .u8 (B i))] at this
          · exact this
          · intro j hj; exact if_pos hj
        go_wp2
        go_ret
        exact ⟨⟨_, rfl, HS.out⟩, hb⟩

set_option maxHeartbeats 400000 in
theorem cloneInts_any (a : Option Addr) (len cap : Nat) (B : Nat → Int) (w : World) (hnil : a = none → len = 0) (hl : len ≤ 1048576) (hc : Row w a len (fun i => .int .i64 (B i))) :
    Calls Try.prog 11 #[.slice a len cap] w fun e w' => (∃ a', e = .returned (.slice a' len len) ∧ w'.ownsRow w.heap.size 3 1 (.slice a' len len) len (vrow (fun i => .int .i64 (B i)) len)) ∧ Below w.heap.size w w' := by
  cases a with
  | none =>
    obtain rfl := hnil rfl
    have hn := fun w => Lib.run_eql_slice_nil (P := Try.prog) w 28 3 none 0 cap 0 0 Try.underlying28
    clear hc
    go_enter Try.func11, Try.ntmps11
    go_wp2
    go_ret
    exact ⟨⟨none, rfl, World.ownsRow_nil _ _ _ _⟩, Below.refl _ _⟩
  | some x =>
    have hn := fun w => Lib.run_eql_slice_nil (P := Try.prog) w 28 3 (some x) len cap 0 0 Try.underlying28
    obtain ⟨i0, hi, hz0, hz1, hz2⟩ := info_parts Try.info3
    have HC : Hid (Row w (some x) len (fun i => .int .i64 (B i))) := hc
    clear hc hnil
    go_enter Try.func11, Try.ntmps11
    go_wp2_with (at_make; refine wpList_make_full _ rfl _ _ 28 rfl w.heap.size 3 i0 _ 1 Try.underlying28 hi hz0 hz1 _ _ _ _ len rfl rfl rfl rfl (by rw [hz2]; omega) (by unfold maxLen; omega) (Nat.le_refl _) ?_; intro w1 hown hgrow)
    have HG : Hid (Below w.heap.size w w1) := (Below.refl _ _).grown hgrow (Nat.le_refl _) (fun k h => by cases h)
    have HO1 : Hid (w1.ownsRow w.heap.size 3 1 (.slice (some ⟨w.heap.size, 0, none⟩) len len) len (vrow (fun i => if i < 0 then .int .i64 (B i) else .int .i64 0) len)) := by
      show World.ownsRow _ _ _ _ _ _ _
      have e : vrow (fun i => if i < 0 then .int .i64 (B i) else .int .i64 0) len = (madeCells (.int .i64 0 : Value).cells (len * 1)).toList := by
        simp [vrow, Value.cells, toList_madeCells_one, List.map_const']
      rw [e]; exact hown
    clear hown hgrow
    go_loopw [4] (fun i wr => ∃ k : Nat, k ≤ len ∧ i = .int .i64 k ∧ wr.ownsRow w.heap.size 3 1 (.slice (some ⟨w.heap.size, 0, none⟩) len len) len (vrow (fun i => if i < k then .int .i64 (B i) else .int .i64 0) len) ∧ Below w.heap.size w wr) (fun i _ => len - (intOf i).toNat)
    case atStart => exact ⟨0, Nat.zero_le _, rfl, HO1.out, HG.out⟩
    case round =>
      obtain ⟨k, hk, rfl, ho, hb⟩ := hrel
      have HO : Hid (wr.ownsRow w.heap.size 3 1 (.slice (some ⟨w.heap.size, 0, none⟩) len len) len (vrow (fun i => if i < k then .int .i64 (B i) else .int .i64 0) len)) := ho
      clear ho HO1 HG
      by_cases hlt : k < len
      · obtain ⟨b, off, e, hcc⟩ := HC.out (by omega)
        cases e
        have hcx : wr.cell? ⟨b, off + k, none⟩ = some (.int .i64 (B k)) := cell_later hb (hcc k hlt)
        clear hcc
        have hf := HO.out.frozenAt k
        have hcell := vrow_cell HO.out k hlt
        rw [if_neg (Nat.lt_irrefl k)] at hcell
        have HS : Hid ((wr.setCell ⟨w.heap.size, k, none⟩ (.int .i64 (B k))).ownsRow w.heap.size 3 1 (.slice (some ⟨w.heap.size, 0, none⟩) len len) len (vrow (fun i => if i < k + 1 then .int .i64 (B i) else .int .i64 0) len)) := by
          have := (HO.out.stored k (.int .i64 (B k))).1
          rw [vrow_set, vrow_ext (Y := fun i => if i < k + 1 then .int .i64 (B i) else .int .i64 0)] at this
          · exact this
          · intro j hj
            unfold upd
            by_cases e : j = k
            · subst e; rw [if_pos rfl, if_pos (Nat.lt_succ_self _)]
            · rw [if_neg e]
              show (if j < k then .int .i64 (B j) else .int .i64 0 : Value) = (if j < k + 1 then .int .i64 (B j) else .int .i64 0)
              by_cases h : j < k
              · rw [if_pos h, if_pos (by omega)]
              · rw [if_neg h, if_neg (by omega)]
        have HB := hb.setCell (p := ⟨w.heap.size, k, none⟩) (Nat.le_refl _) (.int .i64 (B k))
        go_wp2
        go_roundw
        case rel => exact ⟨k + 1, by omega, by go_num, HS.out, HB⟩
        case measure => simp [intOf]; omega
      · have e : k = len := by omega
        subst e
        have HS : Hid (wr.ownsRow w.heap.size 3 1 (.slice (some ⟨w.heap.size, 0, none⟩) k k) k (vrow (fun i => .int .i64 (B i)) k)) := by
          have := HO.out
          rw [vrow_ext (Y := fun i => .int .i64 (B i))] at this
          · exact this
          · intro j hj; exact if_pos hj
        go_wp2
        go_ret
        exact ⟨⟨_, rfl, HS.out⟩, hb⟩

set_option maxHeartbeats 400000 in
theorem cloneBools_any (a : Option Addr) (len cap : Nat) (B : Nat → Bool) (w : World) (hnil : a = none → len = 0) (hl : len ≤ 1048576) (hc : Row w a len (fun i => .bool (B i))) :
    Calls Try.prog 12 #[.slice a len cap] w fun e w' => (∃ a', e = .returned (.slice a' len len) ∧ w'.ownsRow w.heap.size 4 1 (.slice a' len len) len (vrow (fun i => .bool (B i)) len)) ∧ Below w.heap.size w w' := by
  cases a with
  | none =>
    obtain rfl := hnil rfl
    have hn := fun w => Lib.run_eql_slice_nil (P := Try.prog) w 29 4 none 0 cap 0 0 Try.underlying29
    clear hc
    go_enter Try.func12, Try.ntmps12
    go_wp2
    go_ret
    exact ⟨⟨none, rfl, World.ownsRow_nil _ _ _ _⟩, Below.refl _ _⟩
  | some x =>
    have hn := fun w => Lib.run_eql_slice_nil (P := Try.prog) w 29 4 (some x) len cap 0 0 Try.underlying29
    obtain ⟨i0, hi, hz0, hz1, hz2⟩ := info_parts Try.info4
    have HC : Hid (Row w (some x) len (fun i => .bool (B i))) := hc
    clear hc hnil
    go_enter Try.func12, Try.ntmps12
    go_wp2_with (at_make; refine wpList_make_full _ rfl _ _ 29 rfl w.heap.size 4 i0 _ 1 Try.underlying29 hi hz0 hz1 _ _ _ _ len rfl rfl rfl rfl (by rw [hz2]; omega) (by unfold maxLen; omega) (Nat.le_refl _) ?_; intro w1 hown hgrow)
    have HG : Hid (Below w.heap.size w w1) := (Below.refl _ _).grown hgrow (Nat.le_refl _) (fun k h => by cases h)
    have HO1 : Hid (w1.ownsRow w.heap.size 4 1 (.slice (some ⟨w.heap.size, 0, none⟩) len len) len (vrow (fun i => if i < 0 then .bool (B i) else .bool false) len)) := by
      show World.ownsRow _ _ _ _ _ _ _
      have e : vrow (fun i => if i < 0 then .bool (B i) else .bool false) len = (madeCells (.bool false : Value).cells (len * 1)).toList := by
        simp [vrow, Value.cells, toList_madeCells_one, List.map_const']
      rw [e]; exact hown
    clear hown hgrow
    go_loopw [4] (fun i wr => ∃ k : Nat, k ≤ len ∧ i = .int .i64 k ∧ wr.ownsRow w.heap.size 4 1 (.slice (some ⟨w.heap.size, 0, none⟩) len len) len (vrow (fun i => if i < k then .bool (B i) else .bool false) len) ∧ Below w.heap.size w wr) (fun i _ => len - (intOf i).toNat)
    case atStart => exact ⟨0, Nat.zero_le _, rfl, HO1.out, HG.out⟩
    case round =>
      obtain ⟨k, hk, rfl, ho, hb⟩ := hrel
      have HO : Hid (wr.ownsRow w.heap.size 4 1 (.slice (some ⟨w.heap.size, 0, none⟩) len len) len (vrow (fun i => if i < k then .bool (B i) else .bool false) len)) := ho
      clear ho HO1 HG
      by_cases hlt : k < len
      · obtain ⟨b, off, e, hcc⟩ := HC.out (by omega)
        cases e
        have hcx : wr.cell? ⟨b, off + k, none⟩ = some (.bool (B k)) := cell_later hb (hcc k hlt)
        clear hcc
        have hf := HO.out.frozenAt k
        have hcell := vrow_cell HO.out k hlt
        rw [if_neg (Nat.lt_irrefl k)] at hcell
        have HS : Hid ((wr.setCell ⟨w.heap.size, k, none⟩ (.bool (B k))).ownsRow w.heap.size 4 1 (.slice (some ⟨w.heap.size, 0, none⟩) len len) len (vrow (fun i => if i < k + 1 then .bool (B i) else .bool false) len)) := by
          have := (HO.out.stored k (.bool (B k))).1
          rw [vrow_set, vrow_ext (Y := fun i => if i < k + 1 then .bool (B i) else .bool false)] at this
          · exact this
          · intro j hj
            unfold upd
            by_cases e : j = k
            · subst e; rw [if_pos rfl, if_pos (Nat.lt_succ_self _)]
            · rw [if_neg e]
              show (if j < k then .bool (B j) else .bool false : Value) = (if j < k + 1 then .bool (B j) else .bool false)
              by_cases h : j < k
              · rw [if_pos h, if_pos (by omega)]
              · rw [if_neg h, if_neg (by omega)]
        have HB := hb.setCell (p := ⟨w.heap.size, k, none⟩) (Nat.le_refl _) (.bool (B k))
        go_wp2
        go_roundw
        case rel => exact ⟨k + 1, by omega, by go_num, HS.out, HB⟩
        case measure => simp [intOf]; omega
      · have e : k = len := by omega
        subst e
        have HS : Hid (wr.ownsRow w.heap.size 4 1 (.slice (some ⟨w.heap.size, 0, none⟩) k k) k (vrow (fun i => .bool (B i)) k)) := by
          have := HO.out
          rw [vrow_ext (Y := fun i => .bool (B i))] at this
          · exact this
          · intro j hj; exact if_pos hj
        go_wp2
        go_ret
        exact ⟨⟨_, rfl, HS.out⟩, hb⟩

set_option maxHeartbeats 400000 in
theorem cloneWords_any (a : Option Addr) (len cap : Nat) (B : Nat → Int) (w : World) (hnil : a = none → len = 0) (hl : len ≤ 1048576) (hc : Row w a len (fun i => .int .u64 (B i))) :
    Calls Try.prog 13 #[.slice a len cap] w fun e w' => (∃ a', e = .returned (.slice a' len len) ∧ w'.ownsRow w.heap.size 38 1 (.slice a' len len) len (vrow (fun i => .int .u64 (B i)) len)) ∧ Below w.heap.size w w' := by
  cases a with
  | none =>
    obtain rfl := hnil rfl
    have hn := fun w => Lib.run_eql_slice_nil (P := Try.prog) w 30 38 none 0 cap 0 0 Try.underlying30
    clear hc
    go_enter Try.func13, Try.ntmps13
    go_wp2
    go_ret
    exact ⟨⟨none, rfl, World.ownsRow_nil _ _ _ _⟩, Below.refl _ _⟩
  | some x =>
    have hn := fun w => Lib.run_eql_slice_nil (P := Try.prog) w 30 38 (some x) len cap 0 0 Try.underlying30
    obtain ⟨i0, hi, hz0, hz1, hz2⟩ := info_parts Try.info38
    have HC : Hid (Row w (some x) len (fun i => .int .u64 (B i))) := hc
    clear hc hnil
    go_enter Try.func13, Try.ntmps13
    go_wp2_with (at_make; refine wpList_make_full _ rfl _ _ 30 rfl w.heap.size 38 i0 _ 1 Try.underlying30 hi hz0 hz1 _ _ _ _ len rfl rfl rfl rfl (by rw [hz2]; omega) (by unfold maxLen; omega) (Nat.le_refl _) ?_; intro w1 hown hgrow)
    have HG : Hid (Below w.heap.size w w1) := (Below.refl _ _).grown hgrow (Nat.le_refl _) (fun k h => by cases h)
    have HO1 : Hid (w1.ownsRow w.heap.size 38 1 (.slice (some ⟨w.heap.size, 0, none⟩) len len) len (vrow (fun i => if i < 0 then .int .u64 (B i) else .int .u64 0) len)) := by
      show World.ownsRow _ _ _ _ _ _ _
      have e : vrow (fun i => if i < 0 then .int .u64 (B i) else .int .u64 0) len = (madeCells (.int .u64 0 : Value).cells (len * 1)).toList := by
        simp [vrow, Value.cells, toList_madeCells_one, List.map_const']
      rw [e]; exact hown
    clear hown hgrow
    go_loopw [4] (fun i wr => ∃ k : Nat, k ≤ len ∧ i = .int .i64 k ∧ wr.ownsRow w.heap.size 38 1 (.slice (some ⟨w.heap.size, 0, none⟩) len len) len (vrow (fun i => if i < k then .int .u64 (B i) else .int .u64 0) len) ∧ Below w.heap.size w wr) (fun i _ => len - (intOf i).toNat)
    case atStart => exact ⟨0, Nat.zero_le _, rfl, HO1.out, HG.out⟩
    case round =>
      obtain ⟨k, hk, rfl, ho, hb⟩ := hrel
      have HO : Hid (wr.ownsRow w.heap.size 38 1 (.slice (some ⟨w.heap.size, 0, none⟩) len len) len (vrow (fun i => if i < k then .int .u64 (B i) else .int .u64 0) len)) := ho
      clear ho HO1 HG
      by_cases hlt : k < len
      · obtain ⟨b, off, e, hcc⟩ := HC.out (by omega)
        cases e
        have hcx : wr.cell? ⟨b, off + k, none⟩ = some (.int .u64 (B k)) := cell_later hb (hcc k hlt)
        clear hcc
        have hf := HO.out.frozenAt k
        have hcell := vrow_cell HO.out k hlt
        rw [if_neg (Nat.lt_irrefl k)] at hcell
        have HS : Hid ((wr.setCell ⟨w.heap.size, k, none⟩ (.int .u64 (B k))).ownsRow w.heap.size 38 1 (.slice (some ⟨w.heap.size, 0, none⟩) len len) len (vrow (fun i => if i < k + 1 then .int .u64 (B i) else .int .u64 0) len)) := by
          have := (HO.out.stored k (.int .u64 (B k))).1
          rw [vrow_set, vrow_ext (Y := fun i => if i < k + 1 then .int .u64 (B i) else .int .u64 0)] at this
          · exact this
          · intro j hj
            unfold upd
            by_cases e : j = k
            · subst e; rw [if_pos rfl, if_pos (Nat.lt_succ_self _)]
            · rw [if_neg e]
              show (if j < k then .int .u64 (B j) else .int .u64 0 : Value) = (if j < k + 1 then .int .u64 (B j) else .int .u64 0)
              by_cases h : j < k
              · rw [if_pos h, if_pos (by omega)]
              · rw [if_neg h, if_neg (by omega)]
        have HB := hb.setCell (p := ⟨w.heap.size, k, none⟩) (Nat.le_refl _) (.int .u64 (B k))
        go_wp2
        go_roundw
        case rel => exact ⟨k + 1, by omega, by go_num, HS.out, HB⟩
        case measure => simp [intOf]; omega
      · have e : k = len := by omega
        subst e
        have HS : Hid (wr.ownsRow w.heap.size 38 1 (.slice (some ⟨w.heap.size, 0, none⟩) k k) k (vrow (fun i => .int .u64 (B i)) k)) := by
          have := HO.out
          rw [vrow_ext (Y := fun i => .int .u64 (B i))] at this
          · exact this
          · intro j hj; exact if_pos hj
        go_wp2
        go_ret
        exact ⟨⟨_, rfl, HS.out⟩, hb⟩

end Go.Proofs.Qxb6605343a
