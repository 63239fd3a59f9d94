import Derived.Test.Qxb6605325aRows
import Derived.WalkKit
import Derived.WalkLawsBesides
import Derived.Below
import Derived.LoopTactic
import Derived.WalkSpells
import Derived.RegionTactic
import Derived.Laws.CopyOwn
namespace Go.Proofs.Qxb6605325a
open Go.RowKit
set_option linter.unusedVariables false

/-- Must the token consume a character? -/
def hardB (s : ByteArray) (x : Int) : Bool := !s.toList.isEmpty || (x == 0)

theorem ret_bool {a b : Bool} (h : a = b) : Ending.returned (.bool a) = .returned (.bool b) := by rw [h]

set_option maxHeartbeats 400000 in
theorem hard_any (s : ByteArray) (x : Int) (w : World) :
    Calls Try.prog 13 #[.agg #[.string s, .int .i64 x]] w fun e w' => e = .returned (.bool (hardB s x)) ∧ Below w.heap.size w w' := by
  by_cases h : s.toList.isEmpty = true
  · go_enter Try.func13, Try.ntmps13
    go_wp2
    go_ret
    exact ⟨ret_bool (by simp [hardB, h]), (Below.refl _ _).alloc (Nat.le_refl _) _⟩
  · have h' : s.toList.isEmpty = false := by simpa using h
    go_enter Try.func13, Try.ntmps13
    go_wp2
    go_ret
    exact ⟨ret_bool (by simp [hardB, h']), (Below.refl _ _).alloc (Nat.le_refl _) _⟩

set_option maxHeartbeats 400000 in
theorem accepts1_any (s : ByteArray) (x : Int) (w : World) :
    Calls Try.prog 21 #[.agg #[.string s, .int .i64 x]] w fun e w' => e = .returned (.bool (hardB s x)) ∧ Below w.heap.size w w' := by
  by_cases h : s.toList.isEmpty = true
  · go_enter Try.func21, Try.ntmps21
    go_wp2
    go_ret
    exact ⟨ret_bool (by simp [hardB, h]), (Below.refl _ _).alloc (Nat.le_refl _) _⟩
  · have h' : s.toList.isEmpty = false := by simpa using h
    go_enter Try.func21, Try.ntmps21
    go_wp2
    go_ret
    exact ⟨ret_bool (by simp [hardB, h']), (Below.refl _ _).alloc (Nat.le_refl _) _⟩

/-- What the walk is told of a slice of tokens (two cells a token). -/
def Toks (w : World) (a : Option Addr) (len cap : Nat) (S : Nat → ByteArray) (W : Nat → Int) : Prop :=
  (a = none → len = 0 ∧ cap = 0) ∧ (0 < len → ∃ b off, a = some ⟨b, off, none⟩ ∧ ∀ i, i < len → w.cell? ⟨b, off + i * 2, none⟩ = some (.string (S i)) ∧ w.cell? ⟨b, off + i * 2 + 1, none⟩ = some (.int .i64 (W i)))

theorem Toks.later {w w' : World} {a : Option Addr} {len cap : Nat} {S : Nat → ByteArray} {W : Nat → Int} (h : Toks w a len cap S W) (hb : Below w.heap.size w w') : Toks w' a len cap S W :=
  ⟨h.1, fun h0 => by
    obtain ⟨b, off, e, hc⟩ := h.2 h0
    exact ⟨b, off, e, fun i hi => ⟨cell_later hb (hc i hi).1, cell_later hb (hc i hi).2⟩⟩⟩

set_option maxHeartbeats 400000 in
theorem tokBytes_any (a : Option Addr) (len cap : Nat) (S : Nat → ByteArray) (W : Nat → Int) (w : World) (h : Toks w a len cap S W) (hl : len ≤ 4096) :
    Calls Try.prog 6 #[.slice a len cap] w fun e w' => ∃ n, e = .returned (.int .i64 n) ∧ 0 ≤ n ∧ n ≤ 4194304 ∧ w = w' := by
  go_enter Try.func6, Try.ntmps6
  go_wp2
  go_loop [3, 4, 5] (fun t i l => ∃ (k : Nat) (n : Int), k ≤ len ∧ i = .int .i64 k ∧ t = .int .i64 n ∧ 0 ≤ n ∧ n ≤ 1048576) (fun _ i _ => len - (intOf i).toNat)
  case atStart => exact ⟨0, 0, Nat.zero_le _, rfl, rfl, by omega, by omega⟩
  case round =>
    obtain ⟨k, n, hk, rfl, rfl, hn0, hn1⟩ := hrel
    by_cases hlt : k < len
    · obtain ⟨b, off, rfl, hcc⟩ := h.2 (by omega)
      have hcx := (hcc k hlt).1
      clear hcc h
      by_cases hs : (1048576 : Int) < (S k).size
      · go_wp2
        go_ret
        exact ⟨_, rfl, by omega, by omega, rfl⟩
      · by_cases ht : (1048576 : Int) < n + (24 + (S k).size)
        · go_wp2
          go_ret
          exact ⟨_, rfl, by omega, by omega, rfl⟩
        · go_wp2
          go_round
          case rel => exact ⟨k + 1, _, by omega, by go_num, rfl, by omega, by omega⟩
          case measure => simp [intOf]; omega
    · go_wp2
      go_ret
      exact ⟨_, rfl, by omega, by omega, rfl⟩

def IsBool (e : Ending) : Prop := ∃ b, e = .returned (.bool b)

set_option maxHeartbeats 400000 in
theorem bytes12_any (a : Option Addr) (len cap : Nat) (S : Nat → ByteArray) (W : Nat → Int) (x : Option Addr) (l c : Nat) (w : World) (h : Toks w a len cap S W) (hl : len ≤ maxLen) (hx : l ≤ maxLen) :
    Calls Try.prog 12 #[.slice a len cap, .slice x l c] w fun e w' => IsBool e ∧ w = w' := by
  unfold maxLen at hl hx
  by_cases h1 : 1048576 < len
  · go_enter Try.func12, Try.ntmps12
    go_wp2
    go_ret
    exact ⟨⟨_, rfl⟩, rfl⟩
  · go_enter Try.func12, Try.ntmps12
    go_wp2
    go_loop [5, 6] (fun t i => ∃ (k : Nat) (n : Int), k ≤ len ∧ i = .int .i64 k ∧ t = .int .i64 n ∧ 0 ≤ n ∧ n ≤ 1048576) (fun _ i => len - (intOf i).toNat)
    case atStart => exact ⟨0, len, Nat.zero_le _, rfl, by first | rfl | go_num, by omega, by omega⟩
    case round =>
      obtain ⟨k, n, hk, rfl, rfl, hn0, hn1⟩ := hrel
      by_cases hlt : k < len
      · obtain ⟨b, off, rfl, hcc⟩ := h.2 (by omega)
        have hcx := (hcc k hlt).1
        clear hcc h
        by_cases hs : (1048576 : Int) < (S k).size
        · go_wp2
          go_ret
          exact ⟨⟨_, rfl⟩, rfl⟩
        · by_cases ht : (1048576 : Int) < n + (S k).size
          · go_wp2
            go_ret
            exact ⟨⟨_, rfl⟩, rfl⟩
          · go_wp2
            go_round
            case rel => exact ⟨k + 1, _, by omega, by go_num, rfl, by omega, by omega⟩
            case measure => simp [intOf]; omega
      · by_cases h2 : 1048576 < l
        · go_wp2
          go_ret
          exact ⟨⟨_, rfl⟩, rfl⟩
        · by_cases h3 : (1048576 : Int) < n + l
          · go_wp2
            go_ret
            exact ⟨⟨_, rfl⟩, rfl⟩
          · go_wp2
            go_ret
            exact ⟨⟨_, rfl⟩, rfl⟩

theorem Try.info40 : (Try.prog.info? 40).map (fun i => (i.zero, i.size, i.bytes)) = some (some (.agg #[.string ByteArray.empty, .int .i64 0]), 2, 24) := by kernel_rfl
theorem Try.info49 : (Try.prog.info? 49).map (fun i => (i.zero, i.size, i.bytes)) = some (some (.agg #[.string ByteArray.empty, .int .i64 0]), 2, 24) := by kernel_rfl

set_option maxHeartbeats 400000 in
theorem toZZ_nil (w : World) : Calls Try.prog 8 #[.slice none 0 0] w fun e w' => e = .returned (.slice none 0 0) ∧ w = w' := by
  have hn := fun w => Lib.run_eql_slice_nil (P := Try.prog) w 22 36 none 0 0 0 0 Try.underlying22
  go_enter Try.func8, Try.ntmps8
  go_wp2
  go_ret
  exact ⟨rfl, rfl⟩

/-- The cells of a row of n tokens, of which k are written. -/
def tokCell (S : Nat → ByteArray) (W : Nat → Int) (k j : Nat) : Value :=
  if j / 2 < k then (if j % 2 = 0 then .string (S (j / 2)) else .int .i64 (W (j / 2))) else (if j % 2 = 0 then .string ByteArray.empty else .int .i64 0)
def tokCells (S : Nat → ByteArray) (W : Nat → Int) (k n : Nat) : List Value := (List.range (n * 2)).map (tokCell S W k)

theorem tokCells_start (S : Nat → ByteArray) (W : Nat → Int) (n : Nat) : (madeCells (Value.agg #[.string ByteArray.empty, .int .i64 0]).cells (n * 2)).toList = tokCells S W 0 n := by
  unfold madeCells tokCells
  simp only [Array.toList_map, Array.toList_range, Value.cells]
  refine List.map_congr_left fun j _ => ?_
  unfold tokCell
  rw [if_neg (by omega)]
  have : j % 2 = 0 ∨ j % 2 = 1 := by omega
  rcases this with h | h <;> simp [h]

theorem tokCells_step (S : Nat → ByteArray) (W : Nat → Int) (k n : Nat) (hk : k < n) : ((tokCells S W k n).set (k * 2) (.string (S k))).set (k * 2 + 1) (.int .i64 (W k)) = tokCells S W (k + 1) n := by
  apply List.ext_getElem?
  intro j
  unfold tokCells
  by_cases hj : j < n * 2
  · rw [List.getElem?_set, List.getElem?_set]
    simp only [List.length_set, List.length_map, List.length_range, List.getElem?_map, List.getElem?_range hj, Option.map_some]
    by_cases e1 : k * 2 + 1 = j
    · subst e1
      rw [if_pos rfl, if_pos hj]
      have : tokCell S W (k + 1) (k * 2 + 1) = .int .i64 (W k) := by
        unfold tokCell; rw [if_pos (by omega), if_neg (by omega), show (k * 2 + 1) / 2 = k by omega]
      rw [this]
    · rw [if_neg e1]
      by_cases e2 : k * 2 = j
      · subst e2
        rw [if_pos rfl, if_pos hj]
        have : tokCell S W (k + 1) (k * 2) = .string (S k) := by
          unfold tokCell; rw [if_pos (by omega), if_pos (by omega), show k * 2 / 2 = k by omega]
        rw [this]
      · rw [if_neg e2]
        have : tokCell S W k j = tokCell S W (k + 1) j := by
          unfold tokCell
          by_cases h : j / 2 < k
          · rw [if_pos h, if_pos (show j / 2 < k + 1 by omega)]
          · rw [if_neg h, if_neg (show ¬ j / 2 < k + 1 by omega)]
        rw [this]
  · rw [List.getElem?_eq_none (by simp; omega), List.getElem?_eq_none (by simp; omega)]

theorem tokCells_get {w : World} {g e : Nat} {base n cap : Nat} {S : Nat → ByteArray} {W : Nat → Int} (ho : w.ownsRow base e 2 (.slice (some ⟨g, 0, none⟩) n cap) n (tokCells S W n n)) (i : Nat) (hi : i < n) :
    w.cell? ⟨g, 0 + i * 2, none⟩ = some (.string (S i)) ∧ w.cell? ⟨g, 0 + i * 2 + 1, none⟩ = some (.int .i64 (W i)) := by
  rw [Nat.zero_add, ho.cellAt (i * 2) (by omega), ho.cellAt (i * 2 + 1) (by omega)]
  unfold tokCells
  rw [List.getElem?_map, List.getElem?_map, List.getElem?_range (by omega), List.getElem?_range (by omega)]
  simp only [Option.map_some]
  constructor
  · unfold tokCell; rw [if_pos (by omega), if_pos (by omega), show i * 2 / 2 = i by omega]
  · unfold tokCell; rw [if_pos (by omega), if_neg (by omega), show (i * 2 + 1) / 2 = i by omega]

/-- A token stored, behind a draw. -/
theorem tokCells_stored {w : World} {g e : Nat} {base n cap : Nat} {S : Nat → ByteArray} {W : Nat → Int} {k : Nat} (hk : k < n) (ho : w.ownsRow base e 2 (.slice (some ⟨g, 0, none⟩) n cap) n (tokCells S W k n)) :
    (((w.setCell ⟨g, k * 2, none⟩ (.string (S k))).setCell ⟨g, k * 2 + 1, none⟩ (.int .i64 (W k))).drew).ownsRow base e 2 (.slice (some ⟨g, 0, none⟩) n cap) n (tokCells S W (k + 1) n) := by
  have h1 := (ho.stored (k * 2) (.string (S k))).1
  have h2 := (h1.stored (k * 2 + 1) (.int .i64 (W k))).1
  rw [tokCells_step S W k n hk] at h2
  exact h2.drew

theorem tokCells_some {w : World} {g e : Nat} {base n cap : Nat} {S : Nat → ByteArray} {W : Nat → Int} {k : Nat} (ho : w.ownsRow base e 2 (.slice (some ⟨g, 0, none⟩) n cap) n (tokCells S W k n)) (j : Nat) (hj : j < n * 2) :
    ∃ u, w.cell? ⟨g, j, none⟩ = some u :=
  ⟨_, (ho.cellAt j hj).trans (List.getElem?_eq_getElem (by simp [tokCells]; exact hj))⟩

set_option maxHeartbeats 400000 in
theorem toZZ_some (x : Addr) (len cap : Nat) (S : Nat → ByteArray) (W : Nat → Int) (w : World) (hl : len ≤ 4096) (h : Toks w (some x) len cap S W) :
   Calls Try.prog 8 #[.slice (some x) len cap] w fun e w' => e = .returned (.slice (some ⟨w.heap.size, 0, none⟩) len len) ∧ w'.ownsRow w.heap.size 40 2 (.slice (some ⟨w.heap.size, 0, none⟩) len len) len (tokCells S W len len) ∧ Below w.heap.size w w' := by
  have hn := fun w => Lib.run_eql_slice_nil (P := Try.prog) w 22 36 (some x) len cap 0 0 Try.underlying22
  obtain ⟨i0, hi, hz0, hz1, hz2⟩ := info_parts Try.info40
  go_enter Try.func8, Try.ntmps8
  go_wp2_with (at_make; refine wpList_make_full _ rfl _ _ 28 rfl w.heap.size 40 i0 _ 2 Try.underlying28 hi hz0 hz1 _ _ _ _ len rfl rfl rfl rfl (by rw [hz2]; omega) (by unfold maxLen; omega) (Nat.le_refl _) ?_; intro w1 hown hgrow)
  go_loopw [4] (fun i wr => ∃ k : Nat, k ≤ len ∧ i = .int .i64 k ∧ wr.ownsRow w.heap.size 40 2 (.slice (some ⟨w.heap.size, 0, none⟩) len len) len (tokCells S W k len) ∧ Below w.heap.size w wr) (fun i _ => len - (intOf i).toNat)
  case atStart => exact ⟨0, Nat.zero_le _, rfl, by rw [← tokCells_start]; exact hown, (Below.refl _ _).grown hgrow (Nat.le_refl _) (fun k h => by cases h)⟩
  case round =>
    obtain ⟨k, hk, rfl, ho, hb⟩ := hrel
    by_cases hlt : k < len
    · obtain ⟨b, off, e, hcc⟩ := h.2 (by omega)
      obtain rfl : x = ⟨b, off, none⟩ := by simpa using e
      have hcx := cell_later hb (hcc k hlt).1
      have hcy := cell_later hb (hcc k hlt).2
      have hf := ho.frozenAt (k * 2)
      have hf2 := ho.frozenAt (k * 2 + 1)
      obtain ⟨u, hcell⟩ := tokCells_some ho (k * 2) (by omega)
      obtain ⟨u2, hcell2⟩ := tokCells_some ho (k * 2 + 1) (by omega)
      have HO : Hid (_) := tokCells_stored hlt ho
      have HB : Hid (_) := ((hb.setCell (p := ⟨w.heap.size, k * 2, none⟩) (Nat.le_refl _) (.string (S k))).setCell (p := ⟨w.heap.size, k * 2 + 1, none⟩) (Nat.le_refl _) (.int .i64 (W k))).drew
      clear hcc hown hgrow e ho hb h
      go_wp2
      go_region
      go_wp2
      go_roundw
      case rel => exact ⟨k + 1, by omega, by go_num, HO.out, HB.out⟩
      case measure => simp [intOf]; omega
    · have e : k = len := by omega
      subst e
      go_wp2
      go_ret
      exact ⟨rfl, ho, hb⟩
set_option maxHeartbeats 400000 in
theorem matcher_nil (w : World) : Calls Try.prog 15 #[.slice none 0 0] w fun e w' => e = .returned (.pointer (some ⟨w.heap.size, 0, none⟩)) ∧ w'.cell? ⟨w.heap.size, 0, none⟩ = some (.slice none 0 0) ∧ Below w.heap.size w w' := by
  have hn := fun w => Lib.run_eql_slice_nil (P := Try.prog) w 28 40 none 0 0 0 0 Try.underlying28
  go_enter Try.func15, Try.ntmps15
  go_wp2
  go_ret
  exact ⟨rfl, by simp, (Below.refl _ _).alloc (Nat.le_refl _) _⟩

set_option maxHeartbeats 400000 in
theorem matcher_some (x : Addr) (len cap : Nat) (S : Nat → ByteArray) (W : Nat → Int) (w : World) (hl : len ≤ 4096) (h : Toks w (some x) len cap S W) :
   Calls Try.prog 15 #[.slice (some x) len cap] w fun e w' => ∃ p, e = .returned (.pointer (some ⟨p, 0, none⟩)) ∧ w'.cell? ⟨p, 0, none⟩ = some (.slice (some ⟨w.heap.size, 0, none⟩) len len) ∧ w'.ownsRow w.heap.size 49 2 (.slice (some ⟨w.heap.size, 0, none⟩) len len) len (tokCells S W len len) ∧ Below w.heap.size w w' := by
  have hn := fun w => Lib.run_eql_slice_nil (P := Try.prog) w 28 40 (some x) len cap 0 0 Try.underlying28
  obtain ⟨i0, hi, hz0, hz1, hz2⟩ := info_parts Try.info49
  go_enter Try.func15, Try.ntmps15
  go_wp2_with (at_make; refine wpList_make_full _ rfl _ _ 45 rfl w.heap.size 49 i0 _ 2 Try.underlying45 hi hz0 hz1 _ _ _ _ len rfl rfl rfl rfl (by rw [hz2]; omega) (by unfold maxLen; omega) (Nat.le_refl _) ?_; intro w1 hown hgrow)
  go_loopw [4] (fun i wr => ∃ k : Nat, k ≤ len ∧ i = .int .i64 k ∧ wr.ownsRow w.heap.size 49 2 (.slice (some ⟨w.heap.size, 0, none⟩) len len) len (tokCells S W k len) ∧ Below w.heap.size w wr) (fun i _ => len - (intOf i).toNat)
  case atStart => exact ⟨0, Nat.zero_le _, rfl, by rw [← tokCells_start]; exact hown, (Below.refl _ _).grown hgrow (Nat.le_refl _) (fun k h => by cases h)⟩
  case round =>
    obtain ⟨k, hk, rfl, ho, hb⟩ := hrel
    by_cases hlt : k < len
    · obtain ⟨b, off, e, hcc⟩ := h.2 (by omega)
      obtain rfl : x = ⟨b, off, none⟩ := by simpa using e
      have hcx := cell_later hb (hcc k hlt).1
      have hcy := cell_later hb (hcc k hlt).2
      have hf := ho.frozenAt (k * 2)
      have hf2 := ho.frozenAt (k * 2 + 1)
      obtain ⟨u, hcell⟩ := tokCells_some ho (k * 2) (by omega)
      obtain ⟨u2, hcell2⟩ := tokCells_some ho (k * 2 + 1) (by omega)
      have HO : Hid (_) := tokCells_stored hlt ho
      have HB : Hid (_) := ((hb.setCell (p := ⟨w.heap.size, k * 2, none⟩) (Nat.le_refl _) (.string (S k))).setCell (p := ⟨w.heap.size, k * 2 + 1, none⟩) (Nat.le_refl _) (.int .i64 (W k))).drew
      clear hcc hown hgrow e ho hb h
      go_wp2
      go_region
      go_wp2
      go_roundw
      case rel => exact ⟨k + 1, by omega, by go_num, HO.out, HB.out⟩
      case measure => simp [intOf]; omega
    · have e : k = len := by omega
      subst e
      go_wp2
      go_ret
      exact ⟨_, rfl, by simp, ho.alloc _, hb.alloc hb.size _⟩
end Go.Proofs.Qxb6605325a
