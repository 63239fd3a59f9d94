import Derived.Test.Qxb6605343aRows
import Derived.WalkKit
import Derived.WalkLawsBesides
import Derived.Below
import Derived.LoopTactic
import Derived.WalkSpells
namespace Go.Proofs.Qxb6605343a
open Go.RowKit
set_option linter.unusedVariables false

theorem ret_bool {a b : Bool} (h : a = b) : Ending.returned (.bool a) = .returned (.bool b) := by rw [h]

def vow (c : Int) : Bool := (c == 97) || (c == 101) || (c == 105) || (c == 111) || (c == 117)

set_option maxHeartbeats 400000 in
theorem vowel_any (c : Int) (w : World) : Calls Try.prog 19 #[.int .u8 c] w fun e w' => e = .returned (.bool (vow c)) ∧ w = w' := by
  by_cases h1 : (c == 97) = true
  · go_enter Try.func19, Try.ntmps19
    go_wp2
    go_ret
    exact ⟨ret_bool (by simp [vow, h1]), rfl⟩
  have h1' : (c == 97) = false := by simpa using h1
  by_cases h2 : (c == 101) = true
  · go_enter Try.func19, Try.ntmps19
    go_wp2
    go_ret
    exact ⟨ret_bool (by simp [vow, h2]), rfl⟩
  have h2' : (c == 101) = false := by simpa using h2
  by_cases h3 : (c == 105) = true
  · go_enter Try.func19, Try.ntmps19
    go_wp2
    go_ret
    exact ⟨ret_bool (by simp [vow, h3]), rfl⟩
  have h3' : (c == 105) = false := by simpa using h3
  by_cases h4 : (c == 111) = true
  · go_enter Try.func19, Try.ntmps19
    go_wp2
    go_ret
    exact ⟨ret_bool (by simp [vow, h4]), rfl⟩
  have h4' : (c == 111) = false := by simpa using h4
  clear h1 h2 h3 h4
  go_enter Try.func19, Try.ntmps19
  go_wp2
  go_ret
  exact ⟨ret_bool (by simp [vow, h1', h2', h3', h4']), rfl⟩

set_option maxHeartbeats 400000 in
theorem lower_any (s : ByteArray) (w : World) (h0 : 0 < s.size) (h1 : s.size ≤ 1000) (hl : ∀ i, (h : i < s.size) → 97 ≤ (s[i].toNat : Int) ∧ (s[i].toNat : Int) ≤ 122) :
    Calls Try.prog 20 #[.string s] w fun e w' => e = .returned (.bool true) ∧ w = w' := by
  have hz : ((s.size : Int) == 0) = false := by rw [beq_eq_false_iff_ne]; omega
  have HL : Hid (∀ i, (h : i < s.size) → 97 ≤ (s[i].toNat : Int) ∧ (s[i].toNat : Int) ≤ 122) := hl
  clear hl
  go_enter Try.func20, Try.ntmps20
  go_wp2
  go_loop [3] (fun i => ∃ k : Nat, k ≤ s.size ∧ i = .int .i64 k) (fun i => s.size - (intOf i).toNat)
  case atStart => exact ⟨0, Nat.zero_le _, rfl⟩
  case round =>
    obtain ⟨k, hk, rfl⟩ := hrel
    by_cases hlt : k < s.size
    · have hb := HL.out k hlt
      go_wp2
      go_round
      case rel => exact ⟨k + 1, by omega, by go_num⟩
      case measure => simp [intOf]; omega
    · go_wp2
      go_ret
      exact ⟨rfl, rfl⟩

set_option maxHeartbeats 400000 in
theorem range_any (k : Int) (w : World) : Calls Try.prog 8 #[.int .i64 k] w fun e w' => e = .returned (.bool (decide (0 ≤ k ∧ k ≤ 5))) ∧ w = w' := by
  by_cases h1 : 0 ≤ k
  · go_enter Try.func8, Try.ntmps8
    go_wp2
    go_ret
    exact ⟨ret_bool (by simp [h1]), rfl⟩
  · go_enter Try.func8, Try.ntmps8
    go_wp2
    go_ret
    exact ⟨ret_bool (by simp; omega), rfl⟩

def sNull : ByteArray := { data := #[110, 117, 108, 108] }
def sBool : ByteArray := { data := #[97, 32, 98, 111, 111, 108, 101, 97, 110] }
def sNum : ByteArray := { data := #[97, 32, 110, 117, 109, 98, 101, 114] }
def sStr : ByteArray := { data := #[97, 32, 115, 116, 114, 105, 110, 103] }
def sObj : ByteArray := { data := #[97, 110, 32, 111, 98, 106, 101, 99, 116] }
def sArr : ByteArray := { data := #[97, 110, 32, 97, 114, 114, 97, 121] }

set_option maxHeartbeats 400000 in
theorem wn_null (w : World) : Calls Try.prog 7 #[.string sNull] w fun e w' => e = .returned (.bool true) ∧ w = w' := by
  unfold sNull
  go_enter Try.func7, Try.ntmps7
  go_wp2
  go_ret
  exact ⟨rfl, rfl⟩

theorem vowel_of (c : Int) (w : World) (b : Bool) (h : vow c = b) : Calls Try.prog 19 #[.int .u8 c] w fun e w' => e = .returned (.bool b) ∧ w = w' := by
  rw [← h]; exact vowel_any c w

theorem ext_of (d : Array UInt8) (a b : Nat) : (⟨d⟩ : ByteArray).extract a b = ⟨d.extract a b⟩ := by
  apply ByteArray.ext; simp [ByteArray.data_extract]

set_option maxHeartbeats 400000 in
theorem wn_bool (w : World) : Calls Try.prog 7 #[.string sBool] w fun e w' => e = .returned (.bool true) ∧ w = w' := by
  have L := lower_any (sBool.extract 2 9) w (by decide +kernel) (by decide +kernel) (by decide +kernel)
  have HL : Hid (Calls Try.prog 20 #[.string (sBool.extract 2 9)] w fun e w' => e = .returned (.bool true) ∧ w = w') := L
  clear L
  have b1 : (((sBool)[1]'(by decide +kernel)).toNat : Int) = 32 := by decide +kernel
  have b2 : (((sBool)[2]'(by decide +kernel)).toNat : Int) = 98 := by decide +kernel
  have b3 : (((sBool)[3]'(by decide +kernel)).toNat : Int) = 111 := by decide +kernel
  unfold sBool at *
  go_enter Try.func7, Try.ntmps7
  go_wp2_with fail
  refine (vowel_of _ _ false ?_).mono ?_
  · decide +kernel
  rintro e w1 ⟨rfl, rfl⟩
  go_wp2_with fail
  refine Calls.mono HL.out ?_
  rintro e w1 ⟨rfl, rfl⟩
  go_wp2
  go_ret
  exact ⟨rfl, rfl⟩

set_option maxHeartbeats 400000 in
theorem wn_num (w : World) : Calls Try.prog 7 #[.string sNum] w fun e w' => e = .returned (.bool true) ∧ w = w' := by
  have L := lower_any (sNum.extract 2 8) w (by decide +kernel) (by decide +kernel) (by decide +kernel)
  have HL : Hid (Calls Try.prog 20 #[.string (sNum.extract 2 8)] w fun e w' => e = .returned (.bool true) ∧ w = w') := L
  clear L
  have b1 : (((sNum)[1]'(by decide +kernel)).toNat : Int) = 32 := by decide +kernel
  have b2 : (((sNum)[2]'(by decide +kernel)).toNat : Int) = 110 := by decide +kernel
  have b3 : (((sNum)[3]'(by decide +kernel)).toNat : Int) = 117 := by decide +kernel
  unfold sNum at *
  go_enter Try.func7, Try.ntmps7
  go_wp2_with fail
  refine (vowel_of _ _ false ?_).mono ?_
  · decide +kernel
  rintro e w1 ⟨rfl, rfl⟩
  go_wp2_with fail
  refine Calls.mono HL.out ?_
  rintro e w1 ⟨rfl, rfl⟩
  go_wp2
  go_ret
  exact ⟨rfl, rfl⟩

set_option maxHeartbeats 400000 in
theorem wn_str (w : World) : Calls Try.prog 7 #[.string sStr] w fun e w' => e = .returned (.bool true) ∧ w = w' := by
  have L := lower_any (sStr.extract 2 8) w (by decide +kernel) (by decide +kernel) (by decide +kernel)
  have HL : Hid (Calls Try.prog 20 #[.string (sStr.extract 2 8)] w fun e w' => e = .returned (.bool true) ∧ w = w') := L
  clear L
  have b1 : (((sStr)[1]'(by decide +kernel)).toNat : Int) = 32 := by decide +kernel
  have b2 : (((sStr)[2]'(by decide +kernel)).toNat : Int) = 115 := by decide +kernel
  have b3 : (((sStr)[3]'(by decide +kernel)).toNat : Int) = 116 := by decide +kernel
  unfold sStr at *
  go_enter Try.func7, Try.ntmps7
  go_wp2_with fail
  refine (vowel_of _ _ false ?_).mono ?_
  · decide +kernel
  rintro e w1 ⟨rfl, rfl⟩
  go_wp2_with fail
  refine Calls.mono HL.out ?_
  rintro e w1 ⟨rfl, rfl⟩
  go_wp2
  go_ret
  exact ⟨rfl, rfl⟩

set_option maxHeartbeats 400000 in
theorem wn_obj (w : World) : Calls Try.prog 7 #[.string sObj] w fun e w' => e = .returned (.bool true) ∧ w = w' := by
  have L := lower_any (sObj.extract 3 9) w (by decide +kernel) (by decide +kernel) (by decide +kernel)
  have HL : Hid (Calls Try.prog 20 #[.string (sObj.extract 3 9)] w fun e w' => e = .returned (.bool true) ∧ w = w') := L
  clear L
  have b1 : (((sObj)[1]'(by decide +kernel)).toNat : Int) = 110 := by decide +kernel
  have b2 : (((sObj)[2]'(by decide +kernel)).toNat : Int) = 32 := by decide +kernel
  have b3 : (((sObj)[3]'(by decide +kernel)).toNat : Int) = 111 := by decide +kernel
  unfold sObj at *
  go_enter Try.func7, Try.ntmps7
  go_wp2_with fail
  refine (vowel_of _ _ true ?_).mono ?_
  · decide +kernel
  rintro e w1 ⟨rfl, rfl⟩
  go_wp2_with fail
  refine Calls.mono HL.out ?_
  rintro e w1 ⟨rfl, rfl⟩
  go_wp2
  go_ret
  exact ⟨rfl, rfl⟩

set_option maxHeartbeats 400000 in
theorem wn_arr (w : World) : Calls Try.prog 7 #[.string sArr] w fun e w' => e = .returned (.bool true) ∧ w = w' := by
  have L := lower_any (sArr.extract 3 8) w (by decide +kernel) (by decide +kernel) (by decide +kernel)
  have HL : Hid (Calls Try.prog 20 #[.string (sArr.extract 3 8)] w fun e w' => e = .returned (.bool true) ∧ w = w') := L
  clear L
  have b1 : (((sArr)[1]'(by decide +kernel)).toNat : Int) = 110 := by decide +kernel
  have b2 : (((sArr)[2]'(by decide +kernel)).toNat : Int) = 32 := by decide +kernel
  have b3 : (((sArr)[3]'(by decide +kernel)).toNat : Int) = 97 := by decide +kernel
  unfold sArr at *
  go_enter Try.func7, Try.ntmps7
  go_wp2_with fail
  refine (vowel_of _ _ true ?_).mono ?_
  · decide +kernel
  rintro e w1 ⟨rfl, rfl⟩
  go_wp2_with fail
  refine Calls.mono HL.out ?_
  rintro e w1 ⟨rfl, rfl⟩
  go_wp2
  go_ret
  exact ⟨rfl, rfl⟩

def Nm (k : Int) (s : ByteArray) : Prop := (k = 0 ∧ s = sNull) ∨ (k = 1 ∧ s = sBool) ∨ (k = 2 ∧ s = sNum) ∨ (k = 3 ∧ s = sStr) ∨ (k = 4 ∧ s = sObj) ∨ ((k < 0 ∨ 4 < k) ∧ s = sArr)

set_option maxHeartbeats 400000 in
theorem string_any (k : Int) (w : World) : Calls Try.prog 6 #[.int .i64 k] w fun e w' => ∃ s, e = .returned (.string s) ∧ Nm k s ∧ w = w' := by
  rcases (show k = 0 ∨ k = 1 ∨ k = 2 ∨ k = 3 ∨ k = 4 ∨ (k < 0 ∨ 4 < k) by omega) with rfl | rfl | rfl | rfl | rfl | h
  · go_enter Try.func6, Try.ntmps6
    go_wp2
    go_ret
    exact ⟨sNull, rfl, .inl ⟨rfl, rfl⟩, rfl⟩
  · go_enter Try.func6, Try.ntmps6
    go_wp2
    go_ret
    exact ⟨sBool, rfl, .inr (.inl ⟨rfl, rfl⟩), rfl⟩
  · go_enter Try.func6, Try.ntmps6
    go_wp2
    go_ret
    exact ⟨sNum, rfl, .inr (.inr (.inl ⟨rfl, rfl⟩)), rfl⟩
  · go_enter Try.func6, Try.ntmps6
    go_wp2
    go_ret
    exact ⟨sStr, rfl, .inr (.inr (.inr (.inl ⟨rfl, rfl⟩))), rfl⟩
  · go_enter Try.func6, Try.ntmps6
    go_wp2
    go_ret
    exact ⟨sObj, rfl, .inr (.inr (.inr (.inr (.inl ⟨rfl, rfl⟩)))), rfl⟩
  · have h0 : (k == 0) = false := by rw [beq_eq_false_iff_ne]; omega
    have h1 : (k == 1) = false := by rw [beq_eq_false_iff_ne]; omega
    have h2 : (k == 2) = false := by rw [beq_eq_false_iff_ne]; omega
    have h3 : (k == 3) = false := by rw [beq_eq_false_iff_ne]; omega
    have h4 : (k == 4) = false := by rw [beq_eq_false_iff_ne]; omega
    have H : Hid (k < 0 ∨ 4 < k) := h
    clear h
    go_enter Try.func6, Try.ntmps6
    go_wp2
    go_ret
    exact ⟨sArr, rfl, .inr (.inr (.inr (.inr (.inr ⟨H.out, rfl⟩)))), rfl⟩

theorem wn_any (k : Int) (s : ByteArray) (w : World) (h : Nm k s) : Calls Try.prog 7 #[.string s] w fun e w' => e = .returned (.bool true) ∧ w = w' := by
  rcases h with ⟨_, rfl⟩ | ⟨_, rfl⟩ | ⟨_, rfl⟩ | ⟨_, rfl⟩ | ⟨_, rfl⟩ | ⟨_, rfl⟩
  · exact wn_null w
  · exact wn_bool w
  · exact wn_num w
  · exact wn_str w
  · exact wn_obj w
  · exact wn_arr w

theorem names_apart {a b : Int} {s t : ByteArray} (ha : Nm a s) (hb : Nm b t) (ra : 0 ≤ a ∧ a ≤ 5) (rb : 0 ≤ b ∧ b ≤ 5) : (s.toList == t.toList) = (a == b) := by
  rcases ha with ⟨rfl, rfl⟩ | ⟨rfl, rfl⟩ | ⟨rfl, rfl⟩ | ⟨rfl, rfl⟩ | ⟨rfl, rfl⟩ | ⟨h, rfl⟩ <;> rcases hb with ⟨rfl, rfl⟩ | ⟨rfl, rfl⟩ | ⟨rfl, rfl⟩ | ⟨rfl, rfl⟩ | ⟨rfl, rfl⟩ | ⟨h', rfl⟩
  all_goals first
    | decide +kernel
    | (obtain rfl : a = 5 := by omega
       first
         | decide +kernel
         | (obtain rfl : b = 5 := by omega
            decide +kernel))
    | (obtain rfl : b = 5 := by omega
       decide +kernel)

set_option maxHeartbeats 800000 in
theorem law3 (a b : Int) (w : World) : Calls Try.prog 3 #[.int .i64 a, .int .i64 b] w fun e w' => e = .returned (.bool true) ∧ Below w.heap.size w w' := by
  go_enter Try.func3, Try.ntmps3
  go_wp2_with fail
  refine (string_any a _).mono ?_
  rintro e w1 ⟨s, rfl, hs, rfl⟩
  have HS : Hid (Nm a s) := hs
  clear hs
  go_wp2_with fail
  refine (string_any b _).mono ?_
  rintro e w1 ⟨t, rfl, ht, rfl⟩
  have HT : Hid (Nm b t) := ht
  clear ht
  go_wp2_with fail
  refine (wn_any a s _ HS.out).mono ?_
  rintro e w1 ⟨rfl, rfl⟩
  go_wp2_with fail
  refine (wn_any b t _ HT.out).mono ?_
  rintro e w1 ⟨rfl, rfl⟩
  by_cases ra : 0 ≤ a ∧ a ≤ 5
  · go_wp2_with fail
    refine (range_any a _).mono ?_
    rintro e w1 ⟨rfl, rfl⟩
    rw [decide_eq_true ra]
    by_cases rb : 0 ≤ b ∧ b ≤ 5
    · have hap := names_apart HS.out HT.out ra rb
      go_wp2_with fail
      refine (range_any b _).mono ?_
      rintro e w1 ⟨rfl, rfl⟩
      rw [decide_eq_true rb]
      go_wp2
      go_ret
      exact ⟨rfl, Below.refl _ _⟩
    · go_wp2_with fail
      refine (range_any b _).mono ?_
      rintro e w1 ⟨rfl, rfl⟩
      rw [decide_eq_false rb]
      go_wp2
      go_ret
      exact ⟨rfl, Below.refl _ _⟩
  · go_wp2_with fail
    refine (range_any a _).mono ?_
    rintro e w1 ⟨rfl, rfl⟩
    rw [decide_eq_false ra]
    go_wp2
    go_ret
    exact ⟨rfl, Below.refl _ _⟩
end Go.Proofs.Qxb6605343a
