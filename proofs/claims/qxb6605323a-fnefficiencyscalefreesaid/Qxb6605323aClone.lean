import Derived.Test.Qxb6605323aRows
import Derived.WalkKit
import Derived.WalkLawsBesides
import Derived.Below
import Derived.LoopTactic
import Derived.WalkSpells
namespace Go.Proofs.Qxb6605323a
open Go.RowKit
set_option linter.unusedVariables false

def IsRow (k : IntKind) (w : World) (a : Option Addr) (len cap : Nat) (zs : List Int) : Prop :=
  (a = none ∧ len = 0 ∧ cap = 0 ∧ zs = []) ∨
  ∃ x, a = some x ∧ len ≤ cap ∧ cap ≤ maxLen ∧ zs.length = cap ∧ (∀ i, i < zs.length → w.cell? (x.add i) = some (.int k (zs.getD i 0))) ∧ ∀ n ∈ zs, (Lit.int k n).wf = true

theorem Try.info2 : (Try.prog.info? 2).map (fun i => (i.zero, i.size, i.bytes)) = some (some (.int .i64 0), 1, 8) := by kernel_rfl
theorem Try.info3 : (Try.prog.info? 3).map (fun i => (i.zero, i.size, i.bytes)) = some (some (.int .i64 0), 1, 8) := by kernel_rfl

set_option maxHeartbeats 400000 in
theorem clone64_nil (w : World) : Calls Try.prog 10 #[.slice none 0 0] w fun e w' => e = .returned (.slice none 0 0) ∧ w' = w := by
  have hn := fun w => Lib.run_eql_slice_nil (P := Try.prog) w 22 2 none 0 0 0 0 Try.underlying22
  go_enter Try.func10, Try.ntmps10
  go_wp2
  go_ret
  exact ⟨rfl, rfl⟩

theorem set_step (zs : List Int) (k n : Nat) (hk : k < n) (hz : n ≤ zs.length) :
    ((zs.take k ++ List.replicate (n - k) 0).map (Value.int .i64)).set k (.int .i64 (zs[k]?.getD 0)) = (zs.take (k + 1) ++ List.replicate (n - (k + 1)) 0).map (Value.int .i64) := by
  rw [← List.map_set]
  congr 1
  apply List.ext_getElem?
  intro i
  have h1 : (zs.take k).length = k := by simp; omega
  have h2 : (zs.take (k + 1)).length = k + 1 := by simp; omega
  rw [List.getElem?_set]
  by_cases e : k = i
  · subst e
    rw [if_pos rfl, if_pos (by simp; omega), List.getElem?_append_left (by omega)]
    simp [List.getElem?_eq_getElem (show k < zs.length by omega)]
  · rw [if_neg e]
    by_cases hi : i < k
    · rw [List.getElem?_append_left (by omega), List.getElem?_append_left (by omega)]
      simp [hi, show i < k + 1 by omega]
    · rw [List.getElem?_append_right (by omega), List.getElem?_append_right (by omega), h1, h2]
      simp only [List.getElem?_replicate]
      by_cases h3 : i < n
      · rw [if_pos (by omega), if_pos (by omega)]
      · rw [if_neg (by omega), if_neg (by omega)]

set_option maxHeartbeats 400000 in
theorem clone64_some (x : Addr) (len cap : Nat) (zs : List Int) (w : World) (hl : len ≤ 1048576) (hz : len ≤ zs.length) (hc : 0 < len → ∃ b off, x = ⟨b, off, none⟩ ∧ ∀ i, i < len → w.cell? ⟨b, off + i, none⟩ = some (.int .i64 (zs.getD i 0))) :
   Calls Try.prog 10 #[.slice (some x) len cap] w fun e w' => e = .returned (.slice (some ⟨w.heap.size, 0, none⟩) len len) ∧ w'.ownsRow w.heap.size 2 1 (.slice (some ⟨w.heap.size, 0, none⟩) len len) len ((zs.take len).map (Value.int .i64)) ∧ Below w.heap.size w w' := by
  have hn := fun w => Lib.run_eql_slice_nil (P := Try.prog) w 22 2 (some x) len cap 0 0 Try.underlying22
  obtain ⟨i0, hi, hz0, hz1, hz2⟩ := info_parts Try.info2
  go_enter Try.func10, Try.ntmps10
  go_wp2_with (at_make; refine wpList_make_full _ rfl _ _ 22 rfl w.heap.size 2 i0 _ 1 Try.underlying22 hi hz0 hz1 _ _ _ _ len rfl rfl rfl rfl (by rw [hz2]; omega) (by unfold maxLen; omega) (Nat.le_refl _) ?_; intro w1 hown hgrow)
  go_loopw [4] (fun i wr => ∃ k : Nat, k ≤ len ∧ i = .int .i64 k ∧ wr.ownsRow w.heap.size 2 1 (.slice (some ⟨w.heap.size, 0, none⟩) len len) len ((zs.take k ++ List.replicate (len - k) 0).map (Value.int .i64)) ∧ Below w.heap.size w wr) (fun i _ => len - (intOf i).toNat)
  case atStart => exact ⟨0, Nat.zero_le _, rfl, by simpa [Value.cells, toList_madeCells_one] using hown, (Below.refl _ _).grown hgrow (Nat.le_refl _) (fun k h => by cases h)⟩
  case round =>
    obtain ⟨k, hk, rfl, ho, hb⟩ := hrel
    by_cases hlt : k < len
    · obtain ⟨b, off, rfl, hcc⟩ := hc (by omega)
      have hcx := cell_later hb (hcc k hlt)
      have hf := ho.frozenAt k
      obtain ⟨u, hcell⟩ : ∃ u, wr.cell? ⟨w.heap.size, k, none⟩ = some u := ⟨_, (ho.cellAt k (by omega)).trans (List.getElem?_eq_getElem (by simp; omega))⟩
      have hst := (ho.stored k (.int .i64 (zs[k]?.getD 0))).1
      rw [set_step zs k len hlt hz] at hst
      have HB := hb.setCell (p := ⟨w.heap.size, k, none⟩) (Nat.le_refl _) (.int .i64 (zs[k]?.getD 0))
      clear hcc hown hgrow
      go_wp2
      go_roundw
      case rel => exact ⟨k + 1, by omega, by go_num, hst, HB⟩
      case measure => simp [intOf]; omega
    · have e : k = len := by omega
      subst e
      go_wp2
      go_ret
      exact ⟨rfl, by simpa using ho, hb⟩
set_option maxHeartbeats 400000 in
theorem cloneI_nil (w : World) : Calls Try.prog 11 #[.slice none 0 0] w fun e w' => e = .returned (.slice none 0 0) ∧ w' = w := by
  have hn := fun w => Lib.run_eql_slice_nil (P := Try.prog) w 23 3 none 0 0 0 0 Try.underlying23
  go_enter Try.func11, Try.ntmps11
  go_wp2
  go_ret
  exact ⟨rfl, rfl⟩

set_option maxHeartbeats 400000 in
theorem cloneI_some (x : Addr) (len cap : Nat) (zs : List Int) (w : World) (hl : len ≤ 1048576) (hz : len ≤ zs.length) (hc : 0 < len → ∃ b off, x = ⟨b, off, none⟩ ∧ ∀ i, i < len → w.cell? ⟨b, off + i, none⟩ = some (.int .i64 (zs.getD i 0))) :
   Calls Try.prog 11 #[.slice (some x) len cap] w fun e w' => e = .returned (.slice (some ⟨w.heap.size, 0, none⟩) len len) ∧ w'.ownsRow w.heap.size 3 1 (.slice (some ⟨w.heap.size, 0, none⟩) len len) len ((zs.take len).map (Value.int .i64)) ∧ Below w.heap.size w w' := by
  have hn := fun w => Lib.run_eql_slice_nil (P := Try.prog) w 23 3 (some x) len cap 0 0 Try.underlying23
  obtain ⟨i0, hi, hz0, hz1, hz2⟩ := info_parts Try.info3
  go_enter Try.func11, Try.ntmps11
  go_wp2_with (at_make; refine wpList_make_full _ rfl _ _ 23 rfl w.heap.size 3 i0 _ 1 Try.underlying23 hi hz0 hz1 _ _ _ _ len rfl rfl rfl rfl (by rw [hz2]; omega) (by unfold maxLen; omega) (Nat.le_refl _) ?_; intro w1 hown hgrow)
  go_loopw [4] (fun i wr => ∃ k : Nat, k ≤ len ∧ i = .int .i64 k ∧ wr.ownsRow w.heap.size 3 1 (.slice (some ⟨w.heap.size, 0, none⟩) len len) len ((zs.take k ++ List.replicate (len - k) 0).map (Value.int .i64)) ∧ Below w.heap.size w wr) (fun i _ => len - (intOf i).toNat)
  case atStart => exact ⟨0, Nat.zero_le _, rfl, by simpa [Value.cells, toList_madeCells_one] using hown, (Below.refl _ _).grown hgrow (Nat.le_refl _) (fun k h => by cases h)⟩
  case round =>
    obtain ⟨k, hk, rfl, ho, hb⟩ := hrel
    by_cases hlt : k < len
    · obtain ⟨b, off, rfl, hcc⟩ := hc (by omega)
      have hcx := cell_later hb (hcc k hlt)
      have hf := ho.frozenAt k
      obtain ⟨u, hcell⟩ : ∃ u, wr.cell? ⟨w.heap.size, k, none⟩ = some u := ⟨_, (ho.cellAt k (by omega)).trans (List.getElem?_eq_getElem (by simp; omega))⟩
      have hst := (ho.stored k (.int .i64 (zs[k]?.getD 0))).1
      rw [set_step zs k len hlt hz] at hst
      have HB := hb.setCell (p := ⟨w.heap.size, k, none⟩) (Nat.le_refl _) (.int .i64 (zs[k]?.getD 0))
      clear hcc hown hgrow
      go_wp2
      go_roundw
      case rel => exact ⟨k + 1, by omega, by go_num, hst, HB⟩
      case measure => simp [intOf]; omega
    · have e : k = len := by omega
      subst e
      go_wp2
      go_ret
      exact ⟨rfl, by simpa using ho, hb⟩
end Go.Proofs.Qxb6605323a
