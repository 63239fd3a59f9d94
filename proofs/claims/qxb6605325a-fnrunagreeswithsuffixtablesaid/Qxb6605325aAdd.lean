import Derived.Test.Qxb6605325aFour
import Derived.OneCell
import Derived.Deep.QuietTactic
import Derived.BigQuiet
namespace Go.Proofs.Qxb6605325a
open Go.RowKit
set_option linter.unusedVariables false

def hasB (A : Nat → Nat) (len : Nat) (x : Int) : Bool := (List.range len).any (fun k => decide ((A k : Int) = x))
theorem hasB_true {A : Nat → Nat} {len : Nat} {x : Int} : hasB A len x = true ↔ ∃ k, k < len ∧ (A k : Int) = x := by simp [hasB]

set_option maxHeartbeats 400000 in
theorem sindex_any (a : Option Addr) (len cap : Nat) (A : Nat → Nat) (x : Int) (w : World) (h : Ats w a len A) (hl : len ≤ 4096) :
    Calls Try.prog 22 #[.slice a len cap, .int .i64 x] w fun e w' => ∃ r, e = .returned (.int .i64 r) ∧ (0 ≤ r ↔ hasB A len x = true) ∧ w = w' := by
  go_enter Try.func22, Try.ntmps22
  go_wp2
  go_loop [8] (fun i => ∃ k : Nat, k ≤ len ∧ i = .int .i64 k ∧ (∀ j, j < k → ¬ (A j : Int) = x)) (fun i => len - (intOf i).toNat)
  case atStart => exact ⟨0, Nat.zero_le _, rfl, fun j h => by omega⟩
  case round =>
    obtain ⟨k, hk, rfl, hno⟩ := hrel
    have HN : Hid (_) := hno
    clear hno
    by_cases hlt : k < len
    · obtain ⟨b, off, rfl, hcc⟩ := h (by omega)
      have hcx := hcc k hlt
      clear hcc h
      by_cases hx : (A k : Int) = x
      · have hx' : (x == (A k : Int)) = true := by simp [hx]
        have HX : Hid (_) := hx
        clear hx
        go_wp2
        go_ret
        exact ⟨_, rfl, ⟨fun _ => hasB_true.2 ⟨k, hlt, HX.out⟩, fun _ => by omega⟩, rfl⟩
      · have hx' : (x == (A k : Int)) = false := by simp; exact fun h => hx h.symm
        go_wp2
        go_round
        case rel => exact ⟨k + 1, by omega, by go_num, fun j hj => by
            by_cases e : j = k
            · subst e; exact hx
            · exact HN.out j (by omega)⟩
        case measure => simp [intOf]; omega
    · have e : k = len := by omega
      subst e
      go_wp2
      go_ret
      refine ⟨_, rfl, ⟨fun h => by omega, fun h => ?_⟩, rfl⟩
      obtain ⟨j, hj, hh⟩ := hasB_true.1 h
      exact absurd hh (HN.out j hj)

set_option maxHeartbeats 400000 in
theorem scontains_any (a : Option Addr) (len cap : Nat) (A : Nat → Nat) (x : Int) (w : World) (h : Ats w a len A) (hl : len ≤ 4096) :
    Calls Try.prog 19 #[.slice a len cap, .int .i64 x] w fun e w' => e = .returned (.bool (hasB A len x)) ∧ w = w' := by
  go_enter Try.func19, Try.ntmps19
  go_wp2_with (go_at_call 22; refine (sindex_any _ _ _ A _ _ h hl).mono ?_; rintro e w1 ⟨r, rfl, hr, rfl⟩)
  go_ret
  exact ⟨ret_bool rfl, rfl⟩

/-! ### The closure that adds a state -/
def addL (l : List Nat) (j : Nat) : List Nat := if j ∈ l then l else l ++ [j]
def nums (l : List Nat) : List Value := l.map (fun x : Nat => Value.int .i64 (x : Int))

/-- The variable 'next' lies in block Bn and holds a slice of the call's own, whose elements are l. -/
def Nx (w : World) (Bn : Nat) (l : List Nat) : Prop := ∃ a c, w.heap[Bn]? = some (.cells #[.slice a l.length c] 26 (0, 0)) ∧ w.ownsRow (Bn + 1) 3 1 (.slice a l.length c) l.length (nums l)

theorem ats_of_own {w : World} {base : Nat} {a : Option Addr} {c : Nat} {l : List Nat} (ho : w.ownsRow base 3 1 (.slice a l.length c) l.length (nums l)) : Ats w a l.length (fun k => l.getD k 0) := by
  intro h0
  rcases ho.2 with ⟨e, e2⟩ | ⟨g, cp, cur, e, _⟩
  · omega
  · simp at e
    obtain ⟨rfl, rfl⟩ := e
    refine ⟨g, 0, rfl, fun i hi => ?_⟩
    rw [Nat.zero_add, ho.cellAt i (by omega)]
    unfold nums
    rw [List.getElem?_map, List.getElem?_eq_getElem hi]
    simp [List.getElem?_eq_getElem hi]

theorem hasB_mem (l : List Nat) (j : Nat) : hasB (fun k => l.getD k 0) l.length (j : Int) = decide (j ∈ l) := by
  rw [Bool.eq_iff_iff, hasB_true, decide_eq_true_iff]
  constructor
  · rintro ⟨k, hk, e⟩
    have : l.getD k 0 = l[k] := by simp [List.getElem?_eq_getElem hk]
    simp only [this] at e
    have e' : l[k] = j := by omega
    rw [← e']; exact List.getElem_mem hk
  · intro h
    obtain ⟨k, hk, e⟩ := List.getElem_of_mem h
    exact ⟨k, hk, by simp [List.getElem?_eq_getElem hk, e]⟩

theorem Try.info3' : (Try.prog.info? 3).map (fun i => (i.zero, i.size, i.bytes)) = some (some (.int .i64 0), 1, 8) := by kernel_rfl

theorem shape_of_own {w : World} {base n : Nat} {v : Value} {xs : List Value} (ho : w.ownsRow base 3 1 v n xs) : ∃ a c, v = .slice a n c := by
  rcases ho.2 with ⟨e, e2⟩ | ⟨g, cp, cur, e, _⟩
  · exact ⟨none, 0, by rw [e, e2]⟩
  · exact ⟨_, _, e⟩

theorem own_ne {w : World} {Bn n : Nat} {v : Value} {xs : List Value} (ho : w.ownsRow (Bn + 1) 3 1 v n xs) (k : Nat) (hk : v.ownBlock = some k) : Bn + 1 ≤ k := by
  rcases ho.2 with ⟨e, e2⟩ | ⟨g, cp, cur, e, hg, _⟩
  · subst e; simp [Value.ownBlock] at hk
  · subst e; simp [Value.ownBlock] at hk; omega

theorem own_grow {w w1 : World} {Bn n : Nat} {v : Value} {xs : List Value} {o : Obj} (ho : w.ownsRow (Bn + 1) 3 1 v n xs) (hB : Bn < w.heap.size) (hg : (w.alloc o).grownBy w1 v.ownBlock) : w1.heap[Bn]? = w.heap[Bn]? ∧ Below Bn w w1 := by
  constructor
  · rw [hg.block Bn (by simp; omega) (fun e => by have := own_ne ho Bn e.symm; omega)]
    exact Below.heap_alloc w o Bn hB
  · exact ((Below.refl Bn w).alloc (by omega) o).grown hg (by simp; omega) (fun k hk => by have := own_ne ho k hk; omega)

theorem nx_stored {w1 : World} {Bn : Nat} {l : List Nat} {j : Nat} {v : Value} {a' : Option Addr} {c' : Nat} (hB : w1.heap[Bn]? = some (.cells #[v] 26 (0, 0)))
    (ho : w1.ownsRow (Bn + 1) 3 1 (.slice a' (l.length + 1) c') (l.length + 1) (nums l ++ [.int .i64 (j : Int)])) : Nx (w1.setCell ⟨Bn, 0, none⟩ (.slice a' (l.length + 1) c')) Bn (l ++ [j]) := by
  refine ⟨a', c', ?_, ?_⟩
  · have := one_setCell (u := .slice a' (l.length + 1) c') hB
    simpa using this
  · have := ownsRow_setCell_below (a := ⟨Bn, 0, none⟩) ho (by show Bn < Bn + 1; omega) (.slice a' (l.length + 1) c')
    simpa [nums] using this

set_option maxHeartbeats 400000 in
theorem add_any (Bn j : Nat) (l : List Nat) (w : World) (h : Nx w Bn l) (hl : l.length ≤ 4000) :
    Calls Try.prog 18 #[.int .i64 j, .pointer (some ⟨Bn, 0, none⟩)] w fun e w' => e = .returned (.tuple #[]) ∧ Nx w' Bn (addL l j) ∧ Below Bn w w' := by
  obtain ⟨a, c, hcell, ho⟩ := h
  have hc := cell_of_one hcell
  have hf := free_of_one hcell
  have hbs := lt_of_block hcell
  have HO : Hid (w.ownsRow (Bn + 1) 3 1 (.slice a l.length c) l.length (nums l)) := ho
  have HC : Hid (w.heap[Bn]? = some (.cells #[.slice a l.length c] 26 (0, 0))) := hcell
  clear hcell ho
  obtain ⟨i0, hi, hz0, hz1, hz2⟩ := info_parts Try.info3'
  have hm := hasB_mem l j
  by_cases hj : j ∈ l
  · rw [decide_eq_true hj] at hm
    have HM : Hid (_) := hm
    clear hm
    go_enter Try.func18, Try.ntmps18
    go_wp2_with fail
    refine (scontains_any _ _ _ (fun k => l.getD k 0) _ _ (ats_of_own HO.out) (by omega)).mono ?_
    rintro e w1 ⟨rfl, rfl⟩
    rw [HM.out]
    go_wp2
    go_end0
    exact ⟨rfl, by unfold addL; rw [if_pos hj]; exact ⟨a, c, HC.out, HO.out⟩, Below.refl _ _⟩
  · rw [decide_eq_false hj] at hm
    have HM : Hid (_) := hm
    clear hm
    go_enter Try.func18, Try.ntmps18
    go_wp2_with fail
    refine (scontains_any _ _ _ (fun k => l.getD k 0) _ _ (ats_of_own HO.out) (by omega)).mono ?_
    rintro e w1 ⟨rfl, rfl⟩
    rw [HM.out]
    go_wp2_with (at_builtin; refine wpList_append_own _ rfl _ _ 26 rfl (Bn + 1) 3 i0 (.int .i64 0) 1 8 Try.underlying26 hi hz0 hz1 hz2 rfl (by decide) _ _ _ rfl (HO.out.alloc _) ⟨w.heap.size, 0, none⟩ 1 1 [.int .i64 j] rfl rfl (cell_one_new _ _ _) (by intro u hu; simp at hu; subst hu; rfl) (by unfold maxLen; omega) (by omega) (by simp; omega) ?_; intro v' w1 hown hgrow hnil; obtain ⟨a', c', rfl⟩ := shape_of_own hown; have hgr := own_grow HO.out hbs hgrow; have hb1 : Hid (w1.heap[Bn]? = some (.cells #[.slice a l.length c] 26 (0, 0))) := hgr.1.trans HC.out; have hc1 := cell_of_one hb1.out; have hf1 := free_of_one hb1.out; have HB1 : Hid (Below Bn w w1) := hgr.2; have HO1 : Hid (w1.ownsRow (Bn + 1) 3 1 (.slice a' (l.length + 1) c') (l.length + 1) (nums l ++ [.int .i64 (j : Int)])) := hown; clear hown hgrow hnil hgr)
    go_end0
    exact ⟨rfl, by unfold addL; rw [if_neg hj]; exact nx_stored hb1.out HO1.out, HB1.out.setCell (Nat.le_refl _) _⟩
end Go.Proofs.Qxb6605325a
