import Derived.Test.Qxb6605343aKind
import Derived.Lib.AppendZeros
import Derived.Lib.SliceRun
import Derived.Laws.CopyOwn
import Derived.Deep.RegionHeld3
import Derived.Deep.QuietTactic
import Derived.BigQuiet
import Derived.Deep.DeepCutAuto
namespace Go.Proofs.Qxb6605343a
open Go.RowKit
set_option linter.unusedVariables false

/-- N cells, each as X says. -/
def vrow (X : Nat → Value) (N : Nat) : List Value := (List.range N).map X
def upd {α : Type} (F : Nat → α) (i : Nat) (v : α) : Nat → α := fun x => if x = i then v else F x
theorem vrow_length (X : Nat → Value) (N : Nat) : (vrow X N).length = N := by simp [vrow]
theorem vrow_get (X : Nat → Value) (N j : Nat) (hj : j < N) : (vrow X N)[j]? = some (X j) := by
  unfold vrow; rw [List.getElem?_map, List.getElem?_range hj]; rfl
theorem vrow_none (X : Nat → Value) (N j : Nat) (hj : ¬ j < N) : (vrow X N)[j]? = none := List.getElem?_eq_none (by rw [vrow_length]; omega)
theorem vrow_set (X : Nat → Value) (N i : Nat) (v : Value) : (vrow X N).set i v = vrow (upd X i v) N := by
  apply List.ext_getElem?
  intro j
  rw [List.getElem?_set]
  by_cases hj : j < N
  · rw [vrow_get _ _ _ hj, vrow_get _ _ _ hj, vrow_length]
    unfold upd
    by_cases e : i = j
    · subst e; rw [if_pos rfl, if_pos hj, if_pos rfl]
    · rw [if_neg e, if_neg (fun h => e h.symm)]
  · rw [vrow_none _ _ _ hj, vrow_none _ _ _ hj]
    split
    · rename_i h; subst h; rw [if_neg (by rw [vrow_length]; exact hj)]
    · rfl
theorem vrow_ext {X Y : Nat → Value} {N : Nat} (h : ∀ j, j < N → X j = Y j) : vrow X N = vrow Y N := by
  unfold vrow
  apply List.map_congr_left
  intro j hj
  exact h j (List.mem_range.1 hj)
theorem vrow_const (z : Value) (N : Nat) : vrow (fun _ => z) N = List.replicate N z := by simp [vrow, List.map_const']
theorem vrow_cell {w : World} {base e g N cap : Nat} {X : Nat → Value} (ho : w.ownsRow base e 1 (.slice (some ⟨g, 0, none⟩) N cap) N (vrow X N)) (x : Nat) (hx : x < N) : w.cell? ⟨g, x, none⟩ = some (X x) := by
  rw [ho.cellAt x (by omega), vrow_get _ _ _ hx]

/-- A slice that reads as X. -/
def Row (w : World) (a : Option Addr) (len : Nat) (X : Nat → Value) : Prop :=
  0 < len → ∃ b off, a = some ⟨b, off, none⟩ ∧ ∀ i, i < len → w.cell? ⟨b, off + i, none⟩ = some (X i)
theorem Row.later {w w' : World} {a : Option Addr} {len : Nat} {f : Nat → Value} (h : Row w a len f) (hb : Below w.heap.size w w') : Row w' a len f := fun h0 => by
  obtain ⟨b, off, e, hc⟩ := h h0
  exact ⟨b, off, e, fun i hi => cell_later hb (hc i hi)⟩
theorem Row.ofOwn {w : World} {base e : Nat} {a : Option Addr} {n cap : Nat} {X : Nat → Value} (h : w.ownsRow base e 1 (.slice a n cap) n (vrow X n)) : Row w a n X := fun h0 => by
  rcases h.2 with ⟨e, _⟩ | ⟨g, cp, cur, e, hb, hg, r⟩
  · omega
  · simp only [Value.slice.injEq] at e
    obtain ⟨rfl, _, rfl⟩ := e
    exact ⟨g, 0, rfl, fun i hi => by rw [Nat.zero_add]; exact vrow_cell h i hi⟩

theorem own_below {w w' : World} {base e n : Nat} {v : Value} {xs : List Value} (ho : w.ownsRow base e 1 v n xs) (hb : Below w.heap.size w w') : w'.ownsRow base e 1 v n xs := by
  obtain ⟨h1, h2⟩ := ho
  refine ⟨h1, ?_⟩
  rcases h2 with h | ⟨g', cp, cur, e, hg, hh, r⟩
  · exact .inl h
  · exact .inr ⟨g', cp, cur, e, hg, (hb.block g' (Array.getElem?_eq_some_iff.1 hh).1).trans hh, r⟩
theorem own_lt {w : World} {base e n cap : Nat} {g : Nat} {xs : List Value} (ho : w.ownsRow base e 1 (.slice (some ⟨g, 0, none⟩) n cap) n xs) : g < w.heap.size := by
  rcases ho.2 with ⟨e, _⟩ | ⟨g', cp, cur, e, hg, hh, r⟩
  · cases e
  · simp at e; obtain ⟨rfl, _⟩ := e; exact (Array.getElem?_eq_some_iff.1 hh).1
theorem own_base {w : World} {base e n cap : Nat} {g : Nat} {xs : List Value} (ho : w.ownsRow base e 1 (.slice (some ⟨g, 0, none⟩) n cap) n xs) : base ≤ g := by
  rcases ho.2 with ⟨e, _⟩ | ⟨g', cp, cur, e, hg, hh, r⟩
  · cases e
  · simp at e; obtain ⟨rfl, _⟩ := e; exact hg
theorem own_mono {w : World} {base base' e n : Nat} {v : Value} {xs : List Value} (ho : w.ownsRow base e 1 v n xs) (h : base' ≤ base) : w.ownsRow base' e 1 v n xs := by
  refine ⟨ho.1, ?_⟩
  rcases ho.2 with h' | ⟨g', cp, cur, e, hg, r⟩
  · exact .inl h'
  · exact .inr ⟨g', cp, cur, e, by omega, r⟩
/-- The same row, cut or drawn out to m. -/
theorem own_cut {w : World} {base e n cap m : Nat} {g : Nat} {xs : List Value} (ho : w.ownsRow base e 1 (.slice (some ⟨g, 0, none⟩) n cap) n xs) (hm : m ≤ cap) : ∃ ys, w.ownsRow base e 1 (.slice (some ⟨g, 0, none⟩) m cap) m ys := by
  rcases ho.2 with ⟨h, _⟩ | ⟨g', cp, cur, h, hb, hg, hnc, hcm, hcs, htake⟩
  · cases h
  · simp at h
    obtain ⟨rfl, rfl⟩ := h
    refine ⟨cur.toList.take m, by simp; omega, .inr ⟨g, cap, cur, rfl, hb, hg, hm, hcm, hcs, by rw [Nat.mul_one]⟩⟩

theorem Try.info5 : (Try.prog.info? 5).map (fun i => (i.zero, i.size, i.bytes)) = some (some (.int .u8 0), 1, 1) := by kernel_rfl
theorem Try.info3 : (Try.prog.info? 3).map (fun i => (i.zero, i.size, i.bytes)) = some (some (.int .i64 0), 1, 8) := by kernel_rfl
theorem Try.info4 : (Try.prog.info? 4).map (fun i => (i.zero, i.size, i.bytes)) = some (some (.bool false), 1, 1) := by kernel_rfl
theorem Try.info38 : (Try.prog.info? 38).map (fun i => (i.zero, i.size, i.bytes)) = some (some (.int .u64 0), 1, 8) := by kernel_rfl

/-- append(x, make([]T, m)...) where x is full: a new row. -/
theorem run_append_zeros {P : Program} (w : World) (base : Nat) (t tn ty e : TypeId) (i : TypeInfo) (z : Value) (k kn : IntKind) (ht : P.underlying t = some (.slice e)) (htn : P.underlying tn = some (.int kn)) (hi : P.info? e = some i) (hz : i.zero = some z)
    (hsize : i.size = 1) (hzs : z.cells.size = 1) (a : Option Addr) (n m : Nat) (xs : List Value) (hown : w.ownsRow base e 1 (.slice a n n) n xs) (hm : 0 < m) (h63 : n + m ≤ maxLen) (hbytes : (n + m) * i.bytes ≤ 140737488355328) (hbase : base ≤ w.heap.size) :
    ∃ cap w' ys, (Builtin.append_ #[t, tn] ty #[.slice a n n, .int k m]).run P w = .ok (.slice (some ⟨w.heap.size, 0, none⟩) (n + m) cap) w' ∧ n + m ≤ cap ∧
      w'.ownsRow base e 1 (.slice (some ⟨w.heap.size, 0, none⟩) (n + m) cap) (n + m) ys ∧ w.grownBy w' none := by
  have hsmall : n + m ≤ 9223372036854775807 := by simp only [maxLen] at h63; omega
  have hmn : m ≠ 0 := by omega
  have hw : IntKind.i64.wrap (m : Int) = m := by rw [IntKind.wrap_i64]; omega
  have h63' : ¬ (9223372036854775807 < ((n : Int) + (m : Int))) := by omega
  have hfit := growslice_fits (need := n + m) (old := n) (bytes := i.bytes) (by omega) hbytes
  have h48' : ¬ (281474976710656 < Builtin.nextslicecap (n + m) n * i.bytes) := by omega
  have h48i : ¬ (281474976710656 < (m : Int) * (i.bytes : Int)) := by
    rw [← Int.natCast_mul]
    have : m * i.bytes ≤ (n + m) * i.bytes := Nat.mul_le_mul_right _ (by omega)
    omega
  have hneg : ¬ ((m : Int) < 0) := by omega
  have hroom : ¬ (n + m ≤ n) := by omega
  have hfo : (Builtin.firstCells 1 n (.slice a n n)).run P w.drew = .ok xs.toArray w.drew := by
    rcases hown.2 with ⟨e, h0⟩ | ⟨g, cp, cur, e, hb, hg, hr⟩
    · simp only [Value.slice.injEq] at e
      obtain ⟨rfl, _⟩ := e
      have hx : xs = [] := List.eq_nil_of_length_eq_zero (by rw [hown.1, h0])
      subst hx
      exact run_firstCells_none _ _ _ _ _
    · simp only [Value.slice.injEq] at e
      obtain ⟨rfl, _, rfl⟩ := e
      exact run_firstCells_some (P := P) w.drew 1 n ⟨g, 0, none⟩ n n xs hown.1 (by simpa using hown.cells (g := g) rfl)
  have hge := grownCap_ge w (n + m) n e
  have hcm : grownCap w (n + m) n e ≤ maxLen := grownCap_le_maxLen w (n + m) n e h63
  refine ⟨grownCap w (n + m) n e, w.drew.alloc (.cells (xs.toArray ++ Builtin.zeroCells z.cells m ++ Builtin.zeroCells z.cells (grownCap w (n + m) n e - (n + m))) e), xs ++ (Builtin.zeroCells z.cells m).toList, ?_, hge, ?_, ⟨rfl, rfl, rfl, by simp, fun k hk _ => Below.heap_alloc w.drew _ k hk⟩⟩
  · simp [Builtin.append_, run_underlying ht, run_underlying htn, sizeOf, typeInfo, zeroValue, hi, hz, hsize, asInt, asIntOf, hw, hmn, hneg, h63', h48', h48i, hroom, hfo, Question.forced, newRow, grownCap]
  · have hxl : xs.length = n := by rw [hown.1, Nat.mul_one]
    refine ⟨by simp [size_zeroCells, hzs, hxl], .inr ⟨w.heap.size, _, _, rfl, hbase, heap_alloc_new w.drew _, hge, hcm, ?_, ?_⟩⟩
    · simp only [Array.size_append, List.size_toArray, size_zeroCells, hzs, hxl]
      omega
    · simp only [Array.toList_append]
      rw [List.take_append_of_le_length (by simp [size_zeroCells, hzs, hxl])]
      rw [List.take_of_length_le (by simp [size_zeroCells, hzs, hxl])]
end Go.Proofs.Qxb6605343a
