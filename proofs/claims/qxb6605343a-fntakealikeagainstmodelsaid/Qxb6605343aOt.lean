import Derived.Test.Qxb6605343aLb
import Derived.ProofKit
import Derived.OpenShut
import Derived.ChangeOld
import Derived.Deep.Slices
namespace Go.Proofs.Qxb6605343a
open Go.ChangeShapes Go.WideShapes Go.ChangeAt Go.RowKit
set_option linter.unusedVariables false

theorem ownT : ownKnob Try.prog.godebug = none := by kernel_rfl
theorem laidT : laidOutB Try.prog = true := by kernel_rfl
theorem add_plT (b off i : Nat) : (⟨b, off, none⟩ : Addr).add i = ⟨b, off + i, none⟩ := by
  unfold Addr.add; split <;> simp_all
theorem drop_take1 {l : List Value} {k : Nat} {v : Value} (h : (l.drop k).take 1 = [v]) : l[k]? = some v := by
  have h0 := congrArg (fun x => x[0]?) h
  simpa [List.getElem?_take, List.getElem?_drop] using h0
theorem cells3 : Try.prog.cellsOf 3 = 1 := by kernel_rfl
theorem cells4 : Try.prog.cellsOf 4 = 1 := by kernel_rfl
theorem cells42 : Try.prog.cellsOf 42 = 4 := by kernel_rfl
theorem cells43 : Try.prog.cellsOf 43 = 64 := by kernel_rfl
theorem cells47 : Try.prog.cellsOf 47 = 7 := by kernel_rfl
section
variable {H : Type} {enc : TypeId × Value → H} {w : World} {fuel : Nat} {cs : List Value} {x : DataW H × List MemPlace}
theorem int_at {n o : Nat} {y : DataW H × List MemPlace} (h : DataW.trod enc Try.prog w 0 (fun _ => true) true n 3 ((cs.drop o).take 1) = some y) : ∃ z : Int, cs[o]? = some (.int .i64 z) := by
  obtain ⟨z, e1, _⟩ := DataW.trod_int Try.underlying3 h
  exact ⟨z, drop_take1 e1⟩
theorem bool_at {n o : Nat} {y : DataW H × List MemPlace} (h : DataW.trod enc Try.prog w 0 (fun _ => true) true n 4 ((cs.drop o).take 1) = some y) : ∃ z : Bool, cs[o]? = some (.bool z) := by
  obtain ⟨z, e1, _⟩ := DataW.trod_bool Try.underlying4 h
  exact ⟨z, drop_take1 e1⟩
theorem open_place (h : DataW.trod enc Try.prog w 0 (fun _ => true) true fuel 47 cs = some x) :
    ∃ q : Int × Int × Int × Int × Bool × Int × Int, cs[0]? = some (.int .i64 q.1) ∧ cs[1]? = some (.int .i64 q.2.1) ∧ cs[2]? = some (.int .i64 q.2.2.1) ∧ cs[3]? = some (.int .i64 q.2.2.2.1) ∧ cs[4]? = some (.bool q.2.2.2.2.1) ∧ cs[5]? = some (.int .i64 q.2.2.2.2.2.1) ∧ cs[6]? = some (.int .i64 q.2.2.2.2.2.2) := by
  obtain ⟨xs, k, _, _, _, hxl, hf⟩ := DataW.trod_struct Try.underlying47 h
  have hl : xs.length = 7 := hxl
  match xs, hl with
  | [y0, y1, y2, y3, y4, y5, y6], _ =>
    have g0 := hf 0 _ rfl
    have g1 := hf 1 _ rfl
    have g2 := hf 2 _ rfl
    have g3 := hf 3 _ rfl
    have g4 := hf 4 _ rfl
    have g5 := hf 5 _ rfl
    have g6 := hf 6 _ rfl
    change DataW.trod enc Try.prog w 0 (fun _ => true) true k 3 ((cs.drop 0).take (Try.prog.cellsOf 3)) = some y0 at g0
    rw [cells3] at g0
    change DataW.trod enc Try.prog w 0 (fun _ => true) true k 3 ((cs.drop 1).take (Try.prog.cellsOf 3)) = some y1 at g1
    rw [cells3] at g1
    change DataW.trod enc Try.prog w 0 (fun _ => true) true k 3 ((cs.drop 2).take (Try.prog.cellsOf 3)) = some y2 at g2
    rw [cells3] at g2
    change DataW.trod enc Try.prog w 0 (fun _ => true) true k 3 ((cs.drop 3).take (Try.prog.cellsOf 3)) = some y3 at g3
    rw [cells3] at g3
    change DataW.trod enc Try.prog w 0 (fun _ => true) true k 4 ((cs.drop 4).take (Try.prog.cellsOf 4)) = some y4 at g4
    rw [cells4] at g4
    change DataW.trod enc Try.prog w 0 (fun _ => true) true k 3 ((cs.drop 5).take (Try.prog.cellsOf 3)) = some y5 at g5
    rw [cells3] at g5
    change DataW.trod enc Try.prog w 0 (fun _ => true) true k 3 ((cs.drop 6).take (Try.prog.cellsOf 3)) = some y6 at g6
    rw [cells3] at g6
    obtain ⟨z0, c0⟩ := int_at g0
    obtain ⟨z1, c1⟩ := int_at g1
    obtain ⟨z2, c2⟩ := int_at g2
    obtain ⟨z3, c3⟩ := int_at g3
    obtain ⟨z4, c4⟩ := bool_at g4
    obtain ⟨z5, c5⟩ := int_at g5
    obtain ⟨z6, c6⟩ := int_at g6
    exact ⟨(z0, z1, z2, z3, z4, z5, z6), c0, c1, c2, c3, c4, c5, c6⟩
theorem open_key (h : DataW.trod enc Try.prog w 0 (fun _ => true) true fuel 42 cs = some x) :
    ∃ q : Int × Int × Bool × Int, cs[0]? = some (.int .i64 q.1) ∧ cs[1]? = some (.int .i64 q.2.1) ∧ cs[2]? = some (.bool q.2.2.1) ∧ cs[3]? = some (.int .i64 q.2.2.2) := by
  obtain ⟨xs, k, _, _, _, hxl, hf⟩ := DataW.trod_struct Try.underlying42 h
  have hl : xs.length = 4 := hxl
  match xs, hl with
  | [y0, y1, y2, y3], _ =>
    have g0 := hf 0 _ rfl
    have g1 := hf 1 _ rfl
    have g2 := hf 2 _ rfl
    have g3 := hf 3 _ rfl
    change DataW.trod enc Try.prog w 0 (fun _ => true) true k 3 ((cs.drop 0).take (Try.prog.cellsOf 3)) = some y0 at g0
    rw [cells3] at g0
    change DataW.trod enc Try.prog w 0 (fun _ => true) true k 3 ((cs.drop 1).take (Try.prog.cellsOf 3)) = some y1 at g1
    rw [cells3] at g1
    change DataW.trod enc Try.prog w 0 (fun _ => true) true k 4 ((cs.drop 2).take (Try.prog.cellsOf 4)) = some y2 at g2
    rw [cells4] at g2
    change DataW.trod enc Try.prog w 0 (fun _ => true) true k 3 ((cs.drop 3).take (Try.prog.cellsOf 3)) = some y3 at g3
    rw [cells3] at g3
    obtain ⟨z0, c0⟩ := int_at g0
    obtain ⟨z1, c1⟩ := int_at g1
    obtain ⟨z2, c2⟩ := bool_at g2
    obtain ⟨z3, c3⟩ := int_at g3
    exact ⟨(z0, z1, z2, z3), c0, c1, c2, c3⟩
theorem open_keyed (h : DataW.trod enc Try.prog w 0 (fun _ => true) true fuel 43 cs = some x) : ∃ K, cs = vrow (kx K) 64 := by
  obtain ⟨xs, k, _, _, hcl, hxl, hf⟩ := DataW.trod_array Try.underlying43 h
  rw [cells43] at hcl
  have each : ∀ i, i < 16 → ∃ q : Int × Int × Bool × Int, cs[i * 4]? = some (.int .i64 q.1) ∧ cs[i * 4 + 1]? = some (.int .i64 q.2.1) ∧ cs[i * 4 + 2]? = some (.bool q.2.2.1) ∧ cs[i * 4 + 3]? = some (.int .i64 q.2.2.2) := by
    intro i hi
    have g := hf i hi
    rw [cells42, List.getElem?_eq_getElem (by omega)] at g
    obtain ⟨q, q0, q1, q2, q3⟩ := open_key g
    refine ⟨q, ?_, ?_, ?_, ?_⟩
    · simpa [List.getElem?_take, List.getElem?_drop] using q0
    · simpa [List.getElem?_take, List.getElem?_drop] using q1
    · simpa [List.getElem?_take, List.getElem?_drop] using q2
    · simpa [List.getElem?_take, List.getElem?_drop] using q3
  obtain ⟨K, hK⟩ := Go.Deep.choose_lt each
  refine ⟨K, ?_⟩
  apply List.ext_getElem?
  intro j
  by_cases hj : j < 64
  · rw [vrow_get _ _ _ hj]
    obtain ⟨h0, h1, h2, h3⟩ := hK (j / 4) (by omega)
    rcases (show j = j / 4 * 4 ∨ j = j / 4 * 4 + 1 ∨ j = j / 4 * 4 + 2 ∨ j = j / 4 * 4 + 3 by omega) with e | e | e | e
    · rw [← kx0, ← e] at h0; exact h0
    · rw [← kx1, ← e] at h1; exact h1
    · rw [← kx2, ← e] at h2; exact h2
    · rw [← kx3, ← e] at h3; exact h3
  · rw [vrow_none _ _ _ hj, List.getElem?_eq_none (by omega)]
theorem open_places {a : Option Addr} {len cap : Nat} (h : DataW.trod enc Try.prog w 0 (fun _ => true) true fuel 40 [.slice a len cap] = some x) :
    ∃ (A V E D Y U : Nat → Int) (P : Nat → Bool), Pls w a len A V E D Y U P ∧ len ≤ maxLen ∧ (a = none → len = 0) := by
  rcases Go.Deep.open_slice Try.underlying40 h with ⟨hcs, _⟩ | ⟨ad, l, c, m, n, Dd, Pl, hcs, _, hl, hm, hmm, _, hx⟩
  · simp at hcs
    obtain ⟨rfl, rfl, rfl⟩ := hcs
    exact ⟨fun _ => 0, fun _ => 0, fun _ => 0, fun _ => 0, fun _ => 0, fun _ => 0, fun _ => false, fun h => by omega, by simp, fun _ => rfl⟩
  · simp at hcs
    obtain ⟨rfl, rfl, rfl⟩ := hcs
    have hmm' : m = cap := by simpa using hmm
    have each : ∀ i, i < m → ∃ q : Int × Int × Int × Int × Bool × Int × Int, w.cell? ((ad.add (i * 7)).add 0) = some (.int .i64 q.1) ∧ w.cell? ((ad.add (i * 7)).add 1) = some (.int .i64 q.2.1) ∧ w.cell? ((ad.add (i * 7)).add 2) = some (.int .i64 q.2.2.1) ∧ w.cell? ((ad.add (i * 7)).add 3) = some (.int .i64 q.2.2.2.1) ∧ w.cell? ((ad.add (i * 7)).add 4) = some (.bool q.2.2.2.2.1) ∧ w.cell? ((ad.add (i * 7)).add 5) = some (.int .i64 q.2.2.2.2.2.1) ∧ w.cell? ((ad.add (i * 7)).add 6) = some (.int .i64 q.2.2.2.2.2.2) := by
      intro i hi
      obtain ⟨cs', h1, h2⟩ := hx i hi
      rw [cells47] at h1
      obtain ⟨_, _, hcell⟩ := World.cells?_some h1
      obtain ⟨q, q0, q1, q2, q3, q4, q5, q6⟩ := open_place h2
      exact ⟨q, (hcell 0 (by omega)).trans q0, (hcell 1 (by omega)).trans q1, (hcell 2 (by omega)).trans q2, (hcell 3 (by omega)).trans q3, (hcell 4 (by omega)).trans q4, (hcell 5 (by omega)).trans q5, (hcell 6 (by omega)).trans q6⟩
    obtain ⟨q, hq⟩ := Go.Deep.choose_lt each
    refine ⟨fun i => (q i).1, fun i => (q i).2.1, fun i => (q i).2.2.1, fun i => (q i).2.2.2.1, fun i => (q i).2.2.2.2.2.1, fun i => (q i).2.2.2.2.2.2, fun i => (q i).2.2.2.2.1, fun h0 => ?_, by omega, fun h => (by cases h)⟩
    obtain ⟨b, off, spot⟩ := ad
    have hspot : spot = none := by
      have := (hq 0 (by omega)).1
      simpa [Addr.add] using World.cell?_spot this
    subst hspot
    refine ⟨b, off, rfl, fun i hi => ?_⟩
    have h1 := hq i (by omega)
    simp only [add_plT, Nat.add_zero] at h1
    obtain ⟨r0, r1, r2, r3, r4, r5, r6⟩ := h1
    exact ⟨r0, r1, r2, r3, r4, r5, r6⟩
theorem open_bytes {a : Option Addr} {len cap : Nat} (hf : DataW.trod enc Try.prog w 0 (fun _ => true) true fuel 27 [.slice a len cap] = some x) : ∃ f : Nat → Int, Row w a len (fun i => .int .u8 (f i)) ∧ len ≤ maxLen ∧ (a = none → len = 0) := by
  rcases Go.Deep.open_slice1 Try.underlying27 (by kernel_rfl) hf with ⟨hcs, _⟩ | ⟨ad, l, c, m, n, V, D, Pl, hcs, _, hl, hm, hmm, _, hx⟩
  · simp at hcs
    obtain ⟨rfl, rfl, rfl⟩ := hcs
    exact ⟨fun _ => 0, fun h => by omega, by simp, fun _ => rfl⟩
  · simp at hcs
    obtain ⟨rfl, rfl, rfl⟩ := hcs
    have hmm' : m = cap := by simpa using hmm
    have each : ∀ i, i < m → ∃ q : Int, V i = .int .u8 q := by
      intro i hi
      obtain ⟨z, e1, _⟩ := DataW.trod_int Try.underlying5 (hx i hi).2
      simp at e1
      exact ⟨z, e1⟩
    obtain ⟨q, hq⟩ := Go.Deep.choose_lt each
    refine ⟨q, fun h0 => ?_, by omega, fun h => (by cases h)⟩
    obtain ⟨b, off, spot⟩ := ad
    have hspot : spot = none := by
      have := (hx 0 (by omega)).1
      simpa [Addr.add] using World.cell?_spot this
    subst hspot
    refine ⟨b, off, rfl, fun i hi => ?_⟩
    have h1 := (hx i (by omega)).1
    rw [add_plT, hq i (by omega)] at h1
    exact h1
end
theorem okWide_array43 {w : World} {r : Reach} {base : Nat} {v : Value} (h : Value.okWide Try.prog w r base 43 v) : ∃ cs, v = .agg cs := by
  simp only [Value.okWide, Try.underlying43] at h
  obtain ⟨cs, h1, _⟩ := h
  exact ⟨cs, h1⟩
end Go.Proofs.Qxb6605343a
