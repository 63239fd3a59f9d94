import Derived.Test.Qxb6605343aLawK2
import Derived.ProofKit
import Derived.OpenShut
import Derived.ChangeOld
import Derived.Deep.Slices
namespace Go.Proofs.Qxb6605343a
open Go.ChangeShapes Go.WideShapes Go.ChangeAt Go.RowKit
set_option linter.unusedVariables false

theorem ownK : ownKnob Try.prog.godebug = none := by kernel_rfl
theorem laidK : laidOutB Try.prog = true := by kernel_rfl
theorem add_pl (b off i : Nat) : (⟨b, off, none⟩ : Addr).add i = ⟨b, off + i, none⟩ := by
  unfold Addr.add; split <;> simp_all

theorem open_row_int {H : Type} {enc : TypeId × Value → H} {w : World} {fuel t e : Nat} {k : IntKind} (ht : Try.prog.underlying t = some (.slice e)) (he : Try.prog.underlying e = some (.int k)) (hc : Try.prog.cellsOf e = 1) {a : Option Addr} {len cap : Nat} {x : DataW H × List MemPlace}
    (hf : DataW.trod enc Try.prog w 0 (fun _ => true) true fuel t [.slice a len cap] = some x) : ∃ f : Nat → Int, Row w a len (fun i => .int k (f i)) ∧ len ≤ maxLen ∧ (a = none → len = 0) := by
  rcases Go.Deep.open_slice1 ht hc hf with ⟨hcs, _⟩ | ⟨ad, l, c, m, n, V, D, Pl, hcs, _, hl, hm, hmm, _, hx⟩
  · simp at hcs
    obtain ⟨rfl, rfl, rfl⟩ := hcs
    exact ⟨fun _ => 0, fun h => by omega, by simp, fun _ => rfl⟩
  · simp at hcs
    obtain ⟨rfl, rfl, rfl⟩ := hcs
    have hmm' : m = cap := by simpa using hmm
    have each : ∀ i, i < m → ∃ q : Int, V i = .int k q := by
      intro i hi
      obtain ⟨z, e1, _⟩ := DataW.trod_int he (hx i hi).2
      simp at e1
      exact ⟨z, e1⟩
    obtain ⟨q, hq⟩ := Go.Deep.choose_lt each
    refine ⟨q, fun h0 => ?_, by omega, fun h => (by cases h)⟩
    obtain ⟨b, off, spot⟩ := ad
    have hspot : spot = none := by
      have := (hx 0 (by omega)).1
      simpa [Addr.add] using World.cell?_spot this
    subst hspot
    refine ⟨b, off, rfl, fun i hi => ?_⟩
    have h1 := (hx i (by omega)).1
    rw [add_pl, hq i (by omega)] at h1
    exact h1
theorem open_row_bool {H : Type} {enc : TypeId × Value → H} {w : World} {fuel t e : Nat} (ht : Try.prog.underlying t = some (.slice e)) (he : Try.prog.underlying e = some .bool) (hc : Try.prog.cellsOf e = 1) {a : Option Addr} {len cap : Nat} {x : DataW H × List MemPlace}
    (hf : DataW.trod enc Try.prog w 0 (fun _ => true) true fuel t [.slice a len cap] = some x) : ∃ f : Nat → Bool, Row w a len (fun i => .bool (f i)) ∧ len ≤ maxLen ∧ (a = none → len = 0) := by
  rcases Go.Deep.open_slice1 ht hc hf with ⟨hcs, _⟩ | ⟨ad, l, c, m, n, V, D, Pl, hcs, _, hl, hm, hmm, _, hx⟩
  · simp at hcs
    obtain ⟨rfl, rfl, rfl⟩ := hcs
    exact ⟨fun _ => false, fun h => by omega, by simp, fun _ => rfl⟩
  · simp at hcs
    obtain ⟨rfl, rfl, rfl⟩ := hcs
    have hmm' : m = cap := by simpa using hmm
    have each : ∀ i, i < m → ∃ q : Bool, V i = .bool q := by
      intro i hi
      obtain ⟨z, e1, _⟩ := DataW.trod_bool he (hx i hi).2
      simp at e1
      exact ⟨z, e1⟩
    obtain ⟨q, hq⟩ := Go.Deep.choose_lt each
    refine ⟨q, fun h0 => ?_, by omega, fun h => (by cases h)⟩
    obtain ⟨b, off, spot⟩ := ad
    have hspot : spot = none := by
      have := (hx 0 (by omega)).1
      simpa [Addr.add] using World.cell?_spot this
    subst hspot
    refine ⟨b, off, rfl, fun i hi => ?_⟩
    have h1 := (hx i (by omega)).1
    rw [add_pl, hq i (by omega)] at h1
    exact h1

namespace fnKnow
set_option maxRecDepth 100000 in
theorem lifted (os : Os) (started : os.Started) (H : Type) (enc : TypeId × Value → H) :
    ReturnsInHanded {} Try.checked os 4 .any (Rows.fnKnowPlainMarksStringContentsSpec.pre6 enc Try.prog Try.f4 Rows.fnKnowPlainMarksStringContentsRow.domain false) (Rows.fnKnowPlainMarksStringContentsSpec.post enc Try.prog Try.f4 false true false false) := by
  refine returnsInHanded_of_change (C := Try.checked) ownK started (by kernel_rfl) Try.func4
    (ChangeSpec.witness6 (enc := enc) (C := Try.checked) false ⟨#[], #[.slice none 0 0, .slice none 0 0, .slice none 0 0, .slice none 0 0, .slice none 0 0], []⟩ 8 (by kernel_rfl) (by kernel_rfl) (by kernel_rfl) (by kernel_rfl)) ?_
  intro W base args ds gs before hval0 hW hcnd _
  have hval : ∀ (j : Nat) t v, Try.f4.params[j]? = some t → args[j]? = some v → Value.okWide Try.prog W .any base t v := hval0
  have hW' := hW
  obtain ⟨p, q, hA0, hV, rfl, hfz, hnd⟩ := hW
  have hA : DataW.TrodAll enc Try.prog W 0 (fun _ => true) true Try.f4.params.toList args.toList ds p := hA0
  rw [Try.params4] at hA hval
  obtain ⟨v0, vs0, d0, ds0, p0, q0, hargs, rfl, rfl, h0, r0⟩ := trodAll_cons hA
  obtain ⟨v1, vs1, d1, ds1, p1, q1, rfl, rfl, rfl, h1, r1⟩ := trodAll_cons r0
  obtain ⟨v2, vs2, d2, ds2, p2, q2, rfl, rfl, rfl, h2, r2⟩ := trodAll_cons r1
  obtain ⟨v3, vs3, d3, ds3, p3, q3, rfl, rfl, rfl, h3, r3⟩ := trodAll_cons r2
  obtain ⟨v4, vs4, d4, ds4, p4, q4, rfl, rfl, rfl, h4, r4⟩ := trodAll_cons r3
  obtain ⟨rfl, rfl, rfl⟩ := trodAll_nil r4
  obtain rfl : args = #[v0, v1, v2, v3, v4] := by cases args; simp_all
  obtain ⟨rfl, rfl⟩ := trodVars_none hV
  obtain ⟨a0, len0, cap0, rfl⟩ := okWide_slice Try.underlying27 (hval 0 27 v0 rfl rfl)
  obtain ⟨a1, len1, cap1, rfl⟩ := okWide_slice Try.underlying28 (hval 1 28 v1 rfl rfl)
  obtain ⟨a2, len2, cap2, rfl⟩ := okWide_slice Try.underlying28 (hval 2 28 v2 rfl rfl)
  obtain ⟨a3, len3, cap3, rfl⟩ := okWide_slice Try.underlying29 (hval 3 29 v3 rfl rfl)
  obtain ⟨a4, len4, cap4, rfl⟩ := okWide_slice Try.underlying30 (hval 4 30 v4 rfl rfl)
  have lt0 : ∀ x ∈ p0, x.block < W.heap.size := by obtain ⟨m, hm⟩ := h0; exact DataW.trod_lt m _ _ _ hm
  have lt1 : ∀ x ∈ p1, x.block < W.heap.size := by obtain ⟨m, hm⟩ := h1; exact DataW.trod_lt m _ _ _ hm
  have lt2 : ∀ x ∈ p2, x.block < W.heap.size := by obtain ⟨m, hm⟩ := h2; exact DataW.trod_lt m _ _ _ hm
  have lt3 : ∀ x ∈ p3, x.block < W.heap.size := by obtain ⟨m, hm⟩ := h3; exact DataW.trod_lt m _ _ _ hm
  have lt4 : ∀ x ∈ p4, x.block < W.heap.size := by obtain ⟨m, hm⟩ := h4; exact DataW.trod_lt m _ _ _ hm
  obtain ⟨f0, t0, m0, n0⟩ : ∃ f : Nat → Int, Row W a0 len0 (fun i => .int .u8 (f i)) ∧ len0 ≤ maxLen ∧ (a0 = none → len0 = 0) := by
    obtain ⟨fuel, hf⟩ := h0; exact open_row_int Try.underlying27 Try.underlying5 (by kernel_rfl) hf
  obtain ⟨f1, t1, m1, n1⟩ : ∃ f : Nat → Int, Row W a1 len1 (fun i => .int .i64 (f i)) ∧ len1 ≤ maxLen ∧ (a1 = none → len1 = 0) := by
    obtain ⟨fuel, hf⟩ := h1; exact open_row_int Try.underlying28 Try.underlying3 (by kernel_rfl) hf
  obtain ⟨f2, t2, m2, n2⟩ : ∃ f : Nat → Int, Row W a2 len2 (fun i => .int .i64 (f i)) ∧ len2 ≤ maxLen ∧ (a2 = none → len2 = 0) := by
    obtain ⟨fuel, hf⟩ := h2; exact open_row_int Try.underlying28 Try.underlying3 (by kernel_rfl) hf
  obtain ⟨f3, t3, m3, n3⟩ : ∃ f : Nat → Bool, Row W a3 len3 (fun i => .bool (f i)) ∧ len3 ≤ maxLen ∧ (a3 = none → len3 = 0) := by
    obtain ⟨fuel, hf⟩ := h3; exact open_row_bool Try.underlying29 Try.underlying4 (by kernel_rfl) hf
  obtain ⟨f4, t4, m4, n4⟩ : ∃ f : Nat → Int, Row W a4 len4 (fun i => .int .u64 (f i)) ∧ len4 ≤ maxLen ∧ (a4 = none → len4 = 0) := by
    obtain ⟨fuel, hf⟩ := h4; exact open_row_int Try.underlying30 Try.underlying38 (by kernel_rfl) hf
  clear hA0 hval0
  refine (lawK_any a0 len0 cap0 a1 len1 cap1 a2 len2 cap2 a3 len3 cap3 a4 len4 cap4 f0 f1 f2 f3 f4 W m0 m1 m2 m3 m4 n0 n1 n2 n3 n4 t0 t1 t2 t3 t4).mono fun e W' ⟨he, bel⟩ => ?_
  subst he
  exact ⟨_, rfl, _, _, _, [], _, [], hW', trodAll_mk1 (shut_bool Try.underlying4 _), (trodAll_cons_mk (Below.trod laidK (by kernel_rfl) (of_decide_eq_true (by kernel_rfl)) h0 bel lt0) (trodAll_cons_mk (Below.trod laidK (by kernel_rfl) (of_decide_eq_true (by kernel_rfl)) h1 bel lt1) (trodAll_cons_mk (Below.trod laidK (by kernel_rfl) (of_decide_eq_true (by kernel_rfl)) h2 bel lt2) (trodAll_cons_mk (Below.trod laidK (by kernel_rfl) (of_decide_eq_true (by kernel_rfl)) h3 bel lt3) (trodAll_cons_mk (Below.trod laidK (by kernel_rfl) (of_decide_eq_true (by kernel_rfl)) h4 bel lt4) trodAll_mk0))))), rfl, bel.frame _, fun h => by cases h⟩

/-- ████ THE STATEMENT ████ -/
theorem proved : Rows.FnKnowPlainMarksStringContentsSaid :=
  OpenClaim.holds_of_wide 4 Try.f4 rfl rfl rfl rfl rfl rfl rfl ⟨rfl, rfl, rfl, rfl, rfl⟩ rfl rfl rfl rfl rfl (by kernel_rfl) Try.func4 (by kernel_rfl)
    (of_decide_eq_true (by kernel_rfl)) (by unfold Func.isWrapper; first | (rw [if_pos (by decide +kernel)]; kernel_rfl) | (rw [if_neg (by decide +kernel)]; exact ⟨rfl, rfl⟩))
    (fun os started H enc _ => lifted os started H enc)
end fnKnow
end Go.Proofs.Qxb6605343a
