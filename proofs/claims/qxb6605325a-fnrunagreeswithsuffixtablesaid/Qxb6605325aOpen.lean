import Derived.Test.Qxb6605325aFour
import Derived.ProofKit
import Derived.OpenShut
import Derived.ShutString
import Derived.ChangeOld
import Derived.Deep.SlicePairs
namespace Go.Proofs.Qxb6605325a
open Go.ChangeShapes Go.WideShapes Go.ChangeAt Go.RowKit
set_option linter.unusedVariables false

theorem own : ownKnob Try.prog.godebug = none := by kernel_rfl
theorem laidOut : laidOutB Try.prog = true := by kernel_rfl
theorem Try.cells36 : Try.prog.cellsOf 36 = 2 := by kernel_rfl
theorem Try.cells9 : Try.prog.cellsOf 9 = 1 := by kernel_rfl
theorem Try.cells3 : Try.prog.cellsOf 3 = 1 := by kernel_rfl

theorem open_toks {H : Type} {enc : TypeId × Value → H} {w : World} {fuel : Nat} {a : Option Addr} {len cap : Nat} {x : DataW H × List MemPlace}
    (hf : DataW.trod enc Try.prog w 0 (fun _ => true) true fuel 22 [.slice a len cap] = some x) : ∃ (S : Nat → ByteArray) (W : Nat → Int), Toks w a len cap S W ∧ len ≤ maxLen ∧ ∀ i, i < len → (S i).size ≤ maxLen := by
  rcases Go.Deep.open_slice_pairs Try.underlying22 Try.underlying36 Try.cells36 rfl rfl Try.cells9 Try.cells3 hf with ⟨hcs, _⟩ | ⟨ad, len', cap', m, n, V0, V1, D0, D1, P0, P1, hcs, _, hl, hm, hmm, _, hx⟩
  · simp at hcs
    obtain ⟨rfl, rfl, rfl⟩ := hcs
    exact ⟨fun _ => ByteArray.empty, fun _ => 0, ⟨fun _ => ⟨rfl, rfl⟩, fun h => by omega⟩, by simp, fun i h => by omega⟩
  · simp at hcs
    obtain ⟨rfl, rfl, rfl⟩ := hcs
    have hmm' : m = cap := by simpa using hmm
    have each : ∀ i, i < m → ∃ q : ByteArray × Int, V0 i = .string q.1 ∧ V1 i = .int .i64 q.2 ∧ q.1.size ≤ maxLen := by
      intro i hi
      obtain ⟨_, _, g0, g1⟩ := hx i hi
      obtain ⟨s, e0, _, hs⟩ := DataW.trod_string Try.underlying9 g0
      obtain ⟨z, e1, _, _⟩ := DataW.trod_int Try.underlying3 g1
      simp at e0 e1
      exact ⟨(s, z), e0, e1, hs⟩
    obtain ⟨q, hq⟩ := Go.Deep.choose_lt each
    refine ⟨fun i => (q i).1, fun i => (q i).2, ⟨fun h => (by cases h), fun h0 => ?_⟩, by omega, fun i hi => (hq i (by omega)).2.2⟩
    obtain ⟨b, off, spot⟩ := ad
    have hspot : spot = none := by
      have := (hx 0 (by omega)).1
      simpa [Addr.add] using World.cell?_spot this
    subst hspot
    refine ⟨b, off, rfl, fun i hi => ?_⟩
    have h1 := hx i (by omega)
    have h2 := hq i (by omega)
    rw [add_plain, h2.1] at h1
    rw [add_plain, h2.2.1] at h1
    exact ⟨h1.1, h1.2.1⟩

theorem open_ats {H : Type} {enc : TypeId × Value → H} {w : World} {fuel : Nat} {a : Option Addr} {len cap : Nat} {x : DataW H × List MemPlace}
    (hf : DataW.trod enc Try.prog w 0 (fun _ => true) true fuel 26 [.slice a len cap] = some x) : ∃ f : Nat → Int, Ints w a len f ∧ len ≤ maxLen ∧ (a = none → len = 0 ∧ cap = 0) := by
  rcases open_ints Try.underlying26 Try.underlying3 (by kernel_rfl) hf with ⟨hcs, _⟩ | ⟨ad, l, c, zs, hcs, _, hl, hm, hz, _, hcell, hwz⟩
  · simp at hcs
    obtain ⟨rfl, rfl, rfl⟩ := hcs
    exact ⟨fun _ => 0, fun h => by omega, by simp, fun _ => ⟨rfl, rfl⟩⟩
  · simp at hcs
    obtain ⟨rfl, rfl, rfl⟩ := hcs
    have hz' : zs.length = cap := by simpa using hz
    refine ⟨fun i => zs.getD i 0, fun h0 => ?_, by omega, fun h => (by cases h)⟩
    obtain ⟨b, off, spot⟩ := ad
    have hspot : spot = none := by simpa [Addr.add] using World.cell?_spot (hcell 0 (by omega))
    subst hspot
    exact ⟨b, off, rfl, fun i hi => by rw [← add_plain]; exact hcell i (by omega)⟩

theorem four_any (ta : Option Addr) (n cap : Nat) (S : Nat → ByteArray) (W : Nat → Int) (x : Option Addr) (l c : Nat) (f : Nat → Int) (w : World) (h : Toks w ta n cap S W) (hn : n ≤ maxLen) (hl : l ≤ maxLen) (hi : Ints w x l f) (hx : x = none → l = 0 ∧ c = 0) :
    Calls Try.prog 4 #[.slice ta n cap, .slice x l c] w fun e w' => e = .returned (.bool true) ∧ Below w.heap.size w w' := by
  by_cases hb : 4096 < n ∨ 4096 < l
  · exact four_early ta n cap S W x l c w h hn hl hb
  · exact four_main ta n cap S W x l c f w h (by omega) (by omega) hi hx

namespace fnAccepts
set_option maxRecDepth 100000 in
theorem lifted (os : Os) (started : os.Started) (H : Type) (enc : TypeId × Value → H) :
    ReturnsInHanded {} Try.checked os 4 .any (Rows.fnAcceptsIffPastLastHardTokenSpec.pre6 enc Try.prog Try.f4 Rows.fnAcceptsIffPastLastHardTokenRow.domain false) (Rows.fnAcceptsIffPastLastHardTokenSpec.post enc Try.prog Try.f4 false true false false) := by
  refine returnsInHanded_of_change (C := Try.checked) own started (by kernel_rfl) Try.func4
    (ChangeSpec.witness6 (enc := enc) (C := Try.checked) false ⟨#[], #[.slice none 0 0, .slice none 0 0], []⟩ 8 (by kernel_rfl) (by kernel_rfl) (by kernel_rfl) (by kernel_rfl)) ?_
  intro W base args ds gs before hval0 hW hcnd _
  have hval : ∀ (j : Nat) t v, Try.f4.params[j]? = some t → args[j]? = some v → Value.okWide Try.prog W .any base t v := hval0
  have hW' := hW
  obtain ⟨p, q, hA0, hV, rfl, hfz, hnd⟩ := hW
  have hA : DataW.TrodAll enc Try.prog W 0 (fun _ => true) true Try.f4.params.toList args.toList ds p := hA0
  rw [Try.params4] at hA hval
  obtain ⟨v0, vs0, d0, ds0, p0, q0, hargs, rfl, rfl, h0, r0⟩ := trodAll_cons hA
  obtain ⟨v1, vs1, d1, ds1, p1, q1, rfl, rfl, rfl, h1, r1⟩ := trodAll_cons r0
  obtain ⟨rfl, rfl, rfl⟩ := trodAll_nil r1
  obtain rfl : args = #[v0, v1] := by cases args; simp_all
  obtain ⟨rfl, rfl⟩ := trodVars_none hV
  obtain ⟨a0, len0, cap0, rfl⟩ := okWide_slice Try.underlying22 (hval 0 22 v0 rfl rfl)
  have k0 := h0
  have lt0 : ∀ x ∈ p0, x.block < W.heap.size := by obtain ⟨m, hm⟩ := k0; exact DataW.trod_lt m _ _ _ hm
  obtain ⟨S, Wd, t0, m0, _⟩ : ∃ S Wd, Toks W a0 len0 cap0 S Wd ∧ len0 ≤ maxLen ∧ ∀ i, i < len0 → (S i).size ≤ maxLen := by
    obtain ⟨fuel, hf⟩ := h0
    exact open_toks hf
  obtain ⟨a1, len1, cap1, rfl⟩ := okWide_slice Try.underlying26 (hval 1 26 v1 rfl rfl)
  have k1 := h1
  have lt1 : ∀ x ∈ p1, x.block < W.heap.size := by obtain ⟨m, hm⟩ := k1; exact DataW.trod_lt m _ _ _ hm
  obtain ⟨f, t1, m1, n1⟩ : ∃ f, Ints W a1 len1 f ∧ len1 ≤ maxLen ∧ (a1 = none → len1 = 0 ∧ cap1 = 0) := by
    obtain ⟨fuel, hf⟩ := h1
    exact open_ats hf
  clear hA0 hval0
  refine (four_any a0 len0 cap0 S Wd a1 len1 cap1 f W t0 m0 m1 t1 n1).mono fun e W' ⟨he, bel⟩ => ?_
  subst he
  exact ⟨_, rfl, _, _, _, [], _, [], hW', trodAll_mk1 (shut_bool Try.underlying4 _), (trodAll_cons_mk (Below.trod laidOut (by kernel_rfl) (of_decide_eq_true (by kernel_rfl)) k0 bel lt0) (trodAll_cons_mk (Below.trod laidOut (by kernel_rfl) (of_decide_eq_true (by kernel_rfl)) k1 bel lt1) trodAll_mk0)), rfl, bel.frame _, fun h => by cases h⟩

/-- ████ THE STATEMENT ████ -/
theorem proved : Rows.FnAcceptsIffPastLastHardTokenSaid :=
  OpenClaim.holds_of_wide 4 Try.f4 rfl rfl rfl rfl rfl rfl rfl ⟨rfl, rfl, rfl, rfl, rfl⟩ rfl rfl rfl rfl rfl (by kernel_rfl) Try.func4 (by kernel_rfl)
    (of_decide_eq_true (by kernel_rfl)) (by unfold Func.isWrapper; first | (rw [if_pos (by decide +kernel)]; kernel_rfl) | (rw [if_neg (by decide +kernel)]; exact ⟨rfl, rfl⟩))
    (fun os started H enc _ => lifted os started H enc)
end fnAccepts
end Go.Proofs.Qxb6605325a
