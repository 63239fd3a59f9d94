import Derived.Test.Qxb6605343aTk
import Derived.Test.Qxb6605343aClone
namespace Go.Proofs.Qxb6605343a
open Go.RowKit
set_option linter.unusedVariables false

def tk1 (d y : Int) (p : Bool) : Bool := !(decide (y < 0) || ((d == 3) && !p) || (d == 4) || (d == 5))
theorem ret_b {a b : Bool} (h : a = b) : Ending.returned (.bool a) = .returned (.bool b) := by rw [h]

set_option maxHeartbeats 1000000 in
theorem takeable_any (a v e d y u : Int) (p : Bool) (w : World) (h0 : 0 ≤ d) (h5 : d ≤ 5) :
    Calls Try.prog 18 #[.agg #[.int .i64 a, .int .i64 v, .int .i64 e, .int .i64 d, .bool p, .int .i64 y, .int .i64 u]] w fun e w' => e = .returned (.bool (tk1 d y p)) ∧ Below w.heap.size w w' := by
  by_cases hy : y < 0
  · go_enter Try.func18, Try.ntmps18
    go_wp2
    go_ret
    exact ⟨ret_b (by unfold tk1; rw [decide_eq_true hy]; rfl), (Below.refl _ _).alloc (Nat.le_refl _) _⟩
  have hy' : decide (y < 0) = false := decide_eq_false hy
  rcases (show d = 0 ∨ d = 1 ∨ d = 2 ∨ d = 3 ∨ d = 4 ∨ d = 5 by omega) with rfl | rfl | rfl | rfl | rfl | rfl
  all_goals clear h0 h5
  · go_enter Try.func18, Try.ntmps18
    go_wp2
    go_ret
    exact ⟨ret_b (by unfold tk1; rw [hy']; rfl), (Below.refl _ _).alloc (Nat.le_refl _) _⟩
  · go_enter Try.func18, Try.ntmps18
    go_wp2
    go_ret
    exact ⟨ret_b (by unfold tk1; rw [hy']; rfl), (Below.refl _ _).alloc (Nat.le_refl _) _⟩
  · go_enter Try.func18, Try.ntmps18
    go_wp2
    go_ret
    exact ⟨ret_b (by unfold tk1; rw [hy']; rfl), (Below.refl _ _).alloc (Nat.le_refl _) _⟩
  · go_enter Try.func18, Try.ntmps18
    go_wp2
    go_ret
    exact ⟨ret_b (by unfold tk1; rw [hy']; cases p <;> rfl), (Below.refl _ _).alloc (Nat.le_refl _) _⟩
  · go_enter Try.func18, Try.ntmps18
    go_wp2
    go_ret
    exact ⟨ret_b (by unfold tk1; rw [hy']; rfl), (Below.refl _ _).alloc (Nat.le_refl _) _⟩
  · go_enter Try.func18, Try.ntmps18
    go_wp2
    go_ret
    exact ⟨ret_b (by unfold tk1; rw [hy']; rfl), (Below.refl _ _).alloc (Nat.le_refl _) _⟩

/-- A slice of places (seven cells each). -/
def Pls (w : World) (a : Option Addr) (n : Nat) (A V E D Y U : Nat → Int) (P : Nat → Bool) : Prop :=
  0 < n → ∃ b off, a = some ⟨b, off, none⟩ ∧ ∀ i, i < n → w.cell? ⟨b, off + i * 7, none⟩ = some (.int .i64 (A i)) ∧ w.cell? ⟨b, off + i * 7 + 1, none⟩ = some (.int .i64 (V i)) ∧ w.cell? ⟨b, off + i * 7 + 2, none⟩ = some (.int .i64 (E i)) ∧ w.cell? ⟨b, off + i * 7 + 3, none⟩ = some (.int .i64 (D i)) ∧ w.cell? ⟨b, off + i * 7 + 4, none⟩ = some (.bool (P i)) ∧ w.cell? ⟨b, off + i * 7 + 5, none⟩ = some (.int .i64 (Y i)) ∧ w.cell? ⟨b, off + i * 7 + 6, none⟩ = some (.int .i64 (U i))
theorem Pls.later {w w' : World} {a : Option Addr} {n : Nat} {A V E D Y U : Nat → Int} {P : Nat → Bool} (h : Pls w a n A V E D Y U P) (hb : Below w.heap.size w w') : Pls w' a n A V E D Y U P := fun h0 => by
  obtain ⟨b, off, e, hc⟩ := h h0
  refine ⟨b, off, e, fun i hi => ?_⟩
  obtain ⟨c0, c1, c2, c3, c4, c5, c6⟩ := hc i hi
  exact ⟨cell_later hb c0, cell_later hb c1, cell_later hb c2, cell_later hb c3, cell_later hb c4, cell_later hb c5, cell_later hb c6⟩
/-- The first k places of a row of n that is being laid in block g. -/
structure Pk (wd : World) (g n k : Nat) (A V E D Y U : Nat → Int) (P : Nat → Bool) : Prop where
  ex : ∀ j, j < n * 7 → (wd.cell? ⟨g, j, none⟩).isSome = true
  fz : ∀ j, wd.frozen? ⟨g, j, none⟩ = false
  pl : ∀ i, i < k → wd.cell? ⟨g, i * 7, none⟩ = some (.int .i64 (A i)) ∧ wd.cell? ⟨g, i * 7 + 1, none⟩ = some (.int .i64 (V i)) ∧ wd.cell? ⟨g, i * 7 + 2, none⟩ = some (.int .i64 (E i)) ∧ wd.cell? ⟨g, i * 7 + 3, none⟩ = some (.int .i64 (D i)) ∧ wd.cell? ⟨g, i * 7 + 4, none⟩ = some (.bool (P i)) ∧ wd.cell? ⟨g, i * 7 + 5, none⟩ = some (.int .i64 (Y i)) ∧ wd.cell? ⟨g, i * 7 + 6, none⟩ = some (.int .i64 (U i))
theorem isSome_set (w : World) (g j : Nat) (v : Value) (j' : Nat) (h : (w.cell? ⟨g, j', none⟩).isSome = true) : ((w.setCell ⟨g, j, none⟩ v).cell? ⟨g, j', none⟩).isSome = true := by
  by_cases e : j = j'
  · subst e
    obtain ⟨u, hu⟩ := Option.isSome_iff_exists.1 h
    rw [sc_eq v hu]; rfl
  · rw [sc_ne _ _ _ _ _ _ (.inr e)]; exact h
theorem Pk.next {wd : World} {g n k : Nat} {A V E D Y U : Nat → Int} {P : Nat → Bool} (h : Pk wd g n k A V E D Y U P) (hk : k < n) :
    Pk (((((((wd.setCell ⟨g, k * 7, none⟩ (.int .i64 (A k))).setCell ⟨g, k * 7 + 1, none⟩ (.int .i64 (V k))).setCell ⟨g, k * 7 + 2, none⟩ (.int .i64 (E k))).setCell ⟨g, k * 7 + 3, none⟩ (.int .i64 (D k))).setCell ⟨g, k * 7 + 4, none⟩ (.bool (P k))).setCell ⟨g, k * 7 + 5, none⟩ (.int .i64 (Y k))).setCell ⟨g, k * 7 + 6, none⟩ (.int .i64 (U k))) g n (k + 1) A V E D Y U P := by
  refine ⟨fun j hj => ?_, fun j => by simp only [World.frozen?_setCell]; exact h.fz j, fun i hi => ?_⟩
  · exact isSome_set _ _ _ _ _ (isSome_set _ _ _ _ _ (isSome_set _ _ _ _ _ (isSome_set _ _ _ _ _ (isSome_set _ _ _ _ _ (isSome_set _ _ _ _ _ (isSome_set _ _ _ _ _ (h.ex j hj)))))))
  · by_cases e : i = k
    · subst e
      refine ⟨?_, ?_, ?_, ?_, ?_, ?_, ?_⟩
      · obtain ⟨u, hu⟩ := Option.isSome_iff_exists.1 (h.ex _ (by omega) : (World.cell? _ ⟨g, i * 7, none⟩).isSome = true)
        rw [sc_ne _ _ _ _ _ _ (.inr (by omega)), sc_ne _ _ _ _ _ _ (.inr (by omega)), sc_ne _ _ _ _ _ _ (.inr (by omega)), sc_ne _ _ _ _ _ _ (.inr (by omega)), sc_ne _ _ _ _ _ _ (.inr (by omega)), sc_ne _ _ _ _ _ _ (.inr (by omega))]; exact sc_eq _ hu
      · obtain ⟨u, hu⟩ := Option.isSome_iff_exists.1 (isSome_set _ _ _ _ _ (h.ex _ (by omega)) : (World.cell? _ ⟨g, i * 7 + 1, none⟩).isSome = true)
        rw [sc_ne _ _ _ _ _ _ (.inr (by omega)), sc_ne _ _ _ _ _ _ (.inr (by omega)), sc_ne _ _ _ _ _ _ (.inr (by omega)), sc_ne _ _ _ _ _ _ (.inr (by omega)), sc_ne _ _ _ _ _ _ (.inr (by omega))]; exact sc_eq _ hu
      · obtain ⟨u, hu⟩ := Option.isSome_iff_exists.1 (isSome_set _ _ _ _ _ (isSome_set _ _ _ _ _ (h.ex _ (by omega))) : (World.cell? _ ⟨g, i * 7 + 2, none⟩).isSome = true)
        rw [sc_ne _ _ _ _ _ _ (.inr (by omega)), sc_ne _ _ _ _ _ _ (.inr (by omega)), sc_ne _ _ _ _ _ _ (.inr (by omega)), sc_ne _ _ _ _ _ _ (.inr (by omega))]; exact sc_eq _ hu
      · obtain ⟨u, hu⟩ := Option.isSome_iff_exists.1 (isSome_set _ _ _ _ _ (isSome_set _ _ _ _ _ (isSome_set _ _ _ _ _ (h.ex _ (by omega)))) : (World.cell? _ ⟨g, i * 7 + 3, none⟩).isSome = true)
        rw [sc_ne _ _ _ _ _ _ (.inr (by omega)), sc_ne _ _ _ _ _ _ (.inr (by omega)), sc_ne _ _ _ _ _ _ (.inr (by omega))]; exact sc_eq _ hu
      · obtain ⟨u, hu⟩ := Option.isSome_iff_exists.1 (isSome_set _ _ _ _ _ (isSome_set _ _ _ _ _ (isSome_set _ _ _ _ _ (isSome_set _ _ _ _ _ (h.ex _ (by omega))))) : (World.cell? _ ⟨g, i * 7 + 4, none⟩).isSome = true)
        rw [sc_ne _ _ _ _ _ _ (.inr (by omega)), sc_ne _ _ _ _ _ _ (.inr (by omega))]; exact sc_eq _ hu
      · obtain ⟨u, hu⟩ := Option.isSome_iff_exists.1 (isSome_set _ _ _ _ _ (isSome_set _ _ _ _ _ (isSome_set _ _ _ _ _ (isSome_set _ _ _ _ _ (isSome_set _ _ _ _ _ (h.ex _ (by omega)))))) : (World.cell? _ ⟨g, i * 7 + 5, none⟩).isSome = true)
        rw [sc_ne _ _ _ _ _ _ (.inr (by omega))]; exact sc_eq _ hu
      · obtain ⟨u, hu⟩ := Option.isSome_iff_exists.1 (isSome_set _ _ _ _ _ (isSome_set _ _ _ _ _ (isSome_set _ _ _ _ _ (isSome_set _ _ _ _ _ (isSome_set _ _ _ _ _ (isSome_set _ _ _ _ _ (h.ex _ (by omega))))))) : (World.cell? _ ⟨g, i * 7 + 6, none⟩).isSome = true)
        exact sc_eq _ hu
    · obtain ⟨c0, c1, c2, c3, c4, c5, c6⟩ := h.pl i (by omega)
      refine ⟨?_, ?_, ?_, ?_, ?_, ?_, ?_⟩
      all_goals
        rw [sc_ne _ _ _ _ _ _ (.inr (by omega)), sc_ne _ _ _ _ _ _ (.inr (by omega)), sc_ne _ _ _ _ _ _ (.inr (by omega)), sc_ne _ _ _ _ _ _ (.inr (by omega)), sc_ne _ _ _ _ _ _ (.inr (by omega)), sc_ne _ _ _ _ _ _ (.inr (by omega)), sc_ne _ _ _ _ _ _ (.inr (by omega))]
        assumption
theorem Try.info47 : (Try.prog.info? 47).map (fun i => (i.zero.isSome, i.size, i.bytes)) = some (true, 7, 56) := by kernel_rfl
theorem info47_parts : ∃ i0 z, Try.prog.info? 47 = some i0 ∧ i0.zero = some z ∧ i0.size = 7 ∧ i0.bytes = 56 := by
  have := Try.info47
  cases h : Try.prog.info? 47 with
  | none => rw [h] at this; cases this
  | some i =>
    rw [h] at this
    have h1 := Option.some.inj this
    simp only [Prod.mk.injEq] at h1
    obtain ⟨z, hz⟩ := Option.isSome_iff_exists.1 h1.1
    exact ⟨i, z, rfl, hz, h1.2.1, h1.2.2⟩
theorem own_lt7 {w : World} {base e size n cap : Nat} {g : Nat} {xs : List Value} (ho : w.ownsRow base e size (.slice (some ⟨g, 0, none⟩) n cap) n xs) : g < w.heap.size := by
  rcases ho.2 with ⟨e, _⟩ | ⟨g', cp, cur, e, hg, hh, r⟩
  · cases e
  · simp at e; obtain ⟨rfl, _⟩ := e; exact (Array.getElem?_eq_some_iff.1 hh).1

set_option maxHeartbeats 1000000 in
theorem clonePlaces_any (a : Option Addr) (len cap : Nat) (A V E D Y U : Nat → Int) (P : Nat → Bool) (w : World) (hnil : a = none → len = 0) (hl : len ≤ 131072) (hc : Pls w a len A V E D Y U P) :
    Calls Try.prog 16 #[.slice a len cap] w fun e w' => (∃ a', e = .returned (.slice a' len len) ∧ Pls w' a' len A V E D Y U P) ∧ Below w.heap.size w w' := by
  cases a with
  | none =>
    obtain rfl := hnil rfl
    have hn := fun w => Lib.run_eql_slice_nil (P := Try.prog) w 40 47 none 0 cap 0 0 Try.underlying40
    clear hc
    go_enter Try.func16, Try.ntmps16
    go_wp2
    go_ret
    exact ⟨⟨none, rfl, fun h => by omega⟩, Below.refl _ _⟩
  | some x =>
    have hn := fun w => Lib.run_eql_slice_nil (P := Try.prog) w 40 47 (some x) len cap 0 0 Try.underlying40
    obtain ⟨i0, z, hi, hz0, hz1, hz2⟩ := info47_parts
    have HC : Hid (Pls w (some x) len A V E D Y U P) := hc
    clear hc hnil
    go_enter Try.func16, Try.ntmps16
    go_wp2_with (at_make; refine wpList_make_full _ rfl _ _ 40 rfl w.heap.size 47 i0 _ 7 Try.underlying40 hi hz0 hz1 _ _ _ _ len rfl rfl rfl rfl (by rw [hz2]; omega) (by unfold maxLen; omega) (Nat.le_refl _) ?_; intro w1 hown hgrow)
    have HG : Hid (Below w.heap.size w w1) := (Below.refl _ _).grown hgrow (Nat.le_refl _) (fun k h => by cases h)
    have HP1 : Hid (Pk w1 w.heap.size len 0 A V E D Y U P) := ⟨fun j hj => by rw [hown.cellAt j hj, List.getElem?_eq_getElem (by rw [hown.1]; exact hj)]; rfl, fun j => hown.frozenAt j, fun i h => by omega⟩
    clear hown hgrow
    go_loopw [4] (fun i wr => ∃ k : Nat, k ≤ len ∧ i = .int .i64 k ∧ Pk wr w.heap.size len k A V E D Y U P ∧ Below w.heap.size w wr) (fun i _ => len - (intOf i).toNat)
    case atStart => exact ⟨0, Nat.zero_le _, rfl, HP1.out, HG.out⟩
    case round =>
      obtain ⟨k, hk, rfl, hp, hb⟩ := hrel
      have HP : Hid (Pk wr w.heap.size len k A V E D Y U P) := hp
      clear HP1 HG
      by_cases hlt : k < len
      · obtain ⟨b, off, e, hcc⟩ := HC.out (by omega)
        cases e
        obtain ⟨c0, c1, c2, c3, c4, c5, c6⟩ := hcc k hlt
        have hbl : b ≠ w.heap.size := Nat.ne_of_lt (World.block_lt_of_cell? _ _ c0)
        have d0 := cell_later hb c0
        have d1 := cell_later hb c1
        have d2 := cell_later hb c2
        have d3 := cell_later hb c3
        have d4 := cell_later hb c4
        have d5 := cell_later hb c5
        have d6 := cell_later hb c6
        clear hcc c0 c1 c2 c3 c4 c5 c6
        obtain ⟨x0, y0⟩ := Option.isSome_iff_exists.1 (hp.ex (k * 7) (by omega))
        obtain ⟨x1, y1⟩ := Option.isSome_iff_exists.1 (hp.ex (k * 7 + 1) (by omega))
        obtain ⟨x2, y2⟩ := Option.isSome_iff_exists.1 (hp.ex (k * 7 + 2) (by omega))
        obtain ⟨x3, y3⟩ := Option.isSome_iff_exists.1 (hp.ex (k * 7 + 3) (by omega))
        obtain ⟨x4, y4⟩ := Option.isSome_iff_exists.1 (hp.ex (k * 7 + 4) (by omega))
        obtain ⟨x5, y5⟩ := Option.isSome_iff_exists.1 (hp.ex (k * 7 + 5) (by omega))
        obtain ⟨x6, y6⟩ := Option.isSome_iff_exists.1 (hp.ex (k * 7 + 6) (by omega))
        have hfz := hp.fz
        clear hp
        have hlti : (k : Int) < (len : Int) := by omega
        go_wp2
        go_roundw
        case rel => exact ⟨k + 1, by omega, by go_num, HP.out.next hlt, ((((((hb.setCell (p := ⟨w.heap.size, k * 7, none⟩) (Nat.le_refl _) _).setCell (p := ⟨w.heap.size, k * 7 + 1, none⟩) (Nat.le_refl _) _).setCell (p := ⟨w.heap.size, k * 7 + 2, none⟩) (Nat.le_refl _) _).setCell (p := ⟨w.heap.size, k * 7 + 3, none⟩) (Nat.le_refl _) _).setCell (p := ⟨w.heap.size, k * 7 + 4, none⟩) (Nat.le_refl _) _).setCell (p := ⟨w.heap.size, k * 7 + 5, none⟩) (Nat.le_refl _) _).setCell (p := ⟨w.heap.size, k * 7 + 6, none⟩) (Nat.le_refl _) _⟩
        case measure => simp [intOf]; omega
      · have e : k = len := by omega
        subst e
        clear hp
        go_wp2
        go_ret
        refine ⟨⟨_, rfl, fun h0 => ⟨w.heap.size, 0, rfl, fun i hi => ?_⟩⟩, hb⟩
        have := HP.out.pl i hi
        simpa using this
end Go.Proofs.Qxb6605343a
