import Derived.Test.Qxb6605343aTk
import Derived.Test.Qxb6605343aSmall
import Derived.Deep.MidRow
namespace Go.Proofs.Qxb6605343a
open Go.RowKit
set_option linter.unusedVariables false

theorem sc_isSome (w : World) (g j : Nat) (v : Value) (g' j' : Nat) (h : (w.cell? ⟨g', j', none⟩).isSome = true) : ((w.setCell ⟨g, j, none⟩ v).cell? ⟨g', j', none⟩).isSome = true := by
  by_cases e : g = g'
  · subst e; exact isSome_set _ _ _ _ _ h
  · rw [sc_ne _ _ _ _ _ _ (.inl e)]; exact h

/-- Block g holds n cells, of which the first k are as X says. -/
structure Rk (wd : World) (g n k : Nat) (X : Nat → Value) : Prop where
  ex : ∀ j, j < n → (wd.cell? ⟨g, j, none⟩).isSome = true
  fz : ∀ j, wd.frozen? ⟨g, j, none⟩ = false
  pl : ∀ j, j < k → wd.cell? ⟨g, j, none⟩ = some (X j)
theorem Rk.next {wd : World} {g n k : Nat} {X : Nat → Value} (h : Rk wd g n k X) (hk : k < n) : Rk (wd.setCell ⟨g, k, none⟩ (X k)) g n (k + 1) X := by
  refine ⟨fun j hj => isSome_set _ _ _ _ _ (h.ex j hj), fun j => by rw [World.frozen?_setCell]; exact h.fz j, fun j hj => ?_⟩
  by_cases e : k = j
  · subst e
    obtain ⟨u, hu⟩ := Option.isSome_iff_exists.1 (h.ex k hk)
    exact sc_eq _ hu
  · rw [sc_ne _ _ _ _ _ _ (.inr e)]; exact h.pl j (by omega)
theorem Rk.other {wd : World} {g n k : Nat} {X : Nat → Value} (h : Rk wd g n k X) (g' j' : Nat) (v : Value) (hg : g' ≠ g) : Rk (wd.setCell ⟨g', j', none⟩ v) g n k X :=
  ⟨fun j hj => sc_isSome _ _ _ _ _ _ (h.ex j hj), fun j => by rw [World.frozen?_setCell]; exact h.fz j, fun j hj => by rw [sc_ne _ _ _ _ _ _ (.inl hg)]; exact h.pl j hj⟩
theorem Rk.later {wd we : World} {g n k B : Nat} {X : Nat → Value} (h : Rk wd g n k X) (hb : Below B wd we) (hg : g < B) : Rk we g n k X :=
  ⟨fun j hj => by rw [World.cell?_of_block (hb.block g hg)]; exact h.ex j hj, fun j => by rw [World.frozen?_of_block (hb.block g hg)]; exact h.fz j, fun j hj => by rw [World.cell?_of_block (hb.block g hg)]; exact h.pl j hj⟩
theorem Rk.range {wd : World} {g n : Nat} {X : Nat → Value} (h : Rk wd g n n X) : wd.rangeAt g 0 (vrow X n) := fun j v hv => by
  have hj : j < n := by have := (List.getElem?_eq_some_iff.1 hv).1; rwa [vrow_length] at this
  rw [vrow_get _ _ _ hj] at hv
  rw [Nat.zero_add, ← hv]; exact h.pl j hj
theorem Rk.there {wd : World} {g n k : Nat} {X : Nat → Value} (h : Rk wd g n k X) : wd.there g 0 n := fun j hj => by rw [Nat.zero_add]; exact ⟨h.ex j hj, h.fz j⟩
theorem Rk.row {wd : World} {g n : Nat} {X : Nat → Value} (h : Rk wd g n n X) : Row wd (some ⟨g, 0, none⟩) n X := fun _ => ⟨g, 0, rfl, fun i hi => by rw [Nat.zero_add]; exact h.pl i hi⟩
theorem Rk.ofNew {wd : World} {g : Nat} {cs : Array Value} {t : TypeId} (h : wd.heap[g]? = some (.cells cs t)) (n : Nat) (hn : n ≤ cs.size) (X : Nat → Value) : Rk wd g n 0 X :=
  ⟨fun j hj => by rw [cell_of_row wd g j _ t _ h, Array.getElem?_eq_getElem (by omega)]; rfl, fun j => by simp [World.frozen?, h], fun j hj => by omega⟩
theorem Rk.ofOwn {wd : World} {base e g n cap : Nat} {xs : List Value} (h : wd.ownsRow base e 1 (.slice (some ⟨g, 0, none⟩) n cap) n xs) (X : Nat → Value) : Rk wd g n 0 X :=
  ⟨fun j hj => by rw [h.cellAt j (by omega), List.getElem?_eq_getElem (by have := h.1; omega)]; rfl, fun j => h.frozenAt j, fun j hj => by omega⟩

/-- Block g holds n places of ten cells, of which the first k are as said. -/
structure Pt (wd : World) (g n k : Nat) (A V E D Y U : Nat → Int) (P : Nat → Bool) : Prop where
  ex : ∀ j, j < n * 10 → (wd.cell? ⟨g, j, none⟩).isSome = true
  fz : ∀ j, wd.frozen? ⟨g, j, none⟩ = false
  pl : ∀ i, i < k → wd.cell? ⟨g, i * 10, none⟩ = some (.int .i64 (A i)) ∧ wd.cell? ⟨g, i * 10 + 1, none⟩ = some (.int .i64 (V i)) ∧ wd.cell? ⟨g, i * 10 + 2, none⟩ = some (.int .i64 (E i)) ∧ wd.cell? ⟨g, i * 10 + 3, none⟩ = some (.int .i64 (D i)) ∧ wd.cell? ⟨g, i * 10 + 4, none⟩ = some (.bool (P i)) ∧ wd.cell? ⟨g, i * 10 + 5, none⟩ = some (.int .i64 (Y i)) ∧ wd.cell? ⟨g, i * 10 + 9, none⟩ = some (.int .i64 (U i))

/-- One cell is set in block g. -/
theorem sc_at {w : World} {g j : Nat} (v : Value) (h : (w.cell? ⟨g, j, none⟩).isSome = true) : (w.setCell ⟨g, j, none⟩ v).cell? ⟨g, j, none⟩ = some v := by
  obtain ⟨u, hu⟩ := Option.isSome_iff_exists.1 h
  exact sc_eq v hu
theorem Pt.next {wd : World} {g n k : Nat} {A V E D Y U : Nat → Int} {P : Nat → Bool} (h : Pt wd g n k A V E D Y U P) (hk : k < n) (z6 z7 z8 : Value) :
    Pt ((((((((((wd.setCell ⟨g, k * 10, none⟩ (.int .i64 (A k))).setCell ⟨g, k * 10 + 1, none⟩ (.int .i64 (V k))).setCell ⟨g, k * 10 + 2, none⟩ (.int .i64 (E k))).setCell ⟨g, k * 10 + 3, none⟩ (.int .i64 (D k))).setCell ⟨g, k * 10 + 4, none⟩ (.bool (P k))).setCell ⟨g, k * 10 + 5, none⟩ (.int .i64 (Y k))).setCell ⟨g, k * 10 + 6, none⟩ z6).setCell ⟨g, k * 10 + 7, none⟩ z7).setCell ⟨g, k * 10 + 8, none⟩ z8).setCell ⟨g, k * 10 + 9, none⟩ (.int .i64 (U k))) g n (k + 1) A V E D Y U P := by
  refine ⟨fun j hj => ?_, fun j => by simp only [World.frozen?_setCell]; exact h.fz j, fun i hi => ?_⟩
  · exact isSome_set _ _ _ _ _ (isSome_set _ _ _ _ _ (isSome_set _ _ _ _ _ (isSome_set _ _ _ _ _ (isSome_set _ _ _ _ _ (isSome_set _ _ _ _ _ (isSome_set _ _ _ _ _ (isSome_set _ _ _ _ _ (isSome_set _ _ _ _ _ (isSome_set _ _ _ _ _ (h.ex j hj))))))))))
  · by_cases e : i = k
    · subst e
      have x0 := h.ex (i * 10) (by omega)
      have x1 := h.ex (i * 10 + 1) (by omega)
      have x2 := h.ex (i * 10 + 2) (by omega)
      have x3 := h.ex (i * 10 + 3) (by omega)
      have x4 := h.ex (i * 10 + 4) (by omega)
      have x5 := h.ex (i * 10 + 5) (by omega)
      have x9 := h.ex (i * 10 + 9) (by omega)
      refine ⟨?_, ?_, ?_, ?_, ?_, ?_, ?_⟩
      · iterate 9 rw [sc_ne _ _ _ _ _ _ (.inr (by omega))]
        exact sc_at _ x0
      · iterate 8 rw [sc_ne _ _ _ _ _ _ (.inr (by omega))]
        exact sc_at _ (by iterate 1 (apply isSome_set)
                          exact x1)
      · iterate 7 rw [sc_ne _ _ _ _ _ _ (.inr (by omega))]
        exact sc_at _ (by iterate 2 (apply isSome_set)
                          exact x2)
      · iterate 6 rw [sc_ne _ _ _ _ _ _ (.inr (by omega))]
        exact sc_at _ (by iterate 3 (apply isSome_set)
                          exact x3)
      · iterate 5 rw [sc_ne _ _ _ _ _ _ (.inr (by omega))]
        exact sc_at _ (by iterate 4 (apply isSome_set)
                          exact x4)
      · iterate 4 rw [sc_ne _ _ _ _ _ _ (.inr (by omega))]
        exact sc_at _ (by iterate 5 (apply isSome_set)
                          exact x5)
      · exact sc_at _ (by iterate 9 (apply isSome_set)
                          exact x9)
    · obtain ⟨c0, c1, c2, c3, c4, c5, c6⟩ := h.pl i (by omega)
      refine ⟨?_, ?_, ?_, ?_, ?_, ?_, ?_⟩
      all_goals
        iterate 10 rw [sc_ne _ _ _ _ _ _ (.inr (by omega))]
        assumption
theorem Pt.later {wd we : World} {g n k B : Nat} {A V E D Y U : Nat → Int} {P : Nat → Bool} (h : Pt wd g n k A V E D Y U P) (hb : Below B wd we) (hg : g < B) : Pt we g n k A V E D Y U P := by
  have e : ∀ j, we.cell? ⟨g, j, none⟩ = wd.cell? ⟨g, j, none⟩ := fun j => World.cell?_of_block (hb.block g hg)
  refine ⟨fun j hj => by rw [e]; exact h.ex j hj, fun j => by rw [World.frozen?_of_block (hb.block g hg)]; exact h.fz j, fun i hi => ?_⟩
  simp only [e]; exact h.pl i hi

/-- The object's keyed members, of which the first k are laid. -/
structure Ko (wd : World) (ob k : Nat) (un : Value) (pr : Nat) (K : Nat → Int × Int × Bool × Int) : Prop where
  ex : ∀ j, j < 64 → (wd.cell? ⟨ob, 6 + j, none⟩).isSome = true
  fz : ∀ j, wd.frozen? ⟨ob, j, none⟩ = false
  ky : ∀ k', k' < k → wd.cell? ⟨ob, 6 + k' * 4, none⟩ = some (.int .i64 (K k').1) ∧ wd.cell? ⟨ob, 6 + k' * 4 + 1, none⟩ = some (.int .i64 (K k').2.1) ∧ wd.cell? ⟨ob, 6 + k' * 4 + 2, none⟩ = some (.bool (K k').2.2.1) ∧ wd.cell? ⟨ob, 6 + k' * 4 + 3, none⟩ = some (.int .i64 (K k').2.2.2)
  c2 : wd.cell? ⟨ob, 2, none⟩ = some un
  pres : wd.cell? ⟨ob, 70, none⟩ = some (.int .u16 pr)
theorem Ko.next {wd : World} {ob k : Nat} {un : Value} {pr : Nat} {K : Nat → Int × Int × Bool × Int} (h : Ko wd ob k un pr K) (hk : k < 16) :
    Ko ((((wd.setCell ⟨ob, 6 + k * 4, none⟩ (.int .i64 (K k).1)).setCell ⟨ob, 6 + k * 4 + 1, none⟩ (.int .i64 (K k).2.1)).setCell ⟨ob, 6 + k * 4 + 2, none⟩ (.bool (K k).2.2.1)).setCell ⟨ob, 6 + k * 4 + 3, none⟩ (.int .i64 (K k).2.2.2)) ob (k + 1) un pr K := by
  refine ⟨fun j hj => ?_, fun j => by simp only [World.frozen?_setCell]; exact h.fz j, fun i hi => ?_, ?_, ?_⟩
  · exact isSome_set _ _ _ _ _ (isSome_set _ _ _ _ _ (isSome_set _ _ _ _ _ (isSome_set _ _ _ _ _ (h.ex j hj))))
  · by_cases e : i = k
    · subst e
      have x0 := h.ex (i * 4) (by omega)
      have x1 := h.ex (i * 4 + 1) (by omega)
      have x2 := h.ex (i * 4 + 2) (by omega)
      have x3 := h.ex (i * 4 + 3) (by omega)
      rw [← Nat.add_assoc] at x1 x2 x3
      refine ⟨?_, ?_, ?_, ?_⟩
      · iterate 3 rw [sc_ne _ _ _ _ _ _ (.inr (by omega))]
        exact sc_at _ x0
      · iterate 2 rw [sc_ne _ _ _ _ _ _ (.inr (by omega))]
        exact sc_at _ (by iterate 1 (apply isSome_set)
                          exact x1)
      · iterate 1 rw [sc_ne _ _ _ _ _ _ (.inr (by omega))]
        exact sc_at _ (by iterate 2 (apply isSome_set)
                          exact x2)
      · exact sc_at _ (by iterate 3 (apply isSome_set)
                          exact x3)
    · obtain ⟨c0, c1, c2, c3⟩ := h.ky i (by omega)
      refine ⟨?_, ?_, ?_, ?_⟩
      all_goals
        iterate 4 rw [sc_ne _ _ _ _ _ _ (.inr (by omega))]
        assumption
  · iterate 4 rw [sc_ne _ _ _ _ _ _ (.inr (by omega))]
    exact h.c2
  · iterate 4 rw [sc_ne _ _ _ _ _ _ (.inr (by omega))]
    exact h.pres
theorem Tk.later {wd we : World} {ob qb n B : Nat} {A V E D Y U : Nat → Int} {P : Nat → Bool} {K : Nat → Int × Int × Bool × Int} {pr : Nat} (h : Tk wd ob qb n A V E D Y U P K pr) (hb : Below B wd we) (ho : ob < B) (hq : qb < B) : Tk we ob qb n A V E D Y U P K pr := by
  have e : ∀ j, we.cell? ⟨ob, j, none⟩ = wd.cell? ⟨ob, j, none⟩ := fun j => World.cell?_of_block (hb.block ob ho)
  have e' : ∀ j, we.cell? ⟨qb, j, none⟩ = wd.cell? ⟨qb, j, none⟩ := fun j => World.cell?_of_block (hb.block qb hq)
  refine ⟨fun i hi => ?_, fun j => by rw [World.frozen?_of_block (hb.block qb hq)]; exact h.pf j, fun i hi => ?_, fun j => by rw [World.frozen?_of_block (hb.block ob ho)]; exact h.kf j, by rw [e]; exact h.pres, h.ne, Nat.lt_of_lt_of_le h.lo hb.size, Nat.lt_of_lt_of_le h.lq hb.size⟩
  · simp only [e']; exact h.pl i hi
  · simp only [e]; exact h.ky i hi
end Go.Proofs.Qxb6605343a
