import Derived.Test.Qxb6605343aKnow
import Derived.Test.Qxb6605343aClone
import Derived.Great.BuildSlice
namespace Go.Proofs.Qxb6605343a
open Go.RowKit
set_option linter.unusedVariables false
attribute [local go_sem ↓] Go.wp_at_zero Go.wp_at_succ

theorem Try.info68 : (Try.prog.info? 68).map (fun i => (i.zero.isSome, i.size, i.bytes)) = some (true, 10, 80) := by kernel_rfl
theorem info68_parts : ∃ i0 z, Try.prog.info? 68 = some i0 ∧ i0.zero = some z ∧ i0.size = 10 ∧ i0.bytes = 80 := by
  have := Try.info68
  cases h : Try.prog.info? 68 with
  | none => rw [h] at this; cases this
  | some i =>
    rw [h] at this
    have h1 := Option.some.inj this
    simp only [Prod.mk.injEq] at h1
    obtain ⟨z, hz⟩ := Option.isSome_iff_exists.1 h1.1
    exact ⟨i, z, rfl, hz, h1.2.1, h1.2.2⟩

/-- The cells of an object whose keyed members are all zero. -/
def objCells (line unesc pres places plain : Value) : Array Value :=
  #[.slice none 0 0, line, unesc, .map none, .int .u64 0, .pointer none,
    .int .i64 0, .int .i64 0, .bool false, .int .i64 0, .int .i64 0, .int .i64 0, .bool false, .int .i64 0, .int .i64 0, .int .i64 0, .bool false, .int .i64 0, .int .i64 0, .int .i64 0, .bool false, .int .i64 0,
    .int .i64 0, .int .i64 0, .bool false, .int .i64 0, .int .i64 0, .int .i64 0, .bool false, .int .i64 0, .int .i64 0, .int .i64 0, .bool false, .int .i64 0, .int .i64 0, .int .i64 0, .bool false, .int .i64 0,
    .int .i64 0, .int .i64 0, .bool false, .int .i64 0, .int .i64 0, .int .i64 0, .bool false, .int .i64 0, .int .i64 0, .int .i64 0, .bool false, .int .i64 0, .int .i64 0, .int .i64 0, .bool false, .int .i64 0,
    .int .i64 0, .int .i64 0, .bool false, .int .i64 0, .int .i64 0, .int .i64 0, .bool false, .int .i64 0, .int .i64 0, .int .i64 0, .bool false, .int .i64 0, .int .i64 0, .int .i64 0, .bool false, .int .i64 0,
    pres, places, .bool false, .bool false, plain]
theorem built66 (la : Option Addr) (nl cl : Nat) (pa : Option Addr) (np q n : Nat) : Try.prog.built 66 [(1, .slice la nl cl), (11, .slice pa np np), (8, .slice (some ⟨q, 0, none⟩) n n)] = some (objCells (.slice la nl cl) (.slice none 0 0) (.int .u16 0) (.slice (some ⟨q, 0, none⟩) n n) (.slice pa np np)) := by kernel_rfl

theorem own_lt' {w : World} {base e size n cap : Nat} {g : Nat} {xs : List Value} (ho : w.ownsRow base e size (.slice (some ⟨g, 0, none⟩) n cap) n xs) : g < w.heap.size := by
  rcases ho.2 with ⟨e, _⟩ | ⟨g', cp, cur, e, hg, hh, r⟩
  · cases e
  · simp at e; obtain ⟨rfl, _⟩ := e; exact (Array.getElem?_eq_some_iff.1 hh).1
theorem frozen_new {w : World} {b : Nat} {cs : Array Value} {t : TypeId} (h : w.heap[b]? = some (.cells cs t)) (j : Nat) : w.frozen? ⟨b, j, none⟩ = false := by
  simp [World.frozen?, h]
/-- The object and the first k of its places, while they are laid. -/
structure Sk (w wd : World) (ob qb n k : Nat) (la : Option Addr) (nl cl : Nat) (plain : Value) (V E : Nat → Int) (P : Nat → Bool) : Prop where
  line : wd.cell? ⟨ob, 1, none⟩ = some (.slice la nl cl)
  places : wd.cell? ⟨ob, 71, none⟩ = some (.slice (some ⟨qb, 0, none⟩) n n)
  known : wd.cell? ⟨ob, 73, none⟩ = some (.bool false)
  plain : wd.cell? ⟨ob, 74, none⟩ = some plain
  f73 : wd.frozen? ⟨ob, 73, none⟩ = false
  f74 : wd.frozen? ⟨ob, 74, none⟩ = false
  ex : ∀ j, j < n * 10 → (wd.cell? ⟨qb, j, none⟩).isSome = true
  fz : ∀ j, wd.frozen? ⟨qb, j, none⟩ = false
  pl : ∀ i, i < k → wd.cell? ⟨qb, i * 10 + 1, none⟩ = some (.int .i64 (V i)) ∧ wd.cell? ⟨qb, i * 10 + 2, none⟩ = some (.int .i64 (E i)) ∧ wd.cell? ⟨qb, i * 10 + 4, none⟩ = some (.bool (P i))
  below : Below w.heap.size w wd
  lt : ob < wd.heap.size
theorem Sk.drew {w wd : World} {ob qb n k : Nat} {la : Option Addr} {nl cl : Nat} {p : Value} {V E : Nat → Int} {P : Nat → Bool} (h : Sk w wd ob qb n k la nl cl p V E P) : Sk w wd.drew ob qb n k la nl cl p V E P :=
  ⟨h.line, h.places, h.known, h.plain, h.f73, h.f74, h.ex, h.fz, h.pl, h.below.drew, h.lt⟩
theorem Sk.set {w wd : World} {ob qb n k : Nat} {la : Option Addr} {nl cl : Nat} {p : Value} {V E : Nat → Int} {P : Nat → Bool} (h : Sk w wd ob qb n k la nl cl p V E P) (hq : ob ≠ qb) (hB : w.heap.size ≤ qb) (j : Nat) (hj : k * 10 ≤ j) (u : Value) : Sk w (wd.setCell ⟨qb, j, none⟩ u) ob qb n k la nl cl p V E P where
  line := (World.cell?_setCell_other wd _ _ u (by intro e; injection e with e1; exact hq e1.symm)).trans h.line
  places := (World.cell?_setCell_other wd _ _ u (by intro e; injection e with e1; exact hq e1.symm)).trans h.places
  known := (World.cell?_setCell_other wd _ _ u (by intro e; injection e with e1; exact hq e1.symm)).trans h.known
  plain := (World.cell?_setCell_other wd _ _ u (by intro e; injection e with e1; exact hq e1.symm)).trans h.plain
  f73 := by rw [World.frozen?_setCell]; exact h.f73
  f74 := by rw [World.frozen?_setCell]; exact h.f74
  ex := fun j' hj' => by
    by_cases e : j = j'
    · subst e
      obtain ⟨v, hv⟩ := Option.isSome_iff_exists.1 (h.ex j hj')
      rw [World.cell?_setCell_same wd _ u hv]; rfl
    · rw [World.cell?_setCell_other wd _ _ u (by intro x; injection x with _ x2; exact e x2)]; exact h.ex j' hj'
  fz := fun j' => by rw [World.frozen?_setCell]; exact h.fz j'
  pl := fun i hi => ⟨(World.cell?_setCell_other wd _ _ u (by intro x; injection x with _ x2; omega)).trans (h.pl i hi).1, (World.cell?_setCell_other wd _ _ u (by intro x; injection x with _ x2; omega)).trans (h.pl i hi).2.1, (World.cell?_setCell_other wd _ _ u (by intro x; injection x with _ x2; omega)).trans (h.pl i hi).2.2⟩
  below := h.below.setCell hB u
  lt := by simpa using h.lt
theorem Sk.next {w wd : World} {ob qb n k : Nat} {la : Option Addr} {nl cl : Nat} {p : Value} {V E : Nat → Int} {P : Nat → Bool} (h : Sk w wd ob qb n k la nl cl p V E P) (hq : ob ≠ qb) (hB : w.heap.size ≤ qb) (hk : k < n) :
    Sk w (((wd.setCell ⟨qb, k * 10 + 1, none⟩ (.int .i64 (V k))).setCell ⟨qb, k * 10 + 2, none⟩ (.int .i64 (E k))).setCell ⟨qb, k * 10 + 4, none⟩ (.bool (P k))) ob qb n (k + 1) la nl cl p V E P := by
  have h1 := h.set hq hB (k * 10 + 1) (by omega) (.int .i64 (V k))
  have h2 := h1.set hq hB (k * 10 + 2) (by omega) (.int .i64 (E k))
  have h3 := h2.set hq hB (k * 10 + 4) (by omega) (.bool (P k))
  refine ⟨h3.line, h3.places, h3.known, h3.plain, h3.f73, h3.f74, h3.ex, h3.fz, fun i hi => ?_, h3.below, h3.lt⟩
  by_cases e : i = k
  · subst e
    obtain ⟨v1, hv1⟩ := Option.isSome_iff_exists.1 (h.ex (i * 10 + 1) (by omega))
    obtain ⟨v2, hv2⟩ := Option.isSome_iff_exists.1 (h1.ex (i * 10 + 2) (by omega))
    obtain ⟨v3, hv3⟩ := Option.isSome_iff_exists.1 (h2.ex (i * 10 + 4) (by omega))
    refine ⟨?_, ?_, World.cell?_setCell_same _ _ _ hv3⟩
    · rw [World.cell?_setCell_other _ _ _ _ (by intro x; injection x with _ x2; omega), World.cell?_setCell_other _ _ _ _ (by intro x; injection x with _ x2; omega)]
      exact World.cell?_setCell_same _ _ _ hv1
    · rw [World.cell?_setCell_other _ _ _ _ (by intro x; injection x with _ x2; omega)]
      exact World.cell?_setCell_same _ _ _ hv2
  · exact h3.pl i (by omega)

set_option maxRecDepth 20000 in
set_option maxHeartbeats 4000000 in
theorem zzknow_any (la : Option Addr) (nl cl : Nat) (va : Option Addr) (cv : Nat) (ea : Option Addr) (ce : Nat) (ba : Option Addr) (cb : Nat) (pa : Option Addr) (np : Nat) (xs : List Value) (n : Nat) (V E : Nat → Int) (P : Nat → Bool) (B W : Nat) (w : World)
    (hv : Row w va n (fun i => .int .i64 (V i))) (he : Row w ea n (fun i => .int .i64 (E i))) (hb : Row w ba n (fun i => .bool (P i))) (hown : w.ownsRow B 38 1 (.slice pa np np) np xs)
    (hB : B ≤ w.heap.size) (hW : (nl : Int) / 8 + 1 = W) (hnl : nl ≤ 1048576) (hnp : np ≤ 1048576) (hn : n ≤ 1048576) (hP : ∀ i, i < n → P i = true → 0 ≤ V i ∧ V i ≤ E i ∧ E i ≤ nl) :
    Calls Try.prog 14 #[.slice la nl cl, .slice va n cv, .slice ea n ce, .slice ba n cb, .slice pa np np] w fun e w' => (∃ (g cap : Nat) (X : Nat → Nat), e = .returned (.tuple #[.slice (some ⟨g, 0, none⟩) W cap, .bool true]) ∧ w'.ownsRow B 38 1 (.slice (some ⟨g, 0, none⟩) W cap) W (vrow (fun j => .int .u64 (X j)) W) ∧ WOK (cov V E P n) X W) ∧ Below B w w' := by
  have HV : Hid (Row w va n (fun i => .int .i64 (V i))) := hv
  have HE : Hid (Row w ea n (fun i => .int .i64 (E i))) := he
  have HBB : Hid (Row w ba n (fun i => .bool (P i))) := hb
  have HO : Hid (w.ownsRow B 38 1 (.slice pa np np) np xs) := hown
  have HP : Hid (∀ i, i < n → P i = true → 0 ≤ V i ∧ V i ≤ E i ∧ E i ≤ nl) := hP
  have HW : Hid ((nl : Int) / 8 + 1 = W) := hW
  clear hv he hb hown hP hW
  obtain ⟨i0, z, hi, hz0, hz1, hz2⟩ := info68_parts
  go_enter Try.func14, Try.ntmps14
  go_upto_region 2 with (first | (at_make; refine wpList_make_full _ rfl _ _ 56 rfl w.heap.size 68 i0 _ 10 Try.underlying56 hi hz0 hz1 _ _ _ _ n rfl rfl rfl rfl (by rw [hz2]; omega) (by unfold maxLen; omega) (Nat.le_refl _) ?_; intro w1 hown1 hgrow1) | (refine wpList_buildTo (by rfl) 66 _ (by rfl) _ (by rfl) (objCells (.slice la nl cl) (.slice none 0 0) (.int .u16 0) (.slice (some ⟨w.heap.size, 0, none⟩) n n) (.slice pa np np)) ?hb ?_; (case hb => kernel_rfl)))
  obtain ⟨w2, hw2⟩ : ∃ w2, w2 = w1.alloc (Obj.cells (objCells (.slice la nl cl) (.slice none 0 0) (.int .u16 0) (.slice (some ⟨w.heap.size, 0, none⟩) n n) (.slice pa np np)) 66) := ⟨_, rfl⟩
  rw [← hw2]
  have hb1 : w2.heap[w1.heap.size]? = some (Obj.cells (objCells (.slice la nl cl) (.slice none 0 0) (.int .u16 0) (.slice (some ⟨w.heap.size, 0, none⟩) n n) (.slice pa np np)) 66) := by rw [hw2]; exact heap_alloc_new w1 _
  have hsz : w1.heap.size < w2.heap.size := by rw [hw2]; simp
  have hq1 : w.heap.size < w1.heap.size := (own_lt' hown1)
  have hex : ∀ j, j < n * 10 → (w2.cell? ⟨w.heap.size, j, none⟩).isSome = true := fun j hj => by
    rw [hw2, World.cell?_of_block (w := w1) (Below.heap_alloc w1 _ w.heap.size hq1), hown1.cellAt j hj, List.getElem?_eq_getElem (by rw [hown1.1]; exact hj)]; rfl
  have hfz : ∀ j, w2.frozen? ⟨w.heap.size, j, none⟩ = false := fun j => by
    rw [hw2, World.frozen?_of_block (w := w1) (Below.heap_alloc w1 _ w.heap.size hq1)]; exact hown1.frozenAt j
  have hbl : Below w.heap.size w w2 := by
    rw [hw2]
    exact ((Below.refl _ _).grown hgrow1 (Nat.le_refl _) (fun k h => by cases h)).alloc (Nat.le_of_lt hq1) _
  obtain ⟨OB, hOB⟩ : ∃ OB, OB = w1.heap.size := ⟨_, rfl⟩
  rw [← hOB] at hb1 hsz hq1 ⊢
  have hS0 : Sk w w2 OB w.heap.size n 0 la nl cl (.slice pa np np) V E P := by
    refine ⟨?_, ?_, ?_, ?_, ?_, ?_, hex, hfz, fun i hi => by omega, hbl, hsz⟩
    · rw [cell_of_row w2 OB 1 _ 66 _ hb1]; rfl
    · rw [cell_of_row w2 OB 71 _ 66 _ hb1]; rfl
    · rw [cell_of_row w2 OB 73 _ 66 _ hb1]; rfl
    · rw [cell_of_row w2 OB 74 _ 66 _ hb1]; rfl
    · exact frozen_new hb1 73
    · exact frozen_new hb1 74
  have HS0 : Hid (Sk w w2 OB w.heap.size n 0 la nl cl (.slice pa np np) V E P) := hS0
  have c71 := hS0.places
  clear hS0 hw2 hb1 hsz hex hfz hbl hOB hown1 hgrow1
  have hne : OB ≠ w.heap.size := by omega
  go_wp2
  go_loopw [26] (fun i wr => ∃ k : Nat, k ≤ n ∧ i = .int .i64 k ∧ Sk w wr OB w.heap.size n k la nl cl (.slice pa np np) V E P) (fun i _ => n - (intOf i).toNat)
  case atStart => exact ⟨0, Nat.zero_le _, rfl, HS0.out⟩
  case round =>
    clear HS0 c71
    obtain ⟨k, hk, rfl, hsk⟩ := hrel
    have HK : Hid (Sk w wr OB w.heap.size n k la nl cl (.slice pa np np) V E P) := hsk
    have d71 := hsk.places
    by_cases hlt : k < n
    · obtain ⟨vb, vo, rfl, hvc⟩ := HV.out (by omega)
      obtain ⟨eb, eo, rfl, hec⟩ := HE.out (by omega)
      obtain ⟨bb, bo, rfl, hbc⟩ := HBB.out (by omega)
      have v1 : wr.cell? ⟨vb, vo + k, none⟩ = some (.int .i64 (V k)) := cell_later hsk.below (hvc k hlt)
      have v2 : wr.cell? ⟨eb, eo + k, none⟩ = some (.int .i64 (E k)) := cell_later hsk.below (hec k hlt)
      have v3 : wr.cell? ⟨bb, bo + k, none⟩ = some (.bool (P k)) := cell_later hsk.below (hbc k hlt)
      have n1 : vb ≠ w.heap.size := Nat.ne_of_lt (World.block_lt_of_cell? _ _ (hvc k hlt))
      have n2 : eb ≠ w.heap.size := Nat.ne_of_lt (World.block_lt_of_cell? _ _ (hec k hlt))
      have n3 : bb ≠ w.heap.size := Nat.ne_of_lt (World.block_lt_of_cell? _ _ (hbc k hlt))
      obtain ⟨u1, x1⟩ := Option.isSome_iff_exists.1 (hsk.ex (k * 10 + 1) (by omega))
      obtain ⟨u2, x2⟩ := Option.isSome_iff_exists.1 (hsk.ex (k * 10 + 2) (by omega))
      obtain ⟨u4, x4⟩ := Option.isSome_iff_exists.1 (hsk.ex (k * 10 + 4) (by omega))
      have z1 := hsk.fz (k * 10 + 1)
      have z2 := hsk.fz (k * 10 + 2)
      have z4 := hsk.fz (k * 10 + 4)
      clear hvc hec hbc hsk
      have hlti : (k : Int) < (n : Int) := by omega
      go_wp2
      go_region
      go_wp2
      go_region
      go_wp2
      go_region
      go_wp2
      go_roundw
      case rel => exact ⟨k + 1, by omega, by go_num, (HK.out.next hne (Nat.le_refl _) hlt).drew.drew.drew⟩
      case measure => simp [intOf]; omega
    · have e0 : k = n := by omega
      subst e0
      have hS : St wr wr B OB w.heap.size k la nl cl V E P := ⟨hsk.line, hsk.places, hsk.known, hsk.f73, hsk.f74, hsk.pl, Below.refl _ _, hsk.lt⟩
      have HS : Hid (St wr wr B OB w.heap.size k la nl cl V E P) := hS
      have h74 := hsk.plain
      have hsz := hsk.below.size
      have hlt2 := hsk.lt
      clear hS hsk
      go_wp2_with fail
      refine (know_any OB w.heap.size k la nl cl pa np xs V E P B W wr HS.out h74 (own_below HO.out HK.out.below) (by omega) (by omega) (by omega) (by omega) (fun g e => by
        have := HO.out
        rw [e] at this
        have := own_lt this
        omega) HW.out hnl hnp hn HP.out).mono ?_
      rintro e w3 ⟨rfl, ⟨g, cp, X, k74, k73, kow, kwo⟩, kbl⟩
      have KO : Hid (w3.ownsRow B 38 1 (.slice (some ⟨g, 0, none⟩) W cp) W (vrow (fun j => .int .u64 (X j)) W)) := kow
      have KW : Hid (WOK (cov V E P k) X W) := kwo
      have KB : Hid (Below B w w3) := (HK.out.below.mono hB).trans kbl
      clear kow kwo kbl
      go_wp2
      go_quiet (fail)
      go_wp2
      go_ret2
      exact ⟨⟨g, cp, X, rfl, KO.out, KW.out⟩, ⟨KB.out.os, KB.out.tape, KB.out.output, KB.out.size, KB.out.block⟩⟩
end Go.Proofs.Qxb6605343a
