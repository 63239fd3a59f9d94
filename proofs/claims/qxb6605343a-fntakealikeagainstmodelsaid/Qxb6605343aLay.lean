import Derived.Test.Qxb6605343aRow
import Derived.Deep.DrawnRows
import Derived.Laws.BitsAllLaws
import Derived.StillTailTactics
import Derived.Deep.RegionLaw
namespace Go.Proofs.Qxb6605343a
open Go.RowKit
set_option linter.unusedVariables false

/-- The law at a step of a region that draws. -/
theorem step_append_zeros {P : Program} (w : World) {ops : Array Oper} {o : Oper} {a : Act} {K : Act → World → Prop} {Q : Exit → Act → World → Prop} {E : Prop} (hgd : o.guard = none) (s x : Operand) (t tn : TypeId)
    (ho : o.op = .call { callee := .builtin .append, args := #[s, x], argTypes := #[t, tn] })
    (base : Nat) (e : TypeId) (i : TypeInfo) (z : Value) (k kn : IntKind) (ht : P.underlying t = some (.slice e)) (htn : P.underlying tn = some (.int kn)) (hi : P.info? e = some i) (hz : i.zero = some z)
    (hsize : i.size = 1) (hzs : z.cells.size = 1) (ad : Option Addr) (n m : Nat) (M : Int) (xs : List Value) (hs : a.eval s = .slice ad n n) (hx : a.eval x = .int k M) (hM : M = m) (hown : w.ownsRow base e 1 (.slice ad n n) n xs) (hm : 0 < m) (h63 : n + m ≤ maxLen) (hbytes : (n + m) * i.bytes ≤ 140737488355328) (hbase : base ≤ w.heap.size)
    (H : Nat) (hH : w.heap.size = H)
    (h : ∀ cap w' ys, n + m ≤ cap → w'.ownsRow base e 1 (.slice (some ⟨H, 0, none⟩) (n + m) cap) (n + m) ys → w.grownBy w' none → K (a.put o.dst (.slice (some ⟨H, 0, none⟩) (n + m) cap)) w') :
    if Region.wanted o (yielded ops a.tmps) = true then Oper.wp P o a w K Q else E := by
  have hw : Region.wanted o (yielded ops a.tmps) = true := by simp [Region.wanted, hgd]
  rw [if_pos hw]
  subst hM
  subst hH
  obtain ⟨cap, w', ys, hr, h1, h2, h3⟩ := run_append_zeros (P := P) w base t tn o.type e i z k kn ht htn hi hz hsize hzs ad n m xs hown hm h63 hbytes hbase
  exact Lib.wp_append_run w s x t tn ho _ _ hs hx _ w' hr (h cap w' ys h1 h2 h3)

/-- Stores of one value over a stretch of an owned row. -/
theorem own_setCells {base e g N cap : Nat} (z : Value) : ∀ (k o : Nat) (w : World) (X : Nat → Value), w.ownsRow base e 1 (.slice (some ⟨g, 0, none⟩) N cap) N (vrow X N) →
    (w.setCells g o (List.replicate k z)).ownsRow base e 1 (.slice (some ⟨g, 0, none⟩) N cap) N (vrow (fun j => if o ≤ j ∧ j < o + k then z else X j) N) ∧ w.grownBy (w.setCells g o (List.replicate k z)) (some g)
  | 0, o, w, X, h => by
    refine ⟨?_, ⟨rfl, rfl, rfl, Nat.le_refl _, fun _ _ _ => rfl⟩⟩
    rw [vrow_ext (Y := X) (fun j _ => if_neg (by omega))]
    exact h
  | k + 1, o, w, X, h => by
    obtain ⟨h1, h2⟩ := h.stored o z
    rw [vrow_set] at h1
    obtain ⟨r1, r2⟩ := own_setCells z k (o + 1) (w.setCell ⟨g, o, none⟩ z) _ h1
    rw [List.replicate_succ]
    refine ⟨?_, ⟨r2.os.trans h2.os, r2.tape.trans h2.tape, r2.output.trans h2.output, Nat.le_trans h2.size r2.size, fun k hk hne => (r2.block k (Nat.lt_of_lt_of_le hk h2.size) hne).trans (h2.block k hk hne)⟩⟩
    rw [vrow_ext (Y := fun j => if o + 1 ≤ j ∧ j < o + 1 + k then z else upd X o z j)]
    · exact r1
    · intro j _
      unfold upd
      by_cases e1 : j = o
      · subst e1; rw [if_pos (by omega), if_neg (by omega), if_pos rfl]
      · by_cases e2 : o + 1 ≤ j ∧ j < o + 1 + k
        · rw [if_pos (by omega), if_pos e2]
        · rw [if_neg (by omega), if_neg e2, if_neg e1]
theorem own_vrow {w : World} {base e n cap g : Nat} {xs : List Value} (ho : w.ownsRow base e 1 (.slice (some ⟨g, 0, none⟩) n cap) n xs) : ∃ X, xs = vrow X n := by
  refine ⟨fun j => xs.getD j undef, ?_⟩
  have hl := ho.1
  rw [Nat.mul_one] at hl
  apply List.ext_getElem?
  intro j
  by_cases h : j < n
  · rw [vrow_get _ _ _ h, List.getD_eq_getElem?_getD, List.getElem?_eq_getElem (by omega)]; rfl
  · rw [vrow_none _ _ _ h, List.getElem?_eq_none (by omega)]
theorem own_set_ne {w : World} {base e n cap g : Nat} {xs : List Value} (h : w.ownsRow base e 1 (.slice (some ⟨g, 0, none⟩) n cap) n xs) {a : Addr} (ha : g ≠ a.block) (u : Value) : (w.setCell a u).ownsRow base e 1 (.slice (some ⟨g, 0, none⟩) n cap) n xs := by
  refine ⟨h.1, ?_⟩
  rcases h.2 with ⟨e, _⟩ | ⟨g', cp, cur, e, hb, hg, r⟩
  · cases e
  · have e' := e
    simp at e'
    obtain ⟨rfl, rfl⟩ := e'
    exact .inr ⟨g, cap, cur, e, hb, (Below.heap_setCell w a u g ha).trans hg, r⟩

/-- clear on an owned row. -/
theorem run_clear_own {P : Program} (w : World) (t ty : TypeId)
    (base e : Nat) (i : TypeInfo) (z : Value) (ht : P.underlying t = some (.slice e)) (hi : P.info? e = some i) (hz : i.zero = some z) (hzc : z.cells = #[z]) (h1 : z.oneCell' = true)
    (g n cap : Nat) (xs : List Value) (hn : 0 < n) (hown : w.ownsRow base e 1 (.slice (some ⟨g, 0, none⟩) n cap) n xs) :
    ∃ w', (Builtin.clear_ #[t] ty #[.slice (some ⟨g, 0, none⟩) n cap]).run P w = .ok (.tuple #[]) w' ∧ w'.ownsRow base e 1 (.slice (some ⟨g, 0, none⟩) n cap) n (vrow (fun _ => z) n) ∧ w.grownBy w' (some g) := by
  obtain ⟨X, rfl⟩ := own_vrow hown
  have hr := Lib.run_clear_slice (P := P) w t e ty z ht (fun w => by simp [zeroValue, typeInfo, hi, hz]) hzc h1 g 0 n cap hn (fun j hj => by rw [Nat.zero_add, vrow_cell hown j hj]; rfl) (fun j hj => by rw [Nat.zero_add]; exact hown.frozenAt j)
  obtain ⟨r1, r2⟩ := own_setCells (base := base) (e := e) (cap := cap) z n 0 w X hown
  rw [vrow_ext (Y := fun _ => z) (fun j hj => if_pos (by omega))] at r1
  exact ⟨_, hr, r1, r2⟩

theorem Try.mixed : Try.prog.follows .mixedOrders = true := by kernel_rfl

/-- What is known of the object while the words are laid. -/
structure St (w wd : World) (B ob qb n : Nat) (la : Option Addr) (nl cl : Nat) (V E : Nat → Int) (P : Nat → Bool) : Prop where
  line : wd.cell? ⟨ob, 1, none⟩ = some (.slice la nl cl)
  places : wd.cell? ⟨ob, 71, none⟩ = some (.slice (some ⟨qb, 0, none⟩) n n)
  known : wd.cell? ⟨ob, 73, none⟩ = some (.bool false)
  f73 : wd.frozen? ⟨ob, 73, none⟩ = false
  f74 : wd.frozen? ⟨ob, 74, none⟩ = false
  pl : ∀ i, i < n → wd.cell? ⟨qb, i * 10 + 1, none⟩ = some (.int .i64 (V i)) ∧ wd.cell? ⟨qb, i * 10 + 2, none⟩ = some (.int .i64 (E i)) ∧ wd.cell? ⟨qb, i * 10 + 4, none⟩ = some (.bool (P i))
  below : Below B w wd
  lt : ob < wd.heap.size
theorem St.grown {w wd we : World} {B ob qb n : Nat} {la : Option Addr} {nl cl : Nat} {V E : Nat → Int} {P : Nat → Bool} (h : St w wd B ob qb n la nl cl V E P) {g : Option Nat} (hg : wd.grownBy we g) (hB : B ≤ wd.heap.size) (hgB : ∀ k, g = some k → B ≤ k) (h1 : some ob ≠ g) (h2 : some qb ≠ g) : St w we B ob qb n la nl cl V E P where
  line := hg.cell h.line h1
  places := hg.cell h.places h1
  known := hg.cell h.known h1
  f73 := (World.frozen?_of_block (hg.block ob h.lt h1)).trans h.f73
  f74 := (World.frozen?_of_block (hg.block ob h.lt h1)).trans h.f74
  pl := fun i hi => ⟨hg.cell (h.pl i hi).1 h2, hg.cell (h.pl i hi).2.1 h2, hg.cell (h.pl i hi).2.2 h2⟩
  below := h.below.grown hg hB hgB
  lt := Nat.lt_of_lt_of_le h.lt hg.size

theorem St.set74 {w wd : World} {B ob qb n : Nat} {la : Option Addr} {nl cl : Nat} {V E : Nat → Int} {P : Nat → Bool} (h : St w wd B ob qb n la nl cl V E P) (hB : B ≤ ob) (hq : qb ≠ ob) (v : Value) : St w (wd.setCell ⟨ob, 74, none⟩ v) B ob qb n la nl cl V E P where
  line := (World.cell?_setCell_other wd _ _ v (by simp)).trans h.line
  places := (World.cell?_setCell_other wd _ _ v (by simp)).trans h.places
  known := (World.cell?_setCell_other wd _ _ v (by simp)).trans h.known
  f73 := by rw [World.frozen?_setCell]; exact h.f73
  f74 := by rw [World.frozen?_setCell]; exact h.f74
  pl := fun i hi => ⟨(World.cell?_setCell_other wd _ _ v (by intro e; injection e with e1; exact hq e1.symm)).trans (h.pl i hi).1, (World.cell?_setCell_other wd _ _ v (by intro e; injection e with e1; exact hq e1.symm)).trans (h.pl i hi).2.1, (World.cell?_setCell_other wd _ _ v (by intro e; injection e with e1; exact hq e1.symm)).trans (h.pl i hi).2.2⟩
  below := h.below.setCell hB v
  lt := by simpa using h.lt
theorem St.drew {w wd : World} {B ob qb n : Nat} {la : Option Addr} {nl cl : Nat} {V E : Nat → Int} {P : Nat → Bool} (h : St w wd B ob qb n la nl cl V E P) : St w wd.drew B ob qb n la nl cl V E P := ⟨h.line, h.places, h.known, h.f73, h.f74, h.pl, h.below.drew, h.lt⟩

/-- Is byte c strictly within the quotes of one of the first i plain strings? -/
def cov (V E : Nat → Int) (P : Nat → Bool) : Nat → Nat → Bool
  | 0, _ => false
  | i + 1, c => cov V E P i c || (P i && (decide (V i < c) && decide ((c : Int) < E i - 1)))
/-- Words whose bits are the top bits of the bytes that f says. -/
def WOK (f : Nat → Bool) (X : Nat → Nat) (N : Nat) : Prop := ∀ j, j < N → X j < 18446744073709551616 ∧ ∀ b, b < 64 → (X j).testBit b = (decide (b % 8 = 7) && f (8 * j + b / 8))
theorem WOK.ext {f f' : Nat → Bool} {X : Nat → Nat} {N : Nat} (h : WOK f X N) (e : ∀ c, c < 8 * N → f c = f' c) : WOK f' X N := fun j hj => ⟨(h j hj).1, fun b hb => by rw [(h j hj).2 b hb, e _ (by omega)]⟩
theorem WOK.zero (N : Nat) : WOK (fun _ => false) (fun _ => 0) N := fun j hj => ⟨by show (0 : Nat) < _; decide, fun b hb => by simp⟩
theorem WOK.same {f : Nat → Bool} {X Y : Nat → Nat} {N : Nat} (h : WOK f X N) (k : WOK f Y N) (j : Nat) (hj : j < N) : X j = Y j := by
  apply Nat.eq_of_testBit_eq
  intro b
  by_cases hb : b < 64
  · rw [(h j hj).2 b hb, (k j hj).2 b hb]
  · have e : (2 : Nat) ^ 64 = 18446744073709551616 := by decide
    have hp : (2 : Nat) ^ 64 ≤ 2 ^ b := Nat.pow_le_pow_right (by omega) (by omega)
    rw [Nat.testBit_lt_two_pow (Nat.lt_of_lt_of_le (h j hj).1 (by omega)), Nat.testBit_lt_two_pow (Nat.lt_of_lt_of_le (k j hj).1 (by omega))]
/-- One word is or-ed with a mask. -/
theorem WOK.or {f p : Nat → Bool} {X : Nat → Nat} {N J m : Nat} (h : WOK f X N) (hJ : J < N) (hm : m < 18446744073709551616) (hp : ∀ b, b < 64 → m.testBit b = (decide (b % 8 = 7) && p (8 * J + b / 8))) (hq : ∀ c, p c = true → c / 8 = J) :
    WOK (fun c => f c || p c) (upd X J (X J ||| m)) N := by
  intro j hj
  unfold upd
  by_cases e : j = J
  · subst e
    rw [if_pos rfl]
    refine ⟨?_, fun b hb => ?_⟩
    · have e : (2 : Nat) ^ 64 = 18446744073709551616 := by decide
      rw [← e] at hm ⊢
      exact Nat.or_lt_two_pow (by rw [e]; exact (h j hj).1) hm
    · rw [Nat.testBit_or, (h j hj).2 b hb, hp b hb]
      cases decide (b % 8 = 7) <;> simp
  · rw [if_neg e]
    refine ⟨(h j hj).1, fun b hb => ?_⟩
    rw [(h j hj).2 b hb]
    have : p (8 * j + b / 8) = false := by
      cases hc : p (8 * j + b / 8)
      · rfl
      · have := hq _ hc; omega
    show _ = (decide (b % 8 = 7) && (f (8 * j + b / 8) || p (8 * j + b / 8)))
    rw [this, Bool.or_false]
end Go.Proofs.Qxb6605343a
