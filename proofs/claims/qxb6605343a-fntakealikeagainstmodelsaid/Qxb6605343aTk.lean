import Derived.Test.Qxb6605343aLay
import Derived.BigRegion
namespace Go.Proofs.Qxb6605343a
open Go.RowKit
set_option linter.unusedVariables false


/-- What a reader's places and an object's keyed members hold. -/
structure Tk (wd : World) (ob qb n : Nat) (A V E D Y U : Nat → Int) (P : Nat → Bool) (K : Nat → Int × Int × Bool × Int) (pr : Nat) : Prop where
  pl : ∀ i, i < n → wd.cell? ⟨qb, i * 10, none⟩ = some (.int .i64 (A i)) ∧ wd.cell? ⟨qb, i * 10 + 1, none⟩ = some (.int .i64 (V i)) ∧ wd.cell? ⟨qb, i * 10 + 2, none⟩ = some (.int .i64 (E i)) ∧ wd.cell? ⟨qb, i * 10 + 3, none⟩ = some (.int .i64 (D i)) ∧ wd.cell? ⟨qb, i * 10 + 4, none⟩ = some (.bool (P i)) ∧ wd.cell? ⟨qb, i * 10 + 5, none⟩ = some (.int .i64 (Y i)) ∧ wd.cell? ⟨qb, i * 10 + 9, none⟩ = some (.int .i64 (U i))
  pf : ∀ j, wd.frozen? ⟨qb, j, none⟩ = false
  ky : ∀ k, k < 16 → wd.cell? ⟨ob, 6 + k * 4, none⟩ = some (.int .i64 (K k).1) ∧ wd.cell? ⟨ob, 6 + k * 4 + 1, none⟩ = some (.int .i64 (K k).2.1) ∧ wd.cell? ⟨ob, 6 + k * 4 + 2, none⟩ = some (.bool (K k).2.2.1) ∧ wd.cell? ⟨ob, 6 + k * 4 + 3, none⟩ = some (.int .i64 (K k).2.2.2)
  kf : ∀ j, wd.frozen? ⟨ob, j, none⟩ = false
  pres : wd.cell? ⟨ob, 70, none⟩ = some (.int .u16 pr)
  ne : ob ≠ qb
  lo : ob < wd.heap.size
  lq : qb < wd.heap.size

theorem sc_ne (w : World) (b o : Nat) (v : Value) (b' o' : Nat) (h : b ≠ b' ∨ o ≠ o') : (w.setCell ⟨b, o, none⟩ v).cell? ⟨b', o', none⟩ = w.cell? ⟨b', o', none⟩ :=
  World.cell?_setCell_other w _ _ v (by intro e; injection e with e1 e2; rcases h with h | h; exact h e1; exact h e2)
theorem sc_eq {w : World} {b o : Nat} {u : Value} (v : Value) (h : w.cell? ⟨b, o, none⟩ = some u) : (w.setCell ⟨b, o, none⟩ v).cell? ⟨b, o, none⟩ = some v := World.cell?_setCell_same w _ v h
theorem Tk.drew {wd : World} {ob qb n : Nat} {A V E D Y U : Nat → Int} {P : Nat → Bool} {K : Nat → Int × Int × Bool × Int} {pr : Nat} (h : Tk wd ob qb n A V E D Y U P K pr) : Tk wd.drew ob qb n A V E D Y U P K pr := ⟨h.pl, h.pf, h.ky, h.kf, h.pres, h.ne, h.lo, h.lq⟩
theorem Tk.alloc {wd : World} {ob qb n : Nat} {A V E D Y U : Nat → Int} {P : Nat → Bool} {K : Nat → Int × Int × Bool × Int} {pr : Nat} (h : Tk wd ob qb n A V E D Y U P K pr) (o : Obj) : Tk (wd.alloc o) ob qb n A V E D Y U P K pr := by
  have hc : ∀ (b j : Nat), b < wd.heap.size → (wd.alloc o).cell? ⟨b, j, none⟩ = wd.cell? ⟨b, j, none⟩ := fun b j hb => World.cell?_of_block (w := wd) (Below.heap_alloc wd o b hb)
  have hf : ∀ (b j : Nat), b < wd.heap.size → (wd.alloc o).frozen? ⟨b, j, none⟩ = wd.frozen? ⟨b, j, none⟩ := fun b j hb => World.frozen?_of_block (w := wd) (Below.heap_alloc wd o b hb)
  refine ⟨fun i hi => ?_, fun j => by rw [hf _ _ h.lq]; exact h.pf j, fun k hk => ?_, fun j => by rw [hf _ _ h.lo]; exact h.kf j, by rw [hc _ _ h.lo]; exact h.pres, h.ne, ?_, ?_⟩
  · simp only [hc _ _ h.lq]; exact h.pl i hi
  · simp only [hc _ _ h.lo]; exact h.ky k hk
  · have := h.lo; simp; omega
  · have := h.lq; simp; omega
theorem Tk.place {wd : World} {ob qb n : Nat} {A V E D Y U : Nat → Int} {P : Nat → Bool} {K : Nat → Int × Int × Bool × Int} {pr : Nat} (h : Tk wd ob qb n A V E D Y U P K pr) (i : Nat) (hi : i < n) (a v e u : Int) :
    Tk ((((wd.setCell ⟨qb, i * 10, none⟩ (.int .i64 a)).setCell ⟨qb, i * 10 + 1, none⟩ (.int .i64 v)).setCell ⟨qb, i * 10 + 2, none⟩ (.int .i64 e)).setCell ⟨qb, i * 10 + 9, none⟩ (.int .i64 u)) ob qb n (upd A i a) (upd V i v) (upd E i e) D Y (upd U i u) P K pr := by
  have hn := h.ne
  refine ⟨fun j hj => ?_, fun j => by simp only [World.frozen?_setCell]; exact h.pf j, fun k hk => ?_, fun j => by simp only [World.frozen?_setCell]; exact h.kf j, ?_, h.ne, by simpa using h.lo, by simpa using h.lq⟩
  · obtain ⟨p0, p1, p2, p3, p4, p5, p9⟩ := h.pl j hj
    by_cases ej : j = i
    · subst ej
      unfold upd
      rw [if_pos rfl, if_pos rfl, if_pos rfl, if_pos rfl]
      refine ⟨?_, ?_, ?_, ?_, ?_, ?_, ?_⟩
      · rw [sc_ne _ _ _ _ _ _ (.inr (by omega)), sc_ne _ _ _ _ _ _ (.inr (by omega)), sc_ne _ _ _ _ _ _ (.inr (by omega))]; exact sc_eq _ p0
      · rw [sc_ne _ _ _ _ _ _ (.inr (by omega)), sc_ne _ _ _ _ _ _ (.inr (by omega))]; exact sc_eq _ (by rw [sc_ne _ _ _ _ _ _ (.inr (by omega))]; exact p1)
      · rw [sc_ne _ _ _ _ _ _ (.inr (by omega))]; exact sc_eq _ (by rw [sc_ne _ _ _ _ _ _ (.inr (by omega)), sc_ne _ _ _ _ _ _ (.inr (by omega))]; exact p2)
      · rw [sc_ne _ _ _ _ _ _ (.inr (by omega)), sc_ne _ _ _ _ _ _ (.inr (by omega)), sc_ne _ _ _ _ _ _ (.inr (by omega)), sc_ne _ _ _ _ _ _ (.inr (by omega))]; exact p3
      · rw [sc_ne _ _ _ _ _ _ (.inr (by omega)), sc_ne _ _ _ _ _ _ (.inr (by omega)), sc_ne _ _ _ _ _ _ (.inr (by omega)), sc_ne _ _ _ _ _ _ (.inr (by omega))]; exact p4
      · rw [sc_ne _ _ _ _ _ _ (.inr (by omega)), sc_ne _ _ _ _ _ _ (.inr (by omega)), sc_ne _ _ _ _ _ _ (.inr (by omega)), sc_ne _ _ _ _ _ _ (.inr (by omega))]; exact p5
      · exact sc_eq _ (by rw [sc_ne _ _ _ _ _ _ (.inr (by omega)), sc_ne _ _ _ _ _ _ (.inr (by omega)), sc_ne _ _ _ _ _ _ (.inr (by omega))]; exact p9)
    · unfold upd
      rw [if_neg ej, if_neg ej, if_neg ej, if_neg ej]
      refine ⟨?_, ?_, ?_, ?_, ?_, ?_, ?_⟩
      all_goals
        rw [sc_ne _ _ _ _ _ _ (.inr (by omega)), sc_ne _ _ _ _ _ _ (.inr (by omega)), sc_ne _ _ _ _ _ _ (.inr (by omega)), sc_ne _ _ _ _ _ _ (.inr (by omega))]
        assumption
  · have hq := Ne.symm hn
    rw [sc_ne _ _ _ _ _ _ (.inl hq), sc_ne _ _ _ _ _ _ (.inl hq), sc_ne _ _ _ _ _ _ (.inl hq), sc_ne _ _ _ _ _ _ (.inl hq)]
    rw [sc_ne _ _ _ _ _ _ (.inl hq), sc_ne _ _ _ _ _ _ (.inl hq), sc_ne _ _ _ _ _ _ (.inl hq), sc_ne _ _ _ _ _ _ (.inl hq)]
    rw [sc_ne _ _ _ _ _ _ (.inl hq), sc_ne _ _ _ _ _ _ (.inl hq), sc_ne _ _ _ _ _ _ (.inl hq), sc_ne _ _ _ _ _ _ (.inl hq)]
    rw [sc_ne _ _ _ _ _ _ (.inl hq), sc_ne _ _ _ _ _ _ (.inl hq), sc_ne _ _ _ _ _ _ (.inl hq), sc_ne _ _ _ _ _ _ (.inl hq)]
    exact h.ky k hk
  · have hq := Ne.symm hn
    rw [sc_ne _ _ _ _ _ _ (.inl hq), sc_ne _ _ _ _ _ _ (.inl hq), sc_ne _ _ _ _ _ _ (.inl hq), sc_ne _ _ _ _ _ _ (.inl hq)]
    exact h.pres

theorem and15_all : ((List.range 16).all fun k => decide (bits .and .i64 (k : Int) 15 = (k : Int))) = true := by kernel_rfl
theorem and15 {k : Nat} (hk : k < 16) : bits .and .i64 (k : Int) 15 = (k : Int) := of_decide_eq_true (List.all_eq_true.1 and15_all k (List.mem_range.2 hk))
theorem bit16_all : ((List.range 16).all fun k => decide (2 ^ k < 65536)) = true := by decide
theorem bit16 {k : Nat} (hk : k < 16) : 2 ^ k < 65536 := of_decide_eq_true (List.all_eq_true.1 bit16_all k (List.mem_range.2 hk))
theorem bit16_wrap {k : Nat} (hk : k < 16) : IntKind.u16.wrap ((2 : Int) ^ k) = ((2 ^ k : Nat) : Int) := by
  have e : (2 : Int) ^ k = ((2 ^ k : Nat) : Int) := by rw [Int.natCast_pow]; rfl
  have hb := bit16 hk
  rw [e, IntKind.wrap_u16]
  generalize 2 ^ k = m at hb
  omega
theorem keyBit_any (k : Nat) (hk : k < 16) (w : World) : Calls Try.prog 23 #[.int .i64 k] w fun e w' => e = .returned (.int .u16 ((2 ^ k : Nat) : Int)) ∧ w = w' := by
  have h15 := and15 hk
  go_enter Try.func23, Try.ntmps23
  go_wp2
  go_ret
  refine ⟨?_, rfl⟩
  exact congrArg (fun x => Ending.returned (.int .u16 x)) (bit16_wrap hk)

theorem Tk.key {wd : World} {ob qb n : Nat} {A V E D Y U : Nat → Int} {P : Nat → Bool} {K : Nat → Int × Int × Bool × Int} {pr : Nat} (h : Tk wd ob qb n A V E D Y U P K pr) (k : Nat) (hk : k < 16) (s e d : Int) :
    Tk ((((wd.setCell ⟨ob, 6 + k * 4, none⟩ (.int .i64 s)).setCell ⟨ob, 6 + k * 4 + 1, none⟩ (.int .i64 e)).setCell ⟨ob, 6 + k * 4 + 2, none⟩ (.bool false)).setCell ⟨ob, 6 + k * 4 + 3, none⟩ (.int .i64 d)) ob qb n A V E D Y U P (upd K k (s, e, false, d)) pr := by
  have hn := h.ne
  refine ⟨fun j hj => ?_, fun j => by simp only [World.frozen?_setCell]; exact h.pf j, fun j hj => ?_, fun j => by simp only [World.frozen?_setCell]; exact h.kf j, ?_, h.ne, by simpa using h.lo, by simpa using h.lq⟩
  · obtain ⟨p0, p1, p2, p3, p4, p5, p9⟩ := h.pl j hj
    refine ⟨?_, ?_, ?_, ?_, ?_, ?_, ?_⟩
    all_goals
      rw [sc_ne _ _ _ _ _ _ (.inl hn), sc_ne _ _ _ _ _ _ (.inl hn), sc_ne _ _ _ _ _ _ (.inl hn), sc_ne _ _ _ _ _ _ (.inl hn)]
      assumption
  · obtain ⟨q0, q1, q2, q3⟩ := h.ky j hj
    unfold upd
    by_cases ej : j = k
    · subst ej
      rw [if_pos rfl]
      refine ⟨?_, ?_, ?_, ?_⟩
      · rw [sc_ne _ _ _ _ _ _ (.inr (by omega)), sc_ne _ _ _ _ _ _ (.inr (by omega)), sc_ne _ _ _ _ _ _ (.inr (by omega))]; exact sc_eq _ q0
      · rw [sc_ne _ _ _ _ _ _ (.inr (by omega)), sc_ne _ _ _ _ _ _ (.inr (by omega))]; exact sc_eq _ (by rw [sc_ne _ _ _ _ _ _ (.inr (by omega))]; exact q1)
      · rw [sc_ne _ _ _ _ _ _ (.inr (by omega))]; exact sc_eq _ (by rw [sc_ne _ _ _ _ _ _ (.inr (by omega)), sc_ne _ _ _ _ _ _ (.inr (by omega))]; exact q2)
      · exact sc_eq _ (by rw [sc_ne _ _ _ _ _ _ (.inr (by omega)), sc_ne _ _ _ _ _ _ (.inr (by omega)), sc_ne _ _ _ _ _ _ (.inr (by omega))]; exact q3)
    · rw [if_neg ej]
      refine ⟨?_, ?_, ?_, ?_⟩
      all_goals
        rw [sc_ne _ _ _ _ _ _ (.inr (by omega)), sc_ne _ _ _ _ _ _ (.inr (by omega)), sc_ne _ _ _ _ _ _ (.inr (by omega)), sc_ne _ _ _ _ _ _ (.inr (by omega))]
        assumption
  · rw [sc_ne _ _ _ _ _ _ (.inr (by omega)), sc_ne _ _ _ _ _ _ (.inr (by omega)), sc_ne _ _ _ _ _ _ (.inr (by omega)), sc_ne _ _ _ _ _ _ (.inr (by omega))]
    exact h.pres
theorem Tk.setPres {wd : World} {ob qb n : Nat} {A V E D Y U : Nat → Int} {P : Nat → Bool} {K : Nat → Int × Int × Bool × Int} {pr : Nat} (h : Tk wd ob qb n A V E D Y U P K pr) (q : Nat) :
    Tk (wd.setCell ⟨ob, 70, none⟩ (.int .u16 q)) ob qb n A V E D Y U P K q := by
  have hn := h.ne
  refine ⟨fun j hj => ?_, fun j => by simp only [World.frozen?_setCell]; exact h.pf j, fun j hj => ?_, fun j => by simp only [World.frozen?_setCell]; exact h.kf j, sc_eq _ h.pres, h.ne, by simpa using h.lo, by simpa using h.lq⟩
  · obtain ⟨p0, p1, p2, p3, p4, p5, p9⟩ := h.pl j hj
    refine ⟨?_, ?_, ?_, ?_, ?_, ?_, ?_⟩
    all_goals
      rw [sc_ne _ _ _ _ _ _ (.inl hn)]
      assumption
  · obtain ⟨q0, q1, q2, q3⟩ := h.ky j hj
    refine ⟨?_, ?_, ?_, ?_⟩
    all_goals
      rw [sc_ne _ _ _ _ _ _ (.inr (by omega))]
      assumption

/-! The plain functions. -/
def shf (f : Nat → Int) (s : Int) (a b : Nat) : Nat → Int := fun j => if a ≤ j ∧ j < b then wrap64 (f j + s) else f j
def unf (f : Nat → Int) (x : Int) (a b : Nat) : Nat → Int := fun j => if a ≤ j ∧ j < b then x else f j
def nv (V E D : Nat → Int) (P : Nat → Bool) (s : Int) (j : Nat) : Int × Int × Bool × Int :=
  if P j = true then (wrap64 (wrap64 (V j + s) + 1), wrap64 (wrap64 (E j + s) - 1), false, D j) else (wrap64 (V j + s), wrap64 (E j + s), false, D j)
def km (V E D Y : Nat → Int) (P : Nat → Bool) (s : Int) (K : Nat → Int × Int × Bool × Int) (first : Nat) : Nat → Nat → Int × Int × Bool × Int
  | 0, k => K k
  | m + 1, k => if Y (first + m) = (k : Int) then nv V E D P s (first + m) else km V E D Y P s K first m k
def prm (Y : Nat → Int) (first : Nat) (p : Nat) : Nat → Nat
  | 0 => p
  | m + 1 => prm Y first p m ||| 2 ^ (Y (first + m)).toNat
def tkb (D Y : Nat → Int) (P : Nat → Bool) (i : Nat) : Bool := !(decide (Y i < 0) || ((D i == 3) && !P i) || (D i == 4) || (D i == 5))
def lastAt (E : Nat → Int) (s a0 : Int) (first : Nat) : Nat → Int
  | 0 => a0
  | m + 1 => wrap64 (E (first + m) + s)

theorem shf_upd (f : Nat → Int) (s : Int) (a b : Nat) (h : a ≤ b) : upd (shf f s a b) b (wrap64 (f b + s)) = shf f s a (b + 1) := by
  funext j
  unfold upd shf
  by_cases e : j = b
  · subst e; rw [if_pos rfl, if_pos (by omega)]
  · rw [if_neg e]
    by_cases h1 : a ≤ j ∧ j < b
    · rw [if_pos h1, if_pos (by omega)]
    · rw [if_neg h1, if_neg (by omega)]
theorem unf_upd (f : Nat → Int) (x : Int) (a b : Nat) (h : a ≤ b) : upd (unf f x a b) b x = unf f x a (b + 1) := by
  funext j
  unfold upd unf
  by_cases e : j = b
  · subst e; rw [if_pos rfl, if_pos (by omega)]
  · rw [if_neg e]
    by_cases h1 : a ≤ j ∧ j < b
    · rw [if_pos h1, if_pos (by omega)]
    · rw [if_neg h1, if_neg (by omega)]
theorem shf_self (f : Nat → Int) (s : Int) (a b : Nat) : shf f s a b b = f b := if_neg (by omega)
theorem shf_zero (f : Nat → Int) (s : Int) (a : Nat) : shf f s a a = f := by funext j; exact if_neg (by omega)
theorem unf_zero (f : Nat → Int) (s : Int) (a : Nat) : unf f s a a = f := by funext j; exact if_neg (by omega)
theorem km_upd (V E D Y : Nat → Int) (P : Nat → Bool) (s : Int) (K : Nat → Int × Int × Bool × Int) (first m k : Nat) (h : Y (first + m) = k) : upd (km V E D Y P s K first m) k (nv V E D P s (first + m)) = km V E D Y P s K first (m + 1) := by
  funext j
  show (if j = k then _ else _) = (if Y (first + m) = (j : Int) then _ else _)
  by_cases e : j = k
  · rw [if_pos e, if_pos (by omega)]
  · rw [if_neg e, if_neg (by omega)]
theorem prm_lt (Y : Nat → Int) (first p : Nat) (hp : p < 65536) : ∀ m, (∀ j, first ≤ j → j < first + m → 0 ≤ Y j ∧ Y j < 16) → prm Y first p m < 65536
  | 0, _ => hp
  | m + 1, h => by
    have h1 := prm_lt Y first p hp m (fun j a b => h j a (by omega))
    have h2 := h (first + m) (by omega) (by omega)
    have h3 := bit16 (k := (Y (first + m)).toNat) (by omega)
    have e : (2 : Nat) ^ 16 = 65536 := by decide
    rw [prm]
    rw [← e] at h1 h3 ⊢
    exact Nat.or_lt_two_pow h1 h3

end Go.Proofs.Qxb6605343a
