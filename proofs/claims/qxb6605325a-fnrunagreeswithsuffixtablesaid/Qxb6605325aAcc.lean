import Derived.Test.Qxb6605325aBase
namespace Go.Proofs.Qxb6605325a
open Go.RowKit
open Go.WideShapes (add_plain)
set_option linter.unusedVariables false

/-- Is one of n tokens hard? -/
def anyB (S : Nat → ByteArray) (W : Nat → Int) (n : Nat) : Bool := (List.range n).any (fun j => hardB (S j) (W j))
theorem anyB_true {S : Nat → ByteArray} {W : Nat → Int} {n : Nat} : anyB S W n = true ↔ ∃ j, j < n ∧ hardB (S j) (W j) = true := by
  simp [anyB]

set_option maxHeartbeats 400000 in
theorem index_any (a : Option Addr) (len cap : Nat) (S : Nat → ByteArray) (W : Nat → Int) (w : World) (h : Toks w a len cap S W) (hl : len ≤ 4096) :
    Calls Try.prog 23 #[.slice a len cap, .func (.func 21) #[] #[]] w fun e w' => ∃ r, e = .returned (.int .i64 r) ∧ (0 ≤ r ↔ anyB S W len = true) ∧ Below w.heap.size w w' := by
  go_enter Try.func23, Try.ntmps23
  go_wp2
  go_loopw [8] (fun i wr => ∃ k : Nat, k ≤ len ∧ i = .int .i64 k ∧ (∀ j, j < k → hardB (S j) (W j) = false) ∧ Below w.heap.size w wr) (fun i _ => len - (intOf i).toNat)
  case atStart => exact ⟨0, Nat.zero_le _, rfl, fun j h => by omega, Below.refl _ _⟩
  case round =>
    obtain ⟨k, hk, rfl, hno, hb⟩ := hrel
    have HN : Hid (_) := hno
    clear hno
    by_cases hlt : k < len
    · obtain ⟨b, off, rfl, hcc⟩ := (h.later hb).2 (by omega)
      have hcx := (hcc k hlt).1
      have hcy := (hcc k hlt).2
      clear hcc h
      obtain ⟨t, ht⟩ : ∃ t, hardB (S k) (W k) = t := ⟨_, rfl⟩
      cases t
      · go_wp2_with (go_at_call 21; refine (accepts1_any _ _ _).mono ?_; rintro e w1 ⟨rfl, hb1⟩)
        go_roundw
        case rel => exact ⟨k + 1, by omega, by go_num, fun j hj => by
            by_cases e : j = k
            · subst e; exact ht
            · exact HN.out j (by omega), hb.trans (hb1.mono hb.size)⟩
        case measure => simp [intOf]; omega
      · go_wp2_with (go_at_call 21; refine (accepts1_any _ _ _).mono ?_; rintro e w1 ⟨rfl, hb1⟩)
        go_ret
        exact ⟨_, rfl, ⟨fun _ => anyB_true.2 ⟨k, hlt, ht⟩, fun _ => by omega⟩, hb.trans (hb1.mono hb.size)⟩
    · have e : k = len := by omega
      subst e
      go_wp2
      go_ret
      refine ⟨_, rfl, ⟨fun h => by omega, fun h => ?_⟩, hb⟩
      obtain ⟨j, hj, hh⟩ := anyB_true.1 h
      rw [HN.out j hj] at hh; cases hh

set_option maxHeartbeats 400000 in
theorem contains_any (a : Option Addr) (len cap : Nat) (S : Nat → ByteArray) (W : Nat → Int) (w : World) (h : Toks w a len cap S W) (hl : len ≤ 4096) :
    Calls Try.prog 20 #[.slice a len cap, .func (.func 21) #[] #[]] w fun e w' => e = .returned (.bool (anyB S W len)) ∧ Below w.heap.size w w' := by
  go_enter Try.func20, Try.ntmps20
  go_wp2_with (go_at_call 23; refine (index_any _ _ _ S W _ h hl).mono ?_; rintro e w1 ⟨r, rfl, hr, hb1⟩)
  go_ret
  exact ⟨ret_bool rfl, hb1⟩


/-- What the walk is told of a slice of ints, each a number from nought on. -/
def Ats (w : World) (a : Option Addr) (len : Nat) (A : Nat → Nat) : Prop :=
  0 < len → ∃ b off, a = some ⟨b, off, none⟩ ∧ ∀ i, i < len → w.cell? ⟨b, off + i, none⟩ = some (.int .i64 (A i))
theorem Ats.later {w w' : World} {a : Option Addr} {len : Nat} {A : Nat → Nat} (h : Ats w a len A) (hb : Below w.heap.size w w') : Ats w' a len A := fun h0 => by
  obtain ⟨b, off, e, hc⟩ := h h0
  exact ⟨b, off, e, fun i hi => cell_later hb (hc i hi)⟩

/-- No hard token from state i on. -/
def past (S : Nat → ByteArray) (W : Nat → Int) (n i : Nat) : Bool := !anyB (fun j => S (i + j)) (fun j => W (i + j)) (n - i)
def accB (S : Nat → ByteArray) (W : Nat → Int) (n : Nat) (A : Nat → Nat) (l : Nat) : Bool := (List.range l).any (fun k => past S W n (A k))
theorem accB_true {S : Nat → ByteArray} {W : Nat → Int} {n l : Nat} {A : Nat → Nat} : accB S W n A l = true ↔ ∃ k, k < l ∧ past S W n (A k) = true := by
  simp [accB]

theorem Toks.cut {w : World} {ta : Option Addr} {n cap : Nat} {S : Nat → ByteArray} {W : Nat → Int} (h : Toks w ta n cap S W) (i : Nat) (hi : i ≤ n) :
    Toks w (Option.map (fun x => x.add (i * 2)) ta) (n - i) (cap - i) (fun j => S (i + j)) (fun j => W (i + j)) := by
  refine ⟨fun e => ?_, fun h0 => ?_⟩
  · have := h.1 (by simpa using e); omega
  · obtain ⟨b, off, rfl, hc⟩ := h.2 (by omega)
    refine ⟨b, off + i * 2, by simp [add_plain], fun j hj => ?_⟩
    have := hc (i + j) (by omega)
    rw [show off + i * 2 + j * 2 = off + (i + j) * 2 by omega]
    exact this
theorem Toks.cutEnd {w : World} {ta : Option Addr} {n cap : Nat} {S : Nat → ByteArray} {W : Nat → Int} (h : Toks w ta n cap S W) (i : Nat) (hn : n ≤ cap) (hi : cap = i) :
    Toks w ta (n - i) 0 (fun j => S (i + j)) (fun j => W (i + j)) := ⟨fun _ => ⟨by omega, rfl⟩, fun h0 => by omega⟩

set_option maxHeartbeats 400000 in
theorem accepts_any (p : Nat) (ta : Option Addr) (n cap : Nat) (S : Nat → ByteArray) (W : Nat → Int) (x : Option Addr) (l c : Nat) (A : Nat → Nat) (w : World) (hp : w.cell? ⟨p, 0, none⟩ = some (.slice ta n cap)) (h : Toks w ta n cap S W) (hn : n ≤ 4096) (hcap : n ≤ cap)
    (ha : Ats w x l A) (hl : l ≤ 4096) (hA : ∀ k, k < l → A k ≤ n) :
    Calls Try.prog 17 #[.pointer (some ⟨p, 0, none⟩), .slice x l c] w fun e w' => e = .returned (.bool (accB S W n A l)) ∧ Below w.heap.size w w' := by
  go_enter Try.func17, Try.ntmps17
  go_wp2
  go_loopw [9, 6] (fun i u wr => ∃ k : Nat, k ≤ l ∧ i = .int .i64 k ∧ (∀ j, j < k → past S W n (A j) = false) ∧ Below w.heap.size w wr) (fun i _ _ => l - (intOf i).toNat)
  case atStart => exact ⟨0, Nat.zero_le _, rfl, fun j h => by omega, Below.refl _ _⟩
  case round =>
    obtain ⟨k, hk, rfl, hno, hb⟩ := hrel
    have HN : Hid (_) := hno
    clear hno
    by_cases hlt : k < l
    · obtain ⟨b, off, rfl, hcc⟩ := (ha.later hb) (by omega)
      have hcx := hcc k hlt
      have hpx := cell_later hb hp
      have hAk := hA k hlt
      have HT : Hid (Toks wr ta n cap S W) := h.later hb
      have HA : Hid (_) := hA
      clear hcc h hA ha hp
      have HNS : Hid (past S W n (A k) = false → ∀ j, j < k + 1 → past S W n (A j) = false) := by
        intro hf j hj
        by_cases e : j = k
        · subst e; exact hf
        · exact HN.out j (by omega)
      have HNT : Hid (past S W n (A k) = true → accB S W n A l = true) := fun hf => accB_true.2 ⟨k, hlt, hf⟩
      have main : ∀ (ta' : Option Addr) (cap' : Nat), Toks wr ta' (n - A k) cap' (fun j => S (A k + j)) (fun j => W (A k + j)) →
          Calls Try.prog 20 #[.slice ta' (n - A k) cap', .func (.func 21) #[] #[]] wr fun e w' => e = .returned (.bool (!past S W n (A k))) ∧ Below wr.heap.size wr w' := by
        intro ta' cap' ht
        refine (contains_any ta' _ cap' _ _ wr ht (by omega)).mono fun e w' ⟨he, hb⟩ => ⟨?_, hb⟩
        rw [he]; exact ret_bool (by unfold past; rw [Bool.not_not])
      obtain ⟨t, ht⟩ : ∃ t, past S W n (A k) = t := ⟨_, rfl⟩
      rw [ht] at main
      have HM : Hid (_) := main
      have HPT : Hid (past S W n (A k) = t) := ht
      clear main ht
      by_cases hcapk : cap = A k
      · have HT' : Hid (_) := HT.out.cutEnd (A k) hcap hcapk
        cases t
        · go_wp2_with (go_at_call 20; refine (HM.out _ _ HT'.out).mono ?_; rintro e w1 ⟨rfl, hb1⟩)
          go_roundw
          case rel => exact ⟨k + 1, by omega, by go_num, HNS.out HPT.out, hb.trans (hb1.mono hb.size)⟩
          case measure => simp [intOf]; omega
        · go_wp2_with (go_at_call 20; refine (HM.out _ _ HT'.out).mono ?_; rintro e w1 ⟨rfl, hb1⟩)
          go_ret
          exact ⟨ret_bool (HNT.out HPT.out).symm, hb.trans (hb1.mono hb.size)⟩
      · have HT' : Hid (_) := HT.out.cut (A k) hAk
        cases t
        · go_wp2_with (go_at_call 20; refine (HM.out _ _ HT'.out).mono ?_; rintro e w1 ⟨rfl, hb1⟩)
          go_roundw
          case rel => exact ⟨k + 1, by omega, by go_num, HNS.out HPT.out, hb.trans (hb1.mono hb.size)⟩
          case measure => simp [intOf]; omega
        · go_wp2_with (go_at_call 20; refine (HM.out _ _ HT'.out).mono ?_; rintro e w1 ⟨rfl, hb1⟩)
          go_ret
          exact ⟨ret_bool (HNT.out HPT.out).symm, hb.trans (hb1.mono hb.size)⟩
    · have e : k = l := by omega
      subst e
      go_wp2
      go_ret
      refine ⟨ret_bool ?_, hb⟩
      cases hacc : accB S W n A k
      · rfl
      · obtain ⟨j, hj, hh⟩ := accB_true.1 hacc
        rw [HN.out j hj] at hh; cases hh

set_option maxHeartbeats 400000 in
theorem zzaccepts_any (ta : Option Addr) (n cap : Nat) (S : Nat → ByteArray) (W : Nat → Int) (x : Option Addr) (l c : Nat) (A : Nat → Nat) (w : World) (h : Toks w ta n cap S W) (hn : n ≤ 4096)
    (ha : Ats w x l A) (hl : l ≤ 4096) (hA : ∀ k, k < l → A k ≤ n) :
    Calls Try.prog 10 #[.slice ta n cap, .slice x l c] w fun e w' => e = .returned (.bool (accB S W n A l)) ∧ Below w.heap.size w w' := by
  have HT : Hid (_) := h
  have HA : Hid (_) := ha
  have HA2 : Hid (_) := hA
  clear h ha hA
  match ta, HT with
  | none, HT =>
    obtain ⟨rfl, rfl⟩ := HT.out.1 rfl
    go_enter Try.func10, Try.ntmps10
    go_wp2_with fail
    refine (matcher_nil _).mono ?_
    rintro e w1 ⟨rfl, hc1, hb1⟩
    go_wp2_with fail
    refine (accepts_any _ none 0 0 S W _ _ _ A _ hc1 ⟨fun _ => ⟨rfl, rfl⟩, fun h => by omega⟩ (by omega) (by omega) (Ats.later HA.out hb1) hl HA2.out).mono ?_
    rintro e w2 ⟨rfl, hb2⟩
    go_wp2
    go_ret
    exact ⟨rfl, hb1.trans (hb2.mono hb1.size)⟩
  | some y, HT =>
    go_enter Try.func10, Try.ntmps10
    go_wp2_with fail
    refine (matcher_some y n cap S W _ hn HT.out).mono ?_
    rintro e w1 ⟨p, rfl, hc1, ho1, hb1⟩
    go_wp2_with fail
    refine (accepts_any p _ n n S W _ _ _ A _ hc1 ⟨fun h => (by cases h), fun h => ⟨_, 0, rfl, fun i hi => tokCells_get ho1 i hi⟩⟩ hn (by omega) (Ats.later HA.out hb1) hl HA2.out).mono ?_
    rintro e w2 ⟨rfl, hb2⟩
    go_wp2
    go_ret
    exact ⟨rfl, hb1.trans (hb2.mono hb1.size)⟩

theorem toZZ_any (a : Option Addr) (n cap : Nat) (S : Nat → ByteArray) (W : Nat → Int) (w : World) (h : Toks w a n cap S W) (hn : n ≤ 4096) :
    Calls Try.prog 8 #[.slice a n cap] w fun e w' => ∃ a' c', e = .returned (.slice a' n c') ∧ Toks w' a' n c' S W ∧ Below w.heap.size w w' := by
  match a, h with
  | none, h =>
    obtain ⟨rfl, rfl⟩ := h.1 rfl
    exact (toZZ_nil w).mono fun e w' ⟨he, hw⟩ => ⟨_, _, he, ⟨fun _ => ⟨rfl, rfl⟩, fun h => by omega⟩, by rw [← hw]; exact Below.refl _ _⟩
  | some x, h =>
    exact (toZZ_some x n cap S W w hn h).mono fun e w' ⟨he, ho, hb⟩ => ⟨_, _, he, ⟨fun h => (by cases h), fun h => ⟨_, 0, rfl, fun i hi => tokCells_get ho i hi⟩⟩, hb⟩
end Go.Proofs.Qxb6605325a
