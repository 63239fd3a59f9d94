import Derived.Test.Qxb6605325aAdd
import Derived.Deep.LoopGhost
import Derived.Deep.Light
namespace Go.Proofs.Qxb6605325a
open Go.RowKit
set_option linter.unusedVariables false

/-- The tokens from j on, tried against the character c: what is added to the states. -/
def inner (S : Nat → ByteArray) (W : Nat → Int) (c : ByteArray) (h vl : Bool) : Nat → Nat → List Nat → List Nat
  | 0, _, l => l
  | f + 1, j, l =>
    if (S j).toList.isEmpty = false then (if ((S j).toList == c.toList) = true then addL l (j + 1) else l)
    else if h = true then l
    else if W j = 0 then (if (c.toList == [47]) = false then addL l (j + 1) else l)
    else if W j = 1 then inner S W c h vl f (j + 1) (if (c.toList == [47]) = false then addL l j else l)
    else if W j = 2 then inner S W c h vl f (j + 1) (if (c.toList == [47]) = false ∨ vl = false then addL l j else l)
    else inner S W c h vl f (j + 1) l
def stepL (S : Nat → ByteArray) (W : Nat → Int) (n : Nat) (c : ByteArray) (h vl : Bool) (A : Nat → Nat) : Nat → List Nat
  | 0 => []
  | k + 1 => inner S W c h vl (n - A k) (A k) (stepL S W n c h vl A k)
def hidB (sn : Bool) (c : ByteArray) : Bool := sn && (c.toList == [46])

theorem addL_len (l : List Nat) (j : Nat) : (addL l j).length ≤ l.length + 1 := by unfold addL; split <;> simp

theorem addL_le (l : List Nat) (j : Nat) : l.length ≤ (addL l j).length := by unfold addL; split <;> simp
theorem inner_le (S : Nat → ByteArray) (W : Nat → Int) (c : ByteArray) (h vl : Bool) : ∀ (f j : Nat) (l : List Nat), l.length ≤ (inner S W c h vl f j l).length := by
  intro f
  induction f with
  | zero => intro j l; exact Nat.le_refl _
  | succ f ih =>
    intro j l
    have a1 := addL_le l (j + 1)
    have a2 := addL_le l j
    rw [inner]
    split
    · split <;> omega
    · split
      · omega
      · split
        · split <;> omega
        · split
          · refine Nat.le_trans ?_ (ih _ _); split <;> omega
          · split
            · refine Nat.le_trans ?_ (ih _ _); split <;> omega
            · exact ih _ _

theorem Nx.alloc {w : World} {Bn : Nat} {l : List Nat} (h : Nx w Bn l) (o : Obj) : Nx (w.alloc o) Bn l := by
  obtain ⟨a, c, h1, h2⟩ := h
  exact ⟨a, c, by rw [Below.heap_alloc _ _ _ (lt_of_block h1)]; exact h1, h2.alloc o⟩
theorem Nx.lt {w : World} {Bn : Nat} {l : List Nat} (h : Nx w Bn l) : Bn < w.heap.size := by
  obtain ⟨a, c, h1, h2⟩ := h
  exact lt_of_block h1
theorem Nx.start (w : World) : Nx (w.alloc (.cells #[.slice none 0 0] 26)) w.heap.size [] := by
  refine ⟨none, 0, heap_alloc_new _ _, ?_⟩
  exact World.ownsRow_nil _ _ _ _

set_option maxRecDepth 20000 in
set_option maxHeartbeats 2000000 in
theorem step_hid (p : Nat) (ta : Option Addr) (n cap : Nat) (S : Nat → ByteArray) (W : Nat → Int) (x : Option Addr) (l cx : Nat) (A : Nat → Nat) (c : ByteArray) (vl : Bool) (w : World) (hp : w.cell? ⟨p, 0, none⟩ = some (.slice ta n cap)) (h : Toks w ta n cap S W) (hn : n ≤ 256)
    (ha : Ats w x l A) (hl : l ≤ 257) (hA : ∀ k, k < l → A k ≤ n) (hb : ∀ k, k ≤ l → (stepL S W n c true vl A k).length ≤ 257) (hc : (c.toList == [46]) = true) :
    Calls Try.prog 16 #[.pointer (some ⟨p, 0, none⟩), .slice x l cx, .string c, .bool true, .bool vl] w fun e w' => ∃ a c', e = .returned (.slice a (stepL S W n c true vl A l).length c') ∧ Ats w' a (stepL S W n c true vl A l).length (fun k => (stepL S W n c true vl A l).getD k 0) ∧ Below w.heap.size w w' := by
  have HT : Hid (Toks w ta n cap S W) := h
  have HA : Hid (Ats w x l A) := ha
  have HAn : Hid (∀ k, k < l → A k ≤ n) := hA
  have HBd : Hid (∀ k, k ≤ l → (stepL S W n c true vl A k).length ≤ 257) := hb
  have HP : Hid (w.cell? ⟨p, 0, none⟩ = some (.slice ta n cap)) := hp
  clear h ha hA hb hp
  go_enter Try.func16, Try.ntmps16
  go_wp2
  go_loopw [26] (fun i wr => ∃ k : Nat, k ≤ l ∧ i = .int .i64 k ∧ Nx wr w.heap.size (stepL S W n c true vl A k) ∧ Below w.heap.size w wr) (fun i _ => l - (intOf i).toNat)
  case atStart => exact ⟨0, Nat.zero_le _, rfl, Nx.start w, (Below.refl _ _).alloc (Nat.le_refl _) _⟩
  case round =>
    obtain ⟨k, hk, rfl, hnx, hb⟩ := hrel
    by_cases hlt : k < l
    · obtain ⟨b, off, rfl, hcc⟩ := (Ats.later HA.out hb) (by omega)
      have hcx := hcc k hlt
      clear hcc
      have hAk := HAn.out k hlt
      have HNX : Hid (Nx wr w.heap.size (stepL S W n c true vl A k)) := hnx
      clear hnx
      go_wp2
      go_step3
      go_wp2
      go_step3
      go_wp2
      go_loopw [16] (fun i ws => ∃ (j : Nat) (cur : List Nat), j ≤ n ∧ i = .int .i64 j ∧ Nx ws w.heap.size cur ∧ inner S W c true vl (n - j) j cur = stepL S W n c true vl A (k + 1) ∧ Below w.heap.size w ws) (fun i _ => n - (intOf i).toNat)
      case atStart => exact ⟨A k, _, hAk, rfl, HNX.out, rfl, hb⟩
      case round =>
        obtain ⟨j, cur, hj, rfl, hnx, hin, hbs⟩ := hrel
        have HIN : Hid (inner S W c true vl (n - j) j cur = stepL S W n c true vl A (k + 1)) := hin
        have HN2 : Hid (Nx wr w.heap.size cur) := hnx
        have hpx := cell_later hbs HP.out
        have hcl : cur.length ≤ 257 := by
          have a1 := inner_le S W c true vl (n - j) j cur
          rw [hin] at a1
          have := HBd.out (k + 1) (by omega)
          omega
        clear hin hnx hcx
        by_cases hjn : j < n
        · obtain ⟨tb, toff, rfl, hcc⟩ := (Toks.later HT.out hbs).2 (by omega)
          have hcx := (hcc j hjn).1
          have hcy := (hcc j hjn).2
          clear hcc
          by_cases ht : (S j).toList.isEmpty = false
          · by_cases hm : ((S j).toList == c.toList) = true
            · have HS : Hid (addL cur (j + 1) = stepL S W n c true vl A (k + 1)) := by
                show _ = _; rw [← HIN.out, show n - j = (n - j - 1) + 1 by omega, inner, if_pos ht, if_pos hm]
              go_wp2_with fail
              rw [show ((j : Int) + 1) = ((j + 1 : Nat) : Int) by omega]
              refine (add_any w.heap.size (j + 1) cur _ (HN2.out.alloc _) (by omega)).mono ?_
              rintro e w1 ⟨rfl, hnx1, hb1⟩
              rw [HS.out] at hnx1
              have hb2 : Below w.heap.size w w1 := (hbs.alloc hbs.size _).trans hb1
              have HX1 : Hid (Nx w1 w.heap.size (stepL S W n c true vl A (k + 1))) := hnx1
              clear hnx1
              go_wp2
              rw [Exit.noGoto_normal]
              go_wp2
              go_roundw
              case rel => exact ⟨k + 1, by omega, by go_num, HX1.out, hb2⟩
              case measure => simp [intOf]; omega
            · have hm' : ((S j).toList == c.toList) = false := by simpa using hm
              have HS : Hid (cur = stepL S W n c true vl A (k + 1)) := by
                show _ = _; rw [← HIN.out, show n - j = (n - j - 1) + 1 by omega, inner, if_pos ht, if_neg hm]
              go_wp2
              rw [Exit.noGoto_normal]
              go_wp2
              go_roundw
              case rel => exact ⟨k + 1, by omega, by go_num, by rw [← HS.out]; exact HN2.out.alloc _, hbs.alloc hbs.size _⟩
              case measure => simp [intOf]; omega
          · have ht' : (S j).toList.isEmpty = true := by simpa using ht
            have HS : Hid (cur = stepL S W n c true vl A (k + 1)) := by
              show _ = _; rw [← HIN.out, show n - j = (n - j - 1) + 1 by omega, inner, if_neg ht, if_pos rfl]
            go_wp2
            rw [Exit.noGoto_normal]
            go_wp2
            go_roundw
            case rel => exact ⟨k + 1, by omega, by go_num, by rw [← HS.out]; exact HN2.out.alloc _, hbs.alloc hbs.size _⟩
            case measure => simp [intOf]; omega
        · have HS : Hid (cur = stepL S W n c true vl A (k + 1)) := by
            show _ = _; rw [← HIN.out, show n - j = 0 by omega]; rfl
          go_wp2
          rw [Exit.noGoto_normal]
          go_wp2
          go_roundw
          case rel => exact ⟨k + 1, by omega, by go_num, by rw [← HS.out]; exact HN2.out, hbs⟩
          case measure => simp [intOf]; omega
    · have ek : k = l := by omega
      subst ek
      obtain ⟨a, c', hB, hO⟩ := hnx
      have hc1 := cell_of_one hB
      have HO : Hid (Ats wr a (stepL S W n c true vl A k).length (fun i => (stepL S W n c true vl A k).getD i 0)) := ats_of_own hO
      clear hB hO
      go_wp2
      go_ret
      exact ⟨a, c', rfl, HO.out, hb⟩
end Go.Proofs.Qxb6605325a
