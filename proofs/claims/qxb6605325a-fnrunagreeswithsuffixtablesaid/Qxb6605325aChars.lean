import Derived.Test.Qxb6605325aStep2
import Derived.Test.Qxb6605325aPlain
namespace Go.Proofs.Qxb6605325a
open Go.RowKit
set_option linter.unusedVariables false

theorem step_any (p : Nat) (ta : Option Addr) (n cap : Nat) (S : Nat → ByteArray) (W : Nat → Int) (x : Option Addr) (l cx : Nat) (A : Nat → Nat) (c : ByteArray) (sn vl : Bool) (w : World) (hp : w.cell? ⟨p, 0, none⟩ = some (.slice ta n cap)) (h : Toks w ta n cap S W) (hn : n ≤ 256)
    (ha : Ats w x l A) (hl : l ≤ 257) (hA : ∀ k, k < l → A k ≤ n) :
    Calls Try.prog 16 #[.pointer (some ⟨p, 0, none⟩), .slice x l cx, .string c, .bool sn, .bool vl] w fun e w' => ∃ a c', e = .returned (.slice a (stepL S W n c (hidB sn c) vl A l).length c') ∧ Ats w' a (stepL S W n c (hidB sn c) vl A l).length (fun k => (stepL S W n c (hidB sn c) vl A l).getD k 0) ∧ Below w.heap.size w w' := by
  have hb : ∀ hd k, k ≤ l → (stepL S W n c hd vl A k).length ≤ 257 := fun hd k hk => by
    have := goodL_len n _ (stepL_good S W n c hd vl A l hA k hk)
    omega
  cases hh : hidB sn c
  · refine step_open p ta n cap S W x l cx A c sn vl w hp h hn ha hl hA (hb false) ?_
    cases sn
    · exact .inl rfl
    · exact .inr (by simpa [hidB] using hh)
  · cases sn
    · simp [hidB] at hh
    · exact step_hid p ta n cap S W x l cx A c vl w hp h hn ha hl hA (hb true) (by simpa [hidB] using hh)

set_option maxHeartbeats 400000 in
theorem zzstep_any (ta : Option Addr) (n cap : Nat) (S : Nat → ByteArray) (W : Nat → Int) (x : Option Addr) (l cx : Nat) (A : Nat → Nat) (c : ByteArray) (sn vl : Bool) (w : World) (h : Toks w ta n cap S W) (hn : n ≤ 256)
    (ha : Ats w x l A) (hl : l ≤ 257) (hA : ∀ k, k < l → A k ≤ n) :
    Calls Try.prog 9 #[.slice ta n cap, .slice x l cx, .string c, .bool sn, .bool vl] w fun e w' => ∃ a c', e = .returned (.slice a (stepL S W n c (hidB sn c) vl A l).length c') ∧ Ats w' a (stepL S W n c (hidB sn c) vl A l).length (fun k => (stepL S W n c (hidB sn c) vl A l).getD k 0) ∧ Below w.heap.size w w' := by
  have HT : Hid (Toks w ta n cap S W) := h
  have HA : Hid (Ats w x l A) := ha
  have HA2 : Hid (∀ k, k < l → A k ≤ n) := hA
  clear h ha hA
  match ta, HT with
  | none, HT =>
    obtain ⟨rfl, rfl⟩ := HT.out.1 rfl
    go_enter Try.func9, Try.ntmps9
    go_wp2_with fail
    refine (matcher_nil _).mono ?_
    rintro e w1 ⟨rfl, hc1, hb1⟩
    go_wp2_with fail
    refine (step_any _ none 0 0 S W _ _ _ A c sn vl _ hc1 ⟨fun _ => ⟨rfl, rfl⟩, fun h => by omega⟩ (by omega) (Ats.later HA.out hb1) hl HA2.out).mono ?_
    rintro e w2 ⟨a, c', rfl, hat, hb2⟩
    have HAT : Hid (Ats w2 a (stepL S W 0 c (hidB sn c) vl A l).length (fun k => (stepL S W 0 c (hidB sn c) vl A l).getD k 0)) := hat
    clear hat
    go_wp2
    go_ret
    exact ⟨a, c', rfl, HAT.out, hb1.trans (hb2.mono hb1.size)⟩
  | some y, HT =>
    go_enter Try.func9, Try.ntmps9
    go_wp2_with fail
    refine (matcher_some y n cap S W _ (by omega) HT.out).mono ?_
    rintro e w1 ⟨p, rfl, hc1, ho1, hb1⟩
    go_wp2_with fail
    refine (step_any p _ n n S W _ _ _ A c sn vl _ hc1 ⟨fun h => (by cases h), fun h => ⟨_, 0, rfl, fun i hi => tokCells_get ho1 i hi⟩⟩ hn (Ats.later HA.out hb1) hl HA2.out).mono ?_
    rintro e w2 ⟨a, c', rfl, hat, hb2⟩
    have HAT : Hid (Ats w2 a (stepL S W n c (hidB sn c) vl A l).length (fun k => (stepL S W n c (hidB sn c) vl A l).getD k 0)) := hat
    clear hat
    go_wp2
    go_ret
    exact ⟨a, c', rfl, HAT.out, hb1.trans (hb2.mono hb1.size)⟩

/-! ### Characters -/
set_option maxRecDepth 20000 in
set_option maxHeartbeats 1000000 in
theorem charLen_any (s : ByteArray) (p : Nat) (w : World) (hp : p < s.size) (hs : s.size ≤ 256) :
    Calls Try.prog 14 #[.string s, .int .i64 p] w fun e w' => ∃ r, e = .returned (.int .i64 r) ∧ 1 ≤ r ∧ p + r ≤ s.size ∧ w = w' := by
  go_enter Try.func14, Try.ntmps14
  go_wp2
  all_goals first
    | (go_ret; exact ⟨_, rfl, by omega, by omega, rfl⟩)
    | (go_loop [9, 10] (fun cc q => ∃ (k : Nat) (z : Int), 2 ≤ k ∧ k ≤ 4 ∧ q = .int .i64 k ∧ cc = .int .u8 z) (fun _ q => 4 - (intOf q).toNat)
       case atStart => exact ⟨2, _, by omega, by omega, rfl, rfl⟩
       case round =>
         obtain ⟨k, z, hk1, hk2, rfl, rfl⟩ := hrel
         go_wp2
         all_goals first
           | (go_ret; exact ⟨_, rfl, by omega, by omega, rfl⟩)
           | (go_round
              case rel => exact ⟨k + 1, _, by omega, by omega, by go_num, rfl⟩
              case measure => simp [intOf]; omega))

theorem own_ge {w : World} {B n : Nat} {v : Value} {xs : List Value} (ho : w.ownsRow B 3 1 v n xs) (k : Nat) (hk : v.ownBlock = some k) : B ≤ k := by
  rcases ho.2 with ⟨e, e2⟩ | ⟨g, cp, cur, e, hg, _⟩
  · subst e; simp [Value.ownBlock] at hk
  · subst e; simp [Value.ownBlock] at hk; omega

/-- The starts gathered so far. -/
def okSt (l : List Nat) (p : Nat) : Prop := (∀ k, k < l.length → l.getD k 0 ≤ p) ∧ (∀ k, k + 1 < l.length → l.getD k 0 ≤ l.getD (k + 1) 0) ∧ l.length ≤ p
theorem okSt_snoc {l : List Nat} {p q : Nat} (h : okSt l p) (hq : p < q) : okSt (l ++ [p]) q := by
  have g1 : ∀ k, k < l.length → (l ++ [p]).getD k 0 = l.getD k 0 := fun k hk => by simp [List.getElem?_append_left hk]
  have g2 : (l ++ [p]).getD l.length 0 = p := by simp
  refine ⟨fun k hk => ?_, fun k hk => ?_, by simp; have := h.2.2; omega⟩
  · simp at hk
    by_cases e : k = l.length
    · subst e; rw [g2]; omega
    · rw [g1 k (by omega)]; have := h.1 k (by omega); omega
  · simp at hk
    by_cases e : k + 1 = l.length
    · rw [g1 k (by omega), e, g2]; exact h.1 k (by omega)
    · rw [g1 k (by omega), g1 (k + 1) (by omega)]; exact h.2.1 k (by omega)

set_option maxRecDepth 20000 in
set_option maxHeartbeats 1000000 in
theorem charStarts_any (s : ByteArray) (w : World) (hs : s.size ≤ 256) :
    Calls Try.prog 7 #[.string s] w fun e w' => ∃ (a : Option Addr) (m c : Nat) (st : Nat → Nat), e = .returned (.slice a (m + 1) c) ∧ Ats w' a (m + 1) st ∧ m ≤ s.size ∧ (∀ k, k ≤ m → st k ≤ s.size) ∧ (∀ k, k < m → st k ≤ st (k + 1)) ∧ Below w.heap.size w w' := by
  obtain ⟨i0, hi, hz0, hz1, hz2⟩ := info_parts Try.info3'
  go_enter Try.func7, Try.ntmps7
  go_wp2_with (at_make; refine wpList_make_own _ rfl _ _ 26 rfl w.heap.size 3 i0 _ 1 Try.underlying26 hi hz0 hz1 _ _ _ (s.size + 1) rfl rfl (by omega) (by rw [hz2]; omega) (by unfold maxLen; omega) (Nat.le_refl _) ?_; intro w1 hown hgrow)
  have HG : Hid (Below w.heap.size w w1) := (Below.refl _ _).grown hgrow (Nat.le_refl _) (fun k h => by cases h)
  have HO1 : Hid (w1.ownsRow w.heap.size 3 1 (.slice (some ⟨w.heap.size, 0, none⟩) 0 (s.size + 1)) 0 (nums [])) := hown
  clear hown hgrow
  go_loopw [3, 4] (fun v i wr => ∃ (l : List Nat) (p : Nat) (a : Option Addr) (c : Nat), v = .slice a l.length c ∧ i = .int .i64 p ∧ p ≤ s.size ∧ okSt l p ∧ wr.ownsRow w.heap.size 3 1 (.slice a l.length c) l.length (nums l) ∧ Below w.heap.size w wr) (fun _ i _ => s.size - (intOf i).toNat)
  case atStart => exact ⟨[], 0, _, _, rfl, rfl, by omega, ⟨fun k h => by simp at h, fun k h => by simp at h, by simp⟩, HO1.out, HG.out⟩
  case round =>
    obtain ⟨l, p, a, c, rfl, rfl, hp, hok, ho, hb⟩ := hrel
    have HO : Hid (wr.ownsRow w.heap.size 3 1 (.slice a l.length c) l.length (nums l)) := ho
    have HK : Hid (okSt l p) := hok
    have hll := hok.2.2
    have hbs := hb.size
    clear ho hok HG HO1
    by_cases hlt : p < s.size
    · go_wp2_with (first | (at_builtin; refine wpList_append_own _ rfl _ _ 26 rfl w.heap.size 3 i0 (.int .i64 0) 1 8 Try.underlying26 hi hz0 hz1 hz2 rfl (by decide) _ _ _ rfl (HO.out.alloc _) ⟨wr.heap.size, 0, none⟩ 1 1 [.int .i64 p] rfl rfl (cell_one_new _ _ _) (by intro u hu; simp at hu; subst hu; rfl) (by unfold maxLen; omega) (by omega) (by simp; omega) ?_; intro v' w2 hown2 hgrow2 hnil2; obtain ⟨a', c', rfl⟩ := shape_of_own hown2; have HO2 : Hid (w2.ownsRow w.heap.size 3 1 (.slice a' (l.length + 1) c') (l.length + 1) (nums l ++ [.int .i64 (p : Int)])) := hown2; have HB2 : Hid (Below w.heap.size w w2) := ((hb.alloc hbs _).grown hgrow2 (by simp; omega) (fun k hk => own_ge HO.out k hk)); clear hown2 hgrow2 hnil2) | (go_at_call 14; refine (charLen_any s p _ hlt hs).mono ?_; rintro e w3 ⟨r, rfl, hr1, hr2, rfl⟩))
      go_roundw
      case rel => exact ⟨l ++ [p], (p + r).toNat, a', c', by simp, by go_num, by omega, okSt_snoc HK.out (by omega), by simpa [nums] using HO2.out, HB2.out⟩
      case measure => simp [intOf]; omega
    · go_wp2_with (at_builtin; refine wpList_append_own _ rfl _ _ 26 rfl w.heap.size 3 i0 (.int .i64 0) 1 8 Try.underlying26 hi hz0 hz1 hz2 rfl (by decide) _ _ _ rfl (HO.out.alloc _) ⟨wr.heap.size, 0, none⟩ 1 1 [.int .i64 s.size] rfl rfl (cell_one_new _ _ _) (by intro u hu; simp at hu; subst hu; rfl) (by unfold maxLen; omega) (by omega) (by simp; omega) ?_; intro v' w2 hown2 hgrow2 hnil2; obtain ⟨a', c', rfl⟩ := shape_of_own hown2; have HO2 : Hid (w2.ownsRow w.heap.size 3 1 (.slice a' (l.length + 1) c') (l.length + 1) (nums l ++ [.int .i64 (s.size : Int)])) := hown2; have HB2 : Hid (Below w.heap.size w w2) := ((hb.alloc hbs _).grown hgrow2 (by simp; omega) (fun k hk => own_ge HO.out k hk)); clear hown2 hgrow2 hnil2)
      go_ret
      have ep : p = s.size := by omega
      have hok2 := okSt_snoc HK.out (show p < p + 1 by omega)
      rw [ep] at hok2
      have ho3 : w2.ownsRow w.heap.size 3 1 (.slice a' (l ++ [s.size]).length c') (l ++ [s.size]).length (nums (l ++ [s.size])) := by simpa [nums] using HO2.out
      have hat := ats_of_own ho3
      have e1 : (l ++ [s.size]).length = l.length + 1 := by simp
      rw [e1] at hat
      refine ⟨a', l.length, c', _, rfl, hat, by omega, fun k hk => ?_, fun k hk => ?_, HB2.out⟩
      · by_cases e : k = l.length
        · subst e; simp
        · have := HK.out.1 k (by omega)
          simp only [List.getD_eq_getElem?_getD] at this ⊢
          rw [List.getElem?_append_left (by omega)]; omega
      · exact hok2.2.1 k (by rw [e1]; omega)
end Go.Proofs.Qxb6605325a
