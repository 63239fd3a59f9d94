import Derived.Test.Qxb6605325aPlain
import Derived.Deep.QuietTactic
import Derived.BigQuiet
import Derived.Deep.DeepCutAuto
namespace Go.Proofs.Qxb6605325a
open Go.RowKit
set_option linter.unusedVariables false

def boolRow (F : Nat → Bool) (N : Nat) : List Value := (List.range N).map (fun x => .bool (F x))
def upd (F : Nat → Bool) (i : Nat) (v : Bool) : Nat → Bool := fun x => if x = i then v else F x
theorem boolRow_set (F : Nat → Bool) (N i : Nat) (v : Bool) : (boolRow F N).set i (.bool v) = boolRow (upd F i v) N := by
  apply List.ext_getElem?
  intro j
  unfold boolRow
  rw [List.getElem?_set]
  by_cases hj : j < N
  · simp only [List.length_map, List.length_range, List.getElem?_map, List.getElem?_range hj, Option.map_some, upd]
    by_cases e : i = j
    · subst e; rw [if_pos rfl, if_pos hj, if_pos rfl]
    · rw [if_neg e, if_neg (fun h => e h.symm)]
  · have e0 : ((List.range N).map (fun x => Value.bool (F x)))[j]? = none := List.getElem?_eq_none (by simp; omega)
    have e1 : ((List.range N).map (fun x => Value.bool (upd F i v x)))[j]? = none := List.getElem?_eq_none (by simp; omega)
    rw [e0, e1]
    split
    · rename_i h; subst h; rw [if_neg (by simp; omega)]
    · rfl
theorem boolRow_cell {w : World} {base e g N : Nat} {F : Nat → Bool} (ho : w.ownsRow base e 1 (.slice (some ⟨g, 0, none⟩) N N) N (boolRow F N)) (x : Nat) (hx : x < N) : w.cell? ⟨g, x, none⟩ = some (.bool (F x)) := by
  rw [ho.cellAt x (by omega)]
  unfold boolRow
  rw [List.getElem?_map, List.getElem?_range hx]; rfl

theorem Try.info4 : (Try.prog.info? 4).map (fun i => (i.zero, i.size, i.bytes)) = some (some (.bool false), 1, 1) := by kernel_rfl

/-- A slice of bools. -/
def Lnk (w : World) (a : Option Addr) (len : Nat) (f : Nat → Bool) : Prop :=
  0 < len → ∃ b off, a = some ⟨b, off, none⟩ ∧ ∀ i, i < len → w.cell? ⟨b, off + i, none⟩ = some (.bool (f i))
theorem Lnk.later {w w' : World} {a : Option Addr} {len : Nat} {f : Nat → Bool} (h : Lnk w a len f) (hb : Below w.heap.size w w') : Lnk w' a len f := fun h0 => by
  obtain ⟨b, off, e, hc⟩ := h h0
  exact ⟨b, off, e, fun i hi => cell_later hb (hc i hi)⟩

def chr (s : ByteArray) (st : Nat → Nat) (k : Nat) : ByteArray := s.extract (st k) (st (k + 1))
def hdn (s : ByteArray) (st : Nat → Nat) (k : Nat) : Bool := ((chr s st k).toList == [46]) && (decide (k = 0) || ((chr s st (k - 1)).toList == [47]))
def vln (ll : Nat) (Lk : Nat → Bool) (k : Nat) : Bool := decide (k < ll) && Lk k

/-- The table's filled part. -/
def Fill (S : Nat → ByteArray) (W : Nat → Int) (n m : Nat) (C : Nat → ByteArray) (Hd Vl : Nat → Bool) (F : Nat → Bool) (v : Int) : Prop :=
  ∀ p t : Nat, v < p → p ≤ m → t ≤ n → F (t * (m + 1) + p) = T S W n m C Hd Vl (m - p) (n - t)
def FillIn (S : Nat → ByteArray) (W : Nat → Int) (n m : Nat) (C : Nat → ByteArray) (Hd Vl : Nat → Bool) (F : Nat → Bool) (p : Nat) (u : Int) : Prop :=
  Fill S W n m C Hd Vl F p ∧ ∀ t : Nat, u < t → t ≤ n → F (t * (m + 1) + p) = T S W n m C Hd Vl (m - p) (n - t)

theorem idx_inj {q t p t' p' : Nat} (hp : p < q) (hp' : p' < q) (h : t * q + p = t' * q + p') : t = t' ∧ p = p' := by
  have h1 : (t * q + p) / q = t := by rw [Nat.mul_comm, Nat.mul_add_div (by omega), Nat.div_eq_of_lt hp, Nat.add_zero]
  have h2 : (t' * q + p') / q = t' := by rw [Nat.mul_comm, Nat.mul_add_div (by omega), Nat.div_eq_of_lt hp', Nat.add_zero]
  have : t = t' := by rw [← h1, ← h2, h]
  subst this
  exact ⟨rfl, by omega⟩

theorem fill_upd {S : Nat → ByteArray} {W : Nat → Int} {n m : Nat} {C : Nat → ByteArray} {Hd Vl : Nat → Bool} {F : Nat → Bool} {p t : Nat} (hp : p ≤ m) (h : FillIn S W n m C Hd Vl F p t) (v : Bool) (hv : v = T S W n m C Hd Vl (m - p) (n - t)) :
    FillIn S W n m C Hd Vl (upd F (t * (m + 1) + p) v) p ((t : Int) - 1) := by
  constructor
  · intro p' t' h1 h2 h3
    unfold upd
    rw [if_neg (fun e => by have := (idx_inj (by omega) (by omega) e).2; omega)]
    exact h.1 p' t' h1 h2 h3
  · intro t' h1 h2
    unfold upd
    by_cases e : t' = t
    · subst e; rw [if_pos rfl]; exact hv
    · rw [if_neg (fun e' => e (idx_inj (by omega) (by omega) e').1)]
      exact h.2 t' (by omega) h2

theorem T_last {S : Nat → ByteArray} {W : Nat → Int} {n m : Nat} {C : Nat → ByteArray} {Hd Vl : Nat → Bool} (t : Nat) (ht : t < n) : T S W n m C Hd Vl (m - m) (n - t) = (!hardB (S t) (W t) && T S W n m C Hd Vl (m - m) (n - (t + 1))) := by
  rw [Nat.sub_self, T, show n - t = (n - (t + 1)) + 1 by omega, row0, show n - (n - (t + 1) + 1) = t by omega]
theorem T_end {S : Nat → ByteArray} {W : Nat → Int} {n m : Nat} {C : Nat → ByteArray} {Hd Vl : Nat → Bool} : T S W n m C Hd Vl (m - m) (n - n) = true := by
  rw [Nat.sub_self, Nat.sub_self, T, row0]
theorem T_none {S : Nat → ByteArray} {W : Nat → Int} {n m : Nat} {C : Nat → ByteArray} {Hd Vl : Nat → Bool} (p : Nat) (hp : p < m) : T S W n m C Hd Vl (m - p) (n - n) = false := by
  rw [show m - p = (m - (p + 1)) + 1 by omega, Nat.sub_self, T, rowS]
theorem T_cell {S : Nat → ByteArray} {W : Nat → Int} {n m : Nat} {C : Nat → ByteArray} {Hd Vl : Nat → Bool} (p t : Nat) (hp : p < m) (ht : t < n) :
    T S W n m C Hd Vl (m - p) (n - t) = cellB S W t (C p) (Hd p) (Vl p) (T S W n m C Hd Vl (m - p) (n - (t + 1))) (T S W n m C Hd Vl (m - (p + 1)) (n - t)) (T S W n m C Hd Vl (m - (p + 1)) (n - (t + 1))) := by
  rw [show m - p = (m - (p + 1)) + 1 by omega, T, show m - (m - (p + 1) + 1) = p by omega]
  rw [show n - t = (n - (t + 1)) + 1 by omega, rowS, show n - (n - (t + 1) + 1) = t by omega]

theorem own_below {w w' : World} {base e n cap : Nat} {g : Nat} {xs : List Value} (ho : w.ownsRow base e 1 (.slice (some ⟨g, 0, none⟩) n cap) n xs) (hb : Below w.heap.size w w') : w'.ownsRow base e 1 (.slice (some ⟨g, 0, none⟩) n cap) n xs := by
  obtain ⟨h1, h2⟩ := ho
  refine ⟨h1, ?_⟩
  rcases h2 with ⟨e, _⟩ | ⟨g', cp, cur, e, hg, hh, r⟩
  · cases e
  · exact .inr ⟨g', cp, cur, e, hg, (hb.block g' (lt_of_block hh)).trans hh, r⟩
theorem own_lt {w : World} {base e n cap : Nat} {g : Nat} {xs : List Value} (ho : w.ownsRow base e 1 (.slice (some ⟨g, 0, none⟩) n cap) n xs) : g < w.heap.size := by
  rcases ho.2 with ⟨e, _⟩ | ⟨g', cp, cur, e, hg, hh, r⟩
  · cases e
  · simp at e; obtain ⟨rfl, _⟩ := e; exact lt_of_block hh

/-- The round's end: the value is stored. -/
theorem round_end {S : Nat → ByteArray} {W : Nat → Int} {n m : Nat} {C : Nat → ByteArray} {Hd Vl : Nat → Bool} {G : Nat → Bool} {p t I0 N B : Nat} {w wr : World} (ho : wr.ownsRow B 4 1 (.slice (some ⟨B, 0, none⟩) N N) N (boolRow G N)) (hI0 : I0 = t * (m + 1) + p) (hp : p ≤ m)
    (hF : FillIn S W n m C Hd Vl G p t) (hb : Below B w wr) (v : Bool) (hv : v = T S W n m C Hd Vl (m - p) (n - t)) :
    (wr.setCell ⟨B, I0, none⟩ (.bool v)).ownsRow B 4 1 (.slice (some ⟨B, 0, none⟩) N N) N (boolRow (upd G I0 v) N) ∧ FillIn S W n m C Hd Vl (upd G I0 v) p ((t : Int) - 1) ∧ Below B w (wr.setCell ⟨B, I0, none⟩ (.bool v)) := by
  refine ⟨?_, by rw [hI0]; exact fill_upd hp hF v hv, hb.setCell (Nat.le_refl _) _⟩
  have := (ho.stored I0 (.bool v)).1
  rw [boolRow_set] at this
  exact this

set_option maxRecDepth 100000 in
set_option maxHeartbeats 8000000 in
theorem suffix_any (ta : Option Addr) (n cap : Nat) (S : Nat → ByteArray) (W : Nat → Int) (s : ByteArray) (xs : Option Addr) (m cs : Nat) (st : Nat → Nat) (xl : Option Addr) (ll cl : Nat) (Lk : Nat → Bool) (w : World)
    (h : Toks w ta n cap S W) (hn : n ≤ 256) (hst : Ats w xs (m + 1) st) (hm : m ≤ 256) (hs : s.size ≤ 256) (h1 : ∀ k, k ≤ m → st k ≤ s.size) (h2 : ∀ k, k < m → st k ≤ st (k + 1)) (hlk : Lnk w xl ll Lk) (hll : ll ≤ 65536) :
    Calls Try.prog 11 #[.slice ta n cap, .string s, .slice xs (m + 1) cs, .slice xl ll cl] w fun e w' => e = .returned (.bool (T S W n m (chr s st) (hdn s st) (vln ll Lk) m n)) ∧ Below w.heap.size w w' := by
  have HT : Hid (Toks w ta n cap S W) := h
  have HST : Hid (Ats w xs (m + 1) st) := hst
  have H1 : Hid (∀ k, k ≤ m → st k ≤ s.size) := h1
  have H2 : Hid (∀ k, k < m → st k ≤ st (k + 1)) := h2
  have HL : Hid (Lnk w xl ll Lk) := hlk
  clear h hst h1 h2 hlk
  obtain ⟨i0, hi, hz0, hz1, hz2⟩ := info_parts Try.info4
  have hN0 : ((n : Int) + 1) * ((m : Int) + 1) ≤ 66049 := by
    have : ((n : Int) + 1) * ((m : Int) + 1) ≤ 257 * 257 := Int.mul_le_mul (by omega) (by omega) (by omega) (by omega)
    omega
  have hN1 : 1 ≤ ((n : Int) + 1) * ((m : Int) + 1) := by
    have : (1 : Int) * 1 ≤ ((n : Int) + 1) * ((m : Int) + 1) := Int.mul_le_mul (by omega) (by omega) (by omega) (by omega)
    omega
  obtain ⟨N, hN⟩ : ∃ N : Nat, N = (n + 1) * (m + 1) := ⟨_, rfl⟩
  have HN : Hid (N = (n + 1) * (m + 1)) := hN
  have HNe : Hid (((n : Int) + 1) * ((m : Int) + 1) = (N : Int)) := by show _ = _; rw [hN]; simp
  have hNb : N ≤ 66049 := by have := HNe.out; omega
  clear hN
  go_enter Try.func11, Try.ntmps11
  go_wp2_with (at_make; refine wpList_make_full _ rfl _ _ 23 rfl w.heap.size 4 i0 _ 1 Try.underlying23 hi hz0 hz1 _ _ _ _ N rfl rfl HNe.out HNe.out (by rw [hz2]; omega) (by unfold maxLen; omega) (Nat.le_refl _) ?_; intro w1 hown hgrow)
  have HG : Hid (Below w.heap.size w w1) := (Below.refl _ _).grown hgrow (Nat.le_refl _) (fun k h => by cases h)
  have HO1 : Hid (w1.ownsRow w.heap.size 4 1 (.slice (some ⟨w.heap.size, 0, none⟩) N N) N (boolRow (fun _ => false) N)) := by
    show World.ownsRow _ _ _ _ _ _ _
    have e : boolRow (fun _ => false) N = (madeCells (Value.bool false).cells (N * 1)).toList := by
      simp [boolRow, Value.cells, toList_madeCells_one, List.map_const']
    rw [e]; exact hown
  clear hown hgrow hN0 hN1
  go_loopw [13] (fun i wr => ∃ (v : Int) (F : Nat → Bool), -1 ≤ v ∧ v ≤ m ∧ i = .int .i64 v ∧ wr.ownsRow w.heap.size 4 1 (.slice (some ⟨w.heap.size, 0, none⟩) N N) N (boolRow F N) ∧ Fill S W n m (chr s st) (hdn s st) (vln ll Lk) F v ∧ Below w.heap.size w wr) (fun i _ => (intOf i + 1).toNat)
  case atStart => exact ⟨m, _, by omega, by omega, rfl, HO1.out, fun p t h1 h2 _ => by omega, HG.out⟩
  case round =>
    obtain ⟨v, F, hv1, hv2, rfl, ho, hfill, hb⟩ := hrel
    have HO : Hid (wr.ownsRow w.heap.size 4 1 (.slice (some ⟨w.heap.size, 0, none⟩) N N) N (boolRow F N)) := ho
    have HF : Hid (Fill S W n m (chr s st) (hdn s st) (vln ll Lk) F v) := hfill
    clear ho hfill
    by_cases hv : 0 ≤ v
    · obtain ⟨p, rfl⟩ : ∃ p : Nat, v = p := ⟨v.toNat, by omega⟩
      have hpm : p ≤ m := by omega
      go_wp2
      go_loopw [14] (fun i ws => ∃ (u : Int) (G : Nat → Bool), -1 ≤ u ∧ u ≤ n ∧ i = .int .i64 u ∧ ws.ownsRow w.heap.size 4 1 (.slice (some ⟨w.heap.size, 0, none⟩) N N) N (boolRow G N) ∧ FillIn S W n m (chr s st) (hdn s st) (vln ll Lk) G p u ∧ Below w.heap.size w ws) (fun i _ => (intOf i + 1).toNat)
      case atStart => exact ⟨n, F, by omega, by omega, rfl, HO.out, ⟨HF.out, fun t h1 h2 => by omega⟩, hb⟩
      case round =>
        clear HO HF hb HG HO1 hv1 hv2 hv
        obtain ⟨u, G, hu1, hu2, rfl, ho, hfill, hb⟩ := hrel
        have HO : Hid (wr.ownsRow w.heap.size 4 1 (.slice (some ⟨w.heap.size, 0, none⟩) N N) N (boolRow G N)) := ho
        have HF : Hid (FillIn S W n m (chr s st) (hdn s st) (vln ll Lk) G p u) := hfill
        clear ho hfill
        by_cases hu : 0 ≤ u
        · obtain ⟨t, rfl⟩ : ∃ t : Nat, u = t := ⟨u.toNat, by omega⟩
          have htn : t ≤ n := by omega
          obtain ⟨I0, hI0⟩ : ∃ I0 : Nat, I0 = t * (m + 1) + p := ⟨_, rfl⟩
          have hI0N : I0 < N := by
            rw [hI0, HN.out, Nat.add_mul, Nat.one_mul]
            have : t * (m + 1) ≤ n * (m + 1) := Nat.mul_le_mul_right _ htn
            omega
          have hpr : (t : Int) * ((m : Int) + 1) + p = I0 := by rw [hI0]; simp
          have hpr0 : 0 ≤ (t : Int) * ((m : Int) + 1) := Int.mul_nonneg (by omega) (by omega)
          have hpr1 : (t : Int) * ((m : Int) + 1) ≤ (N : Int) := by omega
          have hc0 := boolRow_cell HO.out I0 hI0N
          have hf0 := HO.out.frozenAt I0
          have HI0 : Hid (I0 = t * (m + 1) + p) := hI0
          clear hI0 hu1 hu2 hu
          have hgs := own_lt HO.out
          obtain ⟨I1, hI1⟩ : ∃ I1 : Nat, I1 = (t + 1) * (m + 1) + p := ⟨_, rfl⟩
          have hI1N : t < n → I1 < N := by
            intro h
            rw [hI1, HN.out, Nat.add_mul n, Nat.one_mul]
            have : (t + 1) * (m + 1) ≤ n * (m + 1) := Nat.mul_le_mul_right _ h
            omega
          have hpr2 : ((t : Int) + 1) * ((m : Int) + 1) + p = I1 := by rw [hI1]; simp
          have hpr3 : 0 ≤ ((t : Int) + 1) * ((m : Int) + 1) := Int.mul_nonneg (by omega) (by omega)
          have HI1 : Hid (I1 = (t + 1) * (m + 1) + p) := hI1
          clear hI1
          by_cases htl : t < n
          · have hI1 := hI1N htl
            obtain ⟨b, off, rfl, hcc⟩ := (Toks.later HT.out hb).2 (by omega)
            have hcx := (hcc t htl).1
            have hcy := (hcc t htl).2
            obtain ⟨sb, soff, rfl, hss⟩ := (Ats.later HST.out hb) (by omega)
            have HSS : Hid (∀ i, i < m + 1 → wr.cell? ⟨sb, soff + i, none⟩ = some (.int .i64 (st i))) := hss
            clear hcc hss hI1N
            have P0 : Hid ((t : Int) * ((m : Int) + 1) + p = I0) := hpr
            have P2 : Hid (((t : Int) + 1) * ((m : Int) + 1) + p = I1) := hpr2
            have P3 : Hid (0 ≤ ((t : Int) + 1) * ((m : Int) + 1)) := hpr3
            have P1 : Hid (0 ≤ (t : Int) * ((m : Int) + 1) ∧ (t : Int) * ((m : Int) + 1) ≤ (N : Int)) := ⟨hpr0, hpr1⟩
            clear hpr hpr0 hpr1 hpr2 hpr3
            have P4 : Hid (((t : Int) + 1) * ((m : Int) + 1) ≤ (N : Int)) := by have := P2.out; show _ ≤ _; omega
            have htb : ((t : Int) == n) = false := by simp; omega
            go_upto_if 47 with fail
            go_cut [15] (fun v wd => v = .bool (T S W n m (chr s st) (hdn s st) (vln ll Lk) (m - p) (n - t)) ∧ wd.ownsRow w.heap.size 4 1 (.slice (some ⟨w.heap.size, 0, none⟩) N N) N (boolRow G N) ∧ Below w.heap.size w wd)
            case first =>
              by_cases hpm' : p = m
              · have HPM : Hid (p = m) := hpm'
                have hpb : ((p : Int) == m) = true := by simp [hpm']
                clear hpm'
                have htb : ((t : Int) == n) = false := by simp; omega
                have HV : Hid (T S W n m (chr s st) (hdn s st) (vln ll Lk) (m - p) (n - t) = (!hardB (S t) (W t) && G I1)) := by
                  show _ = _
                  rw [HI1.out, HF.out.2 (t + 1) (by omega) (by omega), HPM.out]; exact T_last t htl
                obtain ⟨q, hq⟩ : ∃ q, hardB (S t) (W t) = q := ⟨_, rfl⟩
                have HQ : Hid (hardB (S t) (W t) = q) := hq
                clear hq
                go_wp2_with fail
                refine (hard_any _ _ _).mono ?_
                rintro e w2 ⟨rfl, hb2⟩
                rw [HQ.out]
                have hpr2 := P2.out
                have hpr3 := P3.out
                have hpr4 := P4.out
                have HO2 : Hid (w2.ownsRow w.heap.size 4 1 (.slice (some ⟨w.heap.size, 0, none⟩) N N) N (boolRow G N)) := own_below HO.out hb2
                have hc2 := boolRow_cell HO2.out I0 hI0N
                have hf2 := HO2.out.frozenAt I0
                have hc3 := boolRow_cell HO2.out I1 hI1
                have hb3 : Below w.heap.size w w2 := hb.trans (hb2.mono hb.size)
                clear hb2
                cases q
                · as_aux_lemma =>
                    go_wp2_with fail
                    go_meet
                    case rel => exact ⟨by rw [HV.out, HQ.out]; rfl, HO2.out, hb3⟩
                · as_aux_lemma =>
                    go_wp2_with fail
                    go_meet
                    case rel => exact ⟨by rw [HV.out, HQ.out]; rfl, HO2.out, hb3⟩
              · have hpl : p < m := by omega
                have hpb : ((p : Int) == m) = false := by simp; omega
                have hs0 := HSS.out p (by omega)
                have hs1 := HSS.out (p + 1) (by omega)
                have hq1 := H1.out (p + 1) (by omega)
                have hq2 := H2.out p hpl
                have hq0 : st p ≤ s.size := by omega
                have hI0' : I0 + 1 < N := by
                  have := HI0.out; have h3 := HN.out
                  have : t * (m + 1) ≤ (n - 1) * (m + 1) := Nat.mul_le_mul_right _ (by omega)
                  have : (n - 1) * (m + 1) + (m + 1) = n * (m + 1) := by rw [← Nat.succ_mul]; congr 1; omega
                  rw [Nat.add_mul, Nat.one_mul] at h3
                  omega
                have hI1' : I1 + 1 < N := by
                  have := HI1.out; have h3 := HN.out
                  have : (t + 1) * (m + 1) ≤ n * (m + 1) := Nat.mul_le_mul_right _ htl
                  rw [Nat.add_mul, Nat.one_mul] at h3
                  omega
                obtain ⟨J0, hJ0⟩ : ∃ J0, J0 = I0 + 1 := ⟨_, rfl⟩
                obtain ⟨J1, hJ1⟩ : ∃ J1, J1 = I1 + 1 := ⟨_, rfl⟩
                have Q0 : Hid ((I0 : Int) + 1 = J0) := by show _ = _; omega
                have Q1 : Hid ((I1 : Int) + 1 = J1) := by show _ = _; omega
                rw [← hJ0] at hI0'
                rw [← hJ1] at hI1'
                have HV : Hid (T S W n m (chr s st) (hdn s st) (vln ll Lk) (m - p) (n - t) = cellB S W t (chr s st p) (hdn s st p) (vln ll Lk p) (G I1) (G J0) (G J1)) := by
                  show _ = _
                  rw [hJ0, hJ1]
                  rw [T_cell p t hpl htl, ← HF.out.2 (t + 1) (by omega) (by omega), ← HF.out.1 (p + 1) t (by omega) (by omega) (by omega), ← HF.out.1 (p + 1) (t + 1) (by omega) (by omega) (by omega), HI1.out, HI0.out]
                  rfl
                clear hJ0 hJ1
                go_wp2
                go_quiet (fail)
                go_wp2
                obtain ⟨ch, hch⟩ : ∃ ch, ch = s.extract (st p) (st (p + 1)) := ⟨_, rfl⟩
                rw [← hch]
                have HCH : Hid (chr s st p = ch) := hch.symm
                clear hch
                go_cut [17] (fun h wc => h = .bool (hdn s st p) ∧ ∃ k, wc = wr.drewN k)
                case first =>
                  rcases (show ((ch.toList == [46]) = false) ∨ ((ch.toList == [46]) = true ∧ p = 0) ∨ ((ch.toList == [46]) = true ∧ p ≠ 0) by cases (ch.toList == [46]) <;> simp <;> omega) with hdot | ⟨hdot, hp0⟩ | ⟨hdot, hp0⟩
                  · have HHD : Hid (hdn s st p = false) := by show _ = _; unfold hdn; rw [HCH.out, hdot]; rfl
                    as_aux_lemma =>
                      go_quiet (fail)
                      go_wp2_with fail
                      go_meet
                      case rel => exact ⟨by rw [HHD.out], _, World.drewN_drewN _ _ _⟩
                  · have HHD : Hid (hdn s st p = true) := by show _ = _; unfold hdn; rw [HCH.out, hdot, decide_eq_true hp0]; rfl
                    have hp0' : ((p : Int) == 0) = true := by simp [hp0]
                    clear hp0
                    as_aux_lemma =>
                      go_quiet (fail)
                      go_wp2_with fail
                      go_meet
                      case rel => exact ⟨by rw [HHD.out], _, World.drewN_drewN _ _ _⟩
                  · obtain ⟨pp, hpp⟩ : ∃ pp, pp = p - 1 := ⟨_, rfl⟩
                    have hp0' : ((p : Int) == 0) = false := by simp [hp0]
                    have hpi : (p : Int) - 1 = pp := by omega
                    obtain ⟨sb', soff', e', hss⟩ := (Ats.later HST.out hb) (by omega)
                    simp only [Option.some.injEq, Addr.mk.injEq] at e'
                    obtain ⟨rfl, rfl, _⟩ := e'
                    have hsm := hss pp (by omega)
                    have hq3 : st pp ≤ st p := by have := H2.out pp (by omega); rw [show pp + 1 = p by omega] at this; exact this
                    obtain ⟨z, hz⟩ : ∃ z, ((s.extract (st pp) (st p)).toList == [47]) = z := ⟨_, rfl⟩
                    have HHD : Hid (hdn s st p = z) := by
                      show _ = _; unfold hdn; rw [HCH.out, hdot, decide_eq_false hp0, ← hpp]
                      unfold chr; rw [show pp + 1 = p by omega, hz]; simp
                    have HP : Hid (pp = p - 1) := hpp
                    clear hss hpp hp0
                    as_aux_lemma =>
                      go_quiet (fail)
                      go_wp2_with fail
                      go_meet
                      case rel => exact ⟨by rw [HHD.out], _, World.drewN_drewN _ _ _⟩
                case rest =>
                  obtain ⟨hid, hhid⟩ : ∃ hid, hdn s st p = hid := ⟨_, rfl⟩
                  have HHD : Hid (hdn s st p = hid) := hhid
                  rw [hhid] at hcut
                  obtain ⟨rfl, k, hk⟩ := hcut
                  have HO2 : Hid (wc.ownsRow w.heap.size 4 1 (.slice (some ⟨w.heap.size, 0, none⟩) N N) N (boolRow G N)) := by rw [hk]; exact HO.out
                  have hb2 : Below w.heap.size w wc := by rw [hk]; exact ⟨hb.os, hb.tape, hb.output, hb.size, hb.block⟩
                  have hcx2 : wc.cell? ⟨b, off + t * 2, none⟩ = some (.string (S t)) := by rw [hk]; exact hcx
                  have hcy2 : wc.cell? ⟨b, off + t * 2 + 1, none⟩ = some (.int .i64 (W t)) := by rw [hk]; exact hcy
                  have hgs2 : w.heap.size < wc.heap.size := by rw [hk]; exact hgs
                  clear hk hhid hb HO hcx hcy hgs hc0 hf0 hs0 hs1 hq0 hq1 hq2
                  have hk1 := boolRow_cell HO2.out I1 hI1
                  have hk2 := boolRow_cell HO2.out J0 hI0'
                  have hk3 := boolRow_cell HO2.out J1 hI1'
                  have hc0 := boolRow_cell HO2.out I0 hI0N
                  have hf0 := HO2.out.frozenAt I0
                  have HVV : Hid (T S W n m (chr s st) (hdn s st) (vln ll Lk) (m - p) (n - t) = cellB S W t ch hid (vln ll Lk p) (G I1) (G J0) (G J1)) := by show _ = _; rw [HV.out, HCH.out, HHD.out]
                  have hpr := P0.out
                  have hpr0 := P1.out.1
                  have hpr1 := P1.out.2
                  have hpr2 := P2.out
                  have hpr3 := P3.out
                  have hpr4 := P4.out
                  have hj0 := Q0.out
                  have hj1 := Q1.out
                  go_upto_region 24 with fail
                  clear hpr hpr0 hpr1 hpr2 hpr3 hpr4 hj0 hj1
                  by_cases ht : (S t).toList.isEmpty = false
                  · by_cases hm : ((S t).toList == ch.toList) = true
                    · skip
                      have HP : Hid ((G J1) = cellB S W t ch hid (vln ll Lk p) (G I1) (G J0) (G J1)) := by show _ = _; unfold cellB; rw [if_pos ht, hm]; rfl
                      as_aux_lemma =>
                        go_wp2_with fail
                        go_meet
                        case rel => exact ⟨by rw [HVV.out, ← HP.out], HO2.out.alloc _, hb2.alloc hb2.size _⟩
                    · have hm' : ((S t).toList == ch.toList) = false := by simpa using hm
                      have HP : Hid (false = cellB S W t ch hid (vln ll Lk p) (G I1) (G J0) (G J1)) := by show _ = _; unfold cellB; rw [if_pos ht, hm']; rfl
                      as_aux_lemma =>
                        go_wp2_with fail
                        go_meet
                        case rel => exact ⟨by rw [HVV.out, ← HP.out], HO2.out.alloc _, hb2.alloc hb2.size _⟩
                  have ht' : (S t).toList.isEmpty = true := by simpa using ht
                  cases hid
                  · obtain ⟨sl, hsl⟩ : ∃ sl, (ch.toList == [47]) = sl := ⟨_, rfl⟩
                    obtain ⟨g1, hg1⟩ : ∃ g1, G I1 = g1 := ⟨_, rfl⟩
                    by_cases h0 : W t = 0
                    · have h0' : (W t == 0) = true := by simpa using h0
                      cases sl
                      · skip
                        have HP : Hid ((G J1) = cellB S W t ch false (vln ll Lk p) (G I1) (G J0) (G J1)) := by show _ = _; unfold cellB; rw [if_neg ht, if_neg (by simp), if_pos h0, hsl]; rfl
                        clear h0
                        as_aux_lemma =>
                          go_wp2_with fail
                          go_meet
                          case rel => exact ⟨by rw [HVV.out, ← HP.out], HO2.out.alloc _, hb2.alloc hb2.size _⟩
                      · skip
                        have HP : Hid (false = cellB S W t ch false (vln ll Lk p) (G I1) (G J0) (G J1)) := by show _ = _; unfold cellB; rw [if_neg ht, if_neg (by simp), if_pos h0, hsl]; rfl
                        clear h0
                        as_aux_lemma =>
                          go_wp2_with fail
                          go_meet
                          case rel => exact ⟨by rw [HVV.out, ← HP.out], HO2.out.alloc _, hb2.alloc hb2.size _⟩
                    have h0' : (W t == 0) = false := by simpa using h0
                    by_cases h1 : W t = 1
                    · have h1' : (W t == 1) = true := by simpa using h1
                      cases g1
                      · cases sl
                        · skip
                          have HP : Hid ((G J0) = cellB S W t ch false (vln ll Lk p) (G I1) (G J0) (G J1)) := by show _ = _; unfold cellB; rw [if_neg ht, if_neg (by simp), if_neg h0, if_pos h1, hsl, hg1]; rfl
                          clear h0 h1
                          as_aux_lemma =>
                            go_wp2_with fail
                            go_meet
                            case rel => exact ⟨by rw [HVV.out, ← HP.out], HO2.out.alloc _, hb2.alloc hb2.size _⟩
                        · skip
                          have HP : Hid (false = cellB S W t ch false (vln ll Lk p) (G I1) (G J0) (G J1)) := by show _ = _; unfold cellB; rw [if_neg ht, if_neg (by simp), if_neg h0, if_pos h1, hsl, hg1]; rfl
                          clear h0 h1
                          as_aux_lemma =>
                            go_wp2_with fail
                            go_meet
                            case rel => exact ⟨by rw [HVV.out, ← HP.out], HO2.out.alloc _, hb2.alloc hb2.size _⟩
                      · skip
                        have HP : Hid (true = cellB S W t ch false (vln ll Lk p) (G I1) (G J0) (G J1)) := by show _ = _; unfold cellB; rw [if_neg ht, if_neg (by simp), if_neg h0, if_pos h1, hg1]; rfl
                        clear h0 h1
                        as_aux_lemma =>
                          go_wp2_with fail
                          go_meet
                          case rel => exact ⟨by rw [HVV.out, ← HP.out], HO2.out.alloc _, hb2.alloc hb2.size _⟩
                    have h1' : (W t == 1) = false := by simpa using h1
                    by_cases h2 : W t = 2
                    · have h2' : (W t == 2) = true := by simpa using h2
                      by_cases hpl2 : p < ll
                      · obtain ⟨lb, loff, rfl, hlc⟩ := (Lnk.later HL.out hb2) (by omega)
                        have hlp := hlc p hpl2
                        have hlbs : lb < wc.heap.size := World.block_lt_of_cell? _ _ hlp
                        have hpli : (p : Int) < (ll : Int) := by omega
                        have hpld : decide ((p : Int) < (ll : Int)) = true := decide_eq_true hpli
                        obtain ⟨lv, hlv⟩ : ∃ lv, Lk p = lv := ⟨_, rfl⟩
                        have HVL : Hid (vln ll Lk p = lv) := by show _ = _; unfold vln; rw [decide_eq_true hpl2, hlv]; rfl
                        rw [hlv] at hlp
                        clear hlc
                        cases g1
                        · cases sl
                          · cases lv
                            · skip
                              have HP : Hid ((G J0) = cellB S W t ch false (vln ll Lk p) (G I1) (G J0) (G J1)) := by show _ = _; unfold cellB; rw [if_neg ht, if_neg (by simp), if_neg h0, if_neg h1, if_pos h2, hsl, hg1]; rfl
                              clear h0 h1 h2 hlv
                              as_aux_lemma =>
                                go_wp2_with fail
                                go_meet
                                case rel => exact ⟨by rw [HVV.out, ← HP.out], HO2.out.alloc _, hb2.alloc hb2.size _⟩
                            · skip
                              have HP : Hid ((G J0) = cellB S W t ch false (vln ll Lk p) (G I1) (G J0) (G J1)) := by show _ = _; unfold cellB; rw [if_neg ht, if_neg (by simp), if_neg h0, if_neg h1, if_pos h2, hsl, hg1]; rfl
                              clear h0 h1 h2 hlv
                              as_aux_lemma =>
                                go_wp2_with fail
                                go_meet
                                case rel => exact ⟨by rw [HVV.out, ← HP.out], HO2.out.alloc _, hb2.alloc hb2.size _⟩
                          · cases lv
                            · skip
                              have HP : Hid ((G J0) = cellB S W t ch false (vln ll Lk p) (G I1) (G J0) (G J1)) := by show _ = _; unfold cellB; rw [if_neg ht, if_neg (by simp), if_neg h0, if_neg h1, if_pos h2, hsl, hg1, HVL.out]; rfl
                              clear h0 h1 h2 hlv
                              as_aux_lemma =>
                                go_wp2_with fail
                                go_meet
                                case rel => exact ⟨by rw [HVV.out, ← HP.out], HO2.out.alloc _, hb2.alloc hb2.size _⟩
                            · skip
                              have HP : Hid (false = cellB S W t ch false (vln ll Lk p) (G I1) (G J0) (G J1)) := by show _ = _; unfold cellB; rw [if_neg ht, if_neg (by simp), if_neg h0, if_neg h1, if_pos h2, hsl, hg1, HVL.out]; rfl
                              clear h0 h1 h2 hlv
                              as_aux_lemma =>
                                go_wp2_with fail
                                go_meet
                                case rel => exact ⟨by rw [HVV.out, ← HP.out], HO2.out.alloc _, hb2.alloc hb2.size _⟩
                        · cases lv
                          · skip
                            have HP : Hid (true = cellB S W t ch false (vln ll Lk p) (G I1) (G J0) (G J1)) := by show _ = _; unfold cellB; rw [if_neg ht, if_neg (by simp), if_neg h0, if_neg h1, if_pos h2, hg1]; rfl
                            clear h0 h1 h2 hlv
                            as_aux_lemma =>
                              go_wp2_with fail
                              go_meet
                              case rel => exact ⟨by rw [HVV.out, ← HP.out], HO2.out.alloc _, hb2.alloc hb2.size _⟩
                          · skip
                            have HP : Hid (true = cellB S W t ch false (vln ll Lk p) (G I1) (G J0) (G J1)) := by show _ = _; unfold cellB; rw [if_neg ht, if_neg (by simp), if_neg h0, if_neg h1, if_pos h2, hg1]; rfl
                            clear h0 h1 h2 hlv
                            as_aux_lemma =>
                              go_wp2_with fail
                              go_meet
                              case rel => exact ⟨by rw [HVV.out, ← HP.out], HO2.out.alloc _, hb2.alloc hb2.size _⟩
                      · have HVL : Hid (vln ll Lk p = false) := by show _ = _; unfold vln; rw [decide_eq_false hpl2]; rfl
                        have hpld : decide ((p : Int) < (ll : Int)) = false := decide_eq_false (by omega)
                        cases g1
                        · cases sl
                          · skip
                            have HP : Hid ((G J0) = cellB S W t ch false (vln ll Lk p) (G I1) (G J0) (G J1)) := by show _ = _; unfold cellB; rw [if_neg ht, if_neg (by simp), if_neg h0, if_neg h1, if_pos h2, hsl, hg1]; rfl
                            clear h0 h1 h2
                            as_aux_lemma =>
                              go_wp2_with fail
                              go_meet
                              case rel => exact ⟨by rw [HVV.out, ← HP.out], HO2.out.alloc _, hb2.alloc hb2.size _⟩
                          · skip
                            have HP : Hid ((G J0) = cellB S W t ch false (vln ll Lk p) (G I1) (G J0) (G J1)) := by show _ = _; unfold cellB; rw [if_neg ht, if_neg (by simp), if_neg h0, if_neg h1, if_pos h2, hsl, hg1, HVL.out]; rfl
                            clear h0 h1 h2
                            as_aux_lemma =>
                              go_wp2_with fail
                              go_meet
                              case rel => exact ⟨by rw [HVV.out, ← HP.out], HO2.out.alloc _, hb2.alloc hb2.size _⟩
                        · skip
                          have HP : Hid (true = cellB S W t ch false (vln ll Lk p) (G I1) (G J0) (G J1)) := by show _ = _; unfold cellB; rw [if_neg ht, if_neg (by simp), if_neg h0, if_neg h1, if_pos h2, hg1]; rfl
                          clear h0 h1 h2
                          as_aux_lemma =>
                            go_wp2_with fail
                            go_meet
                            case rel => exact ⟨by rw [HVV.out, ← HP.out], HO2.out.alloc _, hb2.alloc hb2.size _⟩
                    have h2' : (W t == 2) = false := by simpa using h2
                    clear hg1
                    have HP : Hid ((G I1) = cellB S W t ch false (vln ll Lk p) (G I1) (G J0) (G J1)) := by show _ = _; unfold cellB; rw [if_neg ht, if_neg (by simp), if_neg h0, if_neg h1, if_neg h2]
                    clear h0 h1 h2
                    as_aux_lemma =>
                      go_wp2_with fail
                      go_meet
                      case rel => exact ⟨by rw [HVV.out, ← HP.out], HO2.out.alloc _, hb2.alloc hb2.size _⟩
                  · skip
                    have HP : Hid (false = cellB S W t ch true (vln ll Lk p) (G I1) (G J0) (G J1)) := by show _ = _; unfold cellB; rw [if_neg ht, if_pos rfl]
                    as_aux_lemma =>
                      go_wp2_with fail
                      go_meet
                      case rel => exact ⟨by rw [HVV.out, ← HP.out], HO2.out.alloc _, hb2.alloc hb2.size _⟩
            case rest =>
              obtain ⟨vv, hvv⟩ : ∃ vv, vv = T S W n m (chr s st) (hdn s st) (vln ll Lk) (m - p) (n - t) := ⟨_, rfl⟩
              have HVT : Hid (vv = T S W n m (chr s st) (hdn s st) (vln ll Lk) (m - p) (n - t)) := hvv
              rw [← hvv] at hcut
              obtain ⟨rfl, hod, hbd⟩ := hcut
              have HOD : Hid (wc.ownsRow w.heap.size 4 1 (.slice (some ⟨w.heap.size, 0, none⟩) N N) N (boolRow G N)) := hod
              have hcd := boolRow_cell HOD.out I0 hI0N
              have hfd := HOD.out.frozenAt I0
              clear hvv hod hc0 hf0
              have hpr := P0.out
              have hpr0 := P1.out.1
              have hpr1 := P1.out.2
              as_aux_lemma =>
                go_wp2
                go_roundw
                case rel =>
                  obtain ⟨r1, r2, r3⟩ := round_end HOD.out HI0.out hpm HF.out hbd vv HVT.out
                  exact ⟨(t : Int) - 1, _, by omega, by omega, rfl, r1, r2, r3⟩
                case measure => simp [intOf]
          · obtain rfl : t = n := by omega
            clear hpr2 hpr3 hI1N htl
            by_cases hpm' : p = m
            · subst hpm'
              as_aux_lemma =>
                go_wp2
                go_roundw
                case rel =>
                  obtain ⟨r1, r2, r3⟩ := round_end HO.out HI0.out (Nat.le_refl _) HF.out hb true T_end.symm
                  exact ⟨(t : Int) - 1, _, by omega, by omega, rfl, r1, r2, r3⟩
                case measure => simp [intOf]
            · have hpl : p < m := by omega
              have hpb : ((p : Int) == m) = false := by simp; omega
              as_aux_lemma =>
                go_wp2
                go_roundw
                case rel =>
                  obtain ⟨r1, r2, r3⟩ := round_end HO.out HI0.out hpm HF.out hb false (T_none p hpl).symm
                  exact ⟨(t : Int) - 1, _, by omega, by omega, rfl, r1, r2, r3⟩
                case measure => simp [intOf]
        · have eu : u = -1 := by omega
          subst eu
          have HFO : Hid (Fill S W n m (chr s st) (hdn s st) (vln ll Lk) G ((p : Int) - 1)) := by
            intro p' t' h1 h2 h3
            by_cases e : p' = p
            · subst e; exact HF.out.2 t' (by omega) h3
            · exact HF.out.1 p' t' (by omega) h2 h3
          as_aux_lemma =>
            go_wp2
            go_roundw
            case rel => exact ⟨(p : Int) - 1, G, by omega, by omega, rfl, HO.out, HFO.out, hb⟩
            case measure => simp [intOf]
    · have ev : v = -1 := by omega
      subst ev
      have hN0 : 0 < N := by rw [HN.out]; exact Nat.mul_pos (by omega) (by omega)
      have hz := boolRow_cell HO.out 0 hN0
      have HZ : Hid (F 0 = T S W n m (chr s st) (hdn s st) (vln ll Lk) m n) := by
        have := HF.out 0 0 (by omega) (by omega) (by omega)
        show _ = _
        simpa using this
      go_wp2
      go_ret
      exact ⟨ret_bool HZ.out, hb⟩
end Go.Proofs.Qxb6605325a
