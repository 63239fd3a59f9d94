import Derived.Test.Qxb6605343aTk
import Derived.Test.Qxb6605343aEnd
namespace Go.Proofs.Qxb6605343a
open Go.RowKit
set_option linter.unusedVariables false
set_option linter.unusedSimpArgs false
attribute [local go_sem ↓] Go.wp_at_zero Go.wp_at_succ

/-- The loop's relation, under one name. -/
def TRel (w : World) (ob qb n first : Nat) (at0 sh : Int) (nl : Nat) (A V E D Y U : Nat → Int) (P : Nat → Bool) (K : Nat → Int × Int × Bool × Int) (pr B : Nat) (t i : Value) (wr : World) : Prop :=
  ∃ m : Nat, i = .int .i64 ((first + m : Nat) : Int) ∧ t = .int .i64 (lastAt E sh at0 first m) ∧ (∀ j, first ≤ j → j < first + m → j < n ∧ tkb D Y P j = true) ∧
    Tk wr ob qb n (shf A sh first (first + m)) (shf V sh first (first + m)) (shf E sh first (first + m)) D Y (unf U nl first (first + m)) P (km V E D Y P sh K first m) (prm Y first pr m) ∧ Below B w wr

set_option maxRecDepth 20000 in
set_option maxHeartbeats 8000000 in
theorem take_any (rb ob qb n first : Nat) (at0 sh : Int) (la : Option Addr) (nl cl : Nat) (A V E D Y U : Nat → Int) (P : Nat → Bool) (K : Nat → Int × Int × Bool × Int) (pr B : Nat) (w : World)
    (htk : Tk w ob qb n A V E D Y U P K pr) (hr : w.cell? ⟨rb, 5, none⟩ = some (.slice (some ⟨qb, 0, none⟩) n n)) (ho : w.cell? ⟨ob, 2, none⟩ = some (.slice la nl cl)) (hn : n ≤ 1048576) (hpr : pr < 65536)
    (hB : B ≤ w.heap.size) (hBo : B ≤ ob) (hBq : B ≤ qb) (hY : ∀ i, i < n → Y i < 16) (hPD : ∀ i, i < n → P i = true → D i = 3) :
    Calls Try.prog 22 #[.pointer (some ⟨rb, 0, none⟩), .int .i64 first, .int .i64 at0, .int .i64 sh, .pointer (some ⟨ob, 0, none⟩)] w fun e w' =>
      (∃ m : Nat, e = .returned (.tuple #[.int .i64 ((first + m : Nat) : Int), .int .i64 (lastAt E sh at0 first m)]) ∧ (∀ j, first ≤ j → j < first + m → j < n ∧ tkb D Y P j = true) ∧ (first + m < n → tkb D Y P (first + m) = false) ∧
        Tk w' ob qb n (shf A sh first (first + m)) (shf V sh first (first + m)) (shf E sh first (first + m)) D Y (unf U nl first (first + m)) P (km V E D Y P sh K first m) (prm Y first pr m)) ∧ Below B w w' := by
  have HT : Hid (Tk w ob qb n A V E D Y U P K pr) := htk
  have HY : Hid (∀ i, i < n → Y i < 16) := hY
  have HPD : Hid (∀ i, i < n → P i = true → D i = 3) := hPD
  clear htk hY hPD
  go_enter Try.func22, Try.ntmps22
  go_wp2
  clear hr ho
  go_loopw [2, 14] (fun t i wr => TRel w ob qb n first at0 sh nl A V E D Y U P K pr B t i wr) (fun _ i _ => n - (intOf i).toNat)
  case atStart => exact ⟨0, rfl, rfl, fun j h1 h2 => by omega, by rw [Nat.add_zero, shf_zero, shf_zero, shf_zero, unf_zero]; exact HT.out, Below.refl _ _⟩
  case round =>
    obtain ⟨m, rfl, rfl, htb, hk, hb⟩ := hrel
    clear HT
    obtain ⟨i, hi⟩ : ∃ i : Nat, i = first + m := ⟨_, rfl⟩
    have HTB : Hid (∀ j, first ≤ j → j < first + m → j < n ∧ tkb D Y P j = true) := htb
    have HK : Hid (Tk wr ob qb n (shf A sh first (first + m)) (shf V sh first (first + m)) (shf E sh first (first + m)) D Y (unf U nl first (first + m)) P (km V E D Y P sh K first m) (prm Y first pr m)) := hk
    obtain ⟨lat, hlat⟩ : ∃ x, x = lastAt E sh at0 first m := ⟨_, rfl⟩
    have HLAT : Hid (lat = lastAt E sh at0 first m) := hlat
    have hpl := hk.pl
    have hky := hk.ky
    have hkf := hk.kf
    have hpf := hk.pf
    have h70 := hk.pres
    have hne := hk.ne
    have hlo := hk.lo
    have hlq := hk.lq
    rw [← hi] at hpl
    rw [← hi, ← hlat]
    have HI : Hid (i = first + m) := hi
    have hprm : prm Y first pr m < 65536 := prm_lt Y first pr hpr m (fun j a b => by
      have h1 := HTB.out j a b
      have h2 := HY.out j h1.1
      have h3 := h1.2
      unfold tkb at h3
      refine ⟨?_, h2⟩
      by_cases h : Y j < 0
      · rw [decide_eq_true h] at h3; simp at h3
      · omega)
    obtain ⟨pv, hpv⟩ : ∃ x, prm Y first pr m = x := ⟨_, rfl⟩
    rw [hpv] at h70 hprm
    have HPV : Hid (prm Y first pr m = pv) := hpv
    clear hi htb hk hlat hpv
    by_cases hlt : i < n
    · have hlti : (i : Int) < (n : Int) := by omega
      obtain ⟨p0, p1, p2, p3, p4, p5, p9⟩ := hpl i hlt
      rw [shf_self] at p0 p1 p2
      have hy16 := HY.out i hlt
      have hpd := HPD.out i hlt
      obtain ⟨ui, hui⟩ : ∃ x, unf U nl first i i = x := ⟨_, rfl⟩
      obtain ⟨yi, hyi⟩ : ∃ x, Y i = x := ⟨_, rfl⟩
      obtain ⟨di, hdi⟩ : ∃ x, D i = x := ⟨_, rfl⟩
      obtain ⟨pi, hpi⟩ : ∃ x, P i = x := ⟨_, rfl⟩
      obtain ⟨ai, hai⟩ : ∃ x, A i = x := ⟨_, rfl⟩
      obtain ⟨vi, hvi⟩ : ∃ x, V i = x := ⟨_, rfl⟩
      obtain ⟨ei, hei⟩ : ∃ x, E i = x := ⟨_, rfl⟩
      rw [hyi] at p5 hy16
      rw [hdi] at p3 hpd
      rw [hpi] at p4 hpd
      rw [hai] at p0
      rw [hvi] at p1
      rw [hei] at p2
      rw [hui] at p9
      have HYI : Hid (Y i = yi) := hyi
      have HDI : Hid (D i = di) := hdi
      have HPI : Hid (P i = pi) := hpi
      have HAI : Hid (A i = ai) := hai
      have HVI : Hid (V i = vi) := hvi
      have HEI : Hid (E i = ei) := hei
      clear hui hyi hdi hpi hai hvi hei hpl
      by_cases y0 : yi < 0
      · have HF : Hid (tkb D Y P i = false) := by unfold tkb; rw [HYI.out, decide_eq_true y0]; rfl
        go_wp2
        go_ret2
        exact ⟨⟨m, by rw [HI.out, HLAT.out]; rfl, HTB.out, fun _ => by rw [← HI.out]; exact HF.out, HK.out⟩, hb⟩
      have y0' : decide (yi < 0) = false := decide_eq_false y0
      by_cases d4 : (di == 4) = true
      · have e4 : di = 4 := by simpa using d4
        subst e4
        have HF : Hid (tkb D Y P i = false) := by show _ = _; unfold tkb; rw [HDI.out]; simp
        go_wp2
        go_ret2
        exact ⟨⟨m, by rw [HI.out, HLAT.out]; rfl, HTB.out, fun _ => by rw [← HI.out]; exact HF.out, HK.out⟩, hb⟩
      by_cases d5 : (di == 5) = true
      · have e5 : di = 5 := by simpa using d5
        subst e5
        have HF : Hid (tkb D Y P i = false) := by show _ = _; unfold tkb; rw [HDI.out]; simp
        go_wp2
        go_ret2
        exact ⟨⟨m, by rw [HI.out, HLAT.out]; rfl, HTB.out, fun _ => by rw [← HI.out]; exact HF.out, HK.out⟩, hb⟩
      have d4' : (di == 4) = false := by simpa using d4
      have d5' : (di == 5) = false := by simpa using d5
      obtain ⟨k, hk'⟩ : ∃ k : Nat, yi = k := ⟨yi.toNat, by omega⟩
      have hk16 : k < 16 := by omega
      have hk16i : (k : Int) < 16 := by omega
      subst hk'
      obtain ⟨q0, q1, q2, q3⟩ := hky k hk16
      obtain ⟨g0, hg0⟩ : ∃ x, (km V E D Y P sh K first m k).1 = x := ⟨_, rfl⟩
      obtain ⟨g1, hg1⟩ : ∃ x, (km V E D Y P sh K first m k).2.1 = x := ⟨_, rfl⟩
      obtain ⟨g2, hg2⟩ : ∃ x, (km V E D Y P sh K first m k).2.2.1 = x := ⟨_, rfl⟩
      obtain ⟨g3, hg3⟩ : ∃ x, (km V E D Y P sh K first m k).2.2.2 = x := ⟨_, rfl⟩
      rw [hg0] at q0
      rw [hg1] at q1
      rw [hg2] at q2
      rw [hg3] at q3
      clear hg0 hg1 hg2 hg3 hky y0 d4 d5
      cases pi
      · by_cases d3 : (di == 3) = true
        · have e3 : di = 3 := by simpa using d3
          subst e3
          have HF : Hid (tkb D Y P i = false) := by show _ = _; unfold tkb; rw [HDI.out, HPI.out]; simp
          go_wp2
          go_ret2
          exact ⟨⟨m, by rw [HI.out, HLAT.out]; rfl, HTB.out, fun _ => by rw [← HI.out]; exact HF.out, HK.out⟩, hb⟩
        have d3' : (di == 3) = false := by simpa using d3
        clear d3
        have HTK : Hid (tkb D Y P i = true) := by
          show _ = _
          unfold tkb; rw [HYI.out, HDI.out, HPI.out, y0', d3', d4', d5']; rfl
        clear hpd
        go_upto_region 8 with fail
        go_region
        obtain ⟨wy, hwy⟩ : ∃ wy, wy = ((((wr.setCell ⟨qb, i * 10, none⟩ (.int .i64 (wrap64 (ai + sh)))).setCell ⟨qb, i * 10 + 1, none⟩ (.int .i64 (wrap64 (vi + sh)))).setCell ⟨qb, i * 10 + 2, none⟩ (.int .i64 (wrap64 (ei + sh)))).setCell ⟨qb, i * 10 + 9, none⟩ (.int .i64 nl)).drew := ⟨_, rfl⟩
        rw [← hwy]
        obtain ⟨a1, ha1⟩ : ∃ x, x = wrap64 (ai + sh) := ⟨_, rfl⟩
        obtain ⟨v1, hv1⟩ : ∃ x, x = wrap64 (vi + sh) := ⟨_, rfl⟩
        obtain ⟨e1, he1⟩ : ∃ x, x = wrap64 (ei + sh) := ⟨_, rfl⟩
        rw [← ha1, ← hv1, ← he1] at hwy ⊢
        have hk2 : Tk wy ob qb n (shf A sh first (first + (m + 1))) (shf V sh first (first + (m + 1))) (shf E sh first (first + (m + 1))) D Y (unf U nl first (first + (m + 1))) P (km V E D Y P sh K first m) (prm Y first pr m) := by
          have h := (HK.out.place i hlt a1 v1 e1 nl).drew
          have hA := HAI.out
          have hV := HVI.out
          have hE := HEI.out
          rw [← hwy, ha1, hv1, he1, ← hA, ← hV, ← hE, HI.out, shf_upd _ _ _ _ (by omega), shf_upd _ _ _ _ (by omega), shf_upd _ _ _ _ (by omega), unf_upd _ _ _ _ (by omega)] at h
          exact h
        have hb2 : Below B w wy := by rw [hwy]; exact ((((hb.setCell (p := ⟨qb, i * 10, none⟩) hBq _).setCell (p := ⟨qb, i * 10 + 1, none⟩) hBq _).setCell (p := ⟨qb, i * 10 + 2, none⟩) hBq _).setCell (p := ⟨qb, i * 10 + 9, none⟩) hBq _).drew
        have HK2 : Hid (Tk wy ob qb n (shf A sh first (first + (m + 1))) (shf V sh first (first + (m + 1))) (shf E sh first (first + (m + 1))) D Y (unf U nl first (first + (m + 1))) P (km V E D Y P sh K first m) (prm Y first pr m)) := hk2
        have c1 : wy.cell? ⟨qb, i * 10 + 1, none⟩ = some (.int .i64 v1) := by rw [hwy]; simp [World.cell?_setCell_same', World.cell?_setCell_other, p0, p1, p2, p9]
        have c2 : wy.cell? ⟨qb, i * 10 + 2, none⟩ = some (.int .i64 e1) := by rw [hwy]; simp [World.cell?_setCell_same', World.cell?_setCell_other, p0, p1, p2, p9]
        clear p0 p1 p2 p3 p4 p5 p9 q0 q1 q2 q3 hkf hpf h70 hlo hlq hwy hb HK
        obtain ⟨-, -, -, p3, p4, p5, -⟩ := hk2.pl i hlt
        obtain ⟨q0, q1, q2, q3⟩ := hk2.ky k hk16
        have hkf := hk2.kf
        have hpf := hk2.pf
        have h70 := hk2.pres
        have hlo := hk2.lo
        have hlq := hk2.lq
        rw [HDI.out] at p3
        rw [HPI.out] at p4
        rw [HYI.out] at p5
        rw [HPV.out] at h70
        obtain ⟨g0, hg0⟩ : ∃ x, (km V E D Y P sh K first m k).1 = x := ⟨_, rfl⟩
        obtain ⟨g1, hg1⟩ : ∃ x, (km V E D Y P sh K first m k).2.1 = x := ⟨_, rfl⟩
        obtain ⟨g2, hg2⟩ : ∃ x, (km V E D Y P sh K first m k).2.2.1 = x := ⟨_, rfl⟩
        obtain ⟨g3, hg3⟩ : ∃ x, (km V E D Y P sh K first m k).2.2.2 = x := ⟨_, rfl⟩
        rw [hg0] at q0
        rw [hg1] at q1
        rw [hg2] at q2
        rw [hg3] at q3
        have HA1 : Hid (a1 = wrap64 (ai + sh)) := ha1
        have HV1 : Hid (v1 = wrap64 (vi + sh)) := hv1
        have HE1 : Hid (e1 = wrap64 (ei + sh)) := he1
        clear hk2 ha1 hv1 he1 hg0 hg1 hg2 hg3
        go_wp2
        go_region
        go_wp2
        go_region
        obtain ⟨wz, hwz⟩ : ∃ wz, wz = (((((wy.setCell ⟨ob, 6 + k * 4, none⟩ (.int .i64 (v1))).setCell ⟨ob, 6 + k * 4 + 1, none⟩ (.int .i64 (e1))).setCell ⟨ob, 6 + k * 4 + 2, none⟩ (.bool false)).setCell ⟨ob, 6 + k * 4 + 3, none⟩ (.int .i64 di)).alloc (Obj.cells #[.int .i64 (v1), .int .i64 (e1), .bool false, .int .i64 di] 63)).drew.drew := ⟨_, rfl⟩
        rw [← hwz]
        have hk3 : Tk wz ob qb n (shf A sh first (first + (m + 1))) (shf V sh first (first + (m + 1))) (shf E sh first (first + (m + 1))) D Y (unf U nl first (first + (m + 1))) P (km V E D Y P sh K first (m + 1)) (prm Y first pr m) := by
          have h := (HK2.out.key k hk16 (v1) (e1) di).alloc (Obj.cells #[.int .i64 (v1), .int .i64 (e1), .bool false, .int .i64 di] 63)
          have hnv : (v1, e1, false, di) = nv V E D P sh (first + m) := by
            unfold nv
            rw [← HI.out, HPI.out, HVI.out, HEI.out, HDI.out, HV1.out, HE1.out]
            rw [if_neg (by simp)]
          rw [hnv, km_upd _ _ _ _ _ _ _ _ _ _ (by rw [← HI.out]; exact HYI.out)] at h
          rw [hwz]
          exact h.drew.drew
        have hb3 : Below B w wz := by
          rw [hwz]
          exact (((((hb2.setCell (p := ⟨ob, 6 + k * 4, none⟩) hBo _).setCell (p := ⟨ob, 6 + k * 4 + 1, none⟩) hBo _).setCell (p := ⟨ob, 6 + k * 4 + 2, none⟩) hBo _).setCell (p := ⟨ob, 6 + k * 4 + 3, none⟩) hBo _).alloc (by have := hb2.size; simp; omega) _).drew.drew
        have HK3 : Hid (Tk wz ob qb n (shf A sh first (first + (m + 1))) (shf V sh first (first + (m + 1))) (shf E sh first (first + (m + 1))) D Y (unf U nl first (first + (m + 1))) P (km V E D Y P sh K first (m + 1)) (prm Y first pr m)) := hk3
        clear c1 c2 p3 p4 p5 q0 q1 q2 q3 hkf hpf h70 hlo hlq hwz hb2 HK2
        obtain ⟨-, -, c2, -, -, p5, -⟩ := hk3.pl i hlt
        have hkf := hk3.kf
        have h70 := hk3.pres
        have hlo := hk3.lo
        have hlq := hk3.lq
        have hE1 : shf E sh first (first + (m + 1)) i = e1 := by
          have := HI.out
          rw [HE1.out, ← HEI.out]
          exact if_pos (by omega)
        rw [hE1] at c2
        rw [HYI.out] at p5
        rw [HPV.out] at h70
        clear hk3 hE1
        go_wp2
        obtain ⟨kb, hkb⟩ : ∃ kb, 2 ^ k = kb := ⟨_, rfl⟩
        obtain ⟨po, hpo⟩ : ∃ po, pv ||| kb = po := ⟨_, rfl⟩
        refine reg13 ob qb (i * 10) k pv kb po hk16 hprm hkb hpo wz _ h70 (hkf 70) p5 _ _ _ _ _ _ _ _ _ _ _ _ _ _ _ _ _ _ _ _ _ _ _ _ _ _ _ _ _ _ _ _ _ _ _ _ _ _ _ _ _ _ _ _ _ _ _ _ _ _ _ _ _ _ _ _ _ _ _ _ _ _ _ _ _ _ _ _ _ _ _ _ _ _ _ _ _ _ _ _ _ _ _ _ _ _ _ _ _ _ _ _ _ _ _ _ _ _ _ _ _ _ _ _ _ _ _ _ _ _ _ _ _ _ _ _ _ _ _ _ _ _ _ _ _ _ _ _ _ _ _ _ _ _ _ _ _ _ _ _ _ _ _ _ _ _ _ _ _ _ _ _ _ _ _ ?_
        have HPO : Hid (pv ||| 2 ^ k = po) := by show _ = _; rw [hkb, hpo]
        clear hkb hpo
        obtain ⟨wq, hwq⟩ : ∃ wq, wq = (wz.setCell ⟨ob, 70, none⟩ (.int .u16 po)).drew := ⟨_, rfl⟩
        rw [← hwq]
        have hk4 : Tk wq ob qb n (shf A sh first (first + (m + 1))) (shf V sh first (first + (m + 1))) (shf E sh first (first + (m + 1))) D Y (unf U nl first (first + (m + 1))) P (km V E D Y P sh K first (m + 1)) (prm Y first pr (m + 1)) := by
          have h := (HK3.out.setPres po).drew
          have e : prm Y first pr (m + 1) = po := by rw [prm, HPV.out, ← HI.out, HYI.out, Int.toNat_natCast]; exact HPO.out
          rw [hwq, e]; exact h
        have hb4 : Below B w wq := by rw [hwq]; exact (hb3.setCell (p := ⟨ob, 70, none⟩) hBo _).drew
        have c3 : wq.cell? ⟨qb, i * 10 + 2, none⟩ = some (.int .i64 e1) := by rw [hwq]; exact (sc_ne _ _ _ _ _ _ (.inl hne)).trans c2
        have HK4 : Hid (Tk wq ob qb n (shf A sh first (first + (m + 1))) (shf V sh first (first + (m + 1))) (shf E sh first (first + (m + 1))) D Y (unf U nl first (first + (m + 1))) P (km V E D Y P sh K first (m + 1)) (prm Y first pr (m + 1))) := hk4
        clear hk4 HK3 hwq hb3 c2 p5 hkf h70 hlo hlq
        rename_i Ka hKa g0x g1x g2x g3x Qb Kb hKb Kc hKc
        refine hKc _ _ ?_
        refine reg14 qb (i * 10) e1 wq _ c3 _ _ _ _ _ _ _ _ _ _ _ _ _ _ _ _ _ _ _ _ _ _ _ _ _ _ _ _ _ _ _ _ _ _ _ _ _ _ _ _ _ _ _ _ _ _ _ _ _ _ _ _ _ _ _ _ _ _ _ _ _ _ _ _ _ _ _ _ _ _ _ _ _ _ _ _ _ _ _ _ _ _ _ _ _ _ _ _ _ _ _ _ _ _ _ _ _ _ _ _ _ _ _ _ _ _ _ _ _ _ _ _ _ _ _ _ _ _ _ _ _ _ _ _ _ _ _ _ _ _ _ _ _ _ _ _ _ _ _ _ _ _ _ _ _ _ _ _ _ _ _ _ _ _ _ _ ?_
        refine hKb _ _ ?_
        refine reg5 i (by omega) wq _ _ _ _ _ _ _ _ _ _ _ _ _ _ _ _ _ _ _ _ _ _ _ _ _ _ _ _ _ _ _ _ _ _ _ _ _ _ _ _ _ _ _ _ _ _ _ _ _ _ _ _ _ _ _ _ _ _ _ _ _ _ _ _ _ _ _ _ _ _ _ _ _ _ _ _ _ _ _ _ _ _ _ _ _ _ _ _ _ _ _ _ _ _ _ _ _ _ _ _ _ _ _ _ _ _ _ _ _ _ _ _ _ _ _ _ _ _ _ _ _ _ _ _ _ _ _ _ _ _ _ _ _ _ _ _ _ _ _ _ _ _ _ _ _ _ _ _ _ _ _ _ _ _ _ _ _ ?_
        clear hKc hKb
        change Exit.then _ _ _ _ _
        clear Qb Kb Kc
        refine rend (fun t i w' => TRel w ob qb n first at0 sh nl A V E D Y U P K pr B t i w') n _ _ wq _ _ _ _ _ _ _ _ _ _ _ _ _ _ _ _ _ _ _ _ _ _ _ _ _ _ _ _ _ _ _ _ _ _ _ _ _ _ _ _ _ _ _ _ _ _ _ _ _ _ _ _ _ _ _ _ _ _ _ _ _ _ _ _ _ _ _ _ _ _ _ _ _ _ _ _ _ _ _ _ _ _ _ _ _ _ _ _ _ _ _ _ _ _ _ _ _ _ _ _ _ _ _ _ _ _ _ _ _ _ _ _ _ _ _ _ _ _ _ _ _ _ _ _ _ _ _ _ _ _ _ _ _ _ _ _ _ _ _ _ _ _ _ _ _ _ _ _ _ _ _ _ _ _ _ _ _ ?_ ?_
        · refine ⟨m + 1, ?_, ?_, ?_, HK4.out, hb4⟩
          · have := HI.out
            exact congrArg (Value.int .i64) (by omega)
          · rw [lastAt, ← HI.out, HEI.out, ← HE1.out]
          · intro j h1 h2
            by_cases e : j = i
            · rw [e]; exact ⟨hlt, HTK.out⟩
            · have := HI.out; exact HTB.out j h1 (by omega)
        · show n - (intOf (.int .i64 ((i : Int) + 1))).toNat < n - (intOf (.int .i64 (i : Int))).toNat
          simp [intOf]; omega
      · have e3 : di = 3 := hpd rfl
        subst e3
        have HTK : Hid (tkb D Y P i = true) := by
          show _ = _
          unfold tkb; rw [HYI.out, HDI.out, HPI.out, y0']; rfl
        clear hpd
        go_upto_region 8 with fail
        go_region
        obtain ⟨wy, hwy⟩ : ∃ wy, wy = ((((wr.setCell ⟨qb, i * 10, none⟩ (.int .i64 (wrap64 (ai + sh)))).setCell ⟨qb, i * 10 + 1, none⟩ (.int .i64 (wrap64 (vi + sh)))).setCell ⟨qb, i * 10 + 2, none⟩ (.int .i64 (wrap64 (ei + sh)))).setCell ⟨qb, i * 10 + 9, none⟩ (.int .i64 nl)).drew := ⟨_, rfl⟩
        rw [← hwy]
        obtain ⟨a1, ha1⟩ : ∃ x, x = wrap64 (ai + sh) := ⟨_, rfl⟩
        obtain ⟨v1, hv1⟩ : ∃ x, x = wrap64 (vi + sh) := ⟨_, rfl⟩
        obtain ⟨e1, he1⟩ : ∃ x, x = wrap64 (ei + sh) := ⟨_, rfl⟩
        rw [← ha1, ← hv1, ← he1] at hwy ⊢
        have hk2 : Tk wy ob qb n (shf A sh first (first + (m + 1))) (shf V sh first (first + (m + 1))) (shf E sh first (first + (m + 1))) D Y (unf U nl first (first + (m + 1))) P (km V E D Y P sh K first m) (prm Y first pr m) := by
          have h := (HK.out.place i hlt a1 v1 e1 nl).drew
          have hA := HAI.out
          have hV := HVI.out
          have hE := HEI.out
          rw [← hwy, ha1, hv1, he1, ← hA, ← hV, ← hE, HI.out, shf_upd _ _ _ _ (by omega), shf_upd _ _ _ _ (by omega), shf_upd _ _ _ _ (by omega), unf_upd _ _ _ _ (by omega)] at h
          exact h
        have hb2 : Below B w wy := by rw [hwy]; exact ((((hb.setCell (p := ⟨qb, i * 10, none⟩) hBq _).setCell (p := ⟨qb, i * 10 + 1, none⟩) hBq _).setCell (p := ⟨qb, i * 10 + 2, none⟩) hBq _).setCell (p := ⟨qb, i * 10 + 9, none⟩) hBq _).drew
        have HK2 : Hid (Tk wy ob qb n (shf A sh first (first + (m + 1))) (shf V sh first (first + (m + 1))) (shf E sh first (first + (m + 1))) D Y (unf U nl first (first + (m + 1))) P (km V E D Y P sh K first m) (prm Y first pr m)) := hk2
        have c1 : wy.cell? ⟨qb, i * 10 + 1, none⟩ = some (.int .i64 v1) := by rw [hwy]; simp [World.cell?_setCell_same', World.cell?_setCell_other, p0, p1, p2, p9]
        have c2 : wy.cell? ⟨qb, i * 10 + 2, none⟩ = some (.int .i64 e1) := by rw [hwy]; simp [World.cell?_setCell_same', World.cell?_setCell_other, p0, p1, p2, p9]
        clear p0 p1 p2 p3 p4 p5 p9 q0 q1 q2 q3 hkf hpf h70 hlo hlq hwy hb HK
        obtain ⟨-, -, -, p3, p4, p5, -⟩ := hk2.pl i hlt
        obtain ⟨q0, q1, q2, q3⟩ := hk2.ky k hk16
        have hkf := hk2.kf
        have hpf := hk2.pf
        have h70 := hk2.pres
        have hlo := hk2.lo
        have hlq := hk2.lq
        rw [HDI.out] at p3
        rw [HPI.out] at p4
        rw [HYI.out] at p5
        rw [HPV.out] at h70
        obtain ⟨g0, hg0⟩ : ∃ x, (km V E D Y P sh K first m k).1 = x := ⟨_, rfl⟩
        obtain ⟨g1, hg1⟩ : ∃ x, (km V E D Y P sh K first m k).2.1 = x := ⟨_, rfl⟩
        obtain ⟨g2, hg2⟩ : ∃ x, (km V E D Y P sh K first m k).2.2.1 = x := ⟨_, rfl⟩
        obtain ⟨g3, hg3⟩ : ∃ x, (km V E D Y P sh K first m k).2.2.2 = x := ⟨_, rfl⟩
        rw [hg0] at q0
        rw [hg1] at q1
        rw [hg2] at q2
        rw [hg3] at q3
        have HA1 : Hid (a1 = wrap64 (ai + sh)) := ha1
        have HV1 : Hid (v1 = wrap64 (vi + sh)) := hv1
        have HE1 : Hid (e1 = wrap64 (ei + sh)) := he1
        clear hk2 ha1 hv1 he1 hg0 hg1 hg2 hg3
        go_wp2
        go_region
        go_wp2
        go_region
        obtain ⟨s1, hs1⟩ : ∃ x, x = wrap64 (v1 + 1) := ⟨_, rfl⟩
        obtain ⟨s2, hs2⟩ : ∃ x, x = wrap64 (e1 - 1) := ⟨_, rfl⟩
        rw [← hs1, ← hs2]
        have HS1 : Hid (s1 = wrap64 (v1 + 1)) := hs1
        have HS2 : Hid (s2 = wrap64 (e1 - 1)) := hs2
        clear hs1 hs2
        go_wp2
        go_region
        obtain ⟨wz, hwz⟩ : ∃ wz, wz = (((((wy.setCell ⟨ob, 6 + k * 4, none⟩ (.int .i64 (s1))).setCell ⟨ob, 6 + k * 4 + 1, none⟩ (.int .i64 (s2))).setCell ⟨ob, 6 + k * 4 + 2, none⟩ (.bool false)).setCell ⟨ob, 6 + k * 4 + 3, none⟩ (.int .i64 3)).alloc (Obj.cells #[.int .i64 (s1), .int .i64 (s2), .bool false, .int .i64 3] 63)).drew.drew.drew := ⟨_, rfl⟩
        rw [← hwz]
        have hk3 : Tk wz ob qb n (shf A sh first (first + (m + 1))) (shf V sh first (first + (m + 1))) (shf E sh first (first + (m + 1))) D Y (unf U nl first (first + (m + 1))) P (km V E D Y P sh K first (m + 1)) (prm Y first pr m) := by
          have h := (HK2.out.key k hk16 (s1) (s2) 3).alloc (Obj.cells #[.int .i64 (s1), .int .i64 (s2), .bool false, .int .i64 3] 63)
          have hnv : (s1, s2, false, 3) = nv V E D P sh (first + m) := by
            unfold nv
            rw [← HI.out, HPI.out, HVI.out, HEI.out, HDI.out, HS1.out, HS2.out, HV1.out, HE1.out]
            rw [if_pos rfl]
          rw [hnv, km_upd _ _ _ _ _ _ _ _ _ _ (by rw [← HI.out]; exact HYI.out)] at h
          rw [hwz]
          exact h.drew.drew.drew
        have hb3 : Below B w wz := by
          rw [hwz]
          exact (((((hb2.setCell (p := ⟨ob, 6 + k * 4, none⟩) hBo _).setCell (p := ⟨ob, 6 + k * 4 + 1, none⟩) hBo _).setCell (p := ⟨ob, 6 + k * 4 + 2, none⟩) hBo _).setCell (p := ⟨ob, 6 + k * 4 + 3, none⟩) hBo _).alloc (by have := hb2.size; simp; omega) _).drew.drew.drew
        have HK3 : Hid (Tk wz ob qb n (shf A sh first (first + (m + 1))) (shf V sh first (first + (m + 1))) (shf E sh first (first + (m + 1))) D Y (unf U nl first (first + (m + 1))) P (km V E D Y P sh K first (m + 1)) (prm Y first pr m)) := hk3
        clear c1 c2 p3 p4 p5 q0 q1 q2 q3 hkf hpf h70 hlo hlq hwz hb2 HK2
        obtain ⟨-, -, c2, -, -, p5, -⟩ := hk3.pl i hlt
        have hkf := hk3.kf
        have h70 := hk3.pres
        have hlo := hk3.lo
        have hlq := hk3.lq
        have hE1 : shf E sh first (first + (m + 1)) i = e1 := by
          have := HI.out
          rw [HE1.out, ← HEI.out]
          exact if_pos (by omega)
        rw [hE1] at c2
        rw [HYI.out] at p5
        rw [HPV.out] at h70
        clear hk3 hE1
        go_wp2
        obtain ⟨kb, hkb⟩ : ∃ kb, 2 ^ k = kb := ⟨_, rfl⟩
        obtain ⟨po, hpo⟩ : ∃ po, pv ||| kb = po := ⟨_, rfl⟩
        refine reg13 ob qb (i * 10) k pv kb po hk16 hprm hkb hpo wz _ h70 (hkf 70) p5 _ _ _ _ _ _ _ _ _ _ _ _ _ _ _ _ _ _ _ _ _ _ _ _ _ _ _ _ _ _ _ _ _ _ _ _ _ _ _ _ _ _ _ _ _ _ _ _ _ _ _ _ _ _ _ _ _ _ _ _ _ _ _ _ _ _ _ _ _ _ _ _ _ _ _ _ _ _ _ _ _ _ _ _ _ _ _ _ _ _ _ _ _ _ _ _ _ _ _ _ _ _ _ _ _ _ _ _ _ _ _ _ _ _ _ _ _ _ _ _ _ _ _ _ _ _ _ _ _ _ _ _ _ _ _ _ _ _ _ _ _ _ _ _ _ _ _ _ _ _ _ _ _ _ _ ?_
        have HPO : Hid (pv ||| 2 ^ k = po) := by show _ = _; rw [hkb, hpo]
        clear hkb hpo
        obtain ⟨wq, hwq⟩ : ∃ wq, wq = (wz.setCell ⟨ob, 70, none⟩ (.int .u16 po)).drew := ⟨_, rfl⟩
        rw [← hwq]
        have hk4 : Tk wq ob qb n (shf A sh first (first + (m + 1))) (shf V sh first (first + (m + 1))) (shf E sh first (first + (m + 1))) D Y (unf U nl first (first + (m + 1))) P (km V E D Y P sh K first (m + 1)) (prm Y first pr (m + 1)) := by
          have h := (HK3.out.setPres po).drew
          have e : prm Y first pr (m + 1) = po := by rw [prm, HPV.out, ← HI.out, HYI.out, Int.toNat_natCast]; exact HPO.out
          rw [hwq, e]; exact h
        have hb4 : Below B w wq := by rw [hwq]; exact (hb3.setCell (p := ⟨ob, 70, none⟩) hBo _).drew
        have c3 : wq.cell? ⟨qb, i * 10 + 2, none⟩ = some (.int .i64 e1) := by rw [hwq]; exact (sc_ne _ _ _ _ _ _ (.inl hne)).trans c2
        have HK4 : Hid (Tk wq ob qb n (shf A sh first (first + (m + 1))) (shf V sh first (first + (m + 1))) (shf E sh first (first + (m + 1))) D Y (unf U nl first (first + (m + 1))) P (km V E D Y P sh K first (m + 1)) (prm Y first pr (m + 1))) := hk4
        clear hk4 HK3 hwq hb3 c2 p5 hkf h70 hlo hlq
        rename_i Ka hKa g0x g1x g2x g3x Qb Kb hKb Kc hKc
        refine hKc _ _ ?_
        refine reg14 qb (i * 10) e1 wq _ c3 _ _ _ _ _ _ _ _ _ _ _ _ _ _ _ _ _ _ _ _ _ _ _ _ _ _ _ _ _ _ _ _ _ _ _ _ _ _ _ _ _ _ _ _ _ _ _ _ _ _ _ _ _ _ _ _ _ _ _ _ _ _ _ _ _ _ _ _ _ _ _ _ _ _ _ _ _ _ _ _ _ _ _ _ _ _ _ _ _ _ _ _ _ _ _ _ _ _ _ _ _ _ _ _ _ _ _ _ _ _ _ _ _ _ _ _ _ _ _ _ _ _ _ _ _ _ _ _ _ _ _ _ _ _ _ _ _ _ _ _ _ _ _ _ _ _ _ _ _ _ _ _ _ _ _ _ ?_
        refine hKb _ _ ?_
        refine reg5 i (by omega) wq _ _ _ _ _ _ _ _ _ _ _ _ _ _ _ _ _ _ _ _ _ _ _ _ _ _ _ _ _ _ _ _ _ _ _ _ _ _ _ _ _ _ _ _ _ _ _ _ _ _ _ _ _ _ _ _ _ _ _ _ _ _ _ _ _ _ _ _ _ _ _ _ _ _ _ _ _ _ _ _ _ _ _ _ _ _ _ _ _ _ _ _ _ _ _ _ _ _ _ _ _ _ _ _ _ _ _ _ _ _ _ _ _ _ _ _ _ _ _ _ _ _ _ _ _ _ _ _ _ _ _ _ _ _ _ _ _ _ _ _ _ _ _ _ _ _ _ _ _ _ _ _ _ _ _ _ _ ?_
        clear hKc hKb
        change Exit.then _ _ _ _ _
        clear Qb Kb Kc
        refine rend (fun t i w' => TRel w ob qb n first at0 sh nl A V E D Y U P K pr B t i w') n _ _ wq _ _ _ _ _ _ _ _ _ _ _ _ _ _ _ _ _ _ _ _ _ _ _ _ _ _ _ _ _ _ _ _ _ _ _ _ _ _ _ _ _ _ _ _ _ _ _ _ _ _ _ _ _ _ _ _ _ _ _ _ _ _ _ _ _ _ _ _ _ _ _ _ _ _ _ _ _ _ _ _ _ _ _ _ _ _ _ _ _ _ _ _ _ _ _ _ _ _ _ _ _ _ _ _ _ _ _ _ _ _ _ _ _ _ _ _ _ _ _ _ _ _ _ _ _ _ _ _ _ _ _ _ _ _ _ _ _ _ _ _ _ _ _ _ _ _ _ _ _ _ _ _ _ _ _ _ _ ?_ ?_
        · refine ⟨m + 1, ?_, ?_, ?_, HK4.out, hb4⟩
          · have := HI.out
            exact congrArg (Value.int .i64) (by omega)
          · rw [lastAt, ← HI.out, HEI.out, ← HE1.out]
          · intro j h1 h2
            by_cases e : j = i
            · rw [e]; exact ⟨hlt, HTK.out⟩
            · have := HI.out; exact HTB.out j h1 (by omega)
        · show n - (intOf (.int .i64 ((i : Int) + 1))).toNat < n - (intOf (.int .i64 (i : Int))).toNat
          simp [intOf]; omega
    · have hge : ¬ (i : Int) < (n : Int) := by omega
      go_wp2
      go_ret2
      exact ⟨⟨m, by rw [HI.out, HLAT.out]; rfl, HTB.out, fun h => by have := HI.out; omega, HK.out⟩, hb⟩
end Go.Proofs.Qxb6605343a
