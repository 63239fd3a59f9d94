import Derived.Test.Qxb6605343aTake
import Derived.Test.Qxb6605343aReg37
import Derived.Great.BuildSlice
namespace Go.Proofs.Qxb6605343a
open Go.RowKit
set_option linter.unusedVariables false
attribute [local go_sem ↓] Go.wp_at_zero Go.wp_at_succ

theorem Try.inf68 : (Try.prog.info? 68).map (fun i => (i.zero.isSome, i.size, i.bytes)) = some (true, 10, 80) := by kernel_rfl
theorem inf68_parts : ∃ i0 z, Try.prog.info? 68 = some i0 ∧ i0.zero = some z ∧ i0.size = 10 ∧ i0.bytes = 80 := by
  have := Try.inf68
  cases h : Try.prog.info? 68 with
  | none => rw [h] at this; cases this
  | some i =>
    rw [h] at this
    have h1 := Option.some.inj this
    simp only [Prod.mk.injEq] at h1
    obtain ⟨z, hz⟩ := Option.isSome_iff_exists.1 h1.1
    exact ⟨i, z, rfl, hz, h1.2.1, h1.2.2⟩
/-- The cells of an object with the given unescaped and present. -/
def ob66 (unesc pres : Value) : Array Value :=
  #[.slice none 0 0, .slice none 0 0, unesc, .map none, .int .u64 0, .pointer none,
    .int .i64 0, .int .i64 0, .bool false, .int .i64 0, .int .i64 0, .int .i64 0, .bool false, .int .i64 0, .int .i64 0, .int .i64 0, .bool false, .int .i64 0, .int .i64 0, .int .i64 0, .bool false, .int .i64 0,
    .int .i64 0, .int .i64 0, .bool false, .int .i64 0, .int .i64 0, .int .i64 0, .bool false, .int .i64 0, .int .i64 0, .int .i64 0, .bool false, .int .i64 0, .int .i64 0, .int .i64 0, .bool false, .int .i64 0,
    .int .i64 0, .int .i64 0, .bool false, .int .i64 0, .int .i64 0, .int .i64 0, .bool false, .int .i64 0, .int .i64 0, .int .i64 0, .bool false, .int .i64 0, .int .i64 0, .int .i64 0, .bool false, .int .i64 0,
    .int .i64 0, .int .i64 0, .bool false, .int .i64 0, .int .i64 0, .int .i64 0, .bool false, .int .i64 0, .int .i64 0, .int .i64 0, .bool false, .int .i64 0, .int .i64 0, .int .i64 0, .bool false, .int .i64 0,
    pres, .slice none 0 0, .bool false, .bool false, .slice none 0 0]
theorem built66b (la : Option Addr) (nl cl pr : Nat) : Try.prog.built 66 [(2, .slice la nl cl), (7, .int .u16 pr)] = some (ob66 (.slice la nl cl) (.int .u16 pr)) := by kernel_rfl


theorem hp_new {w : World} (o : Obj) {N : Nat} (h : w.heap.size = N) : (w.alloc o).heap[N]? = some o := h ▸ heap_alloc_new w o
theorem hp_size {w : World} (o : Obj) {N : Nat} (h : w.heap.size = N) : (w.alloc o).heap.size = N + 1 := by simp [h]
theorem hp_old {w : World} (o : Obj) {N i : Nat} {v : Obj} (h : w.heap.size = N) (hi : i < N) (hv : w.heap[i]? = some v) : (w.alloc o).heap[i]? = some v := (Below.heap_alloc w o i (by omega)).trans hv
theorem alloc8 (w : World) (o0 o1 o2 o3 o4 o5 o6 o7 : Obj) : ∃ w0, w0 = ((((((((w.alloc o0).alloc o1).alloc o2).alloc o3).alloc o4).alloc o5).alloc o6).alloc o7) ∧ (w0.heap[w.heap.size]? = some o0 ∧ w0.heap[w.heap.size + 1]? = some o1 ∧ w0.heap[w.heap.size + 1 + 1]? = some o2 ∧ w0.heap[w.heap.size + 1 + 1 + 1]? = some o3) ∧
    (w0.heap[w.heap.size + 1 + 1 + 1 + 1]? = some o4 ∧ w0.heap[w.heap.size + 1 + 1 + 1 + 1 + 1]? = some o5 ∧ w0.heap[w.heap.size + 1 + 1 + 1 + 1 + 1 + 1]? = some o6 ∧ w0.heap[w.heap.size + 1 + 1 + 1 + 1 + 1 + 1 + 1]? = some o7) ∧ w0.heap.size = w.heap.size + 1 + 1 + 1 + 1 + 1 + 1 + 1 + 1 ∧ Below w.heap.size w w0 := by
  have s0 : w.heap.size = w.heap.size := rfl
  have s1 := hp_size o0 s0
  have s2 := hp_size o1 s1
  have s3 := hp_size o2 s2
  have s4 := hp_size o3 s3
  have s5 := hp_size o4 s4
  have s6 := hp_size o5 s5
  have s7 := hp_size o6 s6
  have s8 := hp_size o7 s7
  refine ⟨_, rfl, ⟨?_, ?_, ?_, ?_⟩, ⟨?_, ?_, ?_, ?_⟩, s8, ?_⟩
  · exact hp_old _ s7 (by omega) (hp_old _ s6 (by omega) (hp_old _ s5 (by omega) (hp_old _ s4 (by omega) (hp_old _ s3 (by omega) (hp_old _ s2 (by omega) (hp_old _ s1 (by omega) (hp_new _ s0)))))))
  · exact hp_old _ s7 (by omega) (hp_old _ s6 (by omega) (hp_old _ s5 (by omega) (hp_old _ s4 (by omega) (hp_old _ s3 (by omega) (hp_old _ s2 (by omega) (hp_new _ s1))))))
  · exact hp_old _ s7 (by omega) (hp_old _ s6 (by omega) (hp_old _ s5 (by omega) (hp_old _ s4 (by omega) (hp_old _ s3 (by omega) (hp_new _ s2)))))
  · exact hp_old _ s7 (by omega) (hp_old _ s6 (by omega) (hp_old _ s5 (by omega) (hp_old _ s4 (by omega) (hp_new _ s3))))
  · exact hp_old _ s7 (by omega) (hp_old _ s6 (by omega) (hp_old _ s5 (by omega) (hp_new _ s4)))
  · exact hp_old _ s7 (by omega) (hp_old _ s6 (by omega) (hp_new _ s5))
  · exact hp_old _ s7 (by omega) (hp_new _ s6)
  · exact hp_new _ s7
  · exact ((((((((Below.refl _ _).alloc (Nat.le_refl _) _).alloc (by omega) _).alloc (by omega) _).alloc (by omega) _).alloc (by omega) _).alloc (by omega) _).alloc (by omega) _).alloc (by omega) _
theorem alloc4 (w : World) (o0 o1 o2 o3 : Obj) : ∃ w0, w0 = ((((w.alloc o0).alloc o1).alloc o2).alloc o3) ∧ (w0.heap[w.heap.size]? = some o0 ∧ w0.heap[w.heap.size + 1]? = some o1 ∧ w0.heap[w.heap.size + 1 + 1]? = some o2 ∧ w0.heap[w.heap.size + 1 + 1 + 1]? = some o3) ∧ w0.heap.size = w.heap.size + 1 + 1 + 1 + 1 ∧ Below w.heap.size w w0 := by
  have s0 : w.heap.size = w.heap.size := rfl
  have s1 := hp_size o0 s0
  have s2 := hp_size o1 s1
  have s3 := hp_size o2 s2
  have s4 := hp_size o3 s3
  refine ⟨_, rfl, ⟨?_, ?_, ?_, ?_⟩, s4, ?_⟩
  · exact hp_old _ s3 (by omega) (hp_old _ s2 (by omega) (hp_old _ s1 (by omega) (hp_new _ s0)))
  · exact hp_old _ s3 (by omega) (hp_old _ s2 (by omega) (hp_new _ s1))
  · exact hp_old _ s3 (by omega) (hp_new _ s2)
  · exact hp_new _ s3
  · exact ((((Below.refl _ _).alloc (Nat.le_refl _) _).alloc (by omega) _).alloc (by omega) _).alloc (by omega) _
theorem vrow_one {X : Nat → Value} {n : Nat} (h : ∀ k, (X k).oneCell' = true) : ∀ v ∈ vrow X n, v.oneCell' = true := fun v hv => by
  unfold vrow at hv
  obtain ⟨k, _, rfl⟩ := List.mem_map.1 hv
  exact h k
theorem below_setCells {B : Nat} {w : World} {b : Nat} (hb : B ≤ b) : ∀ (vs : List Value) (o : Nat) (w' : World), Below B w w' → Below B w (w'.setCells b o vs)
  | [], _, _, h => h
  | v :: r, o, w', h => below_setCells hb r (o + 1) _ (h.setCell (p := ⟨b, o, none⟩) hb v)
theorem Rk.setCells {g n k : Nat} {X : Nat → Value} {b : Nat} (hb : b ≠ g) : ∀ (vs : List Value) (o : Nat) (wd : World), Rk wd g n k X → Rk (wd.setCells b o vs) g n k X
  | [], _, _, h => h
  | v :: r, o, wd, h => Rk.setCells hb r (o + 1) _ (h.other b o v hb)
theorem Rk.drew {wd : World} {g n k : Nat} {X : Nat → Value} (h : Rk wd g n k X) : Rk wd.drew g n k X := ⟨h.ex, h.fz, h.pl⟩
theorem Pt.drew {wd : World} {g n k : Nat} {A V E D Y U : Nat → Int} {P : Nat → Bool} (h : Pt wd g n k A V E D Y U P) : Pt wd.drew g n k A V E D Y U P := ⟨h.ex, h.fz, h.pl⟩
theorem Ko.drew {wd : World} {ob k : Nat} {un : Value} {pr : Nat} {K : Nat → Int × Int × Bool × Int} (h : Ko wd ob k un pr K) : Ko wd.drew ob k un pr K := ⟨h.ex, h.fz, h.ky, h.c2, h.pres⟩
theorem Rk.ofArr {wd : World} {g : Nat} {cs : Array Value} {t : TypeId} (h : wd.heap[g]? = some (.cells cs t)) (n : Nat) (X : Nat → Value) (hcs : ∀ k, k < n → cs[k]? = some (X k)) : Rk wd g n n X :=
  ⟨fun j hj => by rw [cell_of_row wd g j _ t _ h, hcs j hj]; rfl, fun j => by simp [World.frozen?, h], fun j hj => by rw [cell_of_row wd g j _ t _ h, hcs j hj]⟩
set_option maxRecDepth 20000 in
set_option maxHeartbeats 4000000 in
theorem zz17_any (first n nl : Nat) (at0 sh : Int) (aa va ea da ya ua ba la : Option Addr) (ca cv ce cd cy cu cb cl : Nat) (A V E D Y U : Nat → Int) (P : Nat → Bool) (K : Nat → Int × Int × Bool × Int) (ks ke ku kk : Array Value) (pr : Nat) (w : World)
    (hA : Row w aa n (fun i => .int .i64 (A i))) (hV : Row w va n (fun i => .int .i64 (V i))) (hE : Row w ea n (fun i => .int .i64 (E i))) (hD : Row w da n (fun i => .int .i64 (D i))) (hYr : Row w ya n (fun i => .int .i64 (Y i))) (hU : Row w ua n (fun i => .int .i64 (U i))) (hPr : Row w ba n (fun i => .bool (P i)))
    (hks : ∀ k, k < 16 → ks[k]? = some (.int .i64 (K k).1)) (hke : ∀ k, k < 16 → ke[k]? = some (.int .i64 (K k).2.1)) (hku : ∀ k, k < 16 → ku[k]? = some (.bool (K k).2.2.1)) (hkk : ∀ k, k < 16 → kk[k]? = some (.int .i64 (K k).2.2.2))
    (hn : n ≤ 131072) (hpr : pr < 65536) (hY : ∀ i, i < n → Y i < 16) (hPD : ∀ i, i < n → P i = true → D i = 3) :
    Calls Try.prog 17 #[.int .i64 first, .int .i64 at0, .int .i64 sh, .slice aa n ca, .slice va n cv, .slice ea n ce, .slice da n cd, .slice ya n cy, .slice ua n cu, .slice ba n cb, .slice la nl cl, .agg ks, .agg ke, .agg ku, .agg kk, .int .u16 pr] w fun e w' =>
      (∃ (m : Nat) (a1 v1 e1 u1 : Option Addr), e = .returned (.tuple #[.int .i64 ((first + m : Nat) : Int), .int .i64 (lastAt E sh at0 first m), .slice a1 n n, .slice v1 n n, .slice e1 n n, .slice u1 n n,
          .agg (vrow (fun k => .int .i64 (km V E D Y P sh K first m k).1) 16).toArray, .agg (vrow (fun k => .int .i64 (km V E D Y P sh K first m k).2.1) 16).toArray, .agg (vrow (fun k => .bool (km V E D Y P sh K first m k).2.2.1) 16).toArray, .agg (vrow (fun k => .int .i64 (km V E D Y P sh K first m k).2.2.2) 16).toArray, .int .u16 (prm Y first pr m)]) ∧
        (∀ j, first ≤ j → j < first + m → j < n ∧ tkb D Y P j = true) ∧ (first + m < n → tkb D Y P (first + m) = false) ∧
        Row w' a1 n (fun i => .int .i64 (shf A sh first (first + m) i)) ∧ Row w' v1 n (fun i => .int .i64 (shf V sh first (first + m) i)) ∧ Row w' e1 n (fun i => .int .i64 (shf E sh first (first + m) i)) ∧ Row w' u1 n (fun i => .int .i64 (unf U nl first (first + m) i))) ∧ Below w.heap.size w w' := by
  have HA : Hid (Row w aa n (fun i => .int .i64 (A i))) := hA
  have HV : Hid (Row w va n (fun i => .int .i64 (V i))) := hV
  have HE : Hid (Row w ea n (fun i => .int .i64 (E i))) := hE
  have HD : Hid (Row w da n (fun i => .int .i64 (D i))) := hD
  have HYr : Hid (Row w ya n (fun i => .int .i64 (Y i))) := hYr
  have HU : Hid (Row w ua n (fun i => .int .i64 (U i))) := hU
  have HPr : Hid (Row w ba n (fun i => .bool (P i))) := hPr
  have HKS : Hid ((∀ k, k < 16 → ks[k]? = some (.int .i64 (K k).1)) ∧ (∀ k, k < 16 → ke[k]? = some (.int .i64 (K k).2.1)) ∧ (∀ k, k < 16 → ku[k]? = some (.bool (K k).2.2.1)) ∧ (∀ k, k < 16 → kk[k]? = some (.int .i64 (K k).2.2.2))) := ⟨hks, hke, hku, hkk⟩
  have HY : Hid (∀ i, i < n → Y i < 16) := hY
  have HPD : Hid (∀ i, i < n → P i = true → D i = 3) := hPD
  clear hA hV hE hD hYr hU hPr hks hke hku hkk hY hPD
  obtain ⟨i0, z, hi, hz0, hz1, hz2⟩ := inf68_parts
  obtain ⟨i3, hi3, hz30, hz31, hz32⟩ := info_parts Try.info3
  go_enter Try.func17, Try.ntmps17
  go_upto_region 1 with fail
  obtain ⟨w0, hw0, ⟨b0, b1, b2, b3⟩, ⟨b4, b5, b6, b7⟩, hsz, hbl⟩ := alloc8 w (Obj.cells ks 49) (Obj.cells ke 49) (Obj.cells ku 50) (Obj.cells kk 49) (Obj.cells #[.int .i64 0, .int .i64 0, .int .i64 0, .int .i64 0, .int .i64 0, .int .i64 0, .int .i64 0, .int .i64 0, .int .i64 0, .int .i64 0, .int .i64 0, .int .i64 0, .int .i64 0, .int .i64 0, .int .i64 0, .int .i64 0] 49) (Obj.cells #[.int .i64 0, .int .i64 0, .int .i64 0, .int .i64 0, .int .i64 0, .int .i64 0, .int .i64 0, .int .i64 0, .int .i64 0, .int .i64 0, .int .i64 0, .int .i64 0, .int .i64 0, .int .i64 0, .int .i64 0, .int .i64 0] 49) (Obj.cells #[.bool false, .bool false, .bool false, .bool false, .bool false, .bool false, .bool false, .bool false, .bool false, .bool false, .bool false, .bool false, .bool false, .bool false, .bool false, .bool false] 50) (Obj.cells #[.int .i64 0, .int .i64 0, .int .i64 0, .int .i64 0, .int .i64 0, .int .i64 0, .int .i64 0, .int .i64 0, .int .i64 0, .int .i64 0, .int .i64 0, .int .i64 0, .int .i64 0, .int .i64 0, .int .i64 0, .int .i64 0] 49)
  rw [← hw0]
  have I0 : Rk w0 w.heap.size 16 16 (fun k => .int .i64 (K k).1) := Rk.ofArr b0 16 _ HKS.out.1
  have I1 : Rk w0 (w.heap.size + 1) 16 16 (fun k => .int .i64 (K k).2.1) := Rk.ofArr b1 16 _ HKS.out.2.1
  have I2 : Rk w0 (w.heap.size + 1 + 1) 16 16 (fun k => .bool (K k).2.2.1) := Rk.ofArr b2 16 _ HKS.out.2.2.1
  have I3 : Rk w0 (w.heap.size + 1 + 1 + 1) 16 16 (fun k => .int .i64 (K k).2.2.2) := Rk.ofArr b3 16 _ HKS.out.2.2.2
  have I4 : Rk w0 (w.heap.size + 1 + 1 + 1 + 1) 16 0 (fun _ => undef) := Rk.ofNew b4 16 (Nat.le_refl _) _
  have I5 : Rk w0 (w.heap.size + 1 + 1 + 1 + 1 + 1) 16 0 (fun _ => undef) := Rk.ofNew b5 16 (Nat.le_refl _) _
  have I6 : Rk w0 (w.heap.size + 1 + 1 + 1 + 1 + 1 + 1) 16 0 (fun _ => undef) := Rk.ofNew b6 16 (Nat.le_refl _) _
  have I7 : Rk w0 (w.heap.size + 1 + 1 + 1 + 1 + 1 + 1 + 1) 16 0 (fun _ => undef) := Rk.ofNew b7 16 (Nat.le_refl _) _
  clear hw0 b0 b1 b2 b3 b4 b5 b6 b7
  have HW : Hid (Below w.heap.size w w0) := hbl
  clear hbl
  obtain ⟨h0, e0⟩ : ∃ x, x = w.heap.size := ⟨_, rfl⟩
  rw [← e0] at I0 I1 I2 I3 I4 I5 I6 I7 hsz ⊢
  obtain ⟨h1, e1⟩ : ∃ x, x = h0 + 1 := ⟨_, rfl⟩
  rw [← e1] at I1 I2 I3 I4 I5 I6 I7 hsz ⊢
  obtain ⟨h2, e2⟩ : ∃ x, x = h1 + 1 := ⟨_, rfl⟩
  rw [← e2] at I2 I3 I4 I5 I6 I7 hsz ⊢
  obtain ⟨h3, e3⟩ : ∃ x, x = h2 + 1 := ⟨_, rfl⟩
  rw [← e3] at I3 I4 I5 I6 I7 hsz ⊢
  obtain ⟨h4, e4⟩ : ∃ x, x = h3 + 1 := ⟨_, rfl⟩
  rw [← e4] at I4 I5 I6 I7 hsz ⊢
  obtain ⟨h5, e5⟩ : ∃ x, x = h4 + 1 := ⟨_, rfl⟩
  rw [← e5] at I5 I6 I7 hsz ⊢
  obtain ⟨h6, e6⟩ : ∃ x, x = h5 + 1 := ⟨_, rfl⟩
  rw [← e6] at I6 I7 hsz ⊢
  obtain ⟨h7, e7⟩ : ∃ x, x = h6 + 1 := ⟨_, rfl⟩
  rw [← e7] at I7 hsz ⊢
  have HH : Hid (h0 = w.heap.size ∧ h1 = h0 + 1 ∧ h2 = h1 + 1 ∧ h3 = h2 + 1 ∧ h4 = h3 + 1 ∧ h5 = h4 + 1 ∧ h6 = h5 + 1 ∧ h7 = h6 + 1 ∧ w0.heap.size = h7 + 1) := ⟨e0, e1, e2, e3, e4, e5, e6, e7, hsz⟩
  have HI : Hid (Rk w0 h0 16 16 (fun k => .int .i64 (K k).1) ∧ Rk w0 h1 16 16 (fun k => .int .i64 (K k).2.1) ∧ Rk w0 h2 16 16 (fun k => .bool (K k).2.2.1) ∧ Rk w0 h3 16 16 (fun k => .int .i64 (K k).2.2.2) ∧ Rk w0 h4 16 0 (fun _ => undef) ∧ Rk w0 h5 16 0 (fun _ => undef) ∧ Rk w0 h6 16 0 (fun _ => undef) ∧ Rk w0 h7 16 0 (fun _ => undef)) := ⟨I0, I1, I2, I3, I4, I5, I6, I7⟩
  clear I0 I1 I2 I3 I4 I5 I6 I7 e0 e1 e2 e3 e4 e5 e6 e7 hsz HKS
  go_upto_region 2 with (at_make; refine wpList_make_full _ rfl _ _ 56 rfl w0.heap.size 68 i0 _ 10 Try.underlying56 hi hz0 hz1 _ _ _ _ n rfl rfl rfl rfl (by rw [hz2]; omega) (by unfold maxLen; omega) (Nat.le_refl _) ?_; intro w1 hown1 hgrow1)
  obtain ⟨QB, hQB⟩ : ∃ x, x = w0.heap.size := ⟨_, rfl⟩
  rw [← hQB] at hown1 ⊢
  have HQB : Hid (QB = w0.heap.size) := hQB
  have HPt : Hid (Pt w1 QB n 0 A V E D Y U P) := ⟨fun j hj => by rw [hown1.cellAt j hj, List.getElem?_eq_getElem (by rw [hown1.1]; exact hj)]; rfl, fun j => hown1.frozenAt j, fun i h => by omega⟩
  have HB1 : Hid (Below QB w0 w1) := (Below.refl _ _).grown hgrow1 (by omega) (fun k h => by cases h)
  have HQ1 : Hid (QB < w1.heap.size) := own_lt7 hown1
  clear hown1 hgrow1 hQB
  go_wp2
  go_loopw [65] (fun i wr => ∃ k : Nat, k ≤ n ∧ i = .int .i64 k ∧ Pt wr QB n k A V E D Y U P ∧ Below QB w0 wr ∧ QB < wr.heap.size) (fun i _ => n - (intOf i).toNat)
  case atStart => exact ⟨0, Nat.zero_le _, rfl, HPt.out, HB1.out, HQ1.out⟩
  case round =>
    obtain ⟨k, hk, rfl, hp, hb, hq⟩ := hrel
    have HP : Hid (Pt wr QB n k A V E D Y U P) := hp
    have HB : Hid (Below QB w0 wr) := hb
    have HQ : Hid (QB < wr.heap.size) := hq
    clear HPt HB1 HQ1 hq
    by_cases hlt : k < n
    · obtain ⟨b1, o1, rfl, r1⟩ := HA.out (by omega)
      obtain ⟨b2, o2, rfl, r2⟩ := HV.out (by omega)
      obtain ⟨b3, o3, rfl, r3⟩ := HE.out (by omega)
      obtain ⟨b4, o4, rfl, r4⟩ := HD.out (by omega)
      obtain ⟨b5, o5, rfl, r5⟩ := HYr.out (by omega)
      obtain ⟨b6, o6, rfl, r6⟩ := HU.out (by omega)
      obtain ⟨b7, o7, rfl, r7⟩ := HPr.out (by omega)
      have hbw : Below w.heap.size w wr := HW.out.trans (hb.mono (by have := HH.out; have := HQB.out; omega))
      have s1 := cell_later hbw (r1 k hlt)
      have s2 := cell_later hbw (r2 k hlt)
      have s3 := cell_later hbw (r3 k hlt)
      have s4 := cell_later hbw (r4 k hlt)
      have s5 := cell_later hbw (r5 k hlt)
      have s6 := cell_later hbw (r6 k hlt)
      have s7 := cell_later hbw (r7 k hlt)
      have hww : w.heap.size < QB := by have := HH.out; have := HQB.out; omega
      have n1 : b1 ≠ QB := by have := (World.block_lt_of_cell? _ _ (r1 k hlt)); simp only at this; omega
      have n2 : b2 ≠ QB := by have := (World.block_lt_of_cell? _ _ (r2 k hlt)); simp only at this; omega
      have n3 : b3 ≠ QB := by have := (World.block_lt_of_cell? _ _ (r3 k hlt)); simp only at this; omega
      have n4 : b4 ≠ QB := by have := (World.block_lt_of_cell? _ _ (r4 k hlt)); simp only at this; omega
      have n5 : b5 ≠ QB := by have := (World.block_lt_of_cell? _ _ (r5 k hlt)); simp only at this; omega
      have n6 : b6 ≠ QB := by have := (World.block_lt_of_cell? _ _ (r6 k hlt)); simp only at this; omega
      have n7 : b7 ≠ QB := by have := (World.block_lt_of_cell? _ _ (r7 k hlt)); simp only at this; omega
      clear r1 r2 r3 r4 r5 r6 r7 hbw hww
      obtain ⟨x0, y0⟩ := Option.isSome_iff_exists.1 (hp.ex (k * 10) (by omega))
      obtain ⟨x1, y1⟩ := Option.isSome_iff_exists.1 (hp.ex (k * 10 + 1) (by omega))
      obtain ⟨x2, y2⟩ := Option.isSome_iff_exists.1 (hp.ex (k * 10 + 2) (by omega))
      obtain ⟨x3, y3⟩ := Option.isSome_iff_exists.1 (hp.ex (k * 10 + 3) (by omega))
      obtain ⟨x4, y4⟩ := Option.isSome_iff_exists.1 (hp.ex (k * 10 + 4) (by omega))
      obtain ⟨x5, y5⟩ := Option.isSome_iff_exists.1 (hp.ex (k * 10 + 5) (by omega))
      obtain ⟨x6, y6⟩ := Option.isSome_iff_exists.1 (hp.ex (k * 10 + 6) (by omega))
      obtain ⟨x7, y7⟩ := Option.isSome_iff_exists.1 (hp.ex (k * 10 + 7) (by omega))
      obtain ⟨x8, y8⟩ := Option.isSome_iff_exists.1 (hp.ex (k * 10 + 8) (by omega))
      obtain ⟨x9, y9⟩ := Option.isSome_iff_exists.1 (hp.ex (k * 10 + 9) (by omega))
      have hfz := hp.fz
      clear hp hb
      have hlti : (k : Int) < (n : Int) := by omega
      go_upto_region 5 with fail
      refine wp_region_still_tail 32 Try.mixed (by kernel_rfl) ?_
      simp only [List.take_succ_cons, List.take_zero, List.drop_succ_cons, List.drop_zero]
      repeat still_step
      refine wpStill_nil ?_
      go_wp2
      go_roundw
      case rel => exact ⟨k + 1, by omega, by go_num, (HP.out.next hlt _ _ _).drew, ((((((((((HB.out.setCell (p := ⟨QB, k * 10, none⟩) (Nat.le_refl _) _).setCell (p := ⟨QB, k * 10 + 1, none⟩) (Nat.le_refl _) _).setCell (p := ⟨QB, k * 10 + 2, none⟩) (Nat.le_refl _) _).setCell (p := ⟨QB, k * 10 + 3, none⟩) (Nat.le_refl _) _).setCell (p := ⟨QB, k * 10 + 4, none⟩) (Nat.le_refl _) _).setCell (p := ⟨QB, k * 10 + 5, none⟩) (Nat.le_refl _) _).setCell (p := ⟨QB, k * 10 + 6, none⟩) (Nat.le_refl _) _).setCell (p := ⟨QB, k * 10 + 7, none⟩) (Nat.le_refl _) _).setCell (p := ⟨QB, k * 10 + 8, none⟩) (Nat.le_refl _) _).setCell (p := ⟨QB, k * 10 + 9, none⟩) (Nat.le_refl _) _).drew, by have := HQ.out; simpa using this⟩
      case measure => simp [intOf]; omega
    · have e0 : n = k := by omega
      subst e0
      clear hp hb hk hlt
      go_upto_region 9 with (refine wpList_buildTo (by rfl) 66 _ (by rfl) _ (by rfl) (ob66 (.slice la nl cl) (.int .u16 pr)) ?hb ?_; (case hb => kernel_rfl))
      obtain ⟨w2, hw2⟩ : ∃ w2, w2 = ((wr.alloc (Obj.cells #[.slice none 0 0, .int .i64 0, .int .i64 0, .bool false, .slice none 0 0, .slice (some ⟨QB, 0, none⟩) n n] 71)).alloc (Obj.cells (ob66 (.slice la nl cl) (.int .u16 pr)) 66)) := ⟨_, rfl⟩
      rw [← hw2]
      obtain ⟨rb, hrb⟩ : ∃ x, x = wr.heap.size := ⟨_, rfl⟩
      obtain ⟨ob, hob⟩ : ∃ x, x = rb + 1 := ⟨_, rfl⟩
      have g1 : w2.heap[rb]? = some (Obj.cells #[.slice none 0 0, .int .i64 0, .int .i64 0, .bool false, .slice none 0 0, .slice (some ⟨QB, 0, none⟩) n n] 71) := by rw [hw2, hrb]; exact hp_old _ (hp_size _ rfl) (by omega) (hp_new _ rfl)
      have g2 : w2.heap[ob]? = some (Obj.cells (ob66 (.slice la nl cl) (.int .u16 pr)) 66) := by rw [hw2, hob, hrb]; exact hp_new _ (hp_size _ rfl)
      have g3 : w2.heap.size = ob + 1 := by rw [hw2, hob, hrb]; exact hp_size _ (hp_size _ rfl)
      have g4 : Below rb wr w2 := by rw [hw2, hrb]; exact ((Below.refl _ _).alloc (Nat.le_refl _) _).alloc (by rw [hp_size _ rfl]; omega) _
      rw [← hrb, ← hob]
      have hqr : QB < rb := by rw [hrb]; exact HQ.out
      have HR5 : Hid (w2.cell? ⟨rb, 5, none⟩ = some (.slice (some ⟨QB, 0, none⟩) n n)) := by
        show _ = _
        rw [cell_of_row w2 rb 5 _ 71 _ g1]; rfl
      have HKo : Hid (Ko w2 ob 0 (.slice la nl cl) pr K) := by
        refine ⟨fun j hj => ?_, fun j => ?_, fun j hj => by omega, ?_, ?_⟩
        · rw [cell_of_row w2 ob _ _ 66 _ g2, Array.getElem?_eq_getElem (show 6 + j < 75 by omega)]; rfl
        · simp [World.frozen?, g2]
        · rw [cell_of_row w2 ob _ _ 66 _ g2]; rfl
        · rw [cell_of_row w2 ob _ _ 66 _ g2]; rfl
      have HP2 : Hid (Pt w2 QB n n A V E D Y U P) := HP.out.later g4 hqr
      have HB2 : Hid (Below QB w0 w2) := HB.out.trans (g4.mono (Nat.le_of_lt hqr))
      have HO : Hid (QB < rb ∧ ob = rb + 1 ∧ w2.heap.size = ob + 1) := ⟨hqr, hob, g3⟩
      clear hw2 g1 g2 g3 g4 HP HB HQ hqr hob hrb
      clear wr
      go_wp2
      go_loopw [108] (fun i wr => ∃ j : Nat, j ≤ 16 ∧ i = .int .i64 j ∧ Ko wr ob j (.slice la nl cl) pr K ∧ Below ob w2 wr ∧ ob < wr.heap.size) (fun i _ => 16 - (intOf i).toNat)
      case atStart => exact ⟨0, Nat.zero_le _, rfl, HKo.out, Below.refl _ _, by have := HO.out; omega⟩
      case round =>
        clear HKo
        obtain ⟨j, hj, rfl, hp, hb, hq⟩ := hrel
        have HP : Hid (Ko wr ob j (.slice la nl cl) pr K) := hp
        have HB : Hid (Below ob w2 wr) := hb
        have HQ : Hid (ob < wr.heap.size) := hq
        clear hq
        by_cases hlt : j < 16
        · have hbw : Below QB w0 wr := HB2.out.trans (hb.mono (by have := HO.out; omega))
          have q0 : h0 < QB := by have := HH.out; have := HQB.out; omega
          have q1 : h1 < QB := by have := HH.out; have := HQB.out; omega
          have q2 : h2 < QB := by have := HH.out; have := HQB.out; omega
          have q3 : h3 < QB := by have := HH.out; have := HQB.out; omega
          have s0 := (HI.out.1.later hbw q0).pl j hlt
          have s1 := (HI.out.2.1.later hbw q1).pl j hlt
          have s2 := (HI.out.2.2.1.later hbw q2).pl j hlt
          have s3 := (HI.out.2.2.2.1.later hbw q3).pl j hlt
          have n0 : h0 ≠ ob := by have := HO.out; omega
          have n1 : h1 ≠ ob := by have := HO.out; omega
          have n2 : h2 ≠ ob := by have := HO.out; omega
          have n3 : h3 ≠ ob := by have := HO.out; omega
          clear hbw q0 q1 q2 q3
          obtain ⟨c0, f0⟩ : ∃ x, (K j).1 = x := ⟨_, rfl⟩
          obtain ⟨c1, f1⟩ : ∃ x, (K j).2.1 = x := ⟨_, rfl⟩
          obtain ⟨c2, f2⟩ : ∃ x, (K j).2.2.1 = x := ⟨_, rfl⟩
          obtain ⟨c3, f3⟩ : ∃ x, (K j).2.2.2 = x := ⟨_, rfl⟩
          simp only [f0] at s0
          simp only [f1] at s1
          simp only [f2] at s2
          simp only [f3] at s3
          have HN : Hid (Ko ((((wr.setCell ⟨ob, 6 + j * 4, none⟩ (.int .i64 c0)).setCell ⟨ob, 6 + j * 4 + 1, none⟩ (.int .i64 c1)).setCell ⟨ob, 6 + j * 4 + 2, none⟩ (.bool c2)).setCell ⟨ob, 6 + j * 4 + 3, none⟩ (.int .i64 c3)) ob (j + 1) (.slice la nl cl) pr K) := by
            have := hp.next hlt
            rw [f0, f1, f2, f3] at this
            exact this
          clear f0 f1 f2 f3
          have y0 := hp.ex (j * 4) (by omega)
          have y1 := hp.ex (j * 4 + 1) (by omega)
          have y2 := hp.ex (j * 4 + 2) (by omega)
          have y3 := hp.ex (j * 4 + 3) (by omega)
          rw [← Nat.add_assoc] at y1 y2 y3
          obtain ⟨x0, y0⟩ := Option.isSome_iff_exists.1 y0
          obtain ⟨x1, y1⟩ := Option.isSome_iff_exists.1 y1
          obtain ⟨x2, y2⟩ := Option.isSome_iff_exists.1 y2
          obtain ⟨x3, y3⟩ := Option.isSome_iff_exists.1 y3
          have hfz := hp.fz
          clear hp hb
          have hlti : (j : Int) < 16 := by omega
          go_upto_region 12 with fail
          refine wp_region_still_tail 19 Try.mixed (by kernel_rfl) ?_
          simp only [List.take_succ_cons, List.take_zero, List.drop_succ_cons, List.drop_zero]
          repeat still_step
          refine wpStill_nil ?_
          go_wp2
          go_roundw
          case rel => exact ⟨j + 1, by omega, by go_num, HN.out.drew, ((((HB.out.setCell (p := ⟨ob, 6 + j * 4, none⟩) (Nat.le_refl _) _).setCell (p := ⟨ob, 6 + j * 4 + 1, none⟩) (Nat.le_refl _) _).setCell (p := ⟨ob, 6 + j * 4 + 2, none⟩) (Nat.le_refl _) _).setCell (p := ⟨ob, 6 + j * 4 + 3, none⟩) (Nat.le_refl _) _).drew, by have := HQ.out; simpa using this⟩
          case measure => simp [intOf]; omega
        · have e0 : j = 16 := by omega
          subst e0
          clear hp hb hj hlt
          go_wp2_with fail
          have hbw : Below QB w0 wr := HB2.out.trans (HB.out.mono (by have := HO.out; omega))
          have HT : Hid (Tk wr ob QB n A V E D Y U P K pr) := by
            have p2 := HP2.out.later HB.out (by have := HO.out; omega)
            have p3 := HP.out
            exact ⟨p2.pl, p2.fz, p3.ky, p3.fz, p3.pres, by have := HO.out; omega, HQ.out, by have := HO.out; have := HQ.out; omega⟩
          have hr5 : wr.cell? ⟨rb, 5, none⟩ = some (.slice (some ⟨QB, 0, none⟩) n n) := by
            rw [World.cell?_of_block (HB.out.block rb (by have := HO.out; omega))]; exact HR5.out
          refine (take_any rb ob QB n first at0 sh la nl cl A V E D Y U P K pr QB wr HT.out hr5 HP.out.c2 (by omega) hpr (by have := HO.out; have := HQ.out; omega) (by have := HO.out; omega) (Nat.le_refl _) HY.out HPD.out).mono ?_
          rintro e w3 ⟨⟨m, rfl, t1, t2, t3⟩, t4⟩
          have T12 : Hid ((∀ j, first ≤ j → j < first + m → j < n ∧ tkb D Y P j = true) ∧ (first + m < n → tkb D Y P (first + m) = false)) := ⟨t1, t2⟩
          have T3 : Hid (Tk w3 ob QB n (shf A sh first (first + m)) (shf V sh first (first + m)) (shf E sh first (first + m)) D Y (unf U nl first (first + m)) P (km V E D Y P sh K first m) (prm Y first pr m)) := t3
          have T4 : Hid (Below QB w0 w3) := hbw.trans t4
          clear t1 t2 t3 t4 hbw HT hr5 HP HB HQ HP2 HB2 HR5
          obtain ⟨im, him⟩ : ∃ x, x = first + m := ⟨_, rfl⟩
          obtain ⟨lat, hlat⟩ : ∃ x, x = lastAt E sh at0 first m := ⟨_, rfl⟩
          rw [← him, ← hlat]
          have HIM : Hid (im = first + m) := him
          have HLAT : Hid (lat = lastAt E sh at0 first m) := hlat
          clear him hlat
          clear wr
          go_upto_region 16 with (at_make; refine wpList_make_full _ rfl _ _ 28 rfl w3.heap.size 3 i3 _ 1 Try.underlying28 hi3 hz30 hz31 _ _ _ _ n rfl rfl rfl rfl (by rw [hz32]; omega) (by unfold maxLen; omega) (Nat.le_refl _) ?_; intro w4 o4 y4)
          obtain ⟨G0, hG0⟩ : ∃ x, x = w3.heap.size := ⟨_, rfl⟩
          rw [← hG0] at o4 ⊢
          have A4 : Hid (Rk w4 G0 n 0 (fun i => .int .i64 (shf A sh first im i))) := Rk.ofOwn o4 _
          have C4 : Hid (Below G0 w3 w4) := (Below.refl _ _).grown y4 (by omega) (fun k h => by cases h)
          have L4 : Hid (G0 < w4.heap.size) := own_lt7 o4
          have E0 : Hid (G0 = w3.heap.size) := hG0
          clear o4 y4 hG0
          go_upto_region 17 with (at_make; refine wpList_make_full _ rfl _ _ 28 rfl w4.heap.size 3 i3 _ 1 Try.underlying28 hi3 hz30 hz31 _ _ _ _ n rfl rfl rfl rfl (by rw [hz32]; omega) (by unfold maxLen; omega) (Nat.le_refl _) ?_; intro w5 o5 y5)
          obtain ⟨G1, hG1⟩ : ∃ x, x = w4.heap.size := ⟨_, rfl⟩
          rw [← hG1] at o5 ⊢
          have A5 : Hid (Rk w5 G1 n 0 (fun i => .int .i64 (shf V sh first im i))) := Rk.ofOwn o5 _
          have C5 : Hid (Below G1 w4 w5) := (Below.refl _ _).grown y5 (by omega) (fun k h => by cases h)
          have L5 : Hid (G1 < w5.heap.size) := own_lt7 o5
          have E1 : Hid (G1 = w4.heap.size) := hG1
          clear o5 y5 hG1
          go_upto_region 18 with (at_make; refine wpList_make_full _ rfl _ _ 28 rfl w5.heap.size 3 i3 _ 1 Try.underlying28 hi3 hz30 hz31 _ _ _ _ n rfl rfl rfl rfl (by rw [hz32]; omega) (by unfold maxLen; omega) (Nat.le_refl _) ?_; intro w6 o6 y6)
          obtain ⟨G2, hG2⟩ : ∃ x, x = w5.heap.size := ⟨_, rfl⟩
          rw [← hG2] at o6 ⊢
          have A6 : Hid (Rk w6 G2 n 0 (fun i => .int .i64 (shf E sh first im i))) := Rk.ofOwn o6 _
          have C6 : Hid (Below G2 w5 w6) := (Below.refl _ _).grown y6 (by omega) (fun k h => by cases h)
          have L6 : Hid (G2 < w6.heap.size) := own_lt7 o6
          have E2 : Hid (G2 = w5.heap.size) := hG2
          clear o6 y6 hG2
          go_upto_region 19 with (at_make; refine wpList_make_full _ rfl _ _ 28 rfl w6.heap.size 3 i3 _ 1 Try.underlying28 hi3 hz30 hz31 _ _ _ _ n rfl rfl rfl rfl (by rw [hz32]; omega) (by unfold maxLen; omega) (Nat.le_refl _) ?_; intro w7 o7 y7)
          obtain ⟨G3, hG3⟩ : ∃ x, x = w6.heap.size := ⟨_, rfl⟩
          rw [← hG3] at o7 ⊢
          have A7 : Hid (Rk w7 G3 n 0 (fun i => .int .i64 (unf U nl first im i))) := Rk.ofOwn o7 _
          have C7 : Hid (Below G3 w6 w7) := (Below.refl _ _).grown y7 (by omega) (fun k h => by cases h)
          have L7 : Hid (G3 < w7.heap.size) := own_lt7 o7
          have E3 : Hid (G3 = w6.heap.size) := hG3
          clear o7 y7 hG3
          have HG : Hid (ob < G0 ∧ QB < G0 ∧ G0 < G1 ∧ G1 < G2 ∧ G2 < G3 ∧ G3 < w7.heap.size) := by
            have a := T3.out.lo
            have b := T3.out.lq
            have c := E0.out
            have d := E1.out
            have e := E2.out
            have f := E3.out
            have g := L4.out
            have h := L5.out
            have i := L6.out
            have j := L7.out
            show _ ∧ _ ∧ _ ∧ _ ∧ _ ∧ _
            omega
          have HRs : Hid (Rk w7 G0 n 0 (fun i => .int .i64 (shf A sh first im i)) ∧ Rk w7 G1 n 0 (fun i => .int .i64 (shf V sh first im i)) ∧ Rk w7 G2 n 0 (fun i => .int .i64 (shf E sh first im i)) ∧ Rk w7 G3 n 0 (fun i => .int .i64 (unf U nl first im i))) := by
            obtain ⟨a, b, c, d, e, f⟩ := HG.out
            exact ⟨((A4.out.later C5.out c).later C6.out (by omega)).later C7.out (by omega), (A5.out.later C6.out d).later C7.out (by omega), A6.out.later C7.out e, A7.out⟩
          have HBG : Hid (Below G0 w3 w7) := by
            obtain ⟨a, b, c, d, e, f⟩ := HG.out
            exact ((C4.out.trans (C5.out.mono (by omega))).trans (C6.out.mono (by omega))).trans (C7.out.mono (by omega))
          have T7 : Hid (Tk w7 ob QB n (shf A sh first im) (shf V sh first im) (shf E sh first im) D Y (unf U nl first im) P (km V E D Y P sh K first m) (prm Y first pr m)) := by
            obtain ⟨a, b, c, d, e, f⟩ := HG.out
            rw [HIM.out]
            exact T3.out.later HBG.out a b
          have B7 : Hid (Below QB w0 w7) := T4.out.trans (HBG.out.mono (by have := HG.out; omega))
          clear A4 A5 A6 A7 C4 C5 C6 C7 L4 L5 L6 L7 E0 E1 E2 E3 T3 T4 HBG
          clear w3 w4 w5 w6
          go_wp2
          go_loopw [154] (fun i wr => ∃ k : Nat, k ≤ n ∧ i = .int .i64 k ∧ Rk wr G0 n k (fun i => .int .i64 (shf A sh first im i)) ∧ Rk wr G1 n k (fun i => .int .i64 (shf V sh first im i)) ∧ Rk wr G2 n k (fun i => .int .i64 (shf E sh first im i)) ∧ Rk wr G3 n k (fun i => .int .i64 (unf U nl first im i)) ∧ Below G0 w7 wr ∧ G3 < wr.heap.size) (fun i _ => n - (intOf i).toNat)
          case atStart => exact ⟨0, Nat.zero_le _, rfl, HRs.out.1, HRs.out.2.1, HRs.out.2.2.1, HRs.out.2.2.2, Below.refl _ _, HG.out.2.2.2.2.2⟩
          case round =>
            clear HRs
            obtain ⟨k, hk, rfl, p0, p1, p2, p3, hb, hq⟩ := hrel
            have HB : Hid (Below G0 w7 wr) := hb
            have HQ : Hid (G3 < wr.heap.size) := hq
            have HP : Hid (Rk wr G0 n k (fun i => .int .i64 (shf A sh first im i)) ∧ Rk wr G1 n k (fun i => .int .i64 (shf V sh first im i)) ∧ Rk wr G2 n k (fun i => .int .i64 (shf E sh first im i)) ∧ Rk wr G3 n k (fun i => .int .i64 (unf U nl first im i))) := ⟨p0, p1, p2, p3⟩
            clear hq
            by_cases hlt : k < n
            · have tk := T7.out.later hb HG.out.1 HG.out.2.1
              obtain ⟨s0, s1, s2, -, -, -, s9⟩ := tk.pl k hlt
              obtain ⟨c0, f0⟩ : ∃ x, shf A sh first im k = x := ⟨_, rfl⟩
              obtain ⟨c1, f1⟩ : ∃ x, shf V sh first im k = x := ⟨_, rfl⟩
              obtain ⟨c2, f2⟩ : ∃ x, shf E sh first im k = x := ⟨_, rfl⟩
              obtain ⟨c3, f3⟩ : ∃ x, unf U nl first im k = x := ⟨_, rfl⟩
              rw [f0] at s0
              rw [f1] at s1
              rw [f2] at s2
              rw [f3] at s9
              have m01 : G0 ≠ G1 := by have := HG.out; omega
              have m02 : G0 ≠ G2 := by have := HG.out; omega
              have m03 : G0 ≠ G3 := by have := HG.out; omega
              have m12 : G1 ≠ G2 := by have := HG.out; omega
              have m13 : G1 ≠ G3 := by have := HG.out; omega
              have m23 : G2 ≠ G3 := by have := HG.out; omega
              have r0 : QB ≠ G0 := by have := HG.out; omega
              have r1 : QB ≠ G1 := by have := HG.out; omega
              have r2 : QB ≠ G2 := by have := HG.out; omega
              have r3 : QB ≠ G3 := by have := HG.out; omega
              have HN : Hid (Rk ((((wr.setCell ⟨G0, k, none⟩ (.int .i64 c0)).setCell ⟨G1, k, none⟩ (.int .i64 c1)).setCell ⟨G2, k, none⟩ (.int .i64 c2)).setCell ⟨G3, k, none⟩ (.int .i64 c3)) G0 n (k + 1) (fun i => .int .i64 (shf A sh first im i)) ∧ Rk ((((wr.setCell ⟨G0, k, none⟩ (.int .i64 c0)).setCell ⟨G1, k, none⟩ (.int .i64 c1)).setCell ⟨G2, k, none⟩ (.int .i64 c2)).setCell ⟨G3, k, none⟩ (.int .i64 c3)) G1 n (k + 1) (fun i => .int .i64 (shf V sh first im i)) ∧ Rk ((((wr.setCell ⟨G0, k, none⟩ (.int .i64 c0)).setCell ⟨G1, k, none⟩ (.int .i64 c1)).setCell ⟨G2, k, none⟩ (.int .i64 c2)).setCell ⟨G3, k, none⟩ (.int .i64 c3)) G2 n (k + 1) (fun i => .int .i64 (shf E sh first im i)) ∧ Rk ((((wr.setCell ⟨G0, k, none⟩ (.int .i64 c0)).setCell ⟨G1, k, none⟩ (.int .i64 c1)).setCell ⟨G2, k, none⟩ (.int .i64 c2)).setCell ⟨G3, k, none⟩ (.int .i64 c3)) G3 n (k + 1) (fun i => .int .i64 (unf U nl first im i))) := by
                have a0 := p0.next hlt
                have a1 := (p1.other G0 k (.int .i64 c0) m01).next hlt
                have a2 := ((p2.other G0 k (.int .i64 c0) m02).other G1 k (.int .i64 c1) m12).next hlt
                have a3 := (((p3.other G0 k (.int .i64 c0) m03).other G1 k (.int .i64 c1) m13).other G2 k (.int .i64 c2) m23).next hlt
                simp only [f0] at a0
                simp only [f1] at a1
                simp only [f2] at a2
                simp only [f3] at a3
                exact ⟨((a0.other G1 k _ (Ne.symm m01)).other G2 k _ (Ne.symm m02)).other G3 k _ (Ne.symm m03), (a1.other G2 k _ (Ne.symm m12)).other G3 k _ (Ne.symm m13), a2.other G3 k _ (Ne.symm m23), a3⟩
              obtain ⟨x0, y0⟩ := Option.isSome_iff_exists.1 (p0.ex k hlt)
              obtain ⟨x1, y1⟩ := Option.isSome_iff_exists.1 (p1.ex k hlt)
              obtain ⟨x2, y2⟩ := Option.isSome_iff_exists.1 (p2.ex k hlt)
              obtain ⟨x3, y3⟩ := Option.isSome_iff_exists.1 (p3.ex k hlt)
              have z0 := p0.fz k
              have z1 := p1.fz k
              have z2 := p2.fz k
              have z3 := p3.fz k
              have HB5 : Hid (Below G0 w7 ((((wr.setCell ⟨G0, k, none⟩ (.int .i64 c0)).setCell ⟨G1, k, none⟩ (.int .i64 c1)).setCell ⟨G2, k, none⟩ (.int .i64 c2)).setCell ⟨G3, k, none⟩ (.int .i64 c3))) := (((hb.setCell (p := ⟨G0, k, none⟩) (Nat.le_refl _) _).setCell (p := ⟨G1, k, none⟩) (by have := HG.out; show G0 ≤ G1; omega) _).setCell (p := ⟨G2, k, none⟩) (by have := HG.out; show G0 ≤ G2; omega) _).setCell (p := ⟨G3, k, none⟩) (by have := HG.out; show G0 ≤ G3; omega) _
              clear f0 f1 f2 f3 p0 p1 p2 p3 tk hb
              have hlti : (k : Int) < (n : Int) := by omega
              go_wp2
              go_roundw
              case rel => exact ⟨k + 1, by omega, by go_num, HN.out.1, HN.out.2.1, HN.out.2.2.1, HN.out.2.2.2, HB5.out, by have := HQ.out; simpa using this⟩
              case measure => simp [intOf]; omega
            · have e0 : n = k := by omega
              subst e0
              clear p0 p1 p2 p3 hb hk hlt
              go_upto_region 29 with fail
              obtain ⟨w8, hw8, ⟨d0, d1, d2, d3⟩, hsz8, hbl8⟩ := alloc4 wr (Obj.cells #[.int .i64 0, .int .i64 0, .int .i64 0, .int .i64 0, .int .i64 0, .int .i64 0, .int .i64 0, .int .i64 0, .int .i64 0, .int .i64 0, .int .i64 0, .int .i64 0, .int .i64 0, .int .i64 0, .int .i64 0, .int .i64 0] 49) (Obj.cells #[.int .i64 0, .int .i64 0, .int .i64 0, .int .i64 0, .int .i64 0, .int .i64 0, .int .i64 0, .int .i64 0, .int .i64 0, .int .i64 0, .int .i64 0, .int .i64 0, .int .i64 0, .int .i64 0, .int .i64 0, .int .i64 0] 49) (Obj.cells #[.int .i64 0, .int .i64 0, .int .i64 0, .int .i64 0, .int .i64 0, .int .i64 0, .int .i64 0, .int .i64 0, .int .i64 0, .int .i64 0, .int .i64 0, .int .i64 0, .int .i64 0, .int .i64 0, .int .i64 0, .int .i64 0] 49) (Obj.cells #[.bool false, .bool false, .bool false, .bool false, .bool false, .bool false, .bool false, .bool false, .bool false, .bool false, .bool false, .bool false, .bool false, .bool false, .bool false, .bool false] 50)
              rw [← hw8]
              clear hw8
              obtain ⟨M0, hM0⟩ : ∃ x, x = wr.heap.size := ⟨_, rfl⟩
              rw [← hM0] at d0 d1 d2 d3 hsz8 hbl8 ⊢
              obtain ⟨M1, hM1⟩ : ∃ x, x = M0 + 1 := ⟨_, rfl⟩
              rw [← hM1] at d1 d2 d3 hsz8 ⊢
              obtain ⟨M2, hM2⟩ : ∃ x, x = M1 + 1 := ⟨_, rfl⟩
              rw [← hM2] at d2 d3 hsz8 ⊢
              obtain ⟨M3, hM3⟩ : ∃ x, x = M2 + 1 := ⟨_, rfl⟩
              rw [← hM3] at d3 hsz8 ⊢
              have HM : Hid (G3 < M0 ∧ M1 = M0 + 1 ∧ M2 = M1 + 1 ∧ M3 = M2 + 1 ∧ M3 < w8.heap.size) := ⟨by rw [hM0]; exact HQ.out, hM1, hM2, hM3, by omega⟩
              have HRm : Hid (Rk w8 M0 16 0 (fun k => .int .i64 ((km V E D Y P sh K first m k).1)) ∧ Rk w8 M1 16 0 (fun k => .int .i64 ((km V E D Y P sh K first m k).2.1)) ∧ Rk w8 M2 16 0 (fun k => .int .i64 ((km V E D Y P sh K first m k).2.2.2)) ∧ Rk w8 M3 16 0 (fun k => .bool ((km V E D Y P sh K first m k).2.2.1))) := ⟨Rk.ofNew d0 16 (Nat.le_refl _) _, Rk.ofNew d1 16 (Nat.le_refl _) _, Rk.ofNew d2 16 (Nat.le_refl _) _, Rk.ofNew d3 16 (Nat.le_refl _) _⟩
              have T8 : Hid (Tk w8 ob QB n (shf A sh first im) (shf V sh first im) (shf E sh first im) D Y (unf U nl first im) P (km V E D Y P sh K first m) (prm Y first pr m)) := (T7.out.later HB.out HG.out.1 HG.out.2.1).later hbl8 (by have := HG.out; have := HM.out; omega) (by have := HG.out; have := HM.out; omega)
              have B8 : Hid (Below QB w0 w8) := (B7.out.trans (HB.out.mono (by have := HG.out; omega))).trans (hbl8.mono (by have := HG.out; have := HM.out; omega))
              have HR8 : Hid (Rk w8 G0 n n (fun i => .int .i64 (shf A sh first im i)) ∧ Rk w8 G1 n n (fun i => .int .i64 (shf V sh first im i)) ∧ Rk w8 G2 n n (fun i => .int .i64 (shf E sh first im i)) ∧ Rk w8 G3 n n (fun i => .int .i64 (unf U nl first im i))) := by
                have a := HG.out
                have b := HM.out
                exact ⟨HP.out.1.later hbl8 (by omega), HP.out.2.1.later hbl8 (by omega), HP.out.2.2.1.later hbl8 (by omega), HP.out.2.2.2.later hbl8 (by omega)⟩
              clear d0 d1 d2 d3 hsz8 hbl8 hM0 hM1 hM2 hM3 T7 B7 HB HQ HP
              clear wr
              go_wp2
              go_loopw [190] (fun i wr => ∃ j : Nat, j ≤ 16 ∧ i = .int .i64 j ∧ (Rk wr M0 16 j (fun k => .int .i64 ((km V E D Y P sh K first m k).1)) ∧ Rk wr M1 16 j (fun k => .int .i64 ((km V E D Y P sh K first m k).2.1)) ∧ Rk wr M2 16 j (fun k => .int .i64 ((km V E D Y P sh K first m k).2.2.2)) ∧ Rk wr M3 16 j (fun k => .bool ((km V E D Y P sh K first m k).2.2.1))) ∧ Below M0 w8 wr ∧ M3 < wr.heap.size) (fun i _ => 16 - (intOf i).toNat)
              case atStart => exact ⟨0, Nat.zero_le _, rfl, HRm.out, Below.refl _ _, HM.out.2.2.2.2⟩
              case round =>
                clear HRm
                obtain ⟨j, hj, rfl, ⟨p0, p1, p2, p3⟩, hb, hq⟩ := hrel
                have HB : Hid (Below M0 w8 wr) := hb
                have HQ : Hid (M3 < wr.heap.size) := hq
                have HP : Hid (Rk wr M0 16 j (fun k => .int .i64 ((km V E D Y P sh K first m k).1)) ∧ Rk wr M1 16 j (fun k => .int .i64 ((km V E D Y P sh K first m k).2.1)) ∧ Rk wr M2 16 j (fun k => .int .i64 ((km V E D Y P sh K first m k).2.2.2)) ∧ Rk wr M3 16 j (fun k => .bool ((km V E D Y P sh K first m k).2.2.1))) := ⟨p0, p1, p2, p3⟩
                clear hq
                by_cases hlt : j < 16
                · have tk := T8.out.later hb (by have := HG.out; have := HM.out; omega) (by have := HG.out; have := HM.out; omega)
                  obtain ⟨s0, s1, s2, s3⟩ := tk.ky j hlt
                  obtain ⟨c0, f0⟩ : ∃ x, (km V E D Y P sh K first m j).1 = x := ⟨_, rfl⟩
                  obtain ⟨c1, f1⟩ : ∃ x, (km V E D Y P sh K first m j).2.1 = x := ⟨_, rfl⟩
                  obtain ⟨c2, f2⟩ : ∃ x, (km V E D Y P sh K first m j).2.2.1 = x := ⟨_, rfl⟩
                  obtain ⟨c3, f3⟩ : ∃ x, (km V E D Y P sh K first m j).2.2.2 = x := ⟨_, rfl⟩
                  rw [f0] at s0
                  rw [f1] at s1
                  rw [f2] at s2
                  rw [f3] at s3
                  have m01 : M0 ≠ M1 := by have := HM.out; omega
                  have m02 : M0 ≠ M2 := by have := HM.out; omega
                  have m03 : M0 ≠ M3 := by have := HM.out; omega
                  have m12 : M1 ≠ M2 := by have := HM.out; omega
                  have m13 : M1 ≠ M3 := by have := HM.out; omega
                  have m32 : M3 ≠ M2 := by have := HM.out; omega
                  have r0 : ob ≠ M0 := by have := HG.out; have := HM.out; omega
                  have r1 : ob ≠ M1 := by have := HG.out; have := HM.out; omega
                  have r2 : ob ≠ M2 := by have := HG.out; have := HM.out; omega
                  have r3 : ob ≠ M3 := by have := HG.out; have := HM.out; omega
                  have HN : Hid (Rk ((((wr.setCell ⟨M0, j, none⟩ (.int .i64 c0)).setCell ⟨M1, j, none⟩ (.int .i64 c1)).setCell ⟨M3, j, none⟩ (.bool c2)).setCell ⟨M2, j, none⟩ (.int .i64 c3)) M0 16 (j + 1) (fun k => .int .i64 ((km V E D Y P sh K first m k).1)) ∧ Rk ((((wr.setCell ⟨M0, j, none⟩ (.int .i64 c0)).setCell ⟨M1, j, none⟩ (.int .i64 c1)).setCell ⟨M3, j, none⟩ (.bool c2)).setCell ⟨M2, j, none⟩ (.int .i64 c3)) M1 16 (j + 1) (fun k => .int .i64 ((km V E D Y P sh K first m k).2.1)) ∧ Rk ((((wr.setCell ⟨M0, j, none⟩ (.int .i64 c0)).setCell ⟨M1, j, none⟩ (.int .i64 c1)).setCell ⟨M3, j, none⟩ (.bool c2)).setCell ⟨M2, j, none⟩ (.int .i64 c3)) M2 16 (j + 1) (fun k => .int .i64 ((km V E D Y P sh K first m k).2.2.2)) ∧ Rk ((((wr.setCell ⟨M0, j, none⟩ (.int .i64 c0)).setCell ⟨M1, j, none⟩ (.int .i64 c1)).setCell ⟨M3, j, none⟩ (.bool c2)).setCell ⟨M2, j, none⟩ (.int .i64 c3)) M3 16 (j + 1) (fun k => .bool ((km V E D Y P sh K first m k).2.2.1))) := by
                    have a0 := p0.next hlt
                    have a1 := (p1.other M0 j (.int .i64 c0) m01).next hlt
                    have a3 := ((p3.other M0 j (.int .i64 c0) m03).other M1 j (.int .i64 c1) m13).next hlt
                    have a2 := (((p2.other M0 j (.int .i64 c0) m02).other M1 j (.int .i64 c1) m12).other M3 j (.bool c2) m32).next hlt
                    simp only [f0] at a0
                    simp only [f1] at a1
                    simp only [f2] at a3
                    simp only [f3] at a2
                    exact ⟨((a0.other M1 j _ (Ne.symm m01)).other M3 j _ (Ne.symm m03)).other M2 j _ (Ne.symm m02), (a1.other M3 j _ (Ne.symm m13)).other M2 j _ (Ne.symm m12), a2, a3.other M2 j _ (Ne.symm m32)⟩
                  obtain ⟨x0, y0⟩ := Option.isSome_iff_exists.1 (p0.ex j hlt)
                  obtain ⟨x1, y1⟩ := Option.isSome_iff_exists.1 (p1.ex j hlt)
                  obtain ⟨x2, y2⟩ := Option.isSome_iff_exists.1 (p2.ex j hlt)
                  obtain ⟨x3, y3⟩ := Option.isSome_iff_exists.1 (p3.ex j hlt)
                  have z0 := p0.fz j
                  have z1 := p1.fz j
                  have z2 := p2.fz j
                  have z3 := p3.fz j
                  have HB5 : Hid (Below M0 w8 ((((wr.setCell ⟨M0, j, none⟩ (.int .i64 c0)).setCell ⟨M1, j, none⟩ (.int .i64 c1)).setCell ⟨M3, j, none⟩ (.bool c2)).setCell ⟨M2, j, none⟩ (.int .i64 c3))) := (((hb.setCell (p := ⟨M0, j, none⟩) (Nat.le_refl _) _).setCell (p := ⟨M1, j, none⟩) (by have := HM.out; show M0 ≤ M1; omega) _).setCell (p := ⟨M3, j, none⟩) (by have := HM.out; show M0 ≤ M3; omega) _).setCell (p := ⟨M2, j, none⟩) (by have := HM.out; show M0 ≤ M2; omega) _
                  clear f0 f1 f2 f3 p0 p1 p2 p3 tk hb
                  have hlti : (j : Int) < 16 := by omega
                  go_wp2
                  go_roundw
                  case rel => exact ⟨j + 1, by omega, by go_num, HN.out, HB5.out, by have := HQ.out; simpa using this⟩
                  case measure => simp [intOf]; omega
                · have e0 : j = 16 := by omega
                  subst e0
                  have hpres := (T8.out.later hb (by have := HG.out; have := HM.out; omega) (by have := HG.out; have := HM.out; omega)).pres
                  obtain ⟨pq, hpq⟩ : ∃ x, prm Y first pr m = x := ⟨_, rfl⟩
                  rw [hpq] at hpres
                  have HPQ : Hid (prm Y first pr m = pq) := hpq
                  have HL : Hid (wr.rangeAt M0 0 (vrow (fun k => .int .i64 ((km V E D Y P sh K first m k).1)) 16) ∧ wr.rangeAt M1 0 (vrow (fun k => .int .i64 ((km V E D Y P sh K first m k).2.1)) 16) ∧ wr.rangeAt M3 0 (vrow (fun k => .bool ((km V E D Y P sh K first m k).2.2.1)) 16) ∧ wr.rangeAt M2 0 (vrow (fun k => .int .i64 ((km V E D Y P sh K first m k).2.2.2)) 16)) := ⟨p0.range, p1.range, p3.range, p2.range⟩
                  obtain ⟨L0, hL0⟩ : ∃ x, x = vrow (fun k => .int .i64 ((km V E D Y P sh K first m k).1)) 16 := ⟨_, rfl⟩
                  obtain ⟨L1, hL1⟩ : ∃ x, x = vrow (fun k => .int .i64 ((km V E D Y P sh K first m k).2.1)) 16 := ⟨_, rfl⟩
                  obtain ⟨L2, hL2⟩ : ∃ x, x = vrow (fun k => .bool ((km V E D Y P sh K first m k).2.2.1)) 16 := ⟨_, rfl⟩
                  obtain ⟨L3, hL3⟩ : ∃ x, x = vrow (fun k => .int .i64 ((km V E D Y P sh K first m k).2.2.2)) 16 := ⟨_, rfl⟩
                  rw [← hL0, ← hL1, ← hL2, ← hL3] at HL
                  have HLL : Hid (L0 = vrow (fun k => .int .i64 ((km V E D Y P sh K first m k).1)) 16 ∧ L1 = vrow (fun k => .int .i64 ((km V E D Y P sh K first m k).2.1)) 16 ∧ L2 = vrow (fun k => .bool ((km V E D Y P sh K first m k).2.2.1)) 16 ∧ L3 = vrow (fun k => .int .i64 ((km V E D Y P sh K first m k).2.2.2)) 16) := ⟨hL0, hL1, hL2, hL3⟩
                  clear p0 p1 p2 p3 hb hj hlt hpq hL0 hL1 hL2 hL3
                  go_upto_region 37 with fail
                  have hbw : Below QB w0 wr := B8.out.trans (HB.out.mono (by have := HG.out; have := HM.out; omega))
                  have q4 := HI.out.2.2.2.2.1.later hbw (by have := HH.out; have := HQB.out; omega)
                  have q5 := HI.out.2.2.2.2.2.1.later hbw (by have := HH.out; have := HQB.out; omega)
                  have q6 := HI.out.2.2.2.2.2.2.1.later hbw (by have := HH.out; have := HQB.out; omega)
                  have q7 := HI.out.2.2.2.2.2.2.2.later hbw (by have := HH.out; have := HQB.out; omega)
                  have j0 : h4 < h5 := by have := HH.out; omega
                  have j1 : h5 < h6 := by have := HH.out; omega
                  have j2 : h6 < h7 := by have := HH.out; omega
                  have j3 : h7 < ob := by have := HH.out; have := HQB.out; have := HO.out; omega
                  have j4 : ob < M0 := by have := HG.out; have := HM.out; omega
                  have j5 : M0 < M1 := by have := HM.out; omega
                  have j6 : M1 < M2 := by have := HM.out; omega
                  have j7 : M2 < M3 := by have := HM.out; omega
                  refine reg37 ob h4 h5 h6 h7 M0 M1 M2 M3 pq L0 L1 L2 L3 wr _ _ _ _ _ _ _ _ _ _ _ _ _ _ _ _ _ _ _ _ _ _ _ _ _ _ _ _ _ _ _ _ _ _ _ _ _ _ _ _ _ _ _ _ _ _ _ _ _ _ _ _ _ _ _ _ _ _ _ _ _ _ _ _ _ _ _ _ _ _ _ _ _ _ _ _ _ _ _ _ _ _ _ _ _ _ _ _ _ _ _ _ _ _ _ _ _ _ _ _ _ _ _ _ _ _ _ _ _ _ _ _ _ _ _ _ _ _ _ _ _ _ _ _ _ _ _ _ _ _ _ _ _ _ _ _ _ _ _ _ _ _ _ _ _ _ _ _ _ _ _ _ _ _ _ _ _ _ _ _ _ _ _ _ _ _ _ _ _ _ _ _ _ _ _ _ _ _ _ _ _ _ _ _ _ _ _ _ _ _ _ _ _ _ _ _ _ _ _ _ _ _ _ _ _ _ _ _ _ _ _ _ _ _ _ _ _ _ _ _ _ _ _ _ _ _ _ _ _ _ _ _ _ _ _ _ _ _ _ (by rw [HLL.out.1, vrow16]; exact Try.siz49) (by rw [HLL.out.2.1, vrow16]; exact Try.siz49) (by rw [HLL.out.2.2.1, vrow16]; exact Try.siz50) (by rw [HLL.out.2.2.2, vrow16]; exact Try.siz49) (by rw [HLL.out.1, vrow16]) (by rw [HLL.out.2.1, vrow16]) (by rw [HLL.out.2.2.1, vrow16]) (by rw [HLL.out.2.2.2, vrow16]) (by rw [HLL.out.1]; exact vrow_one (fun _ => rfl)) (by rw [HLL.out.2.1]; exact vrow_one (fun _ => rfl)) (by rw [HLL.out.2.2.1]; exact vrow_one (fun _ => rfl)) (by rw [HLL.out.2.2.2]; exact vrow_one (fun _ => rfl)) HL.out.1 HL.out.2.1 HL.out.2.2.1 HL.out.2.2.2 q4.there q5.there q6.there q7.there hpres j0 j1 j2 j3 j4 j5 j6 j7 ?_
                  rename_i Kz hKz
                  refine hKz _ _ ?_
                  clear hKz
                  refine wp_ret ?_
                  obtain ⟨wz, hwz⟩ : ∃ x, x = ((((wr.drew.setCells h4 0 L0).setCells h5 0 L1).setCells h6 0 L2).setCells h7 0 L3) := ⟨_, rfl⟩
                  rw [← hwz]
                  have k0 : L0.length = 16 := by rw [HLL.out.1, vrow16]
                  have k1 : L1.length = 16 := by rw [HLL.out.2.1, vrow16]
                  have k2 : L2.length = 16 := by rw [HLL.out.2.2.1, vrow16]
                  have k3 : L3.length = 16 := by rw [HLL.out.2.2.2, vrow16]
                  have y4 : wr.drew.there h4 0 16 := q4.drew.there
                  have y5 : (wr.drew.setCells h4 0 L0).there h5 0 16 := World.there_setCells q5.drew.there _ _ _
                  have y6 : ((wr.drew.setCells h4 0 L0).setCells h5 0 L1).there h6 0 16 := World.there_setCells (World.there_setCells q6.drew.there _ _ _) _ _ _
                  have y7 : (((wr.drew.setCells h4 0 L0).setCells h5 0 L1).setCells h6 0 L2).there h7 0 16 := World.there_setCells (World.there_setCells (World.there_setCells q7.drew.there _ _ _) _ _ _) _ _ _
                  have R4 : wz.rangeAt h4 0 L0 := by
                    rw [hwz]
                    exact World.rangeAt_setCells_apart (World.rangeAt_setCells_apart (World.rangeAt_setCells_apart (World.rangeAt_setCells_same _ _ _ _ (by rw [k0]; exact y4)) _ _ _ (.inl (by omega))) _ _ _ (.inl (by omega))) _ _ _ (.inl (by omega))
                  have R5 : wz.rangeAt h5 0 L1 := by
                    rw [hwz]
                    exact World.rangeAt_setCells_apart (World.rangeAt_setCells_apart (World.rangeAt_setCells_same _ _ _ _ (by rw [k1]; exact y5)) _ _ _ (.inl (by omega))) _ _ _ (.inl (by omega))
                  have R6 : wz.rangeAt h6 0 L2 := by
                    rw [hwz]
                    exact World.rangeAt_setCells_apart (World.rangeAt_setCells_same _ _ _ _ (by rw [k2]; exact y6)) _ _ _ (.inl (by omega))
                  have R7 : wz.rangeAt h7 0 L3 := by
                    rw [hwz]
                    exact World.rangeAt_setCells_same _ _ _ _ (by rw [k3]; exact y7)
                  have BZ : Below w.heap.size w wz := by
                    rw [hwz]
                    refine below_setCells (by have := HH.out; omega) _ _ _ (below_setCells (by have := HH.out; omega) _ _ _ (below_setCells (by have := HH.out; omega) _ _ _ (below_setCells (by have := HH.out; omega) _ _ _ (HW.out.trans (hbw.mono (by have := HH.out; have := HQB.out; omega))).drew)))
                  have hrow : ∀ (g : Nat) (X : Nat → Value), ob < g → Rk wr g n n X → Row wz (some ⟨g, 0, none⟩) n X := fun g X hg hx => by
                    rw [hwz]
                    exact (Rk.setCells (by omega) _ _ _ (Rk.setCells (by omega) _ _ _ (Rk.setCells (by omega) _ _ _ (Rk.setCells (by omega) _ _ _ hx.drew)))).row
                  have W0 := hrow G0 _ HG.out.1 (HR8.out.1.later HB.out (by have := HG.out; have := HM.out; omega))
                  have W1 := hrow G1 _ (by have := HG.out; omega) (HR8.out.2.1.later HB.out (by have := HG.out; have := HM.out; omega))
                  have W2 := hrow G2 _ (by have := HG.out; omega) (HR8.out.2.2.1.later HB.out (by have := HG.out; have := HM.out; omega))
                  have W3 := hrow G3 _ (by have := HG.out; omega) (HR8.out.2.2.2.later HB.out (by have := HG.out; have := HM.out; omega))
                  clear hwz hrow
                  change bodyPost _ _ _ _ _ _
                  refine bodyPost_ret (results17 _ _ h4 h5 h6 h7 L0 L1 L2 L3 rfl rfl rfl rfl k0 k1 k2 k3 R4 R5 R6 R7) rfl ?_
                  rw [HIM.out] at W0 W1 W2 W3
                  refine ⟨⟨m, some ⟨G0, 0, none⟩, some ⟨G1, 0, none⟩, some ⟨G2, 0, none⟩, some ⟨G3, 0, none⟩, ?_, T12.out.1, T12.out.2, W0, W1, W2, W3⟩, BZ⟩
                  show Ending.returned (.tuple #[.int .i64 (im : Int), .int .i64 lat, .slice (some ⟨G0, 0, none⟩) n n, .slice (some ⟨G1, 0, none⟩) n n, .slice (some ⟨G2, 0, none⟩) n n, .slice (some ⟨G3, 0, none⟩) n n, .agg L0.toArray, .agg L1.toArray, .agg L2.toArray, .agg L3.toArray, .int .u16 pq]) = _
                  rw [HIM.out, HLAT.out, HLL.out.1, HLL.out.2.1, HLL.out.2.2.1, HLL.out.2.2.2, ← HPQ.out]
end Go.Proofs.Qxb6605343a
