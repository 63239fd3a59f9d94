import Derived.Test.Qxb6605343aLawK
namespace Go.Proofs.Qxb6605343a
open Go.RowKit
set_option linter.unusedVariables false

set_option maxHeartbeats 1000000 in
theorem bytes9_true (la : Option Addr) (nl cl : Nat) (va : Option Addr) (nv cv : Nat) (ea : Option Addr) (ne ce : Nat) (ba : Option Addr) (nb cb : Nat) (pa : Option Addr) (np cp : Nat) (w : World)
    (h : nl + nv + ne + nb + np ≤ 1048576) :
    Calls Try.prog 9 #[.slice la nl cl, .slice va nv cv, .slice ea ne ce, .slice ba nb cb, .slice pa np cp] w fun e w' => e = .returned (.bool true) ∧ w = w' := by
  go_enter Try.func9, Try.ntmps9; go_wp2; go_ret; exact ⟨rfl, rfl⟩

set_option maxRecDepth 20000 in
set_option maxHeartbeats 8000000 in
theorem lawK_any (la : Option Addr) (nl cl : Nat) (va : Option Addr) (nv cv : Nat) (ea : Option Addr) (ne ce : Nat) (ba : Option Addr) (nb cb : Nat) (pa : Option Addr) (np cp : Nat) (L V E : Nat → Int) (P : Nat → Bool) (D : Nat → Int) (w : World)
    (h1 : nl ≤ maxLen) (h2 : nv ≤ maxLen) (h3 : ne ≤ maxLen) (h4 : nb ≤ maxLen) (h5 : np ≤ maxLen)
    (z1 : la = none → nl = 0) (z2 : va = none → nv = 0) (z3 : ea = none → ne = 0) (z4 : ba = none → nb = 0) (z5 : pa = none → np = 0)
    (r1 : Row w la nl (fun i => .int .u8 (L i))) (r2 : Row w va nv (fun i => .int .i64 (V i))) (r3 : Row w ea ne (fun i => .int .i64 (E i))) (r4 : Row w ba nb (fun i => .bool (P i))) (r5 : Row w pa np (fun i => .int .u64 (D i))) :
    Calls Try.prog 4 #[.slice la nl cl, .slice va nv cv, .slice ea ne ce, .slice ba nb cb, .slice pa np cp] w fun e w' => e = .returned (.bool true) ∧ Below w.heap.size w w' := by
  by_cases c0 : nl ≤ 1048576 ∧ nv ≤ 131072 ∧ np ≤ 131072 ∧ ne = nv ∧ nb = nv ∧ (nl : Int) + 8 * nv + 8 * ne + nb + 8 * np ≤ 1048576
  · obtain ⟨c1, c2, c5, rfl, rfl, c6⟩ := c0
    exact lawK_main la nl cl va _ cv ea ce ba cb pa np cp L V E P D w c1 c2 c5 c6 z1 z2 z3 z4 z5 r1 r2 r3 r4 r5 (bytes9_true la nl cl va _ cv ea _ ce ba _ cb pa np cp w (by omega))
  clear r1 r2 r3 r4 r5 z1 z2 z3 z4 z5
  have hBY := bytes9_any la nl cl va nv cv ea ne ce ba nb cb pa np cp w h1 h2 h3 h4 h5
  unfold maxLen at h1 h2 h3 h4 h5
  go_enter Try.func4, Try.ntmps4
  go_wp2_with fail
  refine hBY.mono ?_
  rintro e w' ⟨⟨b, rfl⟩, rfl⟩
  have C0 : Hid (¬ (nl ≤ 1048576 ∧ nv ≤ 131072 ∧ np ≤ 131072 ∧ ne = nv ∧ nb = nv ∧ (nl : Int) + 8 * nv + 8 * ne + nb + 8 * np ≤ 1048576)) := c0
  clear hBY c0
  cases b
  · go_wp2
    go_ret
    exact ⟨rfl, Below.refl _ _⟩
  by_cases c1 : 1048576 < nl
  · go_wp2; go_ret; exact ⟨rfl, Below.refl _ _⟩
  by_cases c2 : 131072 < nv
  · go_wp2; go_ret; exact ⟨rfl, Below.refl _ _⟩
  by_cases c3 : 131072 < ne
  · go_wp2; go_ret; exact ⟨rfl, Below.refl _ _⟩
  by_cases c4 : 1048576 < nb
  · go_wp2; go_ret; exact ⟨rfl, Below.refl _ _⟩
  by_cases c5 : 131072 < np
  · go_wp2; go_ret; exact ⟨rfl, Below.refl _ _⟩
  by_cases c6 : (1048576 : Int) < (nl : Int) + 8 * nv + 8 * ne + nb + 8 * np
  · go_wp2; go_ret; exact ⟨rfl, Below.refl _ _⟩
  by_cases c7 : ne = nv
  · subst c7
    by_cases c8 : nb = ne
    · subst c8
      exact absurd ⟨by omega, by omega, by omega, rfl, rfl, by omega⟩ C0.out
    · have c8' : ((nb : Int) != (ne : Int)) = true := by simp; omega
      go_wp2; go_ret; exact ⟨rfl, Below.refl _ _⟩
  · have c7' : ((ne : Int) != (nv : Int)) = true := by simp; omega
    go_wp2; go_ret; exact ⟨rfl, Below.refl _ _⟩
end Go.Proofs.Qxb6605343a
