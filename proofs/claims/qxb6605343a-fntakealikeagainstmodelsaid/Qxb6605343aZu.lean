import Derived.Test.Qxb6605343aZt
namespace Go.Proofs.Qxb6605343a
open Go.RowKit
set_option linter.unusedVariables false

theorem wpStill_load_mid {P : Program} {ops : Array Oper} {w : World} {Q : Act → Prop} {a : Act} {op : Oper} {rest : List Oper} (hgd : op.guard = none) (ty : TypeId) (x : Operand) (ho : op.op = .load ty x)
    (b o : Nat) (hx : a.eval x = .pointer (some ⟨b, o, none⟩)) (cs : List Value) (d : TypeDesc) (hc : w.rangeAt b o cs)
    (hu : P.underlying ty = some d) (hd : d.isRow = true) (hi : (P.info? ty).map (·.size) = some cs.length)
    (h : wpStill P ops w Q rest (a.put op.dst (.agg cs.toArray))) : wpStill P ops w Q (op :: rest) a := by
  refine wpStill_step (fun K hK => ?_)
  have hw : Region.wanted op (yielded ops a.tmps) = true := by simp [Region.wanted, hgd]
  rw [if_pos hw]
  unfold Oper.still execOp
  simp only [ho, hx, Instr.loadAt, Instr.sureAddr, Sem.run_bind, Sem.run_pure, Result.andThen_ok, run_loadVar_mid w b o ty cs d hc hu hd hi]
  exact ⟨rfl, hK _ h⟩

theorem Try.siz49 : (Try.prog.info? 49).map (·.size) = some 16 := by kernel_rfl
theorem Try.siz50 : (Try.prog.info? 50).map (·.size) = some 16 := by kernel_rfl
theorem vrow16 (X : Nat → Value) : (vrow X 16).length = 16 := vrow_length X 16

/-- What function 17 returns: four of its results lie in cells. -/
theorem results17 (tmps : Array Value) (w : World) (q0 q1 q2 q3 : Nat) (c0 c1 c2 c3 : List Value)
    (p0 : tmps.getD 38 undef = .pointer (some ⟨q0, 0, none⟩)) (p1 : tmps.getD 39 undef = .pointer (some ⟨q1, 0, none⟩)) (p2 : tmps.getD 40 undef = .pointer (some ⟨q2, 0, none⟩)) (p3 : tmps.getD 41 undef = .pointer (some ⟨q3, 0, none⟩))
    (l0 : c0.length = 16) (l1 : c1.length = 16) (l2 : c2.length = 16) (l3 : c3.length = 16)
    (r0 : w.rangeAt q0 0 c0) (r1 : w.rangeAt q1 0 c1) (r2 : w.rangeAt q2 0 c2) (r3 : w.rangeAt q3 0 c3) :
    (results Try.f17 tmps).run Try.prog w = .ok (.tuple #[tmps.getD 32 undef, tmps.getD 33 undef, tmps.getD 34 undef, tmps.getD 35 undef, tmps.getD 36 undef, tmps.getD 37 undef, .agg c0.toArray, .agg c1.toArray, .agg c2.toArray, .agg c3.toArray, tmps.getD 42 undef]) w := by
  have a0 := run_loadVar_mid (P := Try.prog) w q0 0 49 c0 _ r0 Try.underlying49 rfl (by rw [l0]; exact Try.siz49)
  have a1 := run_loadVar_mid (P := Try.prog) w q1 0 49 c1 _ r1 Try.underlying49 rfl (by rw [l1]; exact Try.siz49)
  have a2 := run_loadVar_mid (P := Try.prog) w q2 0 50 c2 _ r2 Try.underlying50 rfl (by rw [l2]; exact Try.siz50)
  have a3 := run_loadVar_mid (P := Try.prog) w q3 0 49 c3 _ r3 Try.underlying49 rfl (by rw [l3]; exact Try.siz49)
  have p0' : tmps[38]?.getD undef = .pointer (some ⟨q0, 0, none⟩) := by simpa using p0
  have p1' : tmps[39]?.getD undef = .pointer (some ⟨q1, 0, none⟩) := by simpa using p1
  have p2' : tmps[40]?.getD undef = .pointer (some ⟨q2, 0, none⟩) := by simpa using p2
  have p3' : tmps[41]?.getD undef = .pointer (some ⟨q3, 0, none⟩) := by simpa using p3
  simp [results, p0', p1', p2', p3', asAddr, a0, a1, a2, a3]
end Go.Proofs.Qxb6605343a
