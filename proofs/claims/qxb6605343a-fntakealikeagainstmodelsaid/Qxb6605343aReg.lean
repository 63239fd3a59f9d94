import Derived.Test.Qxb6605343aTk
namespace Go.Proofs.Qxb6605343a
open Go.RowKit
set_option linter.unusedVariables false
attribute [local go_sem ↓] Go.wp_at_zero Go.wp_at_succ
def findReg (n : Nat) : Code → Option (Array Oper)
  | .region id ops _ => if id = n then some ops else none
  | .seq a b => match findReg n a with
    | some c => some c
    | none => findReg n b
  | .block _ c => findReg n c
  | .scope c => findReg n c
  | .loop c => findReg n c
  | .cond _ a b => match findReg n a with
    | some c => some c
    | none => findReg n b
  | _ => none
noncomputable def code13 : Code := .region 13 ((Try.f22.body.bind (findReg 13)).getD #[]) true
set_option maxRecDepth 20000 in
set_option maxHeartbeats 1000000 in
theorem reg13 (ob qb j k pv kb po : Nat) (hk16 : k < 16) (hpv : pv < 65536) (hkb : 2 ^ k = kb) (hpo : pv ||| kb = po) (w : World) (Q : Exit → Act → World → Prop) (h70 : w.cell? ⟨ob, 70, none⟩ = some (.int .u16 pv)) (hf : w.frozen? ⟨ob, 70, none⟩ = false) (h5 : w.cell? ⟨qb, j + 5, none⟩ = some (.int .i64 k)) (x0 x1 x2 x3 x5 x6 x7 x8 x9 x10 x11 x12 x13 x14 x16 x17 x18 x19 x20 x21 x22 x23 x24 x25 x26 x27 x28 x29 x30 x31 x32 x33 x34 x35 x36 x37 x38 x39 x40 x41 x42 x43 x44 x45 x46 x47 x48 x49 x50 x51 x52 x53 x54 x55 x56 x57 x58 x59 x60 x61 x62 x63 x64 x65 x66 x67 x68 x69 x70 x71 x72 x73 x74 x75 x76 x77 x78 x79 x80 x81 x82 x83 x84 x85 x86 x87 x88 x89 x90 x91 x92 x93 x94 x95 x96 x97 x98 x99 x100 x101 x102 x103 x104 x105 x106 x107 x108 x109 x110 x111 x112 x113 x114 x115 x116 x117 x118 x119 x120 x121 x122 x123 x124 x125 x126 x127 x128 x129 x130 x131 x132 x133 x134 x135 x136 x137 x138 x139 x140 x141 x142 x143 x144 x145 x146 x147 x148 x149 x150 x151 x152 x153 x154 x155 x156 : Value)
    (hQ : Q .normal ⟨List.toArray (x0 :: x1 :: x2 :: x3 :: .pointer (some ⟨ob, 0, none⟩) :: x5 :: x6 :: x7 :: x8 :: x9 :: x10 :: x11 :: x12 :: x13 :: x14 :: .pointer (some ⟨qb, j, none⟩) :: x16 :: x17 :: x18 :: x19 :: x20 :: x21 :: x22 :: x23 :: x24 :: x25 :: x26 :: x27 :: x28 :: x29 :: x30 :: x31 :: x32 :: x33 :: x34 :: x35 :: x36 :: x37 :: x38 :: x39 :: x40 :: x41 :: x42 :: x43 :: x44 :: x45 :: x46 :: x47 :: x48 :: x49 :: x50 :: x51 :: x52 :: x53 :: x54 :: x55 :: x56 :: x57 :: x58 :: x59 :: x60 :: x61 :: x62 :: x63 :: x64 :: x65 :: x66 :: x67 :: x68 :: x69 :: x70 :: x71 :: x72 :: x73 :: x74 :: x75 :: x76 :: x77 :: x78 :: x79 :: x80 :: x81 :: x82 :: x83 :: x84 :: x85 :: x86 :: x87 :: x88 :: x89 :: x90 :: x91 :: x92 :: x93 :: x94 :: x95 :: x96 :: x97 :: x98 :: x99 :: x100 :: x101 :: x102 :: x103 :: x104 :: x105 :: x106 :: x107 :: x108 :: x109 :: x110 :: x111 :: x112 :: x113 :: x114 :: x115 :: x116 :: x117 :: x118 :: x119 :: x120 :: x121 :: x122 :: x123 :: x124 :: x125 :: x126 :: x127 :: x128 :: x129 :: x130 :: x131 :: x132 :: x133 :: x134 :: x135 :: x136 :: x137 :: x138 :: .pointer (some ⟨ob, 0, none⟩) :: .pointer (some ⟨ob, 0, none⟩) :: .pointer (some ⟨ob, 70, none⟩) :: .int .u16 pv :: .pointer (some ⟨qb, j, none⟩) :: .pointer (some ⟨qb, j, none⟩) :: .pointer (some ⟨qb, j + 5, none⟩) :: .int .i64 k :: .int .u16 kb :: .int .u16 po :: .pointer (some ⟨ob, 0, none⟩) :: .pointer (some ⟨ob, 70, none⟩) :: x151 :: x152 :: x153 :: x154 :: x155 :: x156 :: []), []⟩ (w.setCell ⟨ob, 70, none⟩ (.int .u16 po)).drew) :
    Code.wp Try.prog code13 Q ⟨List.toArray (x0 :: x1 :: x2 :: x3 :: .pointer (some ⟨ob, 0, none⟩) :: x5 :: x6 :: x7 :: x8 :: x9 :: x10 :: x11 :: x12 :: x13 :: x14 :: .pointer (some ⟨qb, j, none⟩) :: x16 :: x17 :: x18 :: x19 :: x20 :: x21 :: x22 :: x23 :: x24 :: x25 :: x26 :: x27 :: x28 :: x29 :: x30 :: x31 :: x32 :: x33 :: x34 :: x35 :: x36 :: x37 :: x38 :: x39 :: x40 :: x41 :: x42 :: x43 :: x44 :: x45 :: x46 :: x47 :: x48 :: x49 :: x50 :: x51 :: x52 :: x53 :: x54 :: x55 :: x56 :: x57 :: x58 :: x59 :: x60 :: x61 :: x62 :: x63 :: x64 :: x65 :: x66 :: x67 :: x68 :: x69 :: x70 :: x71 :: x72 :: x73 :: x74 :: x75 :: x76 :: x77 :: x78 :: x79 :: x80 :: x81 :: x82 :: x83 :: x84 :: x85 :: x86 :: x87 :: x88 :: x89 :: x90 :: x91 :: x92 :: x93 :: x94 :: x95 :: x96 :: x97 :: x98 :: x99 :: x100 :: x101 :: x102 :: x103 :: x104 :: x105 :: x106 :: x107 :: x108 :: x109 :: x110 :: x111 :: x112 :: x113 :: x114 :: x115 :: x116 :: x117 :: x118 :: x119 :: x120 :: x121 :: x122 :: x123 :: x124 :: x125 :: x126 :: x127 :: x128 :: x129 :: x130 :: x131 :: x132 :: x133 :: x134 :: x135 :: x136 :: x137 :: x138 :: x139 :: x140 :: x141 :: x142 :: x143 :: x144 :: x145 :: x146 :: x147 :: x148 :: x149 :: x150 :: x151 :: x152 :: x153 :: x154 :: x155 :: x156 :: []), []⟩ w := by
  have e1 : ((2 ^ k : Nat) : Int) = (kb : Int) := by rw [hkb]
  have e2 : bits .or .u16 (pv : Int) (kb : Int) = (po : Int) := by
    rw [u16_or_nat pv kb hpv (by rw [← hkb]; exact bit16 hk16), hpo]
  have hkey : ∀ w, Calls Try.prog 23 #[.int .i64 k] w fun e w' => e = .returned (.int .u16 (kb : Int)) ∧ w = w' := fun w => by
    rw [← e1]; exact keyBit_any k hk16 w
  clear hkb hpo e1
  conv => arg 2; whnf
  refine wp_region_still_tail 12 Try.mixed (by kernel_rfl) ?_
  simp only [List.take_succ_cons, List.take_zero, List.drop_succ_cons, List.drop_zero]
  iterate 8 still_step
  still_call ((hkey _).mono (fun e w' h => ⟨h.1, h.2.symm⟩))
  iterate 3 still_step
  refine wpStill_nil ?_
  go_wp2
  exact hQ
end Go.Proofs.Qxb6605343a
