import Derived.Test.Qxb6605343aZu
import Derived.Test.Qxb6605343aReg
import Derived.Deep.RegionHeld3
namespace Go.Proofs.Qxb6605343a
open Go.RowKit
set_option linter.unusedVariables false
attribute [local go_sem ↓] Go.wp_at_zero Go.wp_at_succ
noncomputable def code37 : Code := .region 37 ((Try.f17.body.bind (findReg 37)).getD #[]) true
section
variable {P : Program} {ops : Array Oper} {Q : Exit → Act → World → Prop} {md : Region.Mode} {S : World → Prop}
theorem takeAny37 (i d : Nat) (opx : Op) (v : Value) {fuel : Nat} {listed : Array Bool} {a : Act} {w : World} (hi : ∃ oi, ops[i]? = some oi ∧ oi.dst = some d ∧ oi.op = opx ∧ oi.guard = none)
    (hs : Region.noSelect ops = true) (hf : Region.free md ops listed i = true) (hr : (Region.ready md ops listed).contains i = true)
    (hQ : ∀ c a w, Q (.panic c) (a.put (some d) v) w → Q (.panic c) a w) (hy : ∀ w, S w → ∀ oi : Oper, oi.op = opx → (execOp a.eval oi).run P w = .ok (.value v) w) (hS : S w)
    (h : wpAnyH P md ops Q S fuel (listed.setIfInBounds i true) (a.put (some d) v) w) : wpAnyH P md ops Q S (fuel + 1) listed a w := by
  obtain ⟨oi, h1, h2, h3, h4⟩ := hi
  rw [← h2] at h hQ
  exact wpAnyH_take h1 hs hf hr hQ (.inl ⟨by simp [Region.wanted, h4], fun w' hw => hy w' hw oi h3⟩) hS h
theorem takeMove37 (i d : Nat) (x : Operand) (v : Value) {fuel : Nat} {listed : Array Bool} {a : Act} {w : World} (hv : a.eval x = v) (hi : ∃ oi, ops[i]? = some oi ∧ oi.dst = some d ∧ oi.op = .move x ∧ oi.guard = none)
    (hs : Region.noSelect ops = true) (hf : Region.free md ops listed i = true) (hr : (Region.ready md ops listed).contains i = true)
    (hQ : ∀ c a w, Q (.panic c) (a.put (some d) v) w → Q (.panic c) a w) (hS : S w)
    (h : wpAnyH P md ops Q S fuel (listed.setIfInBounds i true) (a.put (some d) v) w) : wpAnyH P md ops Q S (fuel + 1) listed a w :=
  takeAny37 i d _ v hi hs hf hr hQ (fun w' _ oi ho => by unfold execOp; simp only [ho, hv]; rfl) hS h
theorem takeMid37 (i d : Nat) (ty : TypeId) (x : Operand) (b : Nat) (cs : List Value) (dd : TypeDesc) {fuel : Nat} {listed : Array Bool} {a : Act} {w : World} (hx : a.eval x = .pointer (some ⟨b, 0, none⟩)) (hi : ∃ oi, ops[i]? = some oi ∧ oi.dst = some d ∧ oi.op = .load ty x ∧ oi.guard = none)
    (hs : Region.noSelect ops = true) (hf : Region.free md ops listed i = true) (hr : (Region.ready md ops listed).contains i = true)
    (hQ : ∀ c a w, Q (.panic c) (a.put (some d) (.agg cs.toArray)) w → Q (.panic c) a w) (hc : ∀ w, S w → w.rangeAt b 0 cs) (hu : P.underlying ty = some dd) (hd : dd.isRow = true) (hz : (P.info? ty).map (·.size) = some cs.length) (hS : S w)
    (h : wpAnyH P md ops Q S fuel (listed.setIfInBounds i true) (a.put (some d) (.agg cs.toArray)) w) : wpAnyH P md ops Q S (fuel + 1) listed a w := by
  obtain ⟨oi, h1, h2, h3, h4⟩ := hi
  rw [← h2] at h hQ
  exact wpAnyH_take h1 hs hf hr hQ (yieldsIf_load_mid (by simp [Region.wanted, h4]) ty x h3 b 0 hx cs dd hc hu hd hz) hS h
theorem stepAssign37 (i d : Nat) (x : Operand) (v : Value) {fuel : Nat} {listed : Array Bool} {a : Act} {w : World} (hr : Region.ready md ops listed = [i]) (hi : ∃ oi, ops[i]? = some oi ∧ oi.dst = some d ∧ oi.op = .assign x ∧ oi.guard = none)
    (hv : a.eval x = v) (hS : S w) (h : wpAnyH P md ops Q S fuel (listed.setIfInBounds i true) (a.put (some d) v) w) : wpAnyH P md ops Q S (fuel + 1) listed a w := by
  obtain ⟨oi, h1, h2, h3, h4⟩ := hi
  refine wpAnyH_ready hr (by simp) (AllReadyH.cons h1 (fun K hK => ?_) AllReadyH.nil)
  rw [if_pos (by simp [Region.wanted, h4])]
  unfold Oper.wp execOp
  simp only [h3, hv]
  rw [← h2] at h
  exact hK.out _ _ hS (fun _ => h)
theorem stepStore37 (i : Nat) (ty : TypeId) (x y : Operand) (b : Nat) (cs : List Value) {fuel : Nat} {listed : Array Bool} {a : Act} {w : World} (hr : Region.ready md ops listed = [i]) (hi : ∃ oi, ops[i]? = some oi ∧ oi.dst = none ∧ oi.op = .store ty x y ∧ oi.guard = none)
    (hx : a.eval x = .pointer (some ⟨b, 0, none⟩)) (hy : a.eval y = .agg cs.toArray) (ht : w.there b 0 cs.length) (hz : (P.info? ty).map (·.size) = some cs.length) (h1c : ∀ v ∈ cs, v.oneCell' = true)
    (hS : S (w.setCells b 0 cs)) (h : S (w.setCells b 0 cs) → wpAnyH P md ops Q S fuel (listed.setIfInBounds i true) a (w.setCells b 0 cs)) : wpAnyH P md ops Q S (fuel + 1) listed a w := by
  obtain ⟨oi, h1, h2, h3, h4⟩ := hi
  refine wpAnyH_ready hr (by simp) (AllReadyH.cons h1 (fun K hK => ?_) AllReadyH.nil)
  rw [if_pos (by simp [Region.wanted, h4])]
  refine wp_store_mid ty x y h3 b 0 cs.toArray hx hy (by simpa using ht) (by simpa using hz) (all_oneCell_toArray h1c) ?_
  rw [h2]
  exact hK.out _ _ hS h
end
set_option maxRecDepth 20000 in
set_option maxHeartbeats 4000000 in
theorem reg37 (ob h4 h5 h6 h7 M0 M1 M2 M3 pq : Nat) (L0 L1 L2 L3 : List Value) (w : World) (Q : Exit → Act → World → Prop) (x0 x1 x2 x3 x4 x5 x6 x7 x8 x9 x10 x11 x12 x13 x14 x15 x16 x17 x18 x19 x20 x21 x22 x23 x24 x25 x26 x27 x28 x29 x30 x31 x32 x33 x34 x35 x36 x37 x42 x43 x44 x45 x47 x48 x49 x50 x51 x52 x53 x54 x59 x60 x61 x62 x63 x64 x65 x66 x67 x68 x69 x70 x71 x72 x73 x74 x75 x76 x77 x78 x79 x80 x81 x82 x83 x84 x85 x86 x87 x88 x89 x90 x91 x92 x93 x94 x95 x96 x97 x98 x99 x100 x101 x102 x103 x104 x105 x106 x107 x108 x109 x110 x111 x112 x113 x114 x115 x116 x117 x118 x119 x120 x121 x122 x123 x124 x125 x126 x127 x128 x129 x130 x131 x132 x133 x134 x135 x136 x137 x138 x139 x140 x141 x142 x143 x144 x145 x146 x147 x148 x149 x150 x151 x152 x153 x154 x155 x156 x157 x158 x159 x160 x161 x162 x163 x164 x165 x166 x167 x168 x169 x170 x171 x172 x173 x174 x175 x176 x177 x178 x179 x180 x181 x182 x183 x184 x185 x186 x187 x188 x189 x190 x191 x192 x193 x194 x195 x196 x197 x198 x199 x200 x201 x202 x203 x204 x205 x206 x207 x208 x209 x210 x211 x212 x213 x214 x215 x216 x217 x218 x219 x220 x221 x222 x223 x224 x225 x226 x227 x228 x229 x230 x231 x232 x233 x234 x235 x236 x237 x238 x239 x240 x241 x242 x243 x244 x245 x246 : Value)
    (z0 : (Try.prog.info? 49).map (·.size) = some L0.length) (z1 : (Try.prog.info? 49).map (·.size) = some L1.length) (z2 : (Try.prog.info? 50).map (·.size) = some L2.length) (z3 : (Try.prog.info? 49).map (·.size) = some L3.length)
    (l0 : L0.length = 16) (l1 : L1.length = 16) (l2 : L2.length = 16) (l3 : L3.length = 16)
    (v0 : ∀ v ∈ L0, v.oneCell' = true) (v1 : ∀ v ∈ L1, v.oneCell' = true) (v2 : ∀ v ∈ L2, v.oneCell' = true) (v3 : ∀ v ∈ L3, v.oneCell' = true)
    (r0 : w.rangeAt M0 0 L0) (r1 : w.rangeAt M1 0 L1) (r2 : w.rangeAt M3 0 L2) (r3 : w.rangeAt M2 0 L3)
    (t0 : w.there h4 0 16) (t1 : w.there h5 0 16) (t2 : w.there h6 0 16) (t3 : w.there h7 0 16)
    (hp : w.cell? ⟨ob, 70, none⟩ = some (.int .u16 pq))
    (a1 : h4 < h5) (a2 : h5 < h6) (a3 : h6 < h7) (a4 : h7 < ob) (a5 : ob < M0) (a6 : M0 < M1) (a7 : M1 < M2) (a8 : M2 < M3)
    (hQ : Q .normal ⟨List.toArray (x0 :: x1 :: x2 :: x3 :: x4 :: x5 :: x6 :: x7 :: x8 :: x9 :: x10 :: x11 :: x12 :: x13 :: x14 :: x15 :: x16 :: x17 :: x18 :: x19 :: x20 :: x21 :: x22 :: x23 :: x24 :: x25 :: x26 :: x27 :: x28 :: x29 :: x30 :: x31 :: x48 :: x49 :: x50 :: x51 :: x52 :: x53 :: .pointer (some ⟨h4, 0, none⟩) :: .pointer (some ⟨h5, 0, none⟩) :: .pointer (some ⟨h6, 0, none⟩) :: .pointer (some ⟨h7, 0, none⟩) :: .int .u16 pq :: x43 :: x44 :: x45 :: .pointer (some ⟨ob, 0, none⟩) :: x47 :: x48 :: x49 :: x50 :: x51 :: x52 :: x53 :: x54 :: .pointer (some ⟨M0, 0, none⟩) :: .pointer (some ⟨M1, 0, none⟩) :: .pointer (some ⟨M2, 0, none⟩) :: .pointer (some ⟨M3, 0, none⟩) :: x59 :: x60 :: x61 :: x62 :: x63 :: x64 :: x65 :: x66 :: x67 :: x68 :: x69 :: x70 :: x71 :: x72 :: x73 :: x74 :: x75 :: x76 :: x77 :: x78 :: x79 :: x80 :: x81 :: x82 :: x83 :: x84 :: x85 :: x86 :: x87 :: x88 :: x89 :: x90 :: x91 :: x92 :: x93 :: x94 :: x95 :: x96 :: x97 :: x98 :: x99 :: x100 :: x101 :: x102 :: x103 :: x104 :: x105 :: x106 :: x107 :: x108 :: x109 :: x110 :: x111 :: x112 :: x113 :: x114 :: x115 :: x116 :: x117 :: x118 :: x119 :: x120 :: x121 :: x122 :: x123 :: x124 :: x125 :: x126 :: x127 :: x128 :: x129 :: x130 :: x131 :: x132 :: x133 :: x134 :: x135 :: x136 :: x137 :: x138 :: x139 :: x140 :: x141 :: x142 :: x143 :: x144 :: x145 :: x146 :: x147 :: x148 :: x149 :: x150 :: x151 :: x152 :: x153 :: x154 :: x155 :: x156 :: x157 :: x158 :: x159 :: x160 :: x161 :: x162 :: x163 :: x164 :: x165 :: x166 :: x167 :: x168 :: x169 :: x170 :: x171 :: x172 :: x173 :: x174 :: x175 :: x176 :: x177 :: x178 :: x179 :: x180 :: x181 :: x182 :: x183 :: x184 :: x185 :: x186 :: x187 :: x188 :: x189 :: x190 :: x191 :: x192 :: x193 :: x194 :: x195 :: x196 :: x197 :: x198 :: x199 :: x200 :: x201 :: x202 :: x203 :: x204 :: x205 :: x206 :: x207 :: x208 :: x209 :: x210 :: x211 :: x212 :: x213 :: x214 :: x215 :: x216 :: x217 :: x218 :: x219 :: x220 :: x221 :: x222 :: x223 :: x224 :: x225 :: x226 :: x227 :: x228 :: x229 :: x230 :: x231 :: x232 :: x48 :: x49 :: x50 :: x51 :: x52 :: x53 :: .agg L0.toArray :: .agg L1.toArray :: .agg L2.toArray :: .agg L3.toArray :: .pointer (some ⟨ob, 0, none⟩) :: .pointer (some ⟨ob, 0, none⟩) :: .pointer (some ⟨ob, 70, none⟩) :: .int .u16 pq :: []), []⟩ ((((w.drew.setCells h4 0 L0).setCells h5 0 L1).setCells h6 0 L2).setCells h7 0 L3)) :
    Code.wp Try.prog code37 Q ⟨List.toArray (x0 :: x1 :: x2 :: x3 :: x4 :: x5 :: x6 :: x7 :: x8 :: x9 :: x10 :: x11 :: x12 :: x13 :: x14 :: x15 :: x16 :: x17 :: x18 :: x19 :: x20 :: x21 :: x22 :: x23 :: x24 :: x25 :: x26 :: x27 :: x28 :: x29 :: x30 :: x31 :: x32 :: x33 :: x34 :: x35 :: x36 :: x37 :: .pointer (some ⟨h4, 0, none⟩) :: .pointer (some ⟨h5, 0, none⟩) :: .pointer (some ⟨h6, 0, none⟩) :: .pointer (some ⟨h7, 0, none⟩) :: x42 :: x43 :: x44 :: x45 :: .pointer (some ⟨ob, 0, none⟩) :: x47 :: x48 :: x49 :: x50 :: x51 :: x52 :: x53 :: x54 :: .pointer (some ⟨M0, 0, none⟩) :: .pointer (some ⟨M1, 0, none⟩) :: .pointer (some ⟨M2, 0, none⟩) :: .pointer (some ⟨M3, 0, none⟩) :: x59 :: x60 :: x61 :: x62 :: x63 :: x64 :: x65 :: x66 :: x67 :: x68 :: x69 :: x70 :: x71 :: x72 :: x73 :: x74 :: x75 :: x76 :: x77 :: x78 :: x79 :: x80 :: x81 :: x82 :: x83 :: x84 :: x85 :: x86 :: x87 :: x88 :: x89 :: x90 :: x91 :: x92 :: x93 :: x94 :: x95 :: x96 :: x97 :: x98 :: x99 :: x100 :: x101 :: x102 :: x103 :: x104 :: x105 :: x106 :: x107 :: x108 :: x109 :: x110 :: x111 :: x112 :: x113 :: x114 :: x115 :: x116 :: x117 :: x118 :: x119 :: x120 :: x121 :: x122 :: x123 :: x124 :: x125 :: x126 :: x127 :: x128 :: x129 :: x130 :: x131 :: x132 :: x133 :: x134 :: x135 :: x136 :: x137 :: x138 :: x139 :: x140 :: x141 :: x142 :: x143 :: x144 :: x145 :: x146 :: x147 :: x148 :: x149 :: x150 :: x151 :: x152 :: x153 :: x154 :: x155 :: x156 :: x157 :: x158 :: x159 :: x160 :: x161 :: x162 :: x163 :: x164 :: x165 :: x166 :: x167 :: x168 :: x169 :: x170 :: x171 :: x172 :: x173 :: x174 :: x175 :: x176 :: x177 :: x178 :: x179 :: x180 :: x181 :: x182 :: x183 :: x184 :: x185 :: x186 :: x187 :: x188 :: x189 :: x190 :: x191 :: x192 :: x193 :: x194 :: x195 :: x196 :: x197 :: x198 :: x199 :: x200 :: x201 :: x202 :: x203 :: x204 :: x205 :: x206 :: x207 :: x208 :: x209 :: x210 :: x211 :: x212 :: x213 :: x214 :: x215 :: x216 :: x217 :: x218 :: x219 :: x220 :: x221 :: x222 :: x223 :: x224 :: x225 :: x226 :: x227 :: x228 :: x229 :: x230 :: x231 :: x232 :: x233 :: x234 :: x235 :: x236 :: x237 :: x238 :: x239 :: x240 :: x241 :: x242 :: x243 :: x244 :: x245 :: x246 :: []), []⟩ w := by
  unfold code37
  simp only [Try.f17, Option.bind, findReg, Option.getD, Nat.reduceEqDiff, reduceIte]
  refine wp_region_noPanic ?_
  refine wp_region_held_drew (S := (fun w' => w'.rangeAt M0 0 L0 ∧ w'.rangeAt M1 0 L1 ∧ w'.rangeAt M3 0 L2 ∧ w'.rangeAt M2 0 L3 ∧ w'.there h4 0 16 ∧ w'.there h5 0 16 ∧ w'.there h6 0 16 ∧ w'.there h7 0 16 ∧ w'.cell? ⟨ob, 70, none⟩ = some (.int .u16 pq))) Try.mixed ⟨r0, r1, r2, r3, t0, t1, t2, t3, hp⟩ (fun hH => ?_)
  clear r0 r1 r2 r3 t0 t1 t2 t3 hp
  refine takeMove37 0 233 (.tmp 48) x48 rfl ⟨_, rfl, rfl, rfl, rfl⟩ (by kernel_rfl) (by kernel_rfl) (by kernel_rfl) (fun _ _ _ h => h) hH ?_
  simp only [Act.put, List.setIfInBounds_toArray, List.set_cons_zero, List.set_cons_succ]
  refine takeMove37 1 234 (.tmp 49) x49 rfl ⟨_, rfl, rfl, rfl, rfl⟩ (by kernel_rfl) (by kernel_rfl) (by kernel_rfl) (fun _ _ _ h => h) hH ?_
  simp only [Act.put, List.setIfInBounds_toArray, List.set_cons_zero, List.set_cons_succ]
  refine takeMove37 2 235 (.tmp 50) x50 rfl ⟨_, rfl, rfl, rfl, rfl⟩ (by kernel_rfl) (by kernel_rfl) (by kernel_rfl) (fun _ _ _ h => h) hH ?_
  simp only [Act.put, List.setIfInBounds_toArray, List.set_cons_zero, List.set_cons_succ]
  refine takeMove37 3 236 (.tmp 51) x51 rfl ⟨_, rfl, rfl, rfl, rfl⟩ (by kernel_rfl) (by kernel_rfl) (by kernel_rfl) (fun _ _ _ h => h) hH ?_
  simp only [Act.put, List.setIfInBounds_toArray, List.set_cons_zero, List.set_cons_succ]
  refine takeMove37 4 237 (.tmp 52) x52 rfl ⟨_, rfl, rfl, rfl, rfl⟩ (by kernel_rfl) (by kernel_rfl) (by kernel_rfl) (fun _ _ _ h => h) hH ?_
  simp only [Act.put, List.setIfInBounds_toArray, List.set_cons_zero, List.set_cons_succ]
  refine takeMove37 5 238 (.tmp 53) x53 rfl ⟨_, rfl, rfl, rfl, rfl⟩ (by kernel_rfl) (by kernel_rfl) (by kernel_rfl) (fun _ _ _ h => h) hH ?_
  simp only [Act.put, List.setIfInBounds_toArray, List.set_cons_zero, List.set_cons_succ]
  refine takeMid37 6 239 49 (.tmp 55) M0 L0 _ rfl ⟨_, rfl, rfl, rfl, rfl⟩ (by kernel_rfl) (by kernel_rfl) (by kernel_rfl) (fun _ _ _ h => h) (fun w' h => h.1) Try.underlying49 rfl z0 hH ?_
  simp only [Act.put, List.setIfInBounds_toArray, List.set_cons_zero, List.set_cons_succ]
  refine takeMid37 7 240 49 (.tmp 56) M1 L1 _ rfl ⟨_, rfl, rfl, rfl, rfl⟩ (by kernel_rfl) (by kernel_rfl) (by kernel_rfl) (fun _ _ _ h => h) (fun w' h => h.2.1) Try.underlying49 rfl z1 hH ?_
  simp only [Act.put, List.setIfInBounds_toArray, List.set_cons_zero, List.set_cons_succ]
  refine takeMid37 8 241 50 (.tmp 58) M3 L2 _ rfl ⟨_, rfl, rfl, rfl, rfl⟩ (by kernel_rfl) (by kernel_rfl) (by kernel_rfl) (fun _ _ _ h => h) (fun w' h => h.2.2.1) Try.underlying50 rfl z2 hH ?_
  simp only [Act.put, List.setIfInBounds_toArray, List.set_cons_zero, List.set_cons_succ]
  refine takeMid37 9 242 49 (.tmp 57) M2 L3 _ rfl ⟨_, rfl, rfl, rfl, rfl⟩ (by kernel_rfl) (by kernel_rfl) (by kernel_rfl) (fun _ _ _ h => h) (fun w' h => h.2.2.2.1) Try.underlying49 rfl z3 hH ?_
  simp only [Act.put, List.setIfInBounds_toArray, List.set_cons_zero, List.set_cons_succ]
  refine takeMove37 10 243 (.tmp 46) (.pointer (some ⟨ob, 0, none⟩)) rfl ⟨_, rfl, rfl, rfl, rfl⟩ (by kernel_rfl) (by kernel_rfl) (by kernel_rfl) (fun _ _ _ h => h) hH ?_
  simp only [Act.put, List.setIfInBounds_toArray, List.set_cons_zero, List.set_cons_succ]
  refine takeAny37 11 244 (.nilCheck (.tmp 243)) (.pointer (some ⟨ob, 0, none⟩)) ⟨_, rfl, rfl, rfl, rfl⟩ (by kernel_rfl) (by kernel_rfl) (by kernel_rfl) (fun _ _ _ h => h) (fun w' h oi ho => by unfold execOp; simp only [ho]; go_simp) hH ?_
  simp only [Act.put, List.setIfInBounds_toArray, List.set_cons_zero, List.set_cons_succ]
  refine takeAny37 12 245 (.fieldAddr 66 (.tmp 244) 7) (.pointer (some ⟨ob, 70, none⟩)) ⟨_, rfl, rfl, rfl, rfl⟩ (by kernel_rfl) (by kernel_rfl) (by kernel_rfl) (fun _ _ _ h => h) (fun w' h oi ho => by unfold execOp; simp only [ho]; go_simp) hH ?_
  simp only [Act.put, List.setIfInBounds_toArray, List.set_cons_zero, List.set_cons_succ]
  refine takeAny37 13 246 (.load 44 (.tmp 245)) (.int .u16 pq) ⟨_, rfl, rfl, rfl, rfl⟩ (by kernel_rfl) (by kernel_rfl) (by kernel_rfl) (fun _ _ _ h => h) (fun w' h oi ho => by have hc := h.2.2.2.2.2.2.2.2; clear h; unfold execOp; simp only [ho]; go_simp) hH ?_
  simp only [Act.put, List.setIfInBounds_toArray, List.set_cons_zero, List.set_cons_succ]
  refine stepAssign37 14 32 (.tmp 233) x48 (by kernel_rfl) ⟨_, rfl, rfl, rfl, rfl⟩ rfl hH ?_
  simp only [Act.put, List.setIfInBounds_toArray, List.set_cons_zero, List.set_cons_succ]
  refine stepAssign37 15 33 (.tmp 234) x49 (by kernel_rfl) ⟨_, rfl, rfl, rfl, rfl⟩ rfl hH ?_
  simp only [Act.put, List.setIfInBounds_toArray, List.set_cons_zero, List.set_cons_succ]
  refine stepAssign37 16 34 (.tmp 235) x50 (by kernel_rfl) ⟨_, rfl, rfl, rfl, rfl⟩ rfl hH ?_
  simp only [Act.put, List.setIfInBounds_toArray, List.set_cons_zero, List.set_cons_succ]
  refine stepAssign37 17 35 (.tmp 236) x51 (by kernel_rfl) ⟨_, rfl, rfl, rfl, rfl⟩ rfl hH ?_
  simp only [Act.put, List.setIfInBounds_toArray, List.set_cons_zero, List.set_cons_succ]
  refine stepAssign37 18 36 (.tmp 237) x52 (by kernel_rfl) ⟨_, rfl, rfl, rfl, rfl⟩ rfl hH ?_
  simp only [Act.put, List.setIfInBounds_toArray, List.set_cons_zero, List.set_cons_succ]
  refine stepAssign37 19 37 (.tmp 238) x53 (by kernel_rfl) ⟨_, rfl, rfl, rfl, rfl⟩ rfl hH ?_
  simp only [Act.put, List.setIfInBounds_toArray, List.set_cons_zero, List.set_cons_succ]
  refine stepStore37 20 49 (.tmp 38) (.tmp 239) h4 L0 (by kernel_rfl) ⟨_, rfl, rfl, rfl, rfl⟩ rfl rfl (by have h := hH; rw [l0]; exact h.2.2.2.2.1) z0 v0 ?_ (fun hH' => ?_)
  · obtain ⟨q0, q1, q2, q3, q4, q5, q6, q7, q8⟩ := hH
    refine ⟨World.rangeAt_setCells_apart q0 _ _ _ (.inl (by omega)), World.rangeAt_setCells_apart q1 _ _ _ (.inl (by omega)), World.rangeAt_setCells_apart q2 _ _ _ (.inl (by omega)), World.rangeAt_setCells_apart q3 _ _ _ (.inl (by omega)), World.there_setCells q4 _ _ _, World.there_setCells q5 _ _ _, World.there_setCells q6 _ _ _, World.there_setCells q7 _ _ _, ?_⟩
    rw [World.cell?_setCells_out _ _ _ _ _ (fun hb => absurd hb (by show ob ≠ h4; omega))]; exact q8
  clear hH
  have hH := hH'
  clear hH'
  refine stepStore37 21 49 (.tmp 39) (.tmp 240) h5 L1 (by kernel_rfl) ⟨_, rfl, rfl, rfl, rfl⟩ rfl rfl (by have h := hH; rw [l1]; exact h.2.2.2.2.2.1) z1 v1 ?_ (fun hH' => ?_)
  · obtain ⟨q0, q1, q2, q3, q4, q5, q6, q7, q8⟩ := hH
    refine ⟨World.rangeAt_setCells_apart q0 _ _ _ (.inl (by omega)), World.rangeAt_setCells_apart q1 _ _ _ (.inl (by omega)), World.rangeAt_setCells_apart q2 _ _ _ (.inl (by omega)), World.rangeAt_setCells_apart q3 _ _ _ (.inl (by omega)), World.there_setCells q4 _ _ _, World.there_setCells q5 _ _ _, World.there_setCells q6 _ _ _, World.there_setCells q7 _ _ _, ?_⟩
    rw [World.cell?_setCells_out _ _ _ _ _ (fun hb => absurd hb (by show ob ≠ h5; omega))]; exact q8
  clear hH
  have hH := hH'
  clear hH'
  refine stepStore37 22 50 (.tmp 40) (.tmp 241) h6 L2 (by kernel_rfl) ⟨_, rfl, rfl, rfl, rfl⟩ rfl rfl (by have h := hH; rw [l2]; exact h.2.2.2.2.2.2.1) z2 v2 ?_ (fun hH' => ?_)
  · obtain ⟨q0, q1, q2, q3, q4, q5, q6, q7, q8⟩ := hH
    refine ⟨World.rangeAt_setCells_apart q0 _ _ _ (.inl (by omega)), World.rangeAt_setCells_apart q1 _ _ _ (.inl (by omega)), World.rangeAt_setCells_apart q2 _ _ _ (.inl (by omega)), World.rangeAt_setCells_apart q3 _ _ _ (.inl (by omega)), World.there_setCells q4 _ _ _, World.there_setCells q5 _ _ _, World.there_setCells q6 _ _ _, World.there_setCells q7 _ _ _, ?_⟩
    rw [World.cell?_setCells_out _ _ _ _ _ (fun hb => absurd hb (by show ob ≠ h6; omega))]; exact q8
  clear hH
  have hH := hH'
  clear hH'
  refine stepStore37 23 49 (.tmp 41) (.tmp 242) h7 L3 (by kernel_rfl) ⟨_, rfl, rfl, rfl, rfl⟩ rfl rfl (by have h := hH; rw [l3]; exact h.2.2.2.2.2.2.2.1) z3 v3 ?_ (fun hH' => ?_)
  · obtain ⟨q0, q1, q2, q3, q4, q5, q6, q7, q8⟩ := hH
    refine ⟨World.rangeAt_setCells_apart q0 _ _ _ (.inl (by omega)), World.rangeAt_setCells_apart q1 _ _ _ (.inl (by omega)), World.rangeAt_setCells_apart q2 _ _ _ (.inl (by omega)), World.rangeAt_setCells_apart q3 _ _ _ (.inl (by omega)), World.there_setCells q4 _ _ _, World.there_setCells q5 _ _ _, World.there_setCells q6 _ _ _, World.there_setCells q7 _ _ _, ?_⟩
    rw [World.cell?_setCells_out _ _ _ _ _ (fun hb => absurd hb (by show ob ≠ h7; omega))]; exact q8
  clear hH
  have hH := hH'
  clear hH'
  refine stepAssign37 24 42 (.tmp 246) (.int .u16 pq) (by kernel_rfl) ⟨_, rfl, rfl, rfl, rfl⟩ rfl hH ?_
  simp only [Act.put, List.setIfInBounds_toArray, List.set_cons_zero, List.set_cons_succ]
  refine wpAnyH_done (by kernel_rfl) ?_ _
  exact hQ
end Go.Proofs.Qxb6605343a
