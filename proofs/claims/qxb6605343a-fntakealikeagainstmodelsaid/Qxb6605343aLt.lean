import Derived.Test.Qxb6605343aZu
import Derived.Test.Qxb6605343aLb
import Derived.Test.Qxb6605343aReg
import Derived.Deep.CutBlock
namespace Go.Proofs.Qxb6605343a
open Go.RowKit
set_option linter.unusedVariables false
attribute [local go_sem ↓] Go.wp_at_zero Go.wp_at_succ

/-- What the law asks of the places. -/
def okp (n : Nat) (D Y : Nat → Int) (P : Nat → Bool) : Prop := ∀ i, i < n → 0 ≤ D i ∧ D i ≤ 5 ∧ Y i < 16 ∧ (P i = true → D i = 3)
/-- A number that fits. -/
structure Lim63 (x : Int) : Prop where
  out : x < 9223372036854775808
def after43 : Code → Option Code
  | .seq a b => match a with
    | .region id _ _ => if id = 43 then some b else after43 b
    | .seq c d => match after43 (.seq c d) with
      | some e => some e
      | none => after43 b
    | _ => after43 b
  | _ => none
noncomputable def code43r : Code := (Try.f5.body.bind after43).getD .skip
/-- What is known when the call of ZZTakeAlike is behind. -/
structure Mid (w14 : World) (pa2 a1 v1 e1 u1 : Option Addr) (KB J0 J1 J2 J3 n nl first im m pr pq : Nat) (at0 sh lat : Int) (A V E D Y U : Nat → Int) (P : Nat → Bool) (K : Nat → Int × Int × Bool × Int) : Prop where
  pls : Pls w14 pa2 n A V E D Y U P
  kb : ∀ j, j < 64 → w14.cell? ⟨KB, j, none⟩ = some (kx K j)
  ra : Row w14 a1 n (fun i => .int .i64 (shf A sh first im i))
  rv : Row w14 v1 n (fun i => .int .i64 (shf V sh first im i))
  re : Row w14 e1 n (fun i => .int .i64 (shf E sh first im i))
  ru : Row w14 u1 n (fun i => .int .i64 (unf U nl first im i))
  c0 : ∀ k, k < 16 → w14.cell? ⟨J0, k, none⟩ = some (.int .i64 (km V E D Y P sh K first m k).1)
  c1 : ∀ k, k < 16 → w14.cell? ⟨J1, k, none⟩ = some (.int .i64 (km V E D Y P sh K first m k).2.1)
  c2 : ∀ k, k < 16 → w14.cell? ⟨J2, k, none⟩ = some (.bool (km V E D Y P sh K first m k).2.2.1)
  c3 : ∀ k, k < 16 → w14.cell? ⟨J3, k, none⟩ = some (.int .i64 (km V E D Y P sh K first m k).2.2.2)
  t1 : ∀ j, first ≤ j → j < first + m → j < n ∧ tkb D Y P j = true
  t2 : first + m < n → tkb D Y P (first + m) = false
  im : im = first + m
  lat : lat = lastAt E sh at0 first m
  pq : pq = prm Y first pr m
  ok : okp n D Y P
  fi : Lim63 (first : Int)

set_option maxRecDepth 40000 in
set_option maxHeartbeats 8000000 in
theorem law5_tail (w w14 : World) (pa2 la2 a1 v1 e1 u1 : Option Addr) (KB J0 J1 J2 J3 n nl first im m pr pq : Nat) (at0 sh lat : Int) (A V E D Y U : Nat → Int) (P : Nat → Bool) (K : Nat → Int × Int × Bool × Int) (x5 x7 x8 x9 x10 x11 x13 x14 x15 x16 x18 x19 x20 x21 x22 x23 x24 x25 x26 x27 x28 x29 x30 x43 x44 x45 x46 x47 x48 x49 x50 x51 x52 x53 x54 x55 x56 x57 x58 x59 x60 x61 x62 x63 x64 x65 x66 x67 x68 x69 x70 x71 x72 x73 x74 x75 x76 x77 x78 x79 x80 x81 x82 x83 x84 x85 x86 x87 x88 x89 x90 x91 x92 x93 x94 x95 x96 x97 x98 x99 x100 x101 x102 x103 x104 x105 x106 x107 x108 x109 x110 x111 x112 x113 x114 x115 x116 x117 x118 x119 x120 x121 x122 x123 x124 x125 x126 x127 x128 x129 x130 x131 x132 x133 x134 x135 x136 x137 x138 x139 x140 x141 x142 x143 x144 x145 x146 x147 x148 x149 x150 x151 x152 x153 x154 x155 x156 x157 x158 x159 x160 x161 x162 x163 x164 x165 x166 x167 x168 x169 x170 x171 x172 x173 x174 x175 x176 x177 x178 x179 x180 x181 x182 x183 x184 x185 x186 x187 x188 x189 x190 x191 x192 x193 x194 x195 x196 x197 x198 x199 x200 x201 x202 x203 x204 x205 x206 x207 x208 x209 x210 x211 x212 x213 x214 x215 x216 x217 x218 x219 x220 x221 x222 x223 x224 x225 x226 x227 x228 x229 x230 x231 x232 x233 x234 x235 x236 x237 x238 x239 x240 x241 x242 x243 x244 x245 x246 x247 x248 x249 x250 x251 x252 x253 x254 x255 x256 x257 x258 x259 x260 x261 x262 x263 x264 x265 x266 x267 x268 x269 x270 x271 x272 x273 x274 x275 x276 x277 x278 x279 x280 x281 x282 x283 x284 x285 x286 x287 x288 x289 x290 x291 x292 x293 x294 x295 x296 x297 x298 x299 x300 x301 x302 x303 x304 x305 x306 x307 x308 x309 x310 x311 x312 x313 x314 x315 x316 x317 x318 x319 x320 x321 x322 x323 x324 x325 x326 x327 x328 x329 x330 x331 x332 x333 x334 x335 x336 x337 x338 x339 x340 x341 x342 x343 x344 x345 x346 x347 x348 x349 x350 x351 x352 x353 x354 x355 x356 x357 x358 x359 x360 x361 x362 x363 x364 x365 x366 x367 x368 x369 x370 x371 x372 x373 x374 x375 x376 x377 x378 x379 x380 x381 x382 x383 x384 x385 x386 x387 x388 x389 x390 x391 x392 x393 x394 x395 x396 x397 x398 x399 x400 x401 x402 x403 x404 x405 x406 x407 x408 x409 x410 x411 x412 x413 x414 x415 x416 x417 x418 x419 x420 x421 x422 x423 x424 x425 x426 x427 x428 x429 x430 x431 x432 x433 x434 x435 x436 x437 x438 x439 x440 x441 x442 x443 x444 x445 x446 x447 x448 x449 x450 x451 x452 x453 x454 x455 x456 x457 x458 x459 x460 x461 x462 x463 x464 x465 x466 x467 x468 x469 x470 x471 x472 : Value)
    (HM : Mid w14 pa2 a1 v1 e1 u1 KB J0 J1 J2 J3 n nl first im m pr pq at0 sh lat A V E D Y U P K) (HB14 : Below w.heap.size w w14) (hn : n ≤ 131072) (hnl : nl ≤ 1048576) (hpr : pr < 65536) :
    Code.wp Try.prog code43r (bodyPost Try.prog Try.f5 (fun e w' => e = .returned (.bool true) ∧ Below w.heap.size w w')) ⟨List.toArray (.int .i64 (first : Int) :: .int .i64 at0 :: .int .i64 sh :: .slice pa2 n n :: .slice la2 nl nl :: x5 :: .int .u16 pr :: x7 :: x8 :: x9 :: x10 :: x11 :: .pointer (some ⟨KB, 0, none⟩) :: x13 :: x14 :: x15 :: x16 :: .int .i64 n :: x18 :: x19 :: x20 :: x21 :: x22 :: x23 :: x24 :: x25 :: x26 :: x27 :: x28 :: x29 :: x30 :: .int .i64 im :: .int .i64 lat :: .slice a1 n n :: .slice v1 n n :: .slice e1 n n :: .slice u1 n n :: .pointer (some ⟨J0, 0, none⟩) :: .pointer (some ⟨J1, 0, none⟩) :: .pointer (some ⟨J2, 0, none⟩) :: .pointer (some ⟨J3, 0, none⟩) :: .int .u16 pq :: .int .i64 (first : Int) :: x43 :: x44 :: x45 :: x46 :: x47 :: x48 :: x49 :: x50 :: x51 :: x52 :: x53 :: x54 :: x55 :: x56 :: x57 :: x58 :: x59 :: x60 :: x61 :: x62 :: x63 :: x64 :: x65 :: x66 :: x67 :: x68 :: x69 :: x70 :: x71 :: x72 :: x73 :: x74 :: x75 :: x76 :: x77 :: x78 :: x79 :: x80 :: x81 :: x82 :: x83 :: x84 :: x85 :: x86 :: x87 :: x88 :: x89 :: x90 :: x91 :: x92 :: x93 :: x94 :: x95 :: x96 :: x97 :: x98 :: x99 :: x100 :: x101 :: x102 :: x103 :: x104 :: x105 :: x106 :: x107 :: x108 :: x109 :: x110 :: x111 :: x112 :: x113 :: x114 :: x115 :: x116 :: x117 :: x118 :: x119 :: x120 :: x121 :: x122 :: x123 :: x124 :: x125 :: x126 :: x127 :: x128 :: x129 :: x130 :: x131 :: x132 :: x133 :: x134 :: x135 :: x136 :: x137 :: x138 :: x139 :: x140 :: x141 :: x142 :: x143 :: x144 :: x145 :: x146 :: x147 :: x148 :: x149 :: x150 :: x151 :: x152 :: x153 :: x154 :: x155 :: x156 :: x157 :: x158 :: x159 :: x160 :: x161 :: x162 :: x163 :: x164 :: x165 :: x166 :: x167 :: x168 :: x169 :: x170 :: x171 :: x172 :: x173 :: x174 :: x175 :: x176 :: x177 :: x178 :: x179 :: x180 :: x181 :: x182 :: x183 :: x184 :: x185 :: x186 :: x187 :: x188 :: x189 :: x190 :: x191 :: x192 :: x193 :: x194 :: x195 :: x196 :: x197 :: x198 :: x199 :: x200 :: x201 :: x202 :: x203 :: x204 :: x205 :: x206 :: x207 :: x208 :: x209 :: x210 :: x211 :: x212 :: x213 :: x214 :: x215 :: x216 :: x217 :: x218 :: x219 :: x220 :: x221 :: x222 :: x223 :: x224 :: x225 :: x226 :: x227 :: x228 :: x229 :: x230 :: x231 :: x232 :: x233 :: x234 :: x235 :: x236 :: x237 :: x238 :: x239 :: x240 :: x241 :: x242 :: x243 :: x244 :: x245 :: x246 :: x247 :: x248 :: x249 :: x250 :: x251 :: x252 :: x253 :: x254 :: x255 :: x256 :: x257 :: x258 :: x259 :: x260 :: x261 :: x262 :: x263 :: x264 :: x265 :: x266 :: x267 :: x268 :: x269 :: x270 :: x271 :: x272 :: x273 :: x274 :: x275 :: x276 :: x277 :: x278 :: x279 :: x280 :: x281 :: x282 :: x283 :: x284 :: x285 :: x286 :: x287 :: x288 :: x289 :: x290 :: x291 :: x292 :: x293 :: x294 :: x295 :: x296 :: x297 :: x298 :: x299 :: x300 :: x301 :: x302 :: x303 :: x304 :: x305 :: x306 :: x307 :: x308 :: x309 :: x310 :: x311 :: x312 :: x313 :: x314 :: x315 :: x316 :: x317 :: x318 :: x319 :: x320 :: x321 :: x322 :: x323 :: x324 :: x325 :: x326 :: x327 :: x328 :: x329 :: x330 :: x331 :: x332 :: x333 :: x334 :: x335 :: x336 :: x337 :: x338 :: x339 :: x340 :: x341 :: x342 :: x343 :: x344 :: x345 :: x346 :: x347 :: x348 :: x349 :: x350 :: x351 :: x352 :: x353 :: x354 :: x355 :: x356 :: x357 :: x358 :: x359 :: x360 :: x361 :: x362 :: x363 :: x364 :: x365 :: x366 :: x367 :: x368 :: x369 :: x370 :: x371 :: x372 :: x373 :: x374 :: x375 :: x376 :: x377 :: x378 :: x379 :: x380 :: x381 :: x382 :: x383 :: x384 :: x385 :: x386 :: x387 :: x388 :: x389 :: x390 :: x391 :: x392 :: x393 :: x394 :: x395 :: x396 :: x397 :: x398 :: x399 :: x400 :: x401 :: x402 :: x403 :: x404 :: x405 :: x406 :: x407 :: x408 :: x409 :: x410 :: x411 :: x412 :: x413 :: x414 :: x415 :: x416 :: x417 :: x418 :: x419 :: x420 :: x421 :: x422 :: x423 :: x424 :: x425 :: x426 :: x427 :: x428 :: x429 :: x430 :: x431 :: x432 :: x433 :: x434 :: x435 :: x436 :: x437 :: x438 :: x439 :: x440 :: x441 :: x442 :: x443 :: x444 :: x445 :: x446 :: x447 :: x448 :: x449 :: x450 :: x451 :: x452 :: x453 :: x454 :: x455 :: x456 :: x457 :: x458 :: x459 :: x460 :: x461 :: x462 :: x463 :: x464 :: x465 :: x466 :: x467 :: x468 :: x469 :: x470 :: x471 :: x472 :: []), []⟩ w14 := by
  conv => arg 2; whnf
  have HW : Hid (Below w.heap.size w w14) := HB14
  have HMH : Hid (Mid w14 pa2 a1 v1 e1 u1 KB J0 J1 J2 J3 n nl first im m pr pq at0 sh lat A V E D Y U P K) := HM
  clear HB14 HM
  go_upto_block 6 with fail
  go_cut [42] from 258 to 269 (fun i wx => i = .int .i64 (im : Int) ∧ Below w14.heap.size w14 wx)
  case first =>
    as_aux_lemma =>
      go_wp2
      go_loopw [42] (fun i wr => ∃ s : Nat, s ≤ m ∧ i = .int .i64 ((first + s : Nat) : Int) ∧ Below w14.heap.size w14 wr) (fun i _ => (first + m) - (intOf i).toNat)
      case atStart => exact ⟨0, Nat.zero_le _, rfl, Below.refl _ _⟩
      case round =>
        obtain ⟨s, hs, rfl, hb⟩ := hrel
        have HB : Hid (Below w14.heap.size w14 wr) := hb
        obtain ⟨i, hi⟩ : ∃ i : Nat, i = first + s := ⟨_, rfl⟩
        rw [← hi]
        have HI : Hid (i = first + s) := hi
        clear hi
        have HS : Hid (s ≤ m) := hs
        clear hs
        by_cases hlt : i < n
        · have hlti : (i : Int) < (n : Int) := by omega
          obtain ⟨b, off, rfl, hcc⟩ := HMH.out.pls (by omega)
          obtain ⟨c0, c1, c2, c3, c4, c5, c6⟩ := hcc i hlt
          have d0 := cell_later hb c0
          have d1 := cell_later hb c1
          have d2 := cell_later hb c2
          have d3 := cell_later hb c3
          have d4 := cell_later hb c4
          have d5 := cell_later hb c5
          have d6 := cell_later hb c6
          have hok := HMH.out.ok i hlt
          obtain ⟨tb, htb⟩ : ∃ x, tkb D Y P i = x := ⟨_, rfl⟩
          have htk : tk1 (D i) (Y i) (P i) = tb := htb
          have HTB : Hid (tkb D Y P i = tb) := htb
          clear htb
          obtain ⟨dk, hdk⟩ : ∃ x, D i = x := ⟨_, rfl⟩
          obtain ⟨yk, hyk⟩ : ∃ x, Y i = x := ⟨_, rfl⟩
          obtain ⟨pk, hpk⟩ : ∃ x, P i = x := ⟨_, rfl⟩
          obtain ⟨ak, hak⟩ : ∃ x, A i = x := ⟨_, rfl⟩
          obtain ⟨vk, hvk⟩ : ∃ x, V i = x := ⟨_, rfl⟩
          obtain ⟨ek, hek⟩ : ∃ x, E i = x := ⟨_, rfl⟩
          obtain ⟨uk, huk⟩ : ∃ x, U i = x := ⟨_, rfl⟩
          rw [hak] at d0
          rw [hvk] at d1
          rw [hek] at d2
          rw [hdk] at d3
          rw [hpk] at d4
          rw [hyk] at d5
          rw [huk] at d6
          rw [hdk, hyk, hpk] at htk
          have hd0 : 0 ≤ dk := by rw [← hdk]; exact hok.1
          have hd5 : dk ≤ 5 := by rw [← hdk]; exact hok.2.1
          clear hcc c0 c1 c2 c3 c4 c5 c6 hok hdk hyk hpk hak hvk hek huk
          have HTK : Hid (tk1 dk yk pk = tb) := htk
          clear htk
          go_wp2_with fail
          refine (takeable_any ak vk ek dk yk uk pk wr hd0 hd5).mono ?_
          rintro e wx ⟨rfl, hbx⟩
          have HBX : Hid (Below w14.heap.size w14 wx) := hb.trans (hbx.mono hb.size)
          rw [HTK.out]
          clear hb hbx d0 d1 d2 d3 d4 d5 d6 hd0 hd5
          cases tb
          · have esm : s = m := by
              by_cases c : s < m
              · have t := HMH.out.t1 i (by have := HI.out; omega) (by have := HI.out; omega)
                rw [HTB.out] at t; cases t.2
              · have := HS.out; omega
            go_wp2_with fail
            go_meet
            case rel => exact ⟨by rw [HI.out, HMH.out.im, esm], HBX.out⟩
          · have hsm : s < m := by
              by_cases c : s = m
              · have t := HMH.out.t2 (by rw [← c, ← HI.out]; exact hlt)
                rw [← c, ← HI.out, HTB.out] at t; cases t
              · have := HS.out; omega
            have HSM : Hid (s < m) := hsm
            clear hsm
            go_wp2
            go_roundw
            case rel => exact ⟨s + 1, HSM.out, by have := HI.out; exact congrArg (Value.int .i64) (by omega), HBX.out⟩
            case measure => have := HI.out; have := HSM.out; simp [intOf]; omega
        · have hge : ¬ (i : Int) < (n : Int) := by omega
          have esm : s = m := by
            by_cases c : s < m
            · have t := HMH.out.t1 i (by have := HI.out; omega) (by have := HI.out; omega)
              exact absurd t.1 hlt
            · have := HS.out; omega
          have HES : Hid (s = m) := esm
          clear esm hb
          go_wp2_with fail
          go_meet
          case rel => exact ⟨by rw [HI.out, HMH.out.im, HES.out], HB.out⟩
  case rest =>
    obtain ⟨rfl, hbc⟩ := hcut
    have HBC : Hid (Below w14.heap.size w14 wc) := hbc
    clear hbc
    go_upto_if 273 with fail
    go_cut [43] from 271 to 281 (fun v wx => v = .int .i64 lat ∧ wx = wc)
    case first =>
      as_aux_lemma =>
        by_cases hm0 : m = 0
        · have e : im = first := by rw [HMH.out.im, hm0]; rfl
          have HL0 : Hid (lat = at0) := by
            show _ = _
            rw [HMH.out.lat, hm0]; rfl
          clear HMH
          subst e
          go_wp2_with fail
          go_meet
          case rel => exact ⟨by rw [HL0.out], rfl⟩
        · obtain ⟨q, hq⟩ : ∃ q, im = q + 1 := ⟨im - 1, by have := HMH.out.im; omega⟩
          obtain ⟨m1, hm1⟩ : ∃ m1, m = m1 + 1 := ⟨m - 1, by omega⟩
          have hqf : q = first + m1 := by have := HMH.out.im; omega
          have hqn : q < n := (HMH.out.t1 q (by omega) (by omega)).1
          obtain ⟨b, off, rfl, hcc⟩ := HMH.out.pls (by omega)
          have d2 := cell_later HBC.out (hcc q hqn).2.2.1
          obtain ⟨ek, hek⟩ : ∃ x, E q = x := ⟨_, rfl⟩
          rw [hek] at d2
          have HL1 : Hid (lat = wrap64 (ek + sh)) := by
            show _ = _
            rw [HMH.out.lat, hm1, lastAt, ← hqf, hek]
          have hqi : (im : Int) - 1 = (q : Int) := by omega
          have hgt : (first : Int) < (im : Int) := by omega
          have hqni : (q : Int) < (n : Int) := by omega
          clear hcc hek hqf hm0 hm1 hq HMH
          go_wp2_with fail
          go_meet
          case rel => exact ⟨by rw [HL1.out], rfl⟩
    case rest =>
      obtain ⟨rfl, hwcc⟩ := hcut
      subst hwcc
      go_wp2
      go_loopw [44] (fun i wr => ∃ k : Nat, k ≤ n ∧ i = .int .i64 k ∧ Below w14.heap.size w14 wr) (fun i _ => n - (intOf i).toNat)
      case atStart => exact ⟨0, Nat.zero_le _, rfl, HBC.out⟩
      case round =>
        clear HBC
        obtain ⟨k, hk, rfl, hb⟩ := hrel
        have HB : Hid (Below w14.heap.size w14 wr) := hb
        have hsz : w14.heap.size ≤ wr.heap.size := hb.size
        by_cases hlt : k < n
        · have hlti : (k : Int) < (n : Int) := by omega
          obtain ⟨b, off, rfl, hcc⟩ := HMH.out.pls (by omega)
          obtain ⟨c0, c1, c2, c3, c4, c5, c6⟩ := hcc k hlt
          have d0 := cell_later hb c0
          have d1 := cell_later hb c1
          have d2 := cell_later hb c2
          have d3 := cell_later hb c3
          have d4 := cell_later hb c4
          have d5 := cell_later hb c5
          have d6 := cell_later hb c6
          obtain ⟨ba, oa, rfl, ra⟩ := HMH.out.ra (by omega)
          obtain ⟨bv, ov, rfl, rv⟩ := HMH.out.rv (by omega)
          obtain ⟨be, oe, rfl, re⟩ := HMH.out.re (by omega)
          obtain ⟨bu, ou, rfl, ru⟩ := HMH.out.ru (by omega)
          have g0 := cell_later hb (ra k hlt)
          have g1 := cell_later hb (rv k hlt)
          have g2 := cell_later hb (re k hlt)
          have g3 := cell_later hb (ru k hlt)
          have l0 : b < wr.heap.size := World.block_lt_of_cell? _ _ d0
          have l1 : ba < wr.heap.size := World.block_lt_of_cell? _ _ g0
          have l2 : bv < wr.heap.size := World.block_lt_of_cell? _ _ g1
          have l3 : be < wr.heap.size := World.block_lt_of_cell? _ _ g2
          have l4 : bu < wr.heap.size := World.block_lt_of_cell? _ _ g3
          obtain ⟨ak, hak⟩ : ∃ x, A k = x := ⟨_, rfl⟩
          obtain ⟨vk, hvk⟩ : ∃ x, V k = x := ⟨_, rfl⟩
          obtain ⟨ek, hek⟩ : ∃ x, E k = x := ⟨_, rfl⟩
          obtain ⟨dk, hdk⟩ : ∃ x, D k = x := ⟨_, rfl⟩
          obtain ⟨pk, hpk⟩ : ∃ x, P k = x := ⟨_, rfl⟩
          obtain ⟨yk, hyk⟩ : ∃ x, Y k = x := ⟨_, rfl⟩
          obtain ⟨uk, huk⟩ : ∃ x, U k = x := ⟨_, rfl⟩
          unfold shf at g0 g1 g2
          unfold unf at g3
          dsimp only at g0 g1 g2 g3
          rw [hak] at d0 g0
          rw [hvk] at d1 g1
          rw [hek] at d2 g2
          rw [hdk] at d3
          rw [hpk] at d4
          rw [hyk] at d5
          rw [huk] at d6 g3
          clear hak hvk hek hdk hpk hyk huk hcc c0 c1 c2 c3 c4 c5 c6 ra rv re ru
          have HR : Hid (∃ k' : Nat, k' ≤ n ∧ Value.int .i64 ((k : Int) + 1) = .int .i64 k') := ⟨k + 1, by omega, rfl⟩
          by_cases q1 : first ≤ k
          · by_cases q2 : k < im
            · rw [if_pos ⟨q1, q2⟩] at g0 g1 g2 g3
              have q1i : (first : Int) ≤ (k : Int) := by omega
              have q2i : (k : Int) < (im : Int) := by omega
              clear q1 q2 hb
              as_aux_lemma =>
                go_wp2
                go_quiet (fail)
                go_wp2
                go_quiet (fail)
                go_wp2
                go_roundw
                case rel => exact ⟨k + 1, by omega, by go_num, by have h := HB.out.alloc hsz (Obj.cells #[.int .i64 ak, .int .i64 vk, .int .i64 ek, .int .i64 dk, .bool pk, .int .i64 yk, .int .i64 uk] 47); exact ⟨h.os, h.tape, h.output, h.size, h.block⟩⟩
                case measure => simp [intOf]; omega
            · rw [if_neg (by omega)] at g0 g1 g2 g3
              have q1i : (first : Int) ≤ (k : Int) := by omega
              have q2i : ¬ (k : Int) < (im : Int) := by omega
              clear q1 q2 hb
              as_aux_lemma =>
                go_wp2
                go_quiet (fail)
                go_wp2
                go_roundw
                case rel => exact ⟨k + 1, by omega, by go_num, by have h := HB.out.alloc hsz (Obj.cells #[.int .i64 ak, .int .i64 vk, .int .i64 ek, .int .i64 dk, .bool pk, .int .i64 yk, .int .i64 uk] 47); exact ⟨h.os, h.tape, h.output, h.size, h.block⟩⟩
                case measure => simp [intOf]; omega
          · rw [if_neg (by omega)] at g0 g1 g2 g3
            have q1i : ¬ (first : Int) ≤ (k : Int) := by omega
            clear q1 hb
            as_aux_lemma =>
              go_wp2
              go_quiet (fail)
              go_wp2
              go_roundw
              case rel => exact ⟨k + 1, by omega, by go_num, by have h := HB.out.alloc hsz (Obj.cells #[.int .i64 ak, .int .i64 vk, .int .i64 ek, .int .i64 dk, .bool pk, .int .i64 yk, .int .i64 uk] 47); exact ⟨h.os, h.tape, h.output, h.size, h.block⟩⟩
              case measure => simp [intOf]; omega
        · have e0 : n = k := by omega
          subst e0
          clear hb hk hlt
          go_wp2
          go_loopw [50, 51] (fun p i wr => ∃ k : Nat, k ≤ 16 ∧ i = .int .i64 k ∧ p = .int .u16 ((wpk Y first m pr k : Nat) : Int) ∧ Below w14.heap.size w14 wr) (fun _ i _ => 16 - (intOf i).toNat)
          case atStart => exact ⟨0, Nat.zero_le _, rfl, rfl, HB.out⟩
          case round =>
            clear HB hsz
            obtain ⟨k, hk, rfl, rfl, hb⟩ := hrel
            obtain ⟨wo, hwo⟩ : ∃ x, x = wr := ⟨_, rfl⟩
            subst hwo
            have HB : Hid (Below w14.heap.size w14 wo) := hb
            have hsz : w14.heap.size ≤ wo.heap.size := hb.size
            obtain ⟨wv, hwv⟩ : ∃ x, wpk Y first m pr k = x := ⟨_, rfl⟩
            have hwl : wv < 65536 := by rw [← hwv]; exact wpk_lt Y first m pr hpr k hk
            rw [hwv]
            have HWV : Hid (wpk Y first m pr k = wv) := hwv
            clear hwv
            by_cases hlt : k < 16
            · have hlti : (k : Int) < 16 := by omega
              have s0 := cell_later hb (HMH.out.kb (k * 4) (by omega))
              have s1 := cell_later hb (HMH.out.kb (k * 4 + 1) (by omega))
              have s2 := cell_later hb (HMH.out.kb (k * 4 + 2) (by omega))
              have s3 := cell_later hb (HMH.out.kb (k * 4 + 3) (by omega))
              rw [kx0] at s0
              rw [kx1] at s1
              rw [kx2] at s2
              rw [kx3] at s3
              have g0 := cell_later hb (HMH.out.c0 k hlt)
              have g1 := cell_later hb (HMH.out.c1 k hlt)
              have g2 := cell_later hb (HMH.out.c2 k hlt)
              have g3 := cell_later hb (HMH.out.c3 k hlt)
              have b0 : KB < wo.heap.size := World.block_lt_of_cell? _ _ s0
              have b1 : J0 < wo.heap.size := World.block_lt_of_cell? _ _ g0
              have b2 : J1 < wo.heap.size := World.block_lt_of_cell? _ _ g1
              have b3 : J2 < wo.heap.size := World.block_lt_of_cell? _ _ g2
              have b4 : J3 < wo.heap.size := World.block_lt_of_cell? _ _ g3
              obtain ⟨I1, hI1⟩ : ∃ x : Int, (im : Int) - 1 = x := ⟨_, rfl⟩
              have hw1 : wrap64 I1 = I1 := by
                have e1 := HMH.out.im
                have e2 := HMH.out.fi.out
                have e3 : im ≤ n ∨ im = first := by
                  by_cases c : m = 0
                  · right; omega
                  · left
                    have t := (HMH.out.t1 (first + m - 1) (by omega) (by omega)).1
                    omega
                rw [wrap64]
                rcases e3 with e3 | e3 <;> omega
              have HI1 : Hid ((im : Int) - 1 = I1) := hI1
              obtain ⟨ls, hls⟩ : ∃ x : Int, x = (match lst Y first m k with | some j => (j : Int) | none => -1) := ⟨_, rfl⟩
              have HLS : Hid (ls = (match lst Y first m k with | some j => (j : Int) | none => -1)) := hls
              clear hls
              go_upto_block 12 with fail
              have HW1 : Hid (wrap64 I1 = I1) := hw1
              clear hI1 hw1
              go_cut [52, 53] from 388 to 400 (fun l i wx => l = .int .i64 ls ∧ wx = wo)
              case first =>
                clear s0 s1 s2 s3 g0 g1 g2 g3 b0 b1 b2 b3 b4
                as_aux_lemma =>
                  go_wp2
                  go_loopw [52, 53] (fun l i wx => ∃ s : Nat, s ≤ m ∧ i = .int .i64 ((first : Int) + s - 1) ∧ l = .int .i64 (-1) ∧ lst Y first m k = lst Y first s k ∧ wx = wo) (fun _ i _ => (intOf i + 1).toNat)
                  case atStart => exact ⟨m, Nat.le_refl _, by have e1 := HI1.out; have e2 := HMH.out.im; exact congrArg (Value.int .i64) (by first | (rw [HW1.out]; omega) | omega), rfl, rfl, rfl⟩
                  case round =>
                    obtain ⟨s, hs, rfl, rfl, hl, hwx⟩ := hrel
                    subst hwx
                    have HL : Hid (lst Y first m k = lst Y first s k) := hl
                    clear hl
                    by_cases hs0 : s = 0
                    · subst hs0
                      obtain ⟨t, ht⟩ : ∃ t : Int, (first : Int) + ((0 : Nat) : Int) - 1 = t := ⟨_, rfl⟩
                      rw [ht]
                      have hlt2 : ¬ (first : Int) ≤ t := by omega
                      have HE : Hid (ls = -1) := by
                        show _ = _
                        rw [HLS.out, HL.out]; rfl
                      clear ht
                      go_wp2_with fail
                      go_meet
                      case rel => exact ⟨by rw [HE.out], rfl⟩
                    · obtain ⟨s1, rfl⟩ : ∃ s1, s = s1 + 1 := ⟨s - 1, by omega⟩
                      obtain ⟨q, hq⟩ : ∃ q, q = first + s1 := ⟨_, rfl⟩
                      have ht : (first : Int) + ((s1 + 1 : Nat) : Int) - 1 = (q : Int) := by omega
                      rw [ht]
                      have hqn : q < n := (HMH.out.t1 q (by omega) (by omega)).1
                      have hge : (first : Int) ≤ (q : Int) := by omega
                      have hqni : (q : Int) < (n : Int) := by omega
                      obtain ⟨b, off, rfl, hcc⟩ := HMH.out.pls (by omega)
                      have d5 := cell_later hb (hcc q hqn).2.2.2.2.2.1
                      obtain ⟨yq, hyq⟩ : ∃ x, Y q = x := ⟨_, rfl⟩
                      rw [hyq] at d5
                      have HQ : Hid (q = first + s1) := hq
                      have HYQ : Hid (Y q = yq) := hyq
                      have HS1 : Hid (s1 + 1 ≤ m) := hs
                      clear hcc hyq ht hs0 hs hq
                      by_cases hy : (yq == (k : Int)) = true
                      · have HE : Hid (ls = (q : Int)) := by
                          show _ = _
                          rw [HLS.out, HL.out]
                          unfold lst
                          rw [← HQ.out, HYQ.out, if_pos (by simpa using hy)]
                        go_wp2_with fail
                        go_meet
                        case rel => exact ⟨by rw [HE.out], rfl⟩
                      · have hy' : (yq == (k : Int)) = false := by simpa using hy
                        have HL2 : Hid (lst Y first m k = lst Y first s1 k) := by
                          show _ = _
                          rw [HL.out]
                          conv => lhs; unfold lst
                          rw [← HQ.out, HYQ.out, if_neg (by simpa using hy')]
                        clear hy
                        go_wp2
                        go_roundw
                        case rel => exact ⟨s1, by have := HS1.out; omega, by have := HQ.out; exact congrArg (Value.int .i64) (by omega), rfl, HL2.out, by first | rfl | trivial⟩
                        case measure => simp [intOf]
              case rest =>
                obtain ⟨rfl, hwcc⟩ := hcut
                subst hwcc
                clear HI1
                obtain ⟨e0, f0⟩ : ∃ x, (K k).1 = x := ⟨_, rfl⟩
                obtain ⟨e1, f1⟩ : ∃ x, (K k).2.1 = x := ⟨_, rfl⟩
                obtain ⟨e2, f2⟩ : ∃ x, (K k).2.2.1 = x := ⟨_, rfl⟩
                obtain ⟨e3, f3⟩ : ∃ x, (K k).2.2.2 = x := ⟨_, rfl⟩
                rw [f0] at s0
                rw [f1] at s1
                rw [f2] at s2
                rw [f3] at s3
                cases hl : lst Y first m k with
                | none =>
                  have els : ls = -1 := by rw [HLS.out, hl]
                  have hkm : km V E D Y P sh K first m k = K k := by rw [km_lst, hl]
                  rw [hkm, f0] at g0
                  rw [hkm, f1] at g1
                  rw [hkm, f2] at g2
                  rw [hkm, f3] at g3
                  have HWN : Hid (wpk Y first m pr (k + 1) = wv) := by
                    show _ = _
                    unfold wpk
                    rw [hl, HWV.out]; rfl
                  clear HLS hl hkm f0 f1 f2 f3 hb
                  subst els
                  as_aux_lemma =>
                    go_wp2
                    go_quiet (fail)
                    go_wp2
                    go_roundw
                    case rel => exact ⟨k + 1, by omega, by go_num, by rw [HWN.out], by have h := HB.out; exact ⟨h.os, h.tape, h.output, h.size, h.block⟩⟩
                    case measure => simp [intOf]; omega
                | some j =>
                  have els : ls = (j : Int) := by rw [HLS.out, hl]
                  obtain ⟨j1, j2, j3⟩ := lst_some Y first k m j hl
                  have hjn : j < n := (HMH.out.t1 j j1 j2).1
                  have hjni : (j : Int) < (n : Int) := by omega
                  have hkm : km V E D Y P sh K first m k = nv V E D P sh j := by rw [km_lst, hl]
                  obtain ⟨b, off, rfl, hcc⟩ := HMH.out.pls (by omega)
                  obtain ⟨c0, c1, c2, c3, c4, c5, c6⟩ := hcc j hjn
                  have d0 := cell_later hb c0
                  have d1 := cell_later hb c1
                  have d2 := cell_later hb c2
                  have d3 := cell_later hb c3
                  have d4 := cell_later hb c4
                  have d5 := cell_later hb c5
                  have d6 := cell_later hb c6
                  have l0 : b < wc.heap.size := World.block_lt_of_cell? _ _ d0
                  obtain ⟨ak, hak⟩ : ∃ x, A j = x := ⟨_, rfl⟩
                  obtain ⟨vk, hvk⟩ : ∃ x, V j = x := ⟨_, rfl⟩
                  obtain ⟨ek, hek⟩ : ∃ x, E j = x := ⟨_, rfl⟩
                  obtain ⟨dk, hdk⟩ : ∃ x, D j = x := ⟨_, rfl⟩
                  obtain ⟨pk, hpk⟩ : ∃ x, P j = x := ⟨_, rfl⟩
                  obtain ⟨yk, hyk⟩ : ∃ x, Y j = x := ⟨_, rfl⟩
                  obtain ⟨uk, huk⟩ : ∃ x, U j = x := ⟨_, rfl⟩
                  unfold nv at hkm
                  rw [hvk, hek, hdk, hpk] at hkm
                  rw [hak] at d0
                  rw [hvk] at d1
                  rw [hek] at d2
                  rw [hdk] at d3
                  rw [hpk] at d4
                  rw [hyk] at d5
                  rw [huk] at d6
                  rw [hkm] at g0 g1 g2 g3
                  obtain ⟨kb, hkb⟩ : ∃ x, 2 ^ k = x := ⟨_, rfl⟩
                  obtain ⟨po, hpo⟩ : ∃ x, wv ||| kb = x := ⟨_, rfl⟩
                  have sh1 : IntKind.u16.wrap ((2 : Int) ^ k) = (kb : Int) := by rw [bit16_wrap hlt, hkb]
                  have sh2 : bits .or .u16 (wv : Int) (kb : Int) = (po : Int) := by
                    rw [u16_or_nat wv kb hwl (by rw [← hkb]; exact bit16 hlt), hpo]
                  have HWN : Hid (wpk Y first m pr (k + 1) = po) := by
                    show _ = _
                    unfold wpk
                    rw [hl, HWV.out, if_pos (show (some j).isSome = true from rfl), hkb, hpo]
                  clear HLS hl hkm f0 f1 f2 f3 hb hak hvk hek hdk hpk hyk huk hcc c0 c1 c2 c3 c4 c5 c6 hkb hpo j1 j2 j3
                  subst els
                  cases pk
                  · rw [if_neg (by simp)] at g0 g1 g2 g3
                    dsimp only at g0 g1 g2 g3
                    as_aux_lemma =>
                      go_wp2
                      go_quiet (fail)
                      rename_i nq
                      obtain ⟨wd, hwd⟩ : ∃ x, x = wc.drewN nq := ⟨_, rfl⟩
                      rw [← hwd]
                      have key : ∀ a, wd.cell? a = wc.cell? a := fun a => by rw [hwd]; rfl
                      have hsz2 : wd.heap.size = wc.heap.size := by rw [hwd]; rfl
                      have HB2 : Hid (Below w14.heap.size w14 wd) := by
                        rw [hwd]
                        have h := HB.out
                        exact ⟨h.os, h.tape, h.output, h.size, h.block⟩
                      rw [← key] at d0 d1 d2 d3 d4 d5 d6 g0 g1 g2 g3
                      rw [← hsz2] at l0 b1 b2 b3 b4 hsz
                      clear s0 s1 s2 s3 b0 key hsz2 hwd HB
                      go_wp2
                      go_quiet (fail)
                      go_wp2
                      go_roundw
                      case rel => exact ⟨k + 1, by omega, by go_num, by rw [HWN.out], by have h := HB2.out.alloc hsz (Obj.cells #[.int .i64 ak, .int .i64 vk, .int .i64 ek, .int .i64 dk, .bool false, .int .i64 yk, .int .i64 uk] 47); exact ⟨h.os, h.tape, h.output, h.size, h.block⟩⟩
                      case measure => simp [intOf]; omega
                  · rw [if_pos rfl] at g0 g1 g2 g3
                    dsimp only at g0 g1 g2 g3
                    as_aux_lemma =>
                      go_wp2
                      go_quiet (fail)
                      rename_i nq
                      obtain ⟨wd, hwd⟩ : ∃ x, x = wc.drewN nq := ⟨_, rfl⟩
                      rw [← hwd]
                      have key : ∀ a, wd.cell? a = wc.cell? a := fun a => by rw [hwd]; rfl
                      have hsz2 : wd.heap.size = wc.heap.size := by rw [hwd]; rfl
                      have HB2 : Hid (Below w14.heap.size w14 wd) := by
                        rw [hwd]
                        have h := HB.out
                        exact ⟨h.os, h.tape, h.output, h.size, h.block⟩
                      rw [← key] at d0 d1 d2 d3 d4 d5 d6 g0 g1 g2 g3
                      rw [← hsz2] at l0 b1 b2 b3 b4 hsz
                      clear s0 s1 s2 s3 b0 key hsz2 hwd HB
                      go_wp2
                      go_quiet (fail)
                      go_wp2
                      go_roundw
                      case rel => exact ⟨k + 1, by omega, by go_num, by rw [HWN.out], by have h := HB2.out.alloc hsz (Obj.cells #[.int .i64 ak, .int .i64 vk, .int .i64 ek, .int .i64 dk, .bool true, .int .i64 yk, .int .i64 uk] 47); exact ⟨h.os, h.tape, h.output, h.size, h.block⟩⟩
                      case measure => simp [intOf]; omega
            · have e0 : k = 16 := by omega
              subst e0
              have epq : pq = wv := by
                rw [HMH.out.pq, ← HWV.out]
                exact prm_wpk Y first m pr (fun j a c => by
                  have t := HMH.out.t1 j a c
                  exact ⟨tkb_nonneg t.2, (HMH.out.ok j t.1).2.2.1⟩)
              clear HMH hb
              subst epq
              go_wp2
              go_ret
              exact ⟨rfl, HW.out.trans (HB.out.mono HW.out.size)⟩

end Go.Proofs.Qxb6605343a
