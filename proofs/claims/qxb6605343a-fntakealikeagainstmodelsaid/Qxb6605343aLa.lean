import Derived.Test.Qxb6605343aZa
import Derived.Test.Qxb6605343aLt
namespace Go.Proofs.Qxb6605343a
open Go.RowKit
set_option linter.unusedVariables false
attribute [local go_sem ↓] Go.wp_at_zero Go.wp_at_succ

noncomputable def code43 : Code := .region 43 ((Try.f5.body.bind (findReg 43)).getD #[]) false
set_option maxRecDepth 20000 in
set_option maxHeartbeats 1000000 in
theorem reg43 (w : World) (Q : Exit → Act → World → Prop) (x0 x1 x2 x3 x4 x5 x6 x7 x8 x9 x10 x11 x12 x13 x14 x15 x16 x17 x18 x19 x20 x21 x22 x23 x24 x25 x26 x27 x28 x29 x30 x31 x32 x33 x34 x35 x36 x37 x38 x39 x40 x41 x42 x43 x44 x45 x46 x47 x48 x49 x50 x51 x52 x53 x54 x55 x56 x57 x58 x59 x60 x61 x62 x63 x64 x65 x66 x67 x68 x69 x70 x71 x72 x73 x74 x75 x76 x77 x78 x79 x80 x81 x82 x83 x84 x85 x86 x87 x88 x89 x90 x91 x92 x93 x94 x95 x96 x97 x98 x99 x100 x101 x102 x103 x104 x105 x106 x107 x108 x109 x110 x111 x112 x113 x114 x115 x116 x117 x118 x119 x120 x121 x122 x123 x124 x125 x126 x127 x128 x129 x130 x131 x132 x133 x134 x135 x136 x137 x138 x139 x140 x141 x142 x143 x144 x145 x146 x147 x148 x149 x150 x151 x152 x153 x154 x155 x156 x157 x158 x159 x160 x161 x162 x163 x164 x165 x166 x167 x168 x169 x170 x171 x172 x173 x174 x175 x176 x177 x178 x179 x180 x181 x182 x183 x184 x185 x186 x187 x188 x189 x190 x191 x192 x193 x194 x195 x196 x197 x198 x199 x200 x201 x202 x203 x204 x205 x206 x207 x208 x209 x210 x211 x212 x213 x214 x215 x216 x217 x218 x219 x220 x221 x222 x223 x224 x225 x226 x227 x228 x229 x230 x231 x232 x233 x234 x235 x236 x237 x238 x239 x240 x241 x242 x243 x244 x245 x246 x247 x248 x249 x250 x251 x252 x253 x254 x255 x256 x257 x258 x259 x260 x261 x262 x263 x264 x265 x266 x267 x268 x269 x270 x271 x272 x273 x274 x275 x276 x277 x278 x279 x280 x281 x282 x283 x284 x285 x286 x287 x288 x289 x290 x291 x292 x293 x294 x295 x296 x297 x298 x299 x300 x301 x302 x303 x304 x305 x306 x307 x308 x309 x310 x311 x312 x313 x314 x315 x316 x317 x318 x319 x320 x321 x322 x323 x324 x325 x326 x327 x328 x329 x330 x331 x332 x333 x334 x335 x336 x337 x338 x339 x340 x341 x342 x343 x344 x345 x346 x347 x348 x349 x350 x351 x352 x353 x354 x355 x356 x357 x358 x359 x360 x361 x362 x363 x364 x365 x366 x367 x368 x369 x370 x371 x372 x373 x374 x375 x376 x377 x378 x379 x380 x381 x382 x383 x384 x385 x386 x387 x388 x389 x390 x391 x392 x393 x394 x395 x396 x397 x398 x399 x400 x401 x402 x403 x404 x405 x406 x407 x408 x409 x410 x411 x412 x413 x414 x415 x416 x417 x418 x419 x420 x421 x422 x423 x424 x425 x426 x427 x428 x429 x430 x431 x432 x433 x434 x435 x436 x437 x438 x439 x440 x441 x442 x443 x444 x445 x446 x447 x448 x449 x450 x451 x452 x453 x454 x455 x456 x457 x458 x459 x460 x461 x462 x463 x464 x465 x466 x467 x468 x469 x470 x471 x472 : Value)
    (hQ : Q .normal ⟨List.toArray (x0 :: x1 :: x2 :: x3 :: x4 :: x5 :: x6 :: x7 :: x8 :: x9 :: x10 :: x11 :: x12 :: x13 :: x14 :: x15 :: x16 :: x17 :: x18 :: x19 :: x20 :: x21 :: x22 :: x23 :: x24 :: x25 :: x26 :: x27 :: x28 :: x29 :: x30 :: x31 :: x32 :: x33 :: x34 :: x35 :: x36 :: x37 :: x38 :: x39 :: x40 :: x41 :: x0 :: x43 :: x44 :: x45 :: x46 :: x47 :: x48 :: x49 :: x50 :: x51 :: x52 :: x53 :: x54 :: x55 :: x56 :: x57 :: x58 :: x59 :: x60 :: x61 :: x62 :: x63 :: x64 :: x65 :: x66 :: x67 :: x68 :: x69 :: x70 :: x71 :: x72 :: x73 :: x74 :: x75 :: x76 :: x77 :: x78 :: x79 :: x80 :: x81 :: x82 :: x83 :: x84 :: x85 :: x86 :: x87 :: x88 :: x89 :: x90 :: x91 :: x92 :: x93 :: x94 :: x95 :: x96 :: x97 :: x98 :: x99 :: x100 :: x101 :: x102 :: x103 :: x104 :: x105 :: x106 :: x107 :: x108 :: x109 :: x110 :: x111 :: x112 :: x113 :: x114 :: x115 :: x116 :: x117 :: x118 :: x119 :: x120 :: x121 :: x122 :: x123 :: x124 :: x125 :: x126 :: x127 :: x128 :: x129 :: x130 :: x131 :: x132 :: x133 :: x134 :: x135 :: x136 :: x137 :: x138 :: x139 :: x140 :: x141 :: x142 :: x143 :: x144 :: x145 :: x146 :: x147 :: x148 :: x149 :: x150 :: x151 :: x152 :: x153 :: x154 :: x155 :: x156 :: x157 :: x158 :: x159 :: x160 :: x161 :: x162 :: x163 :: x164 :: x165 :: x166 :: x167 :: x168 :: x169 :: x170 :: x171 :: x172 :: x173 :: x174 :: x175 :: x176 :: x177 :: x178 :: x179 :: x180 :: x181 :: x182 :: x183 :: x184 :: x185 :: x186 :: x187 :: x188 :: x189 :: x190 :: x191 :: x192 :: x193 :: x194 :: x195 :: x196 :: x197 :: x198 :: x199 :: x200 :: x201 :: x202 :: x203 :: x204 :: x205 :: x206 :: x207 :: x208 :: x209 :: x210 :: x211 :: x212 :: x213 :: x214 :: x215 :: x216 :: x217 :: x218 :: x219 :: x220 :: x221 :: x222 :: x223 :: x224 :: x225 :: x226 :: x227 :: x228 :: x229 :: x230 :: x231 :: x232 :: x233 :: x234 :: x235 :: x236 :: x237 :: x238 :: x239 :: x240 :: x241 :: x242 :: x243 :: x244 :: x245 :: x246 :: x247 :: x248 :: x249 :: x250 :: x251 :: x252 :: x253 :: x254 :: x255 :: x256 :: x0 :: x258 :: x259 :: x260 :: x261 :: x262 :: x263 :: x264 :: x265 :: x266 :: x267 :: x268 :: x269 :: x270 :: x271 :: x272 :: x273 :: x274 :: x275 :: x276 :: x277 :: x278 :: x279 :: x280 :: x281 :: x282 :: x283 :: x284 :: x285 :: x286 :: x287 :: x288 :: x289 :: x290 :: x291 :: x292 :: x293 :: x294 :: x295 :: x296 :: x297 :: x298 :: x299 :: x300 :: x301 :: x302 :: x303 :: x304 :: x305 :: x306 :: x307 :: x308 :: x309 :: x310 :: x311 :: x312 :: x313 :: x314 :: x315 :: x316 :: x317 :: x318 :: x319 :: x320 :: x321 :: x322 :: x323 :: x324 :: x325 :: x326 :: x327 :: x328 :: x329 :: x330 :: x331 :: x332 :: x333 :: x334 :: x335 :: x336 :: x337 :: x338 :: x339 :: x340 :: x341 :: x342 :: x343 :: x344 :: x345 :: x346 :: x347 :: x348 :: x349 :: x350 :: x351 :: x352 :: x353 :: x354 :: x355 :: x356 :: x357 :: x358 :: x359 :: x360 :: x361 :: x362 :: x363 :: x364 :: x365 :: x366 :: x367 :: x368 :: x369 :: x370 :: x371 :: x372 :: x373 :: x374 :: x375 :: x376 :: x377 :: x378 :: x379 :: x380 :: x381 :: x382 :: x383 :: x384 :: x385 :: x386 :: x387 :: x388 :: x389 :: x390 :: x391 :: x392 :: x393 :: x394 :: x395 :: x396 :: x397 :: x398 :: x399 :: x400 :: x401 :: x402 :: x403 :: x404 :: x405 :: x406 :: x407 :: x408 :: x409 :: x410 :: x411 :: x412 :: x413 :: x414 :: x415 :: x416 :: x417 :: x418 :: x419 :: x420 :: x421 :: x422 :: x423 :: x424 :: x425 :: x426 :: x427 :: x428 :: x429 :: x430 :: x431 :: x432 :: x433 :: x434 :: x435 :: x436 :: x437 :: x438 :: x439 :: x440 :: x441 :: x442 :: x443 :: x444 :: x445 :: x446 :: x447 :: x448 :: x449 :: x450 :: x451 :: x452 :: x453 :: x454 :: x455 :: x456 :: x457 :: x458 :: x459 :: x460 :: x461 :: x462 :: x463 :: x464 :: x465 :: x466 :: x467 :: x468 :: x469 :: x470 :: x471 :: x472 :: []), []⟩ w) :
    Code.wp Try.prog code43 Q ⟨List.toArray (x0 :: x1 :: x2 :: x3 :: x4 :: x5 :: x6 :: x7 :: x8 :: x9 :: x10 :: x11 :: x12 :: x13 :: x14 :: x15 :: x16 :: x17 :: x18 :: x19 :: x20 :: x21 :: x22 :: x23 :: x24 :: x25 :: x26 :: x27 :: x28 :: x29 :: x30 :: x31 :: x32 :: x33 :: x34 :: x35 :: x36 :: x37 :: x38 :: x39 :: x40 :: x41 :: x42 :: x43 :: x44 :: x45 :: x46 :: x47 :: x48 :: x49 :: x50 :: x51 :: x52 :: x53 :: x54 :: x55 :: x56 :: x57 :: x58 :: x59 :: x60 :: x61 :: x62 :: x63 :: x64 :: x65 :: x66 :: x67 :: x68 :: x69 :: x70 :: x71 :: x72 :: x73 :: x74 :: x75 :: x76 :: x77 :: x78 :: x79 :: x80 :: x81 :: x82 :: x83 :: x84 :: x85 :: x86 :: x87 :: x88 :: x89 :: x90 :: x91 :: x92 :: x93 :: x94 :: x95 :: x96 :: x97 :: x98 :: x99 :: x100 :: x101 :: x102 :: x103 :: x104 :: x105 :: x106 :: x107 :: x108 :: x109 :: x110 :: x111 :: x112 :: x113 :: x114 :: x115 :: x116 :: x117 :: x118 :: x119 :: x120 :: x121 :: x122 :: x123 :: x124 :: x125 :: x126 :: x127 :: x128 :: x129 :: x130 :: x131 :: x132 :: x133 :: x134 :: x135 :: x136 :: x137 :: x138 :: x139 :: x140 :: x141 :: x142 :: x143 :: x144 :: x145 :: x146 :: x147 :: x148 :: x149 :: x150 :: x151 :: x152 :: x153 :: x154 :: x155 :: x156 :: x157 :: x158 :: x159 :: x160 :: x161 :: x162 :: x163 :: x164 :: x165 :: x166 :: x167 :: x168 :: x169 :: x170 :: x171 :: x172 :: x173 :: x174 :: x175 :: x176 :: x177 :: x178 :: x179 :: x180 :: x181 :: x182 :: x183 :: x184 :: x185 :: x186 :: x187 :: x188 :: x189 :: x190 :: x191 :: x192 :: x193 :: x194 :: x195 :: x196 :: x197 :: x198 :: x199 :: x200 :: x201 :: x202 :: x203 :: x204 :: x205 :: x206 :: x207 :: x208 :: x209 :: x210 :: x211 :: x212 :: x213 :: x214 :: x215 :: x216 :: x217 :: x218 :: x219 :: x220 :: x221 :: x222 :: x223 :: x224 :: x225 :: x226 :: x227 :: x228 :: x229 :: x230 :: x231 :: x232 :: x233 :: x234 :: x235 :: x236 :: x237 :: x238 :: x239 :: x240 :: x241 :: x242 :: x243 :: x244 :: x245 :: x246 :: x247 :: x248 :: x249 :: x250 :: x251 :: x252 :: x253 :: x254 :: x255 :: x256 :: x257 :: x258 :: x259 :: x260 :: x261 :: x262 :: x263 :: x264 :: x265 :: x266 :: x267 :: x268 :: x269 :: x270 :: x271 :: x272 :: x273 :: x274 :: x275 :: x276 :: x277 :: x278 :: x279 :: x280 :: x281 :: x282 :: x283 :: x284 :: x285 :: x286 :: x287 :: x288 :: x289 :: x290 :: x291 :: x292 :: x293 :: x294 :: x295 :: x296 :: x297 :: x298 :: x299 :: x300 :: x301 :: x302 :: x303 :: x304 :: x305 :: x306 :: x307 :: x308 :: x309 :: x310 :: x311 :: x312 :: x313 :: x314 :: x315 :: x316 :: x317 :: x318 :: x319 :: x320 :: x321 :: x322 :: x323 :: x324 :: x325 :: x326 :: x327 :: x328 :: x329 :: x330 :: x331 :: x332 :: x333 :: x334 :: x335 :: x336 :: x337 :: x338 :: x339 :: x340 :: x341 :: x342 :: x343 :: x344 :: x345 :: x346 :: x347 :: x348 :: x349 :: x350 :: x351 :: x352 :: x353 :: x354 :: x355 :: x356 :: x357 :: x358 :: x359 :: x360 :: x361 :: x362 :: x363 :: x364 :: x365 :: x366 :: x367 :: x368 :: x369 :: x370 :: x371 :: x372 :: x373 :: x374 :: x375 :: x376 :: x377 :: x378 :: x379 :: x380 :: x381 :: x382 :: x383 :: x384 :: x385 :: x386 :: x387 :: x388 :: x389 :: x390 :: x391 :: x392 :: x393 :: x394 :: x395 :: x396 :: x397 :: x398 :: x399 :: x400 :: x401 :: x402 :: x403 :: x404 :: x405 :: x406 :: x407 :: x408 :: x409 :: x410 :: x411 :: x412 :: x413 :: x414 :: x415 :: x416 :: x417 :: x418 :: x419 :: x420 :: x421 :: x422 :: x423 :: x424 :: x425 :: x426 :: x427 :: x428 :: x429 :: x430 :: x431 :: x432 :: x433 :: x434 :: x435 :: x436 :: x437 :: x438 :: x439 :: x440 :: x441 :: x442 :: x443 :: x444 :: x445 :: x446 :: x447 :: x448 :: x449 :: x450 :: x451 :: x452 :: x453 :: x454 :: x455 :: x456 :: x457 :: x458 :: x459 :: x460 :: x461 :: x462 :: x463 :: x464 :: x465 :: x466 :: x467 :: x468 :: x469 :: x470 :: x471 :: x472 :: []), []⟩ w := by
  conv => arg 2; whnf
  go_wp2
  exact hQ
set_option maxRecDepth 40000 in
set_option maxHeartbeats 40000000 in
theorem law5_any (fi at0 sh : Int) (pa : Option Addr) (n cp : Nat) (A V E D Y U : Nat → Int) (P : Nat → Bool) (la : Option Addr) (nl cl : Nat) (L : Nat → Int) (K : Nat → Int × Int × Bool × Int) (LK : List Value) (pr : Nat) (w : World)
    (hfi : fi < 9223372036854775808) (h1 : n ≤ maxLen) (h2 : nl ≤ maxLen) (z1 : pa = none → n = 0) (z2 : la = none → nl = 0) (hP : Pls w pa n A V E D Y U P) (hL : Row w la nl (fun i => .int .u8 (L i))) (hLK : LK = vrow (kx K) 64) (hpr : pr < 65536) :
    Calls Try.prog 5 #[.int .i64 fi, .int .i64 at0, .int .i64 sh, .slice pa n cp, .slice la nl cl, .agg LK.toArray, .int .u16 pr] w fun e w' => e = .returned (.bool true) ∧ Below w.heap.size w w' := by
  have HP : Hid (Pls w pa n A V E D Y U P) := hP
  have HL : Hid (Row w la nl (fun i => .int .u8 (L i))) := hL
  have HLK : Hid (LK = vrow (kx K) 64) := hLK
  have HFI : Lim63 fi := ⟨hfi⟩
  have HZ : Hid ((pa = none → n = 0) ∧ (la = none → nl = 0)) := ⟨z1, z2⟩
  have HM1 : Hid (n ≤ maxLen) := h1
  have HM2 : Hid (nl ≤ maxLen) := h2
  clear hP hL hLK hfi z1 z2
  unfold maxLen at h1 h2
  go_enter Try.func5, Try.ntmps5
  go_upto_region 1 with fail
  obtain ⟨w0, hw0⟩ : ∃ x, x = w.alloc (Obj.cells LK.toArray 43) := ⟨_, rfl⟩
  rw [← hw0]
  obtain ⟨KB, hKB⟩ : ∃ x, x = w.heap.size := ⟨_, rfl⟩
  have HK0 : Hid (Rk w0 KB 64 64 (kx K)) := by
    rw [hw0, hKB]
    exact Rk.ofArr (hp_new _ rfl) 64 _ (fun k hk => by rw [HLK.out]; simp [vrow_get _ _ _ hk])
  have HB0 : Hid (Below w.heap.size w w0) := by rw [hw0]; exact (Below.refl _ _).alloc (Nat.le_refl _) _
  have HS0 : Hid (w0.heap.size = KB + 1 ∧ KB = w.heap.size) := ⟨by rw [hw0, hKB]; exact hp_size _ rfl, hKB⟩
  have hrg : w0.rangeAt KB 0 LK := by rw [HLK.out]; exact HK0.out.range
  rw [← hKB]
  clear hw0 hKB
  go_wp2_with (refine wpList_load_mid rfl 43 _ rfl KB 0 rfl LK _ hrg Try.underlying43 rfl (by rw [HLK.out, vrow_length]; exact Try.siz43) ?_)
  refine (bytes15_any _ _ _ pa n cp la nl cl LK.toArray _ w0 HM1.out HM2.out).mono ?_
  rintro e w1 ⟨⟨b, rfl⟩, hb1⟩
  have HB1 : Hid (Below w0.heap.size w0 w1) := hb1
  have HB01 : Hid (Below w.heap.size w w1) := HB0.out.trans (hb1.mono (by have := HS0.out; omega))
  clear hb1 hrg
  cases b
  · go_wp2
    go_ret
    exact ⟨rfl, HB01.out⟩
  by_cases c1 : 131072 < n
  · go_wp2
    go_ret
    exact ⟨rfl, HB01.out⟩
  by_cases c2 : 1048576 < nl
  · go_wp2
    go_ret
    exact ⟨rfl, HB01.out⟩
  by_cases c3 : 1048576 < 56 * n + nl
  · go_wp2
    go_ret
    exact ⟨rfl, HB01.out⟩
  by_cases c4 : fi < 0
  · go_wp2
    go_ret
    exact ⟨rfl, HB01.out⟩
  obtain ⟨first, rfl⟩ : ∃ f : Nat, fi = f := ⟨fi.toNat, by omega⟩
  have hn : n ≤ 131072 := by omega
  have hnl : nl ≤ 1048576 := by omega
  have i3 : (nl : Int) + 56 * n ≤ 1048576 := by omega
  clear c1 c2 c3 c4 HM1 HM2 h1 h2
  go_upto_region 7 with fail
  clear i3
  go_wp2
  go_loopw [15] (fun i wr => ∃ k : Nat, k ≤ n ∧ i = .int .i64 k ∧ okp k D Y P ∧ Below w.heap.size w wr ∧ Rk wr KB 64 64 (kx K) ∧ KB < wr.heap.size) (fun i _ => n - (intOf i).toNat)
  case atStart => exact ⟨0, Nat.zero_le _, rfl, fun i hi => by omega, HB01.out, HK0.out.later HB1.out (by have := HS0.out; omega), by have := HS0.out; have := HB1.out.size; omega⟩
  case round =>
    obtain ⟨k, hk, rfl, hok, hb, hkb, hsz⟩ := hrel
    have HOK : Hid (okp k D Y P) := hok
    have HKB : Hid (Rk wr KB 64 64 (kx K)) := hkb
    have HB : Hid (Below w.heap.size w wr) := hb
    have HSZ : Hid (KB < wr.heap.size) := hsz
    have hww : w.heap.size ≤ wr.heap.size := hb.size
    clear hok hkb hsz HB1 HB01 HK0
    by_cases hlt : k < n
    · obtain ⟨b, off, rfl, hcc⟩ := HP.out (by omega)
      obtain ⟨c0, c1, c2, c3, c4, c5, c6⟩ := hcc k hlt
      have d0 := cell_later hb c0
      have d1 := cell_later hb c1
      have d2 := cell_later hb c2
      have d3 := cell_later hb c3
      have d4 := cell_later hb c4
      have d5 := cell_later hb c5
      have d6 := cell_later hb c6
      clear hcc c0 c1 c2 c3 c4 c5 c6 hb
      obtain ⟨dk, hdk⟩ : ∃ x, D k = x := ⟨_, rfl⟩
      obtain ⟨yk, hyk⟩ : ∃ x, Y k = x := ⟨_, rfl⟩
      obtain ⟨pk, hpk⟩ : ∃ x, P k = x := ⟨_, rfl⟩
      obtain ⟨ak, hak⟩ : ∃ x, A k = x := ⟨_, rfl⟩
      obtain ⟨vk, hvk⟩ : ∃ x, V k = x := ⟨_, rfl⟩
      obtain ⟨ek, hek⟩ : ∃ x, E k = x := ⟨_, rfl⟩
      obtain ⟨uk, huk⟩ : ∃ x, U k = x := ⟨_, rfl⟩
      rw [hak] at d0
      rw [hvk] at d1
      rw [hek] at d2
      rw [hdk] at d3
      rw [hpk] at d4
      rw [hyk] at d5
      rw [huk] at d6
      have HDK : Hid (D k = dk) := hdk
      have HYK : Hid (Y k = yk) := hyk
      have HPK : Hid (P k = pk) := hpk
      clear hdk hyk hpk hak hvk hek huk
      have hlti : (k : Int) < (n : Int) := by omega
      by_cases q1 : dk < 0
      · go_wp2
        go_ret
        exact ⟨rfl, HB.out.alloc hww _⟩
      have q1' : decide (dk < 0) = false := decide_eq_false q1
      by_cases q2 : (5 : Int) < dk
      · go_wp2
        go_ret
        exact ⟨rfl, HB.out.alloc hww _⟩
      have q2' : decide ((5 : Int) < dk) = false := decide_eq_false q2
      by_cases q3 : (16 : Int) ≤ yk
      · go_wp2
        go_ret
        exact ⟨rfl, HB.out.alloc hww _⟩
      have q3' : decide ((16 : Int) ≤ yk) = false := decide_eq_false q3
      cases pk
      · go_wp2
        go_roundw
        case rel => exact ⟨k + 1, by omega, by go_num, fun i hi => by
          by_cases e : i = k
          · subst e; rw [HDK.out, HYK.out, HPK.out]; exact ⟨by omega, by omega, by omega, fun h => by cases h⟩
          · exact HOK.out i (by omega), HB.out.alloc hww _, HKB.out.later ((Below.refl wr.heap.size wr).alloc (Nat.le_refl _) _) HSZ.out, by have := HSZ.out; simp; omega⟩
        case measure => simp [intOf]; omega
      · by_cases q4 : (dk == 3) = true
        · have e3 : dk = 3 := by simpa using q4
          subst e3
          go_wp2
          go_roundw
          case rel => exact ⟨k + 1, by omega, by go_num, fun i hi => by
            by_cases e : i = k
            · subst e; rw [HDK.out, HYK.out]; exact ⟨by omega, by omega, by omega, fun h => rfl⟩
            · exact HOK.out i (by omega), HB.out.alloc hww _, HKB.out.later ((Below.refl wr.heap.size wr).alloc (Nat.le_refl _) _) HSZ.out, by have := HSZ.out; simp; omega⟩
          case measure => simp [intOf]; omega
        · have q4' : (dk == 3) = false := by simpa using q4
          go_wp2
          go_ret
          exact ⟨rfl, HB.out.alloc hww _⟩
    · have e0 : n = k := by omega
      subst e0
      clear hb hk hlt hww
      go_wp2_with fail
      refine (clonePlaces_any pa n cp A V E D Y U P wr HZ.out.1 hn (HP.out.later HB.out)).mono ?_
      rintro e w2 ⟨⟨pa2, rfl, hp2⟩, hb2⟩
      have HP2 : Hid (Pls w2 pa2 n A V E D Y U P) := hp2
      have HB2 : Hid (Below w.heap.size w w2) := HB.out.trans (hb2.mono HB.out.size)
      have HK2 : Hid (Rk w2 KB 64 64 (kx K)) := HKB.out.later hb2 HSZ.out
      have HS2 : Hid (KB < w2.heap.size) := Nat.lt_of_lt_of_le HSZ.out hb2.size
      clear hp2 hb2 HKB HB HSZ
      go_wp2_with fail
      refine (cloneBytes_any la nl cl L w2 HZ.out.2 hnl (HL.out.later HB2.out)).mono ?_
      rintro e w3 ⟨⟨la2, rfl, ho3⟩, hb3⟩
      have HP3 : Hid (Pls w3 pa2 n A V E D Y U P) := HP2.out.later hb3
      have HB3 : Hid (Below w.heap.size w w3) := HB2.out.trans (hb3.mono HB2.out.size)
      have HK3 : Hid (Rk w3 KB 64 64 (kx K)) := HK2.out.later hb3 HS2.out
      have HS3 : Hid (KB < w3.heap.size) := Nat.lt_of_lt_of_le HS2.out hb3.size
      clear ho3 hb3 HP2 HB2 HK2 HS2 HP HL HZ
      obtain ⟨i3, hi3, hz30, hz31, hz32⟩ := info_parts Try.info3
      obtain ⟨i4, hi4, hz40, hz41, hz42⟩ := info_parts Try.info4
      go_upto_region 17 with (at_make; refine wpList_make_full _ rfl _ _ 28 rfl w3.heap.size 3 i3 _ 1 Try.underlying28 hi3 hz30 hz31 _ _ _ _ n rfl rfl rfl rfl (by rw [hz32]; omega) (by unfold maxLen; omega) (Nat.le_refl _) ?_; intro w4 o0 y0)
      obtain ⟨G1, hG1⟩ : ∃ x, x = w3.heap.size := ⟨_, rfl⟩
      rw [← hG1] at o0 ⊢
      have A1 : Hid (Rk w4 G1 n 0 (fun i => .int .i64 (A i))) := Rk.ofOwn o0 _
      have C1 : Hid (Below G1 w3 w4) := (Below.refl _ _).grown y0 (by omega) (fun k h => by cases h)
      have D1 : Hid (G1 = w3.heap.size ∧ G1 < w4.heap.size) := ⟨hG1, own_lt7 o0⟩
      clear o0 y0 hG1
      go_upto_region 18 with (at_make; refine wpList_make_full _ rfl _ _ 28 rfl w4.heap.size 3 i3 _ 1 Try.underlying28 hi3 hz30 hz31 _ _ _ _ n rfl rfl rfl rfl (by rw [hz32]; omega) (by unfold maxLen; omega) (Nat.le_refl _) ?_; intro w5 o1 y1)
      obtain ⟨G2, hG2⟩ : ∃ x, x = w4.heap.size := ⟨_, rfl⟩
      rw [← hG2] at o1 ⊢
      have A2 : Hid (Rk w5 G2 n 0 (fun i => .int .i64 (V i))) := Rk.ofOwn o1 _
      have C2 : Hid (Below G2 w4 w5) := (Below.refl _ _).grown y1 (by omega) (fun k h => by cases h)
      have D2 : Hid (G2 = w4.heap.size ∧ G2 < w5.heap.size) := ⟨hG2, own_lt7 o1⟩
      clear o1 y1 hG2
      go_upto_region 19 with (at_make; refine wpList_make_full _ rfl _ _ 28 rfl w5.heap.size 3 i3 _ 1 Try.underlying28 hi3 hz30 hz31 _ _ _ _ n rfl rfl rfl rfl (by rw [hz32]; omega) (by unfold maxLen; omega) (Nat.le_refl _) ?_; intro w6 o2 y2)
      obtain ⟨G3, hG3⟩ : ∃ x, x = w5.heap.size := ⟨_, rfl⟩
      rw [← hG3] at o2 ⊢
      have A3 : Hid (Rk w6 G3 n 0 (fun i => .int .i64 (E i))) := Rk.ofOwn o2 _
      have C3 : Hid (Below G3 w5 w6) := (Below.refl _ _).grown y2 (by omega) (fun k h => by cases h)
      have D3 : Hid (G3 = w5.heap.size ∧ G3 < w6.heap.size) := ⟨hG3, own_lt7 o2⟩
      clear o2 y2 hG3
      go_upto_region 20 with (at_make; refine wpList_make_full _ rfl _ _ 28 rfl w6.heap.size 3 i3 _ 1 Try.underlying28 hi3 hz30 hz31 _ _ _ _ n rfl rfl rfl rfl (by rw [hz32]; omega) (by unfold maxLen; omega) (Nat.le_refl _) ?_; intro w7 o3 y3)
      obtain ⟨G4, hG4⟩ : ∃ x, x = w6.heap.size := ⟨_, rfl⟩
      rw [← hG4] at o3 ⊢
      have A4 : Hid (Rk w7 G4 n 0 (fun i => .int .i64 (D i))) := Rk.ofOwn o3 _
      have C4 : Hid (Below G4 w6 w7) := (Below.refl _ _).grown y3 (by omega) (fun k h => by cases h)
      have D4 : Hid (G4 = w6.heap.size ∧ G4 < w7.heap.size) := ⟨hG4, own_lt7 o3⟩
      clear o3 y3 hG4
      go_upto_region 21 with (at_make; refine wpList_make_full _ rfl _ _ 28 rfl w7.heap.size 3 i3 _ 1 Try.underlying28 hi3 hz30 hz31 _ _ _ _ n rfl rfl rfl rfl (by rw [hz32]; omega) (by unfold maxLen; omega) (Nat.le_refl _) ?_; intro w8 o4 y4)
      obtain ⟨G5, hG5⟩ : ∃ x, x = w7.heap.size := ⟨_, rfl⟩
      rw [← hG5] at o4 ⊢
      have A5 : Hid (Rk w8 G5 n 0 (fun i => .int .i64 (Y i))) := Rk.ofOwn o4 _
      have C5 : Hid (Below G5 w7 w8) := (Below.refl _ _).grown y4 (by omega) (fun k h => by cases h)
      have D5 : Hid (G5 = w7.heap.size ∧ G5 < w8.heap.size) := ⟨hG5, own_lt7 o4⟩
      clear o4 y4 hG5
      go_upto_region 22 with (at_make; refine wpList_make_full _ rfl _ _ 28 rfl w8.heap.size 3 i3 _ 1 Try.underlying28 hi3 hz30 hz31 _ _ _ _ n rfl rfl rfl rfl (by rw [hz32]; omega) (by unfold maxLen; omega) (Nat.le_refl _) ?_; intro w9 o5 y5)
      obtain ⟨G6, hG6⟩ : ∃ x, x = w8.heap.size := ⟨_, rfl⟩
      rw [← hG6] at o5 ⊢
      have A6 : Hid (Rk w9 G6 n 0 (fun i => .int .i64 (U i))) := Rk.ofOwn o5 _
      have C6 : Hid (Below G6 w8 w9) := (Below.refl _ _).grown y5 (by omega) (fun k h => by cases h)
      have D6 : Hid (G6 = w8.heap.size ∧ G6 < w9.heap.size) := ⟨hG6, own_lt7 o5⟩
      clear o5 y5 hG6
      go_upto_region 23 with (at_make; refine wpList_make_full _ rfl _ _ 29 rfl w9.heap.size 4 i4 _ 1 Try.underlying29 hi4 hz40 hz41 _ _ _ _ n rfl rfl rfl rfl (by rw [hz42]; omega) (by unfold maxLen; omega) (Nat.le_refl _) ?_; intro w10 o6 y6)
      obtain ⟨G7, hG7⟩ : ∃ x, x = w9.heap.size := ⟨_, rfl⟩
      rw [← hG7] at o6 ⊢
      have A7 : Hid (Rk w10 G7 n 0 (fun i => .bool (P i))) := Rk.ofOwn o6 _
      have C7 : Hid (Below G7 w9 w10) := (Below.refl _ _).grown y6 (by omega) (fun k h => by cases h)
      have D7 : Hid (G7 = w9.heap.size ∧ G7 < w10.heap.size) := ⟨hG7, own_lt7 o6⟩
      clear o6 y6 hG7
      have HG : Hid (KB < G1 ∧ G1 < G2 ∧ G2 < G3 ∧ G3 < G4 ∧ G4 < G5 ∧ G5 < G6 ∧ G6 < G7 ∧ G7 < w10.heap.size ∧ G1 = w3.heap.size) := by
        have x1 := D1.out
        have x2 := D2.out
        have x3 := D3.out
        have x4 := D4.out
        have x5 := D5.out
        have x6 := D6.out
        have x7 := D7.out
        have x0 := HS3.out
        show _ ∧ _ ∧ _ ∧ _ ∧ _ ∧ _ ∧ _ ∧ _ ∧ _
        omega
      have HRs : Hid (Rk w10 G1 n 0 (fun i => .int .i64 (A i)) ∧ Rk w10 G2 n 0 (fun i => .int .i64 (V i)) ∧ Rk w10 G3 n 0 (fun i => .int .i64 (E i)) ∧ Rk w10 G4 n 0 (fun i => .int .i64 (D i)) ∧ Rk w10 G5 n 0 (fun i => .int .i64 (Y i)) ∧ Rk w10 G6 n 0 (fun i => .int .i64 (U i)) ∧ Rk w10 G7 n 0 (fun i => .bool (P i))) := by
        have x := HG.out
        exact ⟨((((((A1.out.later C2.out (by omega)).later C3.out (by omega)).later C4.out (by omega)).later C5.out (by omega)).later C6.out (by omega)).later C7.out (by omega)), (((((A2.out.later C3.out (by omega)).later C4.out (by omega)).later C5.out (by omega)).later C6.out (by omega)).later C7.out (by omega)), ((((A3.out.later C4.out (by omega)).later C5.out (by omega)).later C6.out (by omega)).later C7.out (by omega)), (((A4.out.later C5.out (by omega)).later C6.out (by omega)).later C7.out (by omega)), ((A5.out.later C6.out (by omega)).later C7.out (by omega)), (A6.out.later C7.out (by omega)), A7.out⟩
      have HBG : Hid (Below G1 w3 w10) := by
        have x := HG.out
        exact ((((((C1.out.trans (C2.out.mono (by omega))).trans (C3.out.mono (by omega))).trans (C4.out.mono (by omega))).trans (C5.out.mono (by omega))).trans (C6.out.mono (by omega))).trans (C7.out.mono (by omega)))
      clear A1 A2 A3 A4 A5 A6 A7 C1 C2 C3 C4 C5 C6 C7 D1 D2 D3 D4 D5 D6 D7 HS3 hi3 hz30 hz31 hz32 hi4 hz40 hz41 hz42
      clear i3 i4 w4 w5 w6 w7 w8 w9 w2 wr
      go_wp2
      go_loopw [25] (fun i wr => ∃ k : Nat, k ≤ n ∧ i = .int .i64 k ∧ (Rk wr G1 n k (fun i => .int .i64 (A i)) ∧ Rk wr G2 n k (fun i => .int .i64 (V i)) ∧ Rk wr G3 n k (fun i => .int .i64 (E i)) ∧ Rk wr G4 n k (fun i => .int .i64 (D i)) ∧ Rk wr G5 n k (fun i => .int .i64 (Y i)) ∧ Rk wr G6 n k (fun i => .int .i64 (U i)) ∧ Rk wr G7 n k (fun i => .bool (P i))) ∧ Below G1 w3 wr ∧ G7 < wr.heap.size) (fun i _ => n - (intOf i).toNat)
      case atStart => exact ⟨0, Nat.zero_le _, rfl, HRs.out, HBG.out, HG.out.2.2.2.2.2.2.2.1⟩
      case round =>
        clear HRs HBG
        obtain ⟨k, hk, rfl, ⟨p1, p2, p3, p4, p5, p6, p7⟩, hb, hq⟩ := hrel
        have HB : Hid (Below G1 w3 wr) := hb
        have HQ : Hid (G7 < wr.heap.size) := hq
        have HRs : Hid (Rk wr G1 n k (fun i => .int .i64 (A i)) ∧ Rk wr G2 n k (fun i => .int .i64 (V i)) ∧ Rk wr G3 n k (fun i => .int .i64 (E i)) ∧ Rk wr G4 n k (fun i => .int .i64 (D i)) ∧ Rk wr G5 n k (fun i => .int .i64 (Y i)) ∧ Rk wr G6 n k (fun i => .int .i64 (U i)) ∧ Rk wr G7 n k (fun i => .bool (P i))) := ⟨p1, p2, p3, p4, p5, p6, p7⟩
        clear hq
        by_cases hlt : k < n
        · obtain ⟨b, off, rfl, hcc⟩ := HP3.out (by omega)
          obtain ⟨c0, c1, c2, c3, c4, c5, c6⟩ := hcc k hlt
          have hb' : Below w3.heap.size w3 wr := hb.mono (by have := HG.out; omega)
          have d0 := cell_later hb' c0
          have d1 := cell_later hb' c1
          have d2 := cell_later hb' c2
          have d3 := cell_later hb' c3
          have d4 := cell_later hb' c4
          have d5 := cell_later hb' c5
          have d6 := cell_later hb' c6
          have hbl : b < w3.heap.size := World.block_lt_of_cell? _ _ c0
          have n1 : b ≠ G1 := by have := HG.out; omega
          have n2 : b ≠ G2 := by have := HG.out; omega
          have n3 : b ≠ G3 := by have := HG.out; omega
          have n4 : b ≠ G4 := by have := HG.out; omega
          have n5 : b ≠ G5 := by have := HG.out; omega
          have n6 : b ≠ G6 := by have := HG.out; omega
          have n7 : b ≠ G7 := by have := HG.out; omega
          have m12 : G1 ≠ G2 := by have := HG.out; omega
          have m13 : G1 ≠ G3 := by have := HG.out; omega
          have m14 : G1 ≠ G4 := by have := HG.out; omega
          have m15 : G1 ≠ G5 := by have := HG.out; omega
          have m16 : G1 ≠ G6 := by have := HG.out; omega
          have m17 : G1 ≠ G7 := by have := HG.out; omega
          have m23 : G2 ≠ G3 := by have := HG.out; omega
          have m24 : G2 ≠ G4 := by have := HG.out; omega
          have m25 : G2 ≠ G5 := by have := HG.out; omega
          have m26 : G2 ≠ G6 := by have := HG.out; omega
          have m27 : G2 ≠ G7 := by have := HG.out; omega
          have m34 : G3 ≠ G4 := by have := HG.out; omega
          have m35 : G3 ≠ G5 := by have := HG.out; omega
          have m36 : G3 ≠ G6 := by have := HG.out; omega
          have m37 : G3 ≠ G7 := by have := HG.out; omega
          have m45 : G4 ≠ G5 := by have := HG.out; omega
          have m46 : G4 ≠ G6 := by have := HG.out; omega
          have m47 : G4 ≠ G7 := by have := HG.out; omega
          have m56 : G5 ≠ G6 := by have := HG.out; omega
          have m57 : G5 ≠ G7 := by have := HG.out; omega
          have m67 : G6 ≠ G7 := by have := HG.out; omega
          obtain ⟨ak, f1⟩ : ∃ x, A k = x := ⟨_, rfl⟩
          obtain ⟨vk, f2⟩ : ∃ x, V k = x := ⟨_, rfl⟩
          obtain ⟨ek, f3⟩ : ∃ x, E k = x := ⟨_, rfl⟩
          obtain ⟨dk, f4⟩ : ∃ x, D k = x := ⟨_, rfl⟩
          obtain ⟨yk, f5⟩ : ∃ x, Y k = x := ⟨_, rfl⟩
          obtain ⟨uk, f6⟩ : ∃ x, U k = x := ⟨_, rfl⟩
          obtain ⟨pk, f7⟩ : ∃ x, P k = x := ⟨_, rfl⟩
          rw [f1] at d0
          rw [f2] at d1
          rw [f3] at d2
          rw [f4] at d3
          rw [f7] at d4
          rw [f5] at d5
          rw [f6] at d6
          have HN : Hid (Rk (((((((wr.setCell ⟨G1, k, none⟩ (.int .i64 ak)).setCell ⟨G2, k, none⟩ (.int .i64 vk)).setCell ⟨G3, k, none⟩ (.int .i64 ek)).setCell ⟨G4, k, none⟩ (.int .i64 dk)).setCell ⟨G5, k, none⟩ (.int .i64 yk)).setCell ⟨G6, k, none⟩ (.int .i64 uk)).setCell ⟨G7, k, none⟩ (.bool pk)) G1 n (k + 1) (fun i => .int .i64 (A i)) ∧ Rk (((((((wr.setCell ⟨G1, k, none⟩ (.int .i64 ak)).setCell ⟨G2, k, none⟩ (.int .i64 vk)).setCell ⟨G3, k, none⟩ (.int .i64 ek)).setCell ⟨G4, k, none⟩ (.int .i64 dk)).setCell ⟨G5, k, none⟩ (.int .i64 yk)).setCell ⟨G6, k, none⟩ (.int .i64 uk)).setCell ⟨G7, k, none⟩ (.bool pk)) G2 n (k + 1) (fun i => .int .i64 (V i)) ∧ Rk (((((((wr.setCell ⟨G1, k, none⟩ (.int .i64 ak)).setCell ⟨G2, k, none⟩ (.int .i64 vk)).setCell ⟨G3, k, none⟩ (.int .i64 ek)).setCell ⟨G4, k, none⟩ (.int .i64 dk)).setCell ⟨G5, k, none⟩ (.int .i64 yk)).setCell ⟨G6, k, none⟩ (.int .i64 uk)).setCell ⟨G7, k, none⟩ (.bool pk)) G3 n (k + 1) (fun i => .int .i64 (E i)) ∧ Rk (((((((wr.setCell ⟨G1, k, none⟩ (.int .i64 ak)).setCell ⟨G2, k, none⟩ (.int .i64 vk)).setCell ⟨G3, k, none⟩ (.int .i64 ek)).setCell ⟨G4, k, none⟩ (.int .i64 dk)).setCell ⟨G5, k, none⟩ (.int .i64 yk)).setCell ⟨G6, k, none⟩ (.int .i64 uk)).setCell ⟨G7, k, none⟩ (.bool pk)) G4 n (k + 1) (fun i => .int .i64 (D i)) ∧ Rk (((((((wr.setCell ⟨G1, k, none⟩ (.int .i64 ak)).setCell ⟨G2, k, none⟩ (.int .i64 vk)).setCell ⟨G3, k, none⟩ (.int .i64 ek)).setCell ⟨G4, k, none⟩ (.int .i64 dk)).setCell ⟨G5, k, none⟩ (.int .i64 yk)).setCell ⟨G6, k, none⟩ (.int .i64 uk)).setCell ⟨G7, k, none⟩ (.bool pk)) G5 n (k + 1) (fun i => .int .i64 (Y i)) ∧ Rk (((((((wr.setCell ⟨G1, k, none⟩ (.int .i64 ak)).setCell ⟨G2, k, none⟩ (.int .i64 vk)).setCell ⟨G3, k, none⟩ (.int .i64 ek)).setCell ⟨G4, k, none⟩ (.int .i64 dk)).setCell ⟨G5, k, none⟩ (.int .i64 yk)).setCell ⟨G6, k, none⟩ (.int .i64 uk)).setCell ⟨G7, k, none⟩ (.bool pk)) G6 n (k + 1) (fun i => .int .i64 (U i)) ∧ Rk (((((((wr.setCell ⟨G1, k, none⟩ (.int .i64 ak)).setCell ⟨G2, k, none⟩ (.int .i64 vk)).setCell ⟨G3, k, none⟩ (.int .i64 ek)).setCell ⟨G4, k, none⟩ (.int .i64 dk)).setCell ⟨G5, k, none⟩ (.int .i64 yk)).setCell ⟨G6, k, none⟩ (.int .i64 uk)).setCell ⟨G7, k, none⟩ (.bool pk)) G7 n (k + 1) (fun i => .bool (P i))) := by
            have a1 := p1.next hlt
            simp only [f1] at a1
            have a2 := (p2.other G1 k (.int .i64 ak) m12).next hlt
            simp only [f2] at a2
            have a3 := ((p3.other G1 k (.int .i64 ak) m13).other G2 k (.int .i64 vk) m23).next hlt
            simp only [f3] at a3
            have a4 := (((p4.other G1 k (.int .i64 ak) m14).other G2 k (.int .i64 vk) m24).other G3 k (.int .i64 ek) m34).next hlt
            simp only [f4] at a4
            have a5 := ((((p5.other G1 k (.int .i64 ak) m15).other G2 k (.int .i64 vk) m25).other G3 k (.int .i64 ek) m35).other G4 k (.int .i64 dk) m45).next hlt
            simp only [f5] at a5
            have a6 := (((((p6.other G1 k (.int .i64 ak) m16).other G2 k (.int .i64 vk) m26).other G3 k (.int .i64 ek) m36).other G4 k (.int .i64 dk) m46).other G5 k (.int .i64 yk) m56).next hlt
            simp only [f6] at a6
            have a7 := ((((((p7.other G1 k (.int .i64 ak) m17).other G2 k (.int .i64 vk) m27).other G3 k (.int .i64 ek) m37).other G4 k (.int .i64 dk) m47).other G5 k (.int .i64 yk) m57).other G6 k (.int .i64 uk) m67).next hlt
            simp only [f7] at a7
            exact ⟨((((((a1.other G2 k _ (Ne.symm m12)).other G3 k _ (Ne.symm m13)).other G4 k _ (Ne.symm m14)).other G5 k _ (Ne.symm m15)).other G6 k _ (Ne.symm m16)).other G7 k _ (Ne.symm m17)), (((((a2.other G3 k _ (Ne.symm m23)).other G4 k _ (Ne.symm m24)).other G5 k _ (Ne.symm m25)).other G6 k _ (Ne.symm m26)).other G7 k _ (Ne.symm m27)), ((((a3.other G4 k _ (Ne.symm m34)).other G5 k _ (Ne.symm m35)).other G6 k _ (Ne.symm m36)).other G7 k _ (Ne.symm m37)), (((a4.other G5 k _ (Ne.symm m45)).other G6 k _ (Ne.symm m46)).other G7 k _ (Ne.symm m47)), ((a5.other G6 k _ (Ne.symm m56)).other G7 k _ (Ne.symm m57)), (a6.other G7 k _ (Ne.symm m67)), a7⟩
          obtain ⟨x1, y1⟩ := Option.isSome_iff_exists.1 (p1.ex k hlt)
          obtain ⟨x2, y2⟩ := Option.isSome_iff_exists.1 (p2.ex k hlt)
          obtain ⟨x3, y3⟩ := Option.isSome_iff_exists.1 (p3.ex k hlt)
          obtain ⟨x4, y4⟩ := Option.isSome_iff_exists.1 (p4.ex k hlt)
          obtain ⟨x5, y5⟩ := Option.isSome_iff_exists.1 (p5.ex k hlt)
          obtain ⟨x6, y6⟩ := Option.isSome_iff_exists.1 (p6.ex k hlt)
          obtain ⟨x7, y7⟩ := Option.isSome_iff_exists.1 (p7.ex k hlt)
          have z1 := p1.fz k
          have z2 := p2.fz k
          have z3 := p3.fz k
          have z4 := p4.fz k
          have z5 := p5.fz k
          have z6 := p6.fz k
          have z7 := p7.fz k
          have HB5 : Hid (Below G1 w3 (((((((wr.setCell ⟨G1, k, none⟩ (.int .i64 ak)).setCell ⟨G2, k, none⟩ (.int .i64 vk)).setCell ⟨G3, k, none⟩ (.int .i64 ek)).setCell ⟨G4, k, none⟩ (.int .i64 dk)).setCell ⟨G5, k, none⟩ (.int .i64 yk)).setCell ⟨G6, k, none⟩ (.int .i64 uk)).setCell ⟨G7, k, none⟩ (.bool pk))) := (((((((hb.setCell (p := ⟨G1, k, none⟩) (by have := HG.out; show G1 ≤ G1; omega) _).setCell (p := ⟨G2, k, none⟩) (by have := HG.out; show G1 ≤ G2; omega) _).setCell (p := ⟨G3, k, none⟩) (by have := HG.out; show G1 ≤ G3; omega) _).setCell (p := ⟨G4, k, none⟩) (by have := HG.out; show G1 ≤ G4; omega) _).setCell (p := ⟨G5, k, none⟩) (by have := HG.out; show G1 ≤ G5; omega) _).setCell (p := ⟨G6, k, none⟩) (by have := HG.out; show G1 ≤ G6; omega) _).setCell (p := ⟨G7, k, none⟩) (by have := HG.out; show G1 ≤ G7; omega) _)
          clear f1 f2 f3 f4 f5 f6 f7 p1 p2 p3 p4 p5 p6 p7 hb hb' hbl hcc c0 c1 c2 c3 c4 c5 c6
          have hlti : (k : Int) < (n : Int) := by omega
          go_wp2
          go_roundw
          case rel => exact ⟨k + 1, by omega, by go_num, HN.out, HB5.out, by have := HQ.out; simpa using this⟩
          case measure => simp [intOf]; omega
        · have e0 : n = k := by omega
          subst e0
          clear p1 p2 p3 p4 p5 p6 p7 hb hk hlt
          go_upto_region 35 with fail
          obtain ⟨w11, hw11, ⟨d0, d1, d2, d3⟩, hsz11, hbl11⟩ := alloc4 wr (Obj.cells #[.int .i64 0, .int .i64 0, .int .i64 0, .int .i64 0, .int .i64 0, .int .i64 0, .int .i64 0, .int .i64 0, .int .i64 0, .int .i64 0, .int .i64 0, .int .i64 0, .int .i64 0, .int .i64 0, .int .i64 0, .int .i64 0] 49) (Obj.cells #[.int .i64 0, .int .i64 0, .int .i64 0, .int .i64 0, .int .i64 0, .int .i64 0, .int .i64 0, .int .i64 0, .int .i64 0, .int .i64 0, .int .i64 0, .int .i64 0, .int .i64 0, .int .i64 0, .int .i64 0, .int .i64 0] 49) (Obj.cells #[.int .i64 0, .int .i64 0, .int .i64 0, .int .i64 0, .int .i64 0, .int .i64 0, .int .i64 0, .int .i64 0, .int .i64 0, .int .i64 0, .int .i64 0, .int .i64 0, .int .i64 0, .int .i64 0, .int .i64 0, .int .i64 0] 49) (Obj.cells #[.bool false, .bool false, .bool false, .bool false, .bool false, .bool false, .bool false, .bool false, .bool false, .bool false, .bool false, .bool false, .bool false, .bool false, .bool false, .bool false] 50)
          rw [← hw11]
          clear hw11
          obtain ⟨M0, hM0⟩ : ∃ x, x = wr.heap.size := ⟨_, rfl⟩
          rw [← hM0] at d0 d1 d2 d3 hsz11 hbl11 ⊢
          obtain ⟨M1, hM1⟩ : ∃ x, x = M0 + 1 := ⟨_, rfl⟩
          rw [← hM1] at d1 d2 d3 hsz11 ⊢
          obtain ⟨M2, hM2⟩ : ∃ x, x = M1 + 1 := ⟨_, rfl⟩
          rw [← hM2] at d2 d3 hsz11 ⊢
          obtain ⟨M3, hM3⟩ : ∃ x, x = M2 + 1 := ⟨_, rfl⟩
          rw [← hM3] at d3 hsz11 ⊢
          have HM : Hid (G7 < M0 ∧ M1 = M0 + 1 ∧ M2 = M1 + 1 ∧ M3 = M2 + 1 ∧ M3 < w11.heap.size) := ⟨by rw [hM0]; exact HQ.out, hM1, hM2, hM3, by omega⟩
          have HRm : Hid (Rk w11 M0 16 0 (fun k => .int .i64 ((K k).1)) ∧ Rk w11 M1 16 0 (fun k => .int .i64 ((K k).2.1)) ∧ Rk w11 M2 16 0 (fun k => .int .i64 ((K k).2.2.2)) ∧ Rk w11 M3 16 0 (fun k => .bool ((K k).2.2.1))) := ⟨Rk.ofNew d0 16 (Nat.le_refl _) _, Rk.ofNew d1 16 (Nat.le_refl _) _, Rk.ofNew d2 16 (Nat.le_refl _) _, Rk.ofNew d3 16 (Nat.le_refl _) _⟩
          have HR11 : Hid (Rk w11 G1 n n (fun i => .int .i64 (A i)) ∧ Rk w11 G2 n n (fun i => .int .i64 (V i)) ∧ Rk w11 G3 n n (fun i => .int .i64 (E i)) ∧ Rk w11 G4 n n (fun i => .int .i64 (D i)) ∧ Rk w11 G5 n n (fun i => .int .i64 (Y i)) ∧ Rk w11 G6 n n (fun i => .int .i64 (U i)) ∧ Rk w11 G7 n n (fun i => .bool (P i))) := by
            have x := HG.out
            have y := HM.out
            exact ⟨HRs.out.1.later hbl11 (by omega), HRs.out.2.1.later hbl11 (by omega), HRs.out.2.2.1.later hbl11 (by omega), HRs.out.2.2.2.1.later hbl11 (by omega), HRs.out.2.2.2.2.1.later hbl11 (by omega), HRs.out.2.2.2.2.2.1.later hbl11 (by omega), HRs.out.2.2.2.2.2.2.later hbl11 (by omega)⟩
          have HB11 : Hid (Below G1 w3 w11) := HB.out.trans (hbl11.mono (by have := HG.out; have := HM.out; omega))
          clear d0 d1 d2 d3 hsz11 hbl11 hM0 hM1 hM2 hM3 HB HQ HRs
          clear wr
          go_wp2
          go_loopw [30] (fun i wr => ∃ j : Nat, j ≤ 16 ∧ i = .int .i64 j ∧ (Rk wr M0 16 j (fun k => .int .i64 ((K k).1)) ∧ Rk wr M1 16 j (fun k => .int .i64 ((K k).2.1)) ∧ Rk wr M2 16 j (fun k => .int .i64 ((K k).2.2.2)) ∧ Rk wr M3 16 j (fun k => .bool ((K k).2.2.1))) ∧ Below M0 w11 wr ∧ M3 < wr.heap.size) (fun i _ => 16 - (intOf i).toNat)
          case atStart => exact ⟨0, Nat.zero_le _, rfl, HRm.out, Below.refl _ _, HM.out.2.2.2.2⟩
          case round =>
            clear HRm
            obtain ⟨j, hj, rfl, ⟨p0, p1, p2, p3⟩, hb, hq⟩ := hrel
            have HB : Hid (Below M0 w11 wr) := hb
            have HQ : Hid (M3 < wr.heap.size) := hq
            have HRm : Hid (Rk wr M0 16 j (fun k => .int .i64 ((K k).1)) ∧ Rk wr M1 16 j (fun k => .int .i64 ((K k).2.1)) ∧ Rk wr M2 16 j (fun k => .int .i64 ((K k).2.2.2)) ∧ Rk wr M3 16 j (fun k => .bool ((K k).2.2.1))) := ⟨p0, p1, p2, p3⟩
            have hb3 : Below G1 w3 wr := HB11.out.trans (hb.mono (by have := HG.out; have := HM.out; omega))
            clear hq
            by_cases hlt : j < 16
            · have kb := HK3.out.later hb3 HG.out.1
              have s0 := kb.pl (j * 4) (by omega)
              have s1 := kb.pl (j * 4 + 1) (by omega)
              have s2 := kb.pl (j * 4 + 2) (by omega)
              have s3 := kb.pl (j * 4 + 3) (by omega)
              rw [kx0] at s0
              rw [kx1] at s1
              rw [kx2] at s2
              rw [kx3] at s3
              obtain ⟨c0, f0⟩ : ∃ x, (K j).1 = x := ⟨_, rfl⟩
              obtain ⟨c1, f1⟩ : ∃ x, (K j).2.1 = x := ⟨_, rfl⟩
              obtain ⟨c2, f2⟩ : ∃ x, (K j).2.2.1 = x := ⟨_, rfl⟩
              obtain ⟨c3, f3⟩ : ∃ x, (K j).2.2.2 = x := ⟨_, rfl⟩
              rw [f0] at s0
              rw [f1] at s1
              rw [f2] at s2
              rw [f3] at s3
              have m01 : M0 ≠ M1 := by have := HM.out; omega
              have m02 : M0 ≠ M2 := by have := HM.out; omega
              have m03 : M0 ≠ M3 := by have := HM.out; omega
              have m12 : M1 ≠ M2 := by have := HM.out; omega
              have m13 : M1 ≠ M3 := by have := HM.out; omega
              have m32 : M3 ≠ M2 := by have := HM.out; omega
              have r0 : KB ≠ M0 := by have := HG.out; have := HM.out; omega
              have r1 : KB ≠ M1 := by have := HG.out; have := HM.out; omega
              have r2 : KB ≠ M2 := by have := HG.out; have := HM.out; omega
              have r3 : KB ≠ M3 := by have := HG.out; have := HM.out; omega
              have HN : Hid (Rk ((((wr.setCell ⟨M0, j, none⟩ (.int .i64 c0)).setCell ⟨M1, j, none⟩ (.int .i64 c1)).setCell ⟨M3, j, none⟩ (.bool c2)).setCell ⟨M2, j, none⟩ (.int .i64 c3)) M0 16 (j + 1) (fun k => .int .i64 ((K k).1)) ∧ Rk ((((wr.setCell ⟨M0, j, none⟩ (.int .i64 c0)).setCell ⟨M1, j, none⟩ (.int .i64 c1)).setCell ⟨M3, j, none⟩ (.bool c2)).setCell ⟨M2, j, none⟩ (.int .i64 c3)) M1 16 (j + 1) (fun k => .int .i64 ((K k).2.1)) ∧ Rk ((((wr.setCell ⟨M0, j, none⟩ (.int .i64 c0)).setCell ⟨M1, j, none⟩ (.int .i64 c1)).setCell ⟨M3, j, none⟩ (.bool c2)).setCell ⟨M2, j, none⟩ (.int .i64 c3)) M2 16 (j + 1) (fun k => .int .i64 ((K k).2.2.2)) ∧ Rk ((((wr.setCell ⟨M0, j, none⟩ (.int .i64 c0)).setCell ⟨M1, j, none⟩ (.int .i64 c1)).setCell ⟨M3, j, none⟩ (.bool c2)).setCell ⟨M2, j, none⟩ (.int .i64 c3)) M3 16 (j + 1) (fun k => .bool ((K k).2.2.1))) := by
                have a0 := p0.next hlt
                have a1 := (p1.other M0 j (.int .i64 c0) m01).next hlt
                have a3 := ((p3.other M0 j (.int .i64 c0) m03).other M1 j (.int .i64 c1) m13).next hlt
                have a2 := (((p2.other M0 j (.int .i64 c0) m02).other M1 j (.int .i64 c1) m12).other M3 j (.bool c2) m32).next hlt
                simp only [f0] at a0
                simp only [f1] at a1
                simp only [f2] at a3
                simp only [f3] at a2
                exact ⟨((a0.other M1 j _ (Ne.symm m01)).other M3 j _ (Ne.symm m03)).other M2 j _ (Ne.symm m02), (a1.other M3 j _ (Ne.symm m13)).other M2 j _ (Ne.symm m12), a2, a3.other M2 j _ (Ne.symm m32)⟩
              obtain ⟨x0, y0⟩ := Option.isSome_iff_exists.1 (p0.ex j hlt)
              obtain ⟨x1, y1⟩ := Option.isSome_iff_exists.1 (p1.ex j hlt)
              obtain ⟨x2, y2⟩ := Option.isSome_iff_exists.1 (p2.ex j hlt)
              obtain ⟨x3, y3⟩ := Option.isSome_iff_exists.1 (p3.ex j hlt)
              have z0 := p0.fz j
              have z1 := p1.fz j
              have z2 := p2.fz j
              have z3 := p3.fz j
              have HB5 : Hid (Below M0 w11 ((((wr.setCell ⟨M0, j, none⟩ (.int .i64 c0)).setCell ⟨M1, j, none⟩ (.int .i64 c1)).setCell ⟨M3, j, none⟩ (.bool c2)).setCell ⟨M2, j, none⟩ (.int .i64 c3))) := (((hb.setCell (p := ⟨M0, j, none⟩) (Nat.le_refl _) _).setCell (p := ⟨M1, j, none⟩) (by have := HM.out; show M0 ≤ M1; omega) _).setCell (p := ⟨M3, j, none⟩) (by have := HM.out; show M0 ≤ M3; omega) _).setCell (p := ⟨M2, j, none⟩) (by have := HM.out; show M0 ≤ M2; omega) _
              clear f0 f1 f2 f3 p0 p1 p2 p3 kb hb hb3
              have hlti : (j : Int) < 16 := by omega
              go_wp2
              go_roundw
              case rel => exact ⟨j + 1, by omega, by go_num, HN.out, HB5.out, by have := HQ.out; simpa using this⟩
              case measure => simp [intOf]; omega
            · have e0 : j = 16 := by omega
              subst e0
              clear hj hlt
              have HB3x : Hid (Below G1 w3 wr) := hb3
              have HX : Hid (Rk wr G1 n n (fun i => .int .i64 (A i)) ∧ Rk wr G2 n n (fun i => .int .i64 (V i)) ∧ Rk wr G3 n n (fun i => .int .i64 (E i)) ∧ Rk wr G4 n n (fun i => .int .i64 (D i)) ∧ Rk wr G5 n n (fun i => .int .i64 (Y i)) ∧ Rk wr G6 n n (fun i => .int .i64 (U i)) ∧ Rk wr G7 n n (fun i => .bool (P i))) := by
                have x := HG.out
                have y := HM.out
                exact ⟨HR11.out.1.later hb (by omega), HR11.out.2.1.later hb (by omega), HR11.out.2.2.1.later hb (by omega), HR11.out.2.2.2.1.later hb (by omega), HR11.out.2.2.2.2.1.later hb (by omega), HR11.out.2.2.2.2.2.1.later hb (by omega), HR11.out.2.2.2.2.2.2.later hb (by omega)⟩
              obtain ⟨L0, hL0⟩ : ∃ x, x = vrow (fun k => .int .i64 ((K k).1)) 16 := ⟨_, rfl⟩
              obtain ⟨L1, hL1⟩ : ∃ x, x = vrow (fun k => .int .i64 ((K k).2.1)) 16 := ⟨_, rfl⟩
              obtain ⟨L2, hL2⟩ : ∃ x, x = vrow (fun k => .bool ((K k).2.2.1)) 16 := ⟨_, rfl⟩
              obtain ⟨L3, hL3⟩ : ∃ x, x = vrow (fun k => .int .i64 ((K k).2.2.2)) 16 := ⟨_, rfl⟩
              have HLR : Hid (wr.rangeAt M0 0 L0 ∧ wr.rangeAt M1 0 L1 ∧ wr.rangeAt M3 0 L2 ∧ wr.rangeAt M2 0 L3) := by
                rw [hL0, hL1, hL2, hL3]
                exact ⟨p0.range, p1.range, p3.range, p2.range⟩
              have HLZ : Hid ((Try.prog.info? 49).map (·.size) = some L0.length ∧ (Try.prog.info? 49).map (·.size) = some L1.length ∧ (Try.prog.info? 50).map (·.size) = some L2.length ∧ (Try.prog.info? 49).map (·.size) = some L3.length) := by
                rw [hL0, hL1, hL2, hL3, vrow16, vrow16, vrow16, vrow16]
                exact ⟨Try.siz49, Try.siz49, Try.siz50, Try.siz49⟩
              have HLG : Hid ((∀ k, k < 16 → L0.toArray[k]? = some (.int .i64 (K k).1)) ∧ (∀ k, k < 16 → L1.toArray[k]? = some (.int .i64 (K k).2.1)) ∧ (∀ k, k < 16 → L2.toArray[k]? = some (.bool (K k).2.2.1)) ∧ (∀ k, k < 16 → L3.toArray[k]? = some (.int .i64 (K k).2.2.2))) := by
                rw [hL0, hL1, hL2, hL3]
                refine ⟨fun k hk => ?_, fun k hk => ?_, fun k hk => ?_, fun k hk => ?_⟩
                all_goals simp [vrow_get _ _ _ hk]
              clear hL0 hL1 hL2 hL3 p0 p1 p2 p3 hb hb3 HRm HR11 HB11
              go_wp2_with (first | refine wpList_load_mid rfl 49 _ rfl M0 0 rfl L0 _ HLR.out.1 Try.underlying49 rfl HLZ.out.1 ?_ | refine wpList_load_mid rfl 49 _ rfl M1 0 rfl L1 _ HLR.out.2.1 Try.underlying49 rfl HLZ.out.2.1 ?_ | refine wpList_load_mid rfl 50 _ rfl M3 0 rfl L2 _ HLR.out.2.2.1 Try.underlying50 rfl HLZ.out.2.2.1 ?_ | refine wpList_load_mid rfl 49 _ rfl M2 0 rfl L3 _ HLR.out.2.2.2 Try.underlying49 rfl HLZ.out.2.2.2 ?_)
              refine (zz17_any first n nl at0 sh (some ⟨G1, 0, none⟩) (some ⟨G2, 0, none⟩) (some ⟨G3, 0, none⟩) (some ⟨G4, 0, none⟩) (some ⟨G5, 0, none⟩) (some ⟨G6, 0, none⟩) (some ⟨G7, 0, none⟩) la2 n n n n n n n nl A V E D Y U P K L0.toArray L1.toArray L2.toArray L3.toArray pr wr HX.out.1.row HX.out.2.1.row HX.out.2.2.1.row HX.out.2.2.2.1.row HX.out.2.2.2.2.1.row HX.out.2.2.2.2.2.1.row HX.out.2.2.2.2.2.2.row HLG.out.1 HLG.out.2.1 HLG.out.2.2.1 HLG.out.2.2.2 hn hpr (fun i hi => (HOK.out i hi).2.2.1) (fun i hi => (HOK.out i hi).2.2.2)).mono ?_
              rintro e w12 ⟨⟨m, a1, v1, e1, u1, rfl, t1, t2, r1, r2, r3, r4⟩, hb12⟩
              have T12 : Hid ((∀ j, first ≤ j → j < first + m → j < n ∧ tkb D Y P j = true) ∧ (first + m < n → tkb D Y P (first + m) = false)) := ⟨t1, t2⟩
              have HRO : Hid (Row w12 a1 n (fun i => .int .i64 (shf A sh first (first + m) i)) ∧ Row w12 v1 n (fun i => .int .i64 (shf V sh first (first + m) i)) ∧ Row w12 e1 n (fun i => .int .i64 (shf E sh first (first + m) i)) ∧ Row w12 u1 n (fun i => .int .i64 (unf U nl first (first + m) i))) := ⟨r1, r2, r3, r4⟩
              have HB12 : Hid (Below G1 w3 w12) := HB3x.out.trans (hb12.mono (by have := HG.out; have := HM.out; have := HQ.out; omega))
              clear t1 t2 r1 r2 r3 r4 hb12 HX HLR HLZ HLG HB HQ HB3x
              obtain ⟨im, him⟩ : ∃ x, x = first + m := ⟨_, rfl⟩
              obtain ⟨lat, hlat⟩ : ∃ x, x = lastAt E sh at0 first m := ⟨_, rfl⟩
              obtain ⟨pq, hpq⟩ : ∃ x, x = prm Y first pr m := ⟨_, rfl⟩
              obtain ⟨N0, hN0⟩ : ∃ x, x = vrow (fun k => .int .i64 (km V E D Y P sh K first m k).1) 16 := ⟨_, rfl⟩
              obtain ⟨N1, hN1⟩ : ∃ x, x = vrow (fun k => .int .i64 (km V E D Y P sh K first m k).2.1) 16 := ⟨_, rfl⟩
              obtain ⟨N2, hN2⟩ : ∃ x, x = vrow (fun k => .bool (km V E D Y P sh K first m k).2.2.1) 16 := ⟨_, rfl⟩
              obtain ⟨N3, hN3⟩ : ∃ x, x = vrow (fun k => .int .i64 (km V E D Y P sh K first m k).2.2.2) 16 := ⟨_, rfl⟩
              rw [← him, ← hlat, ← hpq, ← hN0, ← hN1, ← hN2, ← hN3]
              have HIM : Hid (im = first + m) := him
              have HLAT : Hid (lat = lastAt E sh at0 first m) := hlat
              have HPQ : Hid (pq = prm Y first pr m) := hpq
              have HNN : Hid (N0 = vrow (fun k => .int .i64 (km V E D Y P sh K first m k).1) 16 ∧ N1 = vrow (fun k => .int .i64 (km V E D Y P sh K first m k).2.1) 16 ∧ N2 = vrow (fun k => .bool (km V E D Y P sh K first m k).2.2.1) 16 ∧ N3 = vrow (fun k => .int .i64 (km V E D Y P sh K first m k).2.2.2) 16) := ⟨hN0, hN1, hN2, hN3⟩
              have k0 : N0.length = 16 := by rw [hN0, vrow16]
              have k1 : N1.length = 16 := by rw [hN1, vrow16]
              have k2 : N2.length = 16 := by rw [hN2, vrow16]
              have k3 : N3.length = 16 := by rw [hN3, vrow16]
              have HO : Hid ((∀ v ∈ N0, v.oneCell' = true) ∧ (∀ v ∈ N1, v.oneCell' = true) ∧ (∀ v ∈ N2, v.oneCell' = true) ∧ (∀ v ∈ N3, v.oneCell' = true)) := by
                rw [hN0, hN1, hN2, hN3]
                exact ⟨vrow_one (fun _ => rfl), vrow_one (fun _ => rfl), vrow_one (fun _ => rfl), vrow_one (fun _ => rfl)⟩
              clear him hlat hpq hN0 hN1 hN2 hN3
              have q0 : N0.toArray.size = 16 := by rw [List.size_toArray, k0]
              have q1 : N1.toArray.size = 16 := by rw [List.size_toArray, k1]
              have q2 : N2.toArray.size = 16 := by rw [List.size_toArray, k2]
              have q3 : N3.toArray.size = 16 := by rw [List.size_toArray, k3]
              have HF : Hid (World.there ((((w12.alloc (Obj.cells #[.int .i64 0, .int .i64 0, .int .i64 0, .int .i64 0, .int .i64 0, .int .i64 0, .int .i64 0, .int .i64 0, .int .i64 0, .int .i64 0, .int .i64 0, .int .i64 0, .int .i64 0, .int .i64 0, .int .i64 0, .int .i64 0] 49)).alloc (Obj.cells #[.int .i64 0, .int .i64 0, .int .i64 0, .int .i64 0, .int .i64 0, .int .i64 0, .int .i64 0, .int .i64 0, .int .i64 0, .int .i64 0, .int .i64 0, .int .i64 0, .int .i64 0, .int .i64 0, .int .i64 0, .int .i64 0] 49)).alloc (Obj.cells #[.bool false, .bool false, .bool false, .bool false, .bool false, .bool false, .bool false, .bool false, .bool false, .bool false, .bool false, .bool false, .bool false, .bool false, .bool false, .bool false] 50)).alloc (Obj.cells #[.int .i64 0, .int .i64 0, .int .i64 0, .int .i64 0, .int .i64 0, .int .i64 0, .int .i64 0, .int .i64 0, .int .i64 0, .int .i64 0, .int .i64 0, .int .i64 0, .int .i64 0, .int .i64 0, .int .i64 0, .int .i64 0] 49)) w12.heap.size 0 N0.toArray.size ∧ World.there ((((w12.alloc (Obj.cells #[.int .i64 0, .int .i64 0, .int .i64 0, .int .i64 0, .int .i64 0, .int .i64 0, .int .i64 0, .int .i64 0, .int .i64 0, .int .i64 0, .int .i64 0, .int .i64 0, .int .i64 0, .int .i64 0, .int .i64 0, .int .i64 0] 49)).alloc (Obj.cells #[.int .i64 0, .int .i64 0, .int .i64 0, .int .i64 0, .int .i64 0, .int .i64 0, .int .i64 0, .int .i64 0, .int .i64 0, .int .i64 0, .int .i64 0, .int .i64 0, .int .i64 0, .int .i64 0, .int .i64 0, .int .i64 0] 49)).alloc (Obj.cells #[.bool false, .bool false, .bool false, .bool false, .bool false, .bool false, .bool false, .bool false, .bool false, .bool false, .bool false, .bool false, .bool false, .bool false, .bool false, .bool false] 50)).alloc (Obj.cells #[.int .i64 0, .int .i64 0, .int .i64 0, .int .i64 0, .int .i64 0, .int .i64 0, .int .i64 0, .int .i64 0, .int .i64 0, .int .i64 0, .int .i64 0, .int .i64 0, .int .i64 0, .int .i64 0, .int .i64 0, .int .i64 0] 49)) (w12.heap.size + 1) 0 N1.toArray.size ∧ World.there ((((w12.alloc (Obj.cells #[.int .i64 0, .int .i64 0, .int .i64 0, .int .i64 0, .int .i64 0, .int .i64 0, .int .i64 0, .int .i64 0, .int .i64 0, .int .i64 0, .int .i64 0, .int .i64 0, .int .i64 0, .int .i64 0, .int .i64 0, .int .i64 0] 49)).alloc (Obj.cells #[.int .i64 0, .int .i64 0, .int .i64 0, .int .i64 0, .int .i64 0, .int .i64 0, .int .i64 0, .int .i64 0, .int .i64 0, .int .i64 0, .int .i64 0, .int .i64 0, .int .i64 0, .int .i64 0, .int .i64 0, .int .i64 0] 49)).alloc (Obj.cells #[.bool false, .bool false, .bool false, .bool false, .bool false, .bool false, .bool false, .bool false, .bool false, .bool false, .bool false, .bool false, .bool false, .bool false, .bool false, .bool false] 50)).alloc (Obj.cells #[.int .i64 0, .int .i64 0, .int .i64 0, .int .i64 0, .int .i64 0, .int .i64 0, .int .i64 0, .int .i64 0, .int .i64 0, .int .i64 0, .int .i64 0, .int .i64 0, .int .i64 0, .int .i64 0, .int .i64 0, .int .i64 0] 49)) (w12.heap.size + 1 + 1) 0 N2.toArray.size ∧ World.there ((((w12.alloc (Obj.cells #[.int .i64 0, .int .i64 0, .int .i64 0, .int .i64 0, .int .i64 0, .int .i64 0, .int .i64 0, .int .i64 0, .int .i64 0, .int .i64 0, .int .i64 0, .int .i64 0, .int .i64 0, .int .i64 0, .int .i64 0, .int .i64 0] 49)).alloc (Obj.cells #[.int .i64 0, .int .i64 0, .int .i64 0, .int .i64 0, .int .i64 0, .int .i64 0, .int .i64 0, .int .i64 0, .int .i64 0, .int .i64 0, .int .i64 0, .int .i64 0, .int .i64 0, .int .i64 0, .int .i64 0, .int .i64 0] 49)).alloc (Obj.cells #[.bool false, .bool false, .bool false, .bool false, .bool false, .bool false, .bool false, .bool false, .bool false, .bool false, .bool false, .bool false, .bool false, .bool false, .bool false, .bool false] 50)).alloc (Obj.cells #[.int .i64 0, .int .i64 0, .int .i64 0, .int .i64 0, .int .i64 0, .int .i64 0, .int .i64 0, .int .i64 0, .int .i64 0, .int .i64 0, .int .i64 0, .int .i64 0, .int .i64 0, .int .i64 0, .int .i64 0, .int .i64 0] 49)) (w12.heap.size + 1 + 1 + 1) 0 N3.toArray.size) := by
                obtain ⟨w13, hw13, ⟨d0, d1, d2, d3⟩, hsz13, hbl13⟩ := alloc4 w12 (Obj.cells #[.int .i64 0, .int .i64 0, .int .i64 0, .int .i64 0, .int .i64 0, .int .i64 0, .int .i64 0, .int .i64 0, .int .i64 0, .int .i64 0, .int .i64 0, .int .i64 0, .int .i64 0, .int .i64 0, .int .i64 0, .int .i64 0] 49) (Obj.cells #[.int .i64 0, .int .i64 0, .int .i64 0, .int .i64 0, .int .i64 0, .int .i64 0, .int .i64 0, .int .i64 0, .int .i64 0, .int .i64 0, .int .i64 0, .int .i64 0, .int .i64 0, .int .i64 0, .int .i64 0, .int .i64 0] 49) (Obj.cells #[.bool false, .bool false, .bool false, .bool false, .bool false, .bool false, .bool false, .bool false, .bool false, .bool false, .bool false, .bool false, .bool false, .bool false, .bool false, .bool false] 50) (Obj.cells #[.int .i64 0, .int .i64 0, .int .i64 0, .int .i64 0, .int .i64 0, .int .i64 0, .int .i64 0, .int .i64 0, .int .i64 0, .int .i64 0, .int .i64 0, .int .i64 0, .int .i64 0, .int .i64 0, .int .i64 0, .int .i64 0] 49)
                rw [← hw13, q0, q1, q2, q3]
                exact ⟨(Rk.ofNew (X := fun _ => undef) d0 16 (Nat.le_refl _)).there, (Rk.ofNew (X := fun _ => undef) d1 16 (Nat.le_refl _)).there, (Rk.ofNew (X := fun _ => undef) d2 16 (Nat.le_refl _)).there, (Rk.ofNew (X := fun _ => undef) d3 16 (Nat.le_refl _)).there⟩
              have HZ : Hid ((Try.prog.info? 49).map (·.size) = some N0.toArray.size ∧ (Try.prog.info? 49).map (·.size) = some N1.toArray.size ∧ (Try.prog.info? 50).map (·.size) = some N2.toArray.size ∧ (Try.prog.info? 49).map (·.size) = some N3.toArray.size) := by
                rw [q0, q1, q2, q3]
                exact ⟨Try.siz49, Try.siz49, Try.siz50, Try.siz49⟩
              have HAL : Hid (N0.toArray.all (·.oneCell') = true ∧ N1.toArray.all (·.oneCell') = true ∧ N2.toArray.all (·.oneCell') = true ∧ N3.toArray.all (·.oneCell') = true) := ⟨all_oneCell_toArray HO.out.1, all_oneCell_toArray HO.out.2.1, all_oneCell_toArray HO.out.2.2.1, all_oneCell_toArray HO.out.2.2.2⟩
              have HKK : Hid (N0.length = 16 ∧ N1.length = 16 ∧ N2.length = 16 ∧ N3.length = 16) := ⟨k0, k1, k2, k3⟩
              clear k0 k1 k2 k3 q0 q1 q2 q3 HO
              go_upto_region 43 with (refine wpList_store_mid rfl 49 _ _ rfl w12.heap.size 0 N0.toArray rfl rfl HF.out.1 HZ.out.1 HAL.out.1 ?_; refine wpList_store_mid rfl 49 _ _ rfl (w12.heap.size + 1) 0 N1.toArray rfl rfl (World.there_setCells HF.out.2.1 _ _ _) HZ.out.2.1 HAL.out.2.1 ?_; refine wpList_store_mid rfl 50 _ _ rfl (w12.heap.size + 1 + 1) 0 N2.toArray rfl rfl (World.there_setCells (World.there_setCells HF.out.2.2.1 _ _ _) _ _ _) HZ.out.2.2.1 HAL.out.2.2.1 ?_; refine wpList_store_mid rfl 49 _ _ rfl (w12.heap.size + 1 + 1 + 1) 0 N3.toArray rfl rfl (World.there_setCells (World.there_setCells (World.there_setCells HF.out.2.2.2 _ _ _) _ _ _) _ _ _) HZ.out.2.2.2 HAL.out.2.2.2 ?_)
              obtain ⟨w14, hw14⟩ : ∃ x, x = ((((((((w12.alloc (Obj.cells #[.int .i64 0, .int .i64 0, .int .i64 0, .int .i64 0, .int .i64 0, .int .i64 0, .int .i64 0, .int .i64 0, .int .i64 0, .int .i64 0, .int .i64 0, .int .i64 0, .int .i64 0, .int .i64 0, .int .i64 0, .int .i64 0] 49)).alloc (Obj.cells #[.int .i64 0, .int .i64 0, .int .i64 0, .int .i64 0, .int .i64 0, .int .i64 0, .int .i64 0, .int .i64 0, .int .i64 0, .int .i64 0, .int .i64 0, .int .i64 0, .int .i64 0, .int .i64 0, .int .i64 0, .int .i64 0] 49)).alloc (Obj.cells #[.bool false, .bool false, .bool false, .bool false, .bool false, .bool false, .bool false, .bool false, .bool false, .bool false, .bool false, .bool false, .bool false, .bool false, .bool false, .bool false] 50)).alloc (Obj.cells #[.int .i64 0, .int .i64 0, .int .i64 0, .int .i64 0, .int .i64 0, .int .i64 0, .int .i64 0, .int .i64 0, .int .i64 0, .int .i64 0, .int .i64 0, .int .i64 0, .int .i64 0, .int .i64 0, .int .i64 0, .int .i64 0] 49)).setCells w12.heap.size 0 N0).setCells (w12.heap.size + 1) 0 N1).setCells (w12.heap.size + 1 + 1) 0 N2).setCells (w12.heap.size + 1 + 1 + 1) 0 N3) := ⟨_, rfl⟩
              rw [← hw14]
              obtain ⟨w13, hw13, ⟨d0, d1, d2, d3⟩, hsz13, hbl13⟩ := alloc4 w12 (Obj.cells #[.int .i64 0, .int .i64 0, .int .i64 0, .int .i64 0, .int .i64 0, .int .i64 0, .int .i64 0, .int .i64 0, .int .i64 0, .int .i64 0, .int .i64 0, .int .i64 0, .int .i64 0, .int .i64 0, .int .i64 0, .int .i64 0] 49) (Obj.cells #[.int .i64 0, .int .i64 0, .int .i64 0, .int .i64 0, .int .i64 0, .int .i64 0, .int .i64 0, .int .i64 0, .int .i64 0, .int .i64 0, .int .i64 0, .int .i64 0, .int .i64 0, .int .i64 0, .int .i64 0, .int .i64 0] 49) (Obj.cells #[.bool false, .bool false, .bool false, .bool false, .bool false, .bool false, .bool false, .bool false, .bool false, .bool false, .bool false, .bool false, .bool false, .bool false, .bool false, .bool false] 50) (Obj.cells #[.int .i64 0, .int .i64 0, .int .i64 0, .int .i64 0, .int .i64 0, .int .i64 0, .int .i64 0, .int .i64 0, .int .i64 0, .int .i64 0, .int .i64 0, .int .i64 0, .int .i64 0, .int .i64 0, .int .i64 0, .int .i64 0] 49)
              rw [← hw13] at hw14
              obtain ⟨J0, hJ0⟩ : ∃ x, x = w12.heap.size := ⟨_, rfl⟩
              rw [← hJ0] at d0 d1 d2 d3 hw14 ⊢
              obtain ⟨J1, hJ1⟩ : ∃ x, x = J0 + 1 := ⟨_, rfl⟩
              rw [← hJ1] at d1 d2 d3 hw14 ⊢
              obtain ⟨J2, hJ2⟩ : ∃ x, x = J1 + 1 := ⟨_, rfl⟩
              rw [← hJ2] at d2 d3 hw14 ⊢
              obtain ⟨J3, hJ3⟩ : ∃ x, x = J2 + 1 := ⟨_, rfl⟩
              rw [← hJ3] at d3 hw14 ⊢
              have y0 : w13.there J0 0 16 := (Rk.ofNew (X := fun _ => undef) d0 16 (Nat.le_refl _)).there
              have y1 : (w13.setCells J0 0 N0).there J1 0 16 := World.there_setCells (Rk.ofNew (X := fun _ => undef) d1 16 (Nat.le_refl _)).there _ _ _
              have y2 : ((w13.setCells J0 0 N0).setCells J1 0 N1).there J2 0 16 := World.there_setCells (World.there_setCells (Rk.ofNew (X := fun _ => undef) d2 16 (Nat.le_refl _)).there _ _ _) _ _ _
              have y3 : (((w13.setCells J0 0 N0).setCells J1 0 N1).setCells J2 0 N2).there J3 0 16 := World.there_setCells (World.there_setCells (World.there_setCells (Rk.ofNew (X := fun _ => undef) d3 16 (Nat.le_refl _)).there _ _ _) _ _ _) _ _ _
              have R0 : w14.rangeAt J0 0 N0 := by
                rw [hw14]
                exact World.rangeAt_setCells_apart (World.rangeAt_setCells_apart (World.rangeAt_setCells_apart (World.rangeAt_setCells_same _ _ _ _ (by rw [HKK.out.1]; exact y0)) _ _ _ (.inl (by omega))) _ _ _ (.inl (by omega))) _ _ _ (.inl (by omega))
              have R1 : w14.rangeAt J1 0 N1 := by
                rw [hw14]
                exact World.rangeAt_setCells_apart (World.rangeAt_setCells_apart (World.rangeAt_setCells_same _ _ _ _ (by rw [HKK.out.2.1]; exact y1)) _ _ _ (.inl (by omega))) _ _ _ (.inl (by omega))
              have R2 : w14.rangeAt J2 0 N2 := by
                rw [hw14]
                exact World.rangeAt_setCells_apart (World.rangeAt_setCells_same _ _ _ _ (by rw [HKK.out.2.2.1]; exact y2)) _ _ _ (.inl (by omega))
              have R3 : w14.rangeAt J3 0 N3 := by
                rw [hw14]
                exact World.rangeAt_setCells_same _ _ _ _ (by rw [HKK.out.2.2.2]; exact y3)
              have HC : Hid ((∀ k, k < 16 → w14.cell? ⟨J0, k, none⟩ = some (.int .i64 (km V E D Y P sh K first m k).1)) ∧ (∀ k, k < 16 → w14.cell? ⟨J1, k, none⟩ = some (.int .i64 (km V E D Y P sh K first m k).2.1)) ∧ (∀ k, k < 16 → w14.cell? ⟨J2, k, none⟩ = some (.bool (km V E D Y P sh K first m k).2.2.1)) ∧ (∀ k, k < 16 → w14.cell? ⟨J3, k, none⟩ = some (.int .i64 (km V E D Y P sh K first m k).2.2.2))) := by
                refine ⟨fun k hk => ?_, fun k hk => ?_, fun k hk => ?_, fun k hk => ?_⟩
                · have := R0 k _ (by rw [HNN.out.1]; exact vrow_get _ _ _ hk); rwa [Nat.zero_add] at this
                · have := R1 k _ (by rw [HNN.out.2.1]; exact vrow_get _ _ _ hk); rwa [Nat.zero_add] at this
                · have := R2 k _ (by rw [HNN.out.2.2.1]; exact vrow_get _ _ _ hk); rwa [Nat.zero_add] at this
                · have := R3 k _ (by rw [HNN.out.2.2.2]; exact vrow_get _ _ _ hk); rwa [Nat.zero_add] at this
              have H14 : Below w12.heap.size w12 w14 := by
                rw [hw14]
                exact below_setCells (by omega) _ _ _ (below_setCells (by omega) _ _ _ (below_setCells (by omega) _ _ _ (below_setCells (by omega) _ _ _ hbl13)))
              have hb314 : Below w3.heap.size w3 w14 := (HB12.out.mono (Nat.le_of_eq HG.out.2.2.2.2.2.2.2.2.symm)).trans (H14.mono HB12.out.size)
              have HP14 : Hid (Pls w14 pa2 n A V E D Y U P) := HP3.out.later hb314
              have HK14 : Hid (∀ j, j < 64 → w14.cell? ⟨KB, j, none⟩ = some (kx K j)) := fun j hj => cell_later hb314 (HK3.out.pl j hj)
              have HB14 : Hid (Below w.heap.size w w14) := HB3.out.trans (hb314.mono HB3.out.size)
              have HRO14 : Hid (Row w14 a1 n (fun i => .int .i64 (shf A sh first im i)) ∧ Row w14 v1 n (fun i => .int .i64 (shf V sh first im i)) ∧ Row w14 e1 n (fun i => .int .i64 (shf E sh first im i)) ∧ Row w14 u1 n (fun i => .int .i64 (unf U nl first im i))) := by
                rw [HIM.out]
                exact ⟨HRO.out.1.later H14, HRO.out.2.1.later H14, HRO.out.2.2.1.later H14, HRO.out.2.2.2.later H14⟩
              have HMID : Hid (Mid w14 pa2 a1 v1 e1 u1 KB J0 J1 J2 J3 n nl first im m pr pq at0 sh lat A V E D Y U P K) := ⟨HP14.out, HK14.out, HRO14.out.1, HRO14.out.2.1, HRO14.out.2.2.1, HRO14.out.2.2.2, HC.out.1, HC.out.2.1, HC.out.2.2.1, HC.out.2.2.2, T12.out.1, T12.out.2, HIM.out, HLAT.out, HPQ.out, HOK.out, HFI⟩
              clear y0 y1 y2 y3 R0 R1 R2 R3 H14 hb314 d0 d1 d2 d3 hw14 hw13 hsz13 hbl13 hJ0 hJ1 hJ2 hJ3 HP3 HK3 HB3 HRO HB12 HF HZ HAL HKK HNN HG HM HB0 HS0 HLK
              rename_i Kz hKz
              refine reg43 w14 _ _ _ _ _ _ _ _ _ _ _ _ _ _ _ _ _ _ _ _ _ _ _ _ _ _ _ _ _ _ _ _ _ _ _ _ _ _ _ _ _ _ _ _ _ _ _ _ _ _ _ _ _ _ _ _ _ _ _ _ _ _ _ _ _ _ _ _ _ _ _ _ _ _ _ _ _ _ _ _ _ _ _ _ _ _ _ _ _ _ _ _ _ _ _ _ _ _ _ _ _ _ _ _ _ _ _ _ _ _ _ _ _ _ _ _ _ _ _ _ _ _ _ _ _ _ _ _ _ _ _ _ _ _ _ _ _ _ _ _ _ _ _ _ _ _ _ _ _ _ _ _ _ _ _ _ _ _ _ _ _ _ _ _ _ _ _ _ _ _ _ _ _ _ _ _ _ _ _ _ _ _ _ _ _ _ _ _ _ _ _ _ _ _ _ _ _ _ _ _ _ _ _ _ _ _ _ _ _ _ _ _ _ _ _ _ _ _ _ _ _ _ _ _ _ _ _ _ _ _ _ _ _ _ _ _ _ _ _ _ _ _ _ _ _ _ _ _ _ _ _ _ _ _ _ _ _ _ _ _ _ _ _ _ _ _ _ _ _ _ _ _ _ _ _ _ _ _ _ _ _ _ _ _ _ _ _ _ _ _ _ _ _ _ _ _ _ _ _ _ _ _ _ _ _ _ _ _ _ _ _ _ _ _ _ _ _ _ _ _ _ _ _ _ _ _ _ _ _ _ _ _ _ _ _ _ _ _ _ _ _ _ _ _ _ _ _ _ _ _ _ _ _ _ _ _ _ _ _ _ _ _ _ _ _ _ _ _ _ _ _ _ _ _ _ _ _ _ _ _ _ _ _ _ _ _ _ _ _ _ _ _ _ _ _ _ _ _ _ _ _ _ _ _ _ _ _ _ _ _ _ _ _ _ _ _ _ _ _ _ _ _ _ _ _ _ _ _ _ _ _ _ _ _ _ _ _ _ _ _ _ _ _ _ _ _ _ _ _ _ _ _ _ _ _ _ _ _ _ _ _ _ _ _ _ _ _ _ _ _ _ _ _ _ ?_
              refine hKz _ _ ?_
              exact law5_tail w w14 pa2 la2 a1 v1 e1 u1 KB J0 J1 J2 J3 n nl first im m pr pq at0 sh lat A V E D Y U P K _ _ _ _ _ _ _ _ _ _ _ _ _ _ _ _ _ _ _ _ _ _ _ _ _ _ _ _ _ _ _ _ _ _ _ _ _ _ _ _ _ _ _ _ _ _ _ _ _ _ _ _ _ _ _ _ _ _ _ _ _ _ _ _ _ _ _ _ _ _ _ _ _ _ _ _ _ _ _ _ _ _ _ _ _ _ _ _ _ _ _ _ _ _ _ _ _ _ _ _ _ _ _ _ _ _ _ _ _ _ _ _ _ _ _ _ _ _ _ _ _ _ _ _ _ _ _ _ _ _ _ _ _ _ _ _ _ _ _ _ _ _ _ _ _ _ _ _ _ _ _ _ _ _ _ _ _ _ _ _ _ _ _ _ _ _ _ _ _ _ _ _ _ _ _ _ _ _ _ _ _ _ _ _ _ _ _ _ _ _ _ _ _ _ _ _ _ _ _ _ _ _ _ _ _ _ _ _ _ _ _ _ _ _ _ _ _ _ _ _ _ _ _ _ _ _ _ _ _ _ _ _ _ _ _ _ _ _ _ _ _ _ _ _ _ _ _ _ _ _ _ _ _ _ _ _ _ _ _ _ _ _ _ _ _ _ _ _ _ _ _ _ _ _ _ _ _ _ _ _ _ _ _ _ _ _ _ _ _ _ _ _ _ _ _ _ _ _ _ _ _ _ _ _ _ _ _ _ _ _ _ _ _ _ _ _ _ _ _ _ _ _ _ _ _ _ _ _ _ _ _ _ _ _ _ _ _ _ _ _ _ _ _ _ _ _ _ _ _ _ _ _ _ _ _ _ _ _ _ _ _ _ _ _ _ _ _ _ _ _ _ _ _ _ _ _ _ _ _ _ _ _ _ _ _ _ _ _ _ _ _ _ _ _ _ _ _ _ _ _ _ _ _ _ _ _ _ _ _ _ _ _ _ _ _ _ _ _ _ _ _ _ _ _ _ _ _ _ _ _ _ _ _ _ _ _ _ _ _ _ _ _ _ _ _ _ _ _ _ _ _ _ _ HMID.out HB14.out hn hnl hpr
end Go.Proofs.Qxb6605343a
