import Derived.Test.Qxb6602148aSt
attribute [local go_sem] Go.Proofs.Qxb6602148a.yTo Go.Proofs.Qxb6602148a.yUpon
namespace Go.Proofs.Qxb6602148a
open Go.RowKit
set_option linter.unusedVariables false
set_option linter.unusedSimpArgs false

set_option maxRecDepth 40000 in
set_option maxHeartbeats 80000000 in
theorem split_D (x : SC0) (q gq kq : Nat) (s : HS) (S0 : SS) (M1 : Fam) (w1 : World) (hsin : SIn x.w x.M x.d.p x.q33 w1 M1 S0.P) (hsq : SQ x.P0 x.LA x.U x.d.N x.str s S0) (hp : x.M.b 11 = some x.d.p) (hq : Own q) (hx : ¬ XA q) (hK : KP q = (3, 1)) (hbq : x.M.b q = some gq) (hs : Ints x.M q x.d.N (fun i => (x.str i : Nat))) (lq : x.d.N ≤ kq)
    (hsp : Spare x.P0) (hor : Orient x.P0 x.U x.d.N x.str) (hou : Outs x.P0 x.LA x.U x.d.N x.str) (hk1 : ∀ e, (∃ a b, x.U.inc a e b) → x.LA.nb < S0.L.blk e) (hLA : ∀ e, x.LA.blk e ≤ x.LA.nb) (hN : x.d.N ≤ 4096) (hE : x.P0.nE ≤ 4096) (hon : ∀ i, i < x.d.N → x.P0.on (x.str i) ≤ 4096) (R : SS → Prop) (hR : ∀ S, FQ x.P0 x.LA x.U x.d.N x.str S0 x.d.N 0 S → R S)
    (x0 x3 x4 x5 x6 x7 x8 x9 x10 x11 x12 x13 x14 x15 x16 x17 x18 x19 x20 x21 x22 x23 x24 x25 x26 x27 x28 x29 x30 x31 x32 x33 x34 x35 x36 x37 x38 x39 x40 x41 x42 x43 x44 x45 x46 x47 x48 x49 x50 x51 x52 x53 x54 x55 x56 x57 x58 x59 x60 x61 x62 x63 x64 x65 x66 x67 x68 x69 x70 x71 x72 x73 x74 x75 x76 x77 x78 x79 x80 x81 x82 x83 x84 x85 x86 x87 x88 x89 x90 x91 x92 x93 x94 x95 x96 x97 x98 x99 x100 x101 x102 x103 x104 x105 x106 x107 x108 x109 x110 x111 x112 x113 x114 x115 x116 x117 x118 x119 x120 x121 x122 x123 x124 x125 x126 x127 x128 x129 x130 x131 x132 x133 x134 x135 x136 x137 x138 x139 x140 x141 x142 x143 x144 x145 x146 x147 x148 x149 x150 x151 x152 x153 x154 x155 x156 x157 x158 x159 x160 x161 x162 x163 x164 x165 x166 x167 x168 x169 x170 x171 x172 x173 x174 x175 x176 x177 x178 x179 x180 x181 x182 x183 x184 x185 x186 x187 x188 x189 x190 x191 x192 x193 x194 x195 x196 x197 x198 x199 x200 x201 x202 x203 x204 x205 x206 x207 x208 x209 x210 x211 x212 x213 x214 x215 x216 x217 x218 x219 x220 x221 x222 x223 x224 x225 x226 x227 x228 x229 x230 x231 x232 x233 x234 x235 x236 x237 x238 x239 x240 x241 x242 x243 x244 x245 x246 x247 x248 x249 x250 x251 x252 x253 x254 x255 x256 x257 x258 x259 x260 x261 x262 x263 x264 x265 x266 x267 x268 x269 x270 x271 x272 x273 x274 x275 x276 x277 x278 x279 x280 x281 x282 x283 x284 x285 x286 x287 x288 x289 x290 x291 x292 x293 x294 x295 x296 x297 x298 x299 x300 x301 x302 x303 x304 x305 x306 x307 x308 x309 x310 x311 x312 x313 x314 x315 x316 x317 x318 x319 x320 x321 x322 x323 x324 x325 x326 x327 x328 x329 x330 x331 x332 x333 x334 x335 x336 x337 x338 x339 x340 x341 x342 x343 x344 x345 x346 x347 x348 x349 x350 x351 x352 x353 x354 x355 x356 x357 x358 x359 x360 x361 x362 x363 x364 x365 x366 x367 x368 x369 x370 x371 x372 x373 x374 x375 x376 x377 x378 x379 x380 x381 x382 x383 x384 x385 x386 x387 x388 x389 x390 x391 x392 x393 x394 x395 x396 x397 x398 x399 x400 x401 x402 x403 x404 x405 x406 x407 x408 x409 x410 x411 x412 x413 x414 x415 x416 x417 x418 x419 x420 x421 x422 x423 x424 x425 x426 x427 x428 x429 x430 x431 x432 x433 x434 x435 x436 x437 x438 x439 x440 x441 x442 x443 x444 x445 x446 x447 x448 x449 x450 x451 x452 x453 x454 x455 x456 x457 x458 x459 x460 x461 x462 x463 x464 x465 x466 x467 x468 x469 x470 x471 x472 x473 x474 x475 x476 x477 x478 x479 x480 x481 x482 x483 x484 x485 x486 x487 x488 x489 x490 x491 x492 x493 x494 x495 x496 x497 x498 x499 x500 x501 x502 x503 x504 x505 x506 x507 x508 x509 x510 x511 x512 x513 x514 x515 x516 : Value) :
    Code.wp Try.prog (tl 20 (Try.f29.body.getD .skip)) (bodyPost Try.prog Try.f29 fun e w' => e = .returned (.tuple #[]) ∧ SDone x w' R) { tmps := #[x0, .slice (some ⟨gq, 0, none⟩) x.d.N kq, .pointer (some ⟨x.q33, 0, none⟩), x3, x4, x5, x6, x7, x8, x9, x10, x11, x12, x13, x14, x15, x16, x17, x18, x19, x20, x21, x22, x23, x24, x25, x26, x27, x28, x29, x30, x31, x32, x33, x34, x35, x36, x37, x38, x39, x40, x41, x42, x43, x44, x45, x46, x47, x48, x49, x50, x51, x52, x53, x54, x55, x56, x57, x58, x59, x60, x61, x62, x63, x64, x65, x66, x67, x68, x69, x70, x71, x72, x73, x74, x75, x76, x77, x78, x79, x80, x81, x82, x83, x84, x85, x86, x87, x88, x89, x90, x91, x92, x93, x94, x95, x96, x97, x98, x99, x100, x101, x102, x103, x104, x105, x106, x107, x108, x109, x110, x111, x112, x113, x114, x115, x116, x117, x118, x119, x120, x121, x122, x123, x124, x125, x126, x127, x128, x129, x130, x131, x132, x133, x134, x135, x136, x137, x138, x139, x140, x141, x142, x143, x144, x145, x146, x147, x148, x149, x150, x151, x152, x153, x154, x155, x156, x157, x158, x159, x160, x161, x162, x163, x164, x165, x166, x167, x168, x169, x170, x171, x172, x173, x174, x175, x176, x177, x178, x179, x180, x181, x182, x183, x184, x185, x186, x187, x188, x189, x190, x191, x192, x193, x194, x195, x196, x197, x198, x199, x200, x201, x202, x203, x204, x205, x206, x207, x208, x209, x210, x211, x212, x213, x214, x215, x216, x217, x218, x219, x220, x221, x222, x223, x224, x225, x226, x227, x228, x229, x230, x231, x232, x233, x234, x235, x236, x237, x238, x239, x240, x241, x242, x243, x244, x245, x246, x247, x248, x249, x250, x251, x252, x253, x254, x255, x256, x257, x258, x259, x260, x261, x262, x263, x264, x265, x266, x267, x268, x269, x270, x271, x272, x273, x274, x275, x276, x277, x278, x279, x280, x281, x282, x283, x284, x285, x286, x287, x288, x289, x290, x291, x292, x293, x294, x295, x296, x297, x298, x299, x300, x301, x302, x303, x304, x305, x306, x307, x308, x309, x310, x311, x312, x313, x314, x315, x316, x317, x318, x319, x320, x321, x322, x323, x324, x325, x326, x327, x328, x329, x330, x331, x332, x333, x334, x335, x336, x337, x338, x339, x340, x341, x342, x343, x344, x345, x346, x347, x348, x349, x350, x351, x352, x353, x354, x355, x356, x357, x358, x359, x360, x361, x362, x363, x364, x365, x366, x367, x368, x369, x370, x371, x372, x373, x374, x375, x376, x377, x378, x379, x380, x381, x382, x383, x384, x385, x386, x387, x388, x389, x390, x391, x392, x393, x394, x395, x396, x397, x398, x399, x400, x401, x402, x403, x404, x405, x406, x407, x408, x409, x410, x411, x412, x413, x414, x415, x416, x417, x418, x419, x420, x421, x422, x423, x424, x425, x426, x427, x428, x429, x430, x431, x432, x433, x434, x435, x436, x437, x438, x439, x440, x441, x442, x443, x444, x445, x446, x447, x448, x449, x450, x451, x452, x453, x454, x455, x456, x457, x458, x459, x460, x461, x462, x463, x464, x465, x466, x467, x468, x469, x470, x471, x472, x473, x474, x475, x476, x477, x478, x479, x480, x481, x482, x483, x484, x485, x486, x487, x488, x489, x490, x491, x492, x493, x494, x495, x496, x497, x498, x499, x500, x501, x502, x503, x504, x505, x506, x507, x508, x509, x510, x511, x512, x513, x514, x515, x516], defers := [] } w1 := by
  have start : Hid (FinO x S0 (.int .i64 0) w1) := ⟨0, S0, M1, Nat.zero_le _, rfl, hsin, FQ.start hsq⟩
  have HS : Hid (Ints x.M q x.d.N (fun i => (x.str i : Nat))) := hs
  have HB : Hid (x.M.b q = some gq) := hbq
  have HP : Hid (x.M.b 11 = some x.d.p) := hp
  have HK : Hid (KP q = (3, 1)) := hK
  have HO : Hid (Own q) := hq
  have HX : Hid (¬ XA q) := hx
  have HSp : Hid (Spare x.P0) := hsp
  have HOr : Hid (Orient x.P0 x.U x.d.N x.str) := hor
  have HOu : Hid (Outs x.P0 x.LA x.U x.d.N x.str) := hou
  have H1 : Hid (∀ e, (∃ a b, x.U.inc a e b) → x.LA.nb < S0.L.blk e) := hk1
  have H3 : Hid (∀ e, (¬ ∃ a b, x.U.inc a e b) → S0.L.blk e = x.LA.blk e) := hsq.blko
  have H2 : Hid (∀ e, (¬ ∃ a b, x.U.inc a e b) → S0.L.blk e ≤ x.LA.nb) := fun e he => by rw [hsq.blko e he]; exact hLA e
  have HON : Hid (∀ i, i < x.d.N → x.P0.on (x.str i) ≤ 4096) := hon
  have HRR : Hid (∀ S, FQ x.P0 x.LA x.U x.d.N x.str S0 x.d.N 0 S → R S) := hR
  clear hR hsin hsq hs hbq hp hK hq hx hsp hor hou hk1 hLA hon
  obtain ⟨i3, hi3, hz30, hz31, hz32⟩ := info_parts Try.info3
  simp only [tl, Try.f29, Option.getD]
  generalize hNN : x.d.N = N at *
  have HNN : Hid (x.d.N = N) := hNN
  clear hNN
  go_wp2
  go_loopw [470] (fun k wr => FinO x S0 k wr) (fun k _ => N - (intOf k).toNat)
  case atStart => exact start.out
  case round =>
    clear start
    obtain ⟨i, S, M', h1, rfl, hS, hF⟩ := hrel
    rw [HNN.out] at h1 hF
    by_cases hiN : i < N
    · have hold := HOr.out.old i hiN
      have hso := hF.lay.olds (x.str i) (fun k _ => hold k)
      have hst : x.str i < S.P.nS := by rw [hF.lay.nS]; have := HOu.out.lt i hiN; omega
      obtain ⟨g3, b3⟩ := hS.rep.hasBlock (i := 3) (by rw [hS.pm.nS]; omega)
      have y0 := hS.row HO.out HX.out HK.out HB.out HS.out hiN
      have y1 := hS.box
      have y2 := hS.pm.hdr_some hS.rep (hS.hp HP.out) (show 3 < 11 by omega) b3
      have y4 := hS.slot b3 hst (show 2 < 7 by omega) (hS.pm.outh (x.str i) hst)
      have l3 := hS.rep.le_cap 3
      rw [hS.pm.nS] at y2 l3
      unfold Fam.val at y4
      have hno : M'.n (60 + 3 * x.str i) = x.P0.on (x.str i) := by rw [(hS.pm.out (x.str i) hst).1]; exact hso.2.2.2.1
      have hlo := hS.rep.le_cap (60 + 3 * x.str i)
      rw [hno] at y4 hlo
      have hon := HON.out i hiN
      have startI : Hid (FinI x S0 i (M'.val (60 + 3 * x.str i)) (.int .i64 0) wr) := ⟨0, S, M', Nat.zero_le _, rfl, hS, by rw [HNN.out]; exact hF, rfl⟩
      unfold Fam.val at startI
      rw [hno] at startI
      clear hno hS hF hso b3
      generalize Option.map (fun g => (⟨g, 0, none⟩ : Addr)) (M'.b (60 + 3 * x.str i)) = ao at *
      generalize M'.cap 3 = k3 at *
      generalize M'.cap (60 + 3 * x.str i) = ko at *
      generalize hdn : x.P0.on (x.str i) = dn at *
      have Hdn : Hid (x.P0.on (x.str i) = dn) := hdn
      clear hdn
      generalize S.P.nS = nS at *
      go_wp2
      go_loopw [483] (fun k wr => FinI x S0 i (.slice ao dn ko) k wr) (fun k _ => dn - (intOf k).toNat)
      case atStart => exact startI.out
      case round =>
        clear startI y0 y1 y2 y4 l3 hst
        obtain ⟨j, S2, M2, h2, rfl, hS, hF, hv⟩ := hrel
        rw [Hdn.out] at h2
        rw [HNN.out] at hF
        by_cases hj : j < dn
        · have hjo : j < x.P0.on (x.str i) := by rw [Hdn.out]; exact hj
          obtain ⟨e, e1, e2, e3, e4⟩ := HOu.out.e1 i j hiN hjo
          have hso := hF.lay.olds (x.str i) (fun k _ => hold k)
          have hst : x.str i < S2.P.nS := by rw [hF.lay.nS]; have := HOu.out.lt i hiN; omega
          have hjs : j < S2.P.on (x.str i) := by rw [hso.2.2.2.1]; exact hjo
          obtain ⟨go, bo⟩ := hS.rep.hasBlock (i := 60 + 3 * x.str i) (by rw [(hS.pm.out (x.str i) hst).1]; omega)
          have z0 := (hS.pm.out (x.str i) hst).cell hS.rep bo (by rw [KP_out]) hjs
          rw [hso.2.2.2.2, e1] at z0
          have ea : ao = some ⟨go, 0, none⟩ := by rw [val_some bo] at hv; injection hv with hv _; exact hv.symm
          subst ea
          have heS : e < S2.P.nE := by rw [hF.lay.nE]; exact e2
          obtain ⟨g1, b1⟩ := hS.rep.hasBlock (i := 1) (by rw [hS.pm.fr.1]; omega)
          have z1 := hS.box
          have z2 := hS.pm.hdr_some hS.rep (hS.hp HP.out) (show 1 < 11 by omega) b1
          have l1 := hS.rep.le_cap 1
          rw [hS.pm.fr.1] at z2 l1
          have z3 := hS.pm.fr.cell hS.rep b1 rfl heS
          by_cases hin : ∃ a b, x.U.inc a e b
          · have hb : S2.L.blk e ≠ 0 := by
              obtain ⟨dn', hL⟩ := hF.L
              have := H1.out e hin
              rw [hL]; show S0.L.blk e ≠ 0; omega
            obtain ⟨k, kt, kf, hF2⟩ := hF.push HSp.out HOr.out HOu.out hiN hjo e1 hin H1.out H2.out hb
            have hfu : x.P0.ns k ≠ x.str i := Ne.symm (hold k)
            have hfs := hF.lay.ns_lt HSp.out kt
            rw [kf] at z3
            obtain ⟨g3, b3⟩ := hS.rep.hasBlock (i := 3) (by rw [hS.pm.nS]; omega)
            have z4 := hS.pm.hdr_some hS.rep (hS.hp HP.out) (show 3 < 11 by omega) b3
            have l3 := hS.rep.le_cap 3
            rw [hS.pm.nS] at z4 l3
            have hol := hF.lay.on_le kt
            generalize x.P0.ns k = f at *
            have z5 := hS.slot b3 hfs (show 2 < 7 by omega) (hS.pm.outh f hfs)
            have hlen : M2.n (60 + 3 * f) < 1000000 := by
              rw [(hS.pm.out f hfs).1]; omega
            obtain ⟨gn, kn, wa, hr, hRa, hGa⟩ := run_append_row (P := Try.prog) (hS.rep.alloc (.cells #[.int .i64 (e : Int)] 3)).drew (60 + 3 * f) 26 26 3 i3 (.int .i64 0) 1 8 (KP_out f) Try.underlying26 hi3 hz30 hz31 hz32 rfl (by decide) ⟨wr.heap.size, 0, none⟩ 1 [.int .i64 (e : Int)] rfl (news1' wr _ _ _ rfl) (by simp [Value.oneCell']) (by omega) (by decide)
            have fin : Hid (FinI x S0 i (.slice (some ⟨go, 0, none⟩) dn ko) (.int .i64 ((j : Int) + 1)) (wa.setCell ⟨g3, f * 7 + 2, none⟩ (.slice (some ⟨gn, 0, none⟩) (M2.n (60 + 3 * f) + 1) kn))) := by
              refine ⟨j + 1, _, _, by rw [Hdn.out]; omega, rfl, hS.pushout b3 hfs (e : Int) hRa hGa ((hS.grew.alloc _).drew), by rw [HNN.out]; exact hF2, ?_⟩
              rw [set_val, put_val (by omega)]; exact hv
            have ba : (M2.put (60 + 3 * f) (some gn) (M2.n (60 + 3 * f) + 1) kn (ext (M2.F (60 + 3 * f)) (M2.n (60 + 3 * f) * 1) [.int .i64 (e : Int)])).b 3 = some g3 := (put_b (by omega)).trans b3
            have b33a : (M2.put (60 + 3 * f) (some gn) (M2.n (60 + 3 * f) + 1) kn (ext (M2.F (60 + 3 * f)) (M2.n (60 + 3 * f) * 1) [.int .i64 (e : Int)])).b 33 = some x.q33 := (put_b (by omega)).trans hS.b33
            have v1 := (hRa.cell b33a (j := 0) (by rw [put_n (by omega), hS.n33]; decide)).trans (congrArg some ((congrFun (put_F (by omega)) 0).trans hS.f33))
            have v2 := pcell hRa ((put_b (by omega)).trans (hS.hp HP.out)) ((put_n (by omega)).trans hS.pm.p) (show 3 < 12 by omega) ((congrFun (put_F (by omega)) 3).trans ((hS.pm.hd 3 (by omega)).trans (val_some b3)))
            rw [hS.pm.nS] at v2
            have v3 := hRa.cell ba (j := f * 7 + 2) (by rw [put_n (by omega), hS.pm.nS]; show f * 7 + 2 < S2.P.nS * 7; omega)
            have v4 := hRa.frozen ba (f * 7 + 2)
            have s33 := hS.rep.lt hS.b33
            have s3 := hS.rep.lt b3
            have s11 := hS.rep.lt (hS.hp HP.out)
            have d1 : x.d.p ≠ g3 := hS.ne (hS.hp HP.out) b3 (by omega)
            have d2 : x.q33 ≠ g3 := hS.ne hS.b33 b3 (by omega)
            unfold Fam.val at z5 hr
            have HR : Hid ((Builtin.append_ #[26, 26] 26 #[.slice (Option.map (fun g => (⟨g, 0, none⟩ : Addr)) (M2.b (60 + 3 * f))) (M2.n (60 + 3 * f)) (M2.cap (60 + 3 * f)), .slice (some ⟨wr.heap.size, 0, none⟩) 1 1]).run Try.prog ((wr.alloc (.cells #[.int .i64 (e : Int)] 3)).drew) = .ok (.slice (some ⟨gn, 0, none⟩) (M2.n (60 + 3 * f) + 1) kn) wa) := hr
            clear hS hF hF2 hRa hGa b1 bo b3 ba b33a hv hso hr kf e3 e4 e1
            generalize (M2.put (60 + 3 * f) (some gn) (M2.n (60 + 3 * f) + 1) kn (ext (M2.F (60 + 3 * f)) (M2.n (60 + 3 * f) * 1) [.int .i64 (e : Int)])).F 3 (f * 7 + 2) = vv at *
            generalize Option.map (fun g => (⟨g, 0, none⟩ : Addr)) (M2.b (60 + 3 * f)) = af at *
            generalize M2.n (60 + 3 * f) = nf at *
            generalize M2.cap (60 + 3 * f) = kf at *
            generalize M2.cap 3 = k3' at *
            generalize M2.cap 1 = k1 at *
            generalize S2.P.nE = nE at *
            generalize S2.P.nS = nS' at *
            go_wp2
            have FK : Hid (∀ k w', k ≤ 2 → C3 wr.drew ((wr.alloc (.cells #[.int .i64 (e : Int)] 3)).drew) wa (wa.setCell ⟨g3, f * 7 + 2, none⟩ (.slice (some ⟨gn, 0, none⟩) (nf + 1) kn)) k w' → w'.cell? ⟨x.q33, 0, none⟩ = some (.pointer (some ⟨x.d.p, 0, none⟩)) ∧ w'.cell? ⟨x.d.p, 3, none⟩ = some (.slice (some ⟨g3, 0, none⟩) nS' k3')) := by
              intro k w' hk hw
              match k, hk with
              | 0, _ =>
                have hw : w' = wr.drew := hw
                subst hw
                exact ⟨z1, z4⟩
              | 1, _ =>
                have hw : w' = ((wr.alloc (.cells #[.int .i64 (e : Int)] 3)).drew) := hw
                subst hw
                rw [cell_alloc_drew s33, cell_alloc_drew s11]
                exact ⟨z1, z4⟩
              | 2, _ =>
                have hw : w' = wa := hw
                subst hw
                exact ⟨v1, v2⟩
            have FL : Hid (∀ k w', k ≤ 1 → C3 wr.drew ((wr.alloc (.cells #[.int .i64 (e : Int)] 3)).drew) wa (wa.setCell ⟨g3, f * 7 + 2, none⟩ (.slice (some ⟨gn, 0, none⟩) (nf + 1) kn)) k w' → w'.cell? ⟨g3, f * 7 + 2, none⟩ = some (.slice af nf kf)) := by
              intro k w' hk hw
              match k, hk with
              | 0, _ =>
                have hw : w' = wr.drew := hw
                subst hw
                exact z5
              | 1, _ =>
                have hw : w' = ((wr.alloc (.cells #[.int .i64 (e : Int)] 3)).drew) := hw
                subst hw
                rw [cell_alloc_drew s3]
                exact z5
            refine wp_region_stage (C3 wr.drew ((wr.alloc (.cells #[.int .i64 (e : Int)] 3)).drew) wa (wa.setCell ⟨g3, f * 7 + 2, none⟩ (.slice (some ⟨gn, 0, none⟩) (nf + 1) kn))) [14, 15, 18] (fun i => if i < 5 then 2 else if i < 13 then 1 else if i < 14 then 0 else 2) (by kernel_rfl) (by kernel_rfl) (rfl) ?_
            refine wpStage_read rfl rfl ?_
            apply Exists.intro
            refine ⟨fun k w' hk hw => ?_, ?_⟩
            · obtain ⟨y1, y2⟩ := FK.out k w' hk hw
              go_simp
              first | rfl | exact ⟨rfl, hw⟩
            go_simp
            refine wpStage_read rfl rfl ?_
            apply Exists.intro
            refine ⟨fun k w' hk hw => ?_, ?_⟩
            · go_simp
              first | rfl | exact ⟨rfl, hw⟩
            go_simp
            refine wpStage_read rfl rfl ?_
            apply Exists.intro
            refine ⟨fun k w' hk hw => ?_, ?_⟩
            · go_simp
              first | rfl | exact ⟨rfl, hw⟩
            go_simp
            refine wpStage_read rfl rfl ?_
            apply Exists.intro
            refine ⟨fun k w' hk hw => ?_, ?_⟩
            · obtain ⟨y1, y2⟩ := FK.out k w' hk hw
              go_simp
              first | rfl | exact ⟨rfl, hw⟩
            go_simp
            refine wpStage_read rfl rfl ?_
            apply Exists.intro
            refine ⟨fun k w' hk hw => ?_, ?_⟩
            · go_simp
              first | rfl | exact ⟨rfl, hw⟩
            go_simp
            refine wpStage_read rfl rfl ?_
            apply Exists.intro
            refine ⟨fun k w' hk hw => ?_, ?_⟩
            · obtain ⟨y1, y2⟩ := FK.out k w' (Nat.le_succ_of_le hk) hw
              go_simp
              first | rfl | exact ⟨rfl, hw⟩
            go_simp
            refine wpStage_read rfl rfl ?_
            apply Exists.intro
            refine ⟨fun k w' hk hw => ?_, ?_⟩
            · go_simp
              first | rfl | exact ⟨rfl, hw⟩
            go_simp
            refine wpStage_read rfl rfl ?_
            apply Exists.intro
            refine ⟨fun k w' hk hw => ?_, ?_⟩
            · go_simp
              first | rfl | exact ⟨rfl, hw⟩
            go_simp
            refine wpStage_read rfl rfl ?_
            apply Exists.intro
            refine ⟨fun k w' hk hw => ?_, ?_⟩
            · obtain ⟨y1, y2⟩ := FK.out k w' (Nat.le_succ_of_le hk) hw
              go_simp
              first | rfl | exact ⟨rfl, hw⟩
            go_simp
            refine wpStage_read rfl rfl ?_
            apply Exists.intro
            refine ⟨fun k w' hk hw => ?_, ?_⟩
            · go_simp
              first | rfl | exact ⟨rfl, hw⟩
            go_simp
            refine wpStage_read rfl rfl ?_
            apply Exists.intro
            refine ⟨fun k w' hk hw => ?_, ?_⟩
            · go_simp
              first | rfl | exact ⟨rfl, hw⟩
            go_simp
            refine wpStage_read rfl rfl ?_
            apply Exists.intro
            refine ⟨fun k w' hk hw => ?_, ?_⟩
            · go_simp
              first | rfl | exact ⟨rfl, hw⟩
            go_simp
            refine wpStage_read rfl rfl ?_
            apply Exists.intro
            refine ⟨fun k w' hk hw => ?_, ?_⟩
            · have y3 := FL.out k w' hk hw
              go_simp
              first | rfl | exact ⟨rfl, hw⟩
            go_simp
            refine wpStage_read rfl rfl ?_
            apply Exists.intro
            refine ⟨fun k w' hk hw => ?_, ?_⟩
            · go_simp
              first | rfl | exact ⟨rfl, hw⟩
            go_simp
            refine wpStage_move rfl rfl ?_
            apply Exists.intro
            refine ⟨fun w' hw => ?_, ?_⟩
            · have hw : w' = wr.drew := hw
              subst hw
              go_simp
              first | rfl | exact ⟨rfl, rfl⟩
            go_simp
            refine wpStage_move rfl rfl ?_
            apply Exists.intro
            refine ⟨fun w' hw => ?_, ?_⟩
            · have hw : w' = ((wr.alloc (.cells #[.int .i64 (e : Int)] 3)).drew) := hw
              subst hw
              exact yTo_append (.tmp 509) (.tmp 511) 26 rfl (by simp [Act.eval]) (by simp [Act.eval]) HR.out rfl
            go_simp
            refine wpStage_read rfl rfl ?_
            apply Exists.intro
            refine ⟨fun k w' hk hw => ?_, ?_⟩
            · go_simp
              first | rfl | exact ⟨rfl, hw⟩
            go_simp
            refine wpStage_read rfl rfl ?_
            apply Exists.intro
            refine ⟨fun k w' hk hw => ?_, ?_⟩
            · go_simp
              first | rfl | exact ⟨rfl, hw⟩
            go_simp
            refine wpStage_move rfl rfl ?_
            apply Exists.intro
            refine ⟨fun w' hw => ?_, ?_⟩
            · have hw : w' = wa := hw
              subst hw
              go_simp
              first | rfl | exact ⟨rfl, rfl⟩
            go_simp
            intro w' hw
            have hw : w' = (wa.setCell ⟨g3, f * 7 + 2, none⟩ (.slice (some ⟨gn, 0, none⟩) (nf + 1) kn)) := hw
            subst hw
            go_wp2
            go_roundw
            case rel => exact fin.out
            case measure => simp [intOf]; omega
          · have hb : S2.L.blk e = 0 := by
              obtain ⟨dn', hL⟩ := hF.L
              rw [hL]; show S0.L.blk e = 0; rw [H3.out e hin]; exact e4
            rw [(hF.lay.keep e hb).1, e3] at z3
            have fin : Hid (FinI x S0 i (.slice (some ⟨go, 0, none⟩) dn ko) (.int .i64 ((j : Int) + 1)) wr) := ⟨j + 1, S2, M2, by rw [Hdn.out]; omega, rfl, hS, by rw [HNN.out]; exact hF.skip e1 hin, hv⟩
            clear hS hF hv hso b1 bo e3 e4 e1
            generalize M2.cap 1 = k1 at *
            generalize S2.P.nE = nE at *
            go_wp2
            go_roundw
            case rel => exact fin.out
            case measure => simp [intOf]; omega
        · obtain rfl : dn = j := by omega
          have HN : Hid (FinO x S0 (.int .i64 ((i : Int) + 1)) wr) := ⟨i + 1, S2, M2, by rw [HNN.out]; omega, rfl, hS, by
            rw [HNN.out]
            have : FQ x.P0 x.LA x.U N x.str S0 i (x.P0.on (x.str i)) S2 := by rw [Hdn.out]; exact hF
            exact this.next⟩
          clear hS hF hv
          go_wp2
          go_roundw
          case rel => exact HN.out
          case measure => simp [intOf]; omega
    · obtain rfl : N = i := by omega
      have HD : Hid (SDone x wr R) := ⟨S, M', hS.rep, hS.pm, hS.grew, hS.loc, HRR.out S hF⟩
      clear hS hF
      go_wp2
      go_end0
      exact ⟨rfl, HD.out⟩
end Go.Proofs.Qxb6602148a
