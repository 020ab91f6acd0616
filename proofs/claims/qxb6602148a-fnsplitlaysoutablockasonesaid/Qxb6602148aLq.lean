/-
  The third law: its first loop.
-/
import Derived.Test.Qxb6602148aLp
attribute [local go_sem] Go.Proofs.Qxb6602148a.yTo Go.Proofs.Qxb6602148a.yUpon
namespace Go.Proofs.Qxb6602148a
open Go.RowKit
set_option linter.unusedVariables false
set_option linter.unusedSimpArgs false

set_option maxRecDepth 40000 in
theorem l5g {a : Act} {u1 u8 u9 u10 u11 u12 u13 u14 u15 u16 u17 u18 u19 : Value} (hs : a.tmps.size = 586) (hd : a.defers = []) (h1 : a.tmps.getD 1 undef = u1) (h8 : a.tmps.getD 8 undef = u8) (h9 : a.tmps.getD 9 undef = u9) (h10 : a.tmps.getD 10 undef = u10) (h11 : a.tmps.getD 11 undef = u11) (h12 : a.tmps.getD 12 undef = u12) (h13 : a.tmps.getD 13 undef = u13) (h14 : a.tmps.getD 14 undef = u14) (h15 : a.tmps.getD 15 undef = u15) (h16 : a.tmps.getD 16 undef = u16) (h17 : a.tmps.getD 17 undef = u17) (h18 : a.tmps.getD 18 undef = u18) (h19 : a.tmps.getD 19 undef = u19) : ∃ y : Nat → Value, a = { tmps := #[y 0, u1, y 2, y 3, y 4, y 5, y 6, y 7, u8, u9, u10, u11, u12, u13, u14, u15, u16, u17, u18, u19, y 20, y 21, y 22, y 23, y 24, y 25, y 26, y 27, y 28, y 29, y 30, y 31, y 32, y 33, y 34, y 35, y 36, y 37, y 38, y 39, y 40, y 41, y 42, y 43, y 44, y 45, y 46, y 47, y 48, y 49, y 50, y 51, y 52, y 53, y 54, y 55, y 56, y 57, y 58, y 59, y 60, y 61, y 62, y 63, y 64, y 65, y 66, y 67, y 68, y 69, y 70, y 71, y 72, y 73, y 74, y 75, y 76, y 77, y 78, y 79, y 80, y 81, y 82, y 83, y 84, y 85, y 86, y 87, y 88, y 89, y 90, y 91, y 92, y 93, y 94, y 95, y 96, y 97, y 98, y 99, y 100, y 101, y 102, y 103, y 104, y 105, y 106, y 107, y 108, y 109, y 110, y 111, y 112, y 113, y 114, y 115, y 116, y 117, y 118, y 119, y 120, y 121, y 122, y 123, y 124, y 125, y 126, y 127, y 128, y 129, y 130, y 131, y 132, y 133, y 134, y 135, y 136, y 137, y 138, y 139, y 140, y 141, y 142, y 143, y 144, y 145, y 146, y 147, y 148, y 149, y 150, y 151, y 152, y 153, y 154, y 155, y 156, y 157, y 158, y 159, y 160, y 161, y 162, y 163, y 164, y 165, y 166, y 167, y 168, y 169, y 170, y 171, y 172, y 173, y 174, y 175, y 176, y 177, y 178, y 179, y 180, y 181, y 182, y 183, y 184, y 185, y 186, y 187, y 188, y 189, y 190, y 191, y 192, y 193, y 194, y 195, y 196, y 197, y 198, y 199, y 200, y 201, y 202, y 203, y 204, y 205, y 206, y 207, y 208, y 209, y 210, y 211, y 212, y 213, y 214, y 215, y 216, y 217, y 218, y 219, y 220, y 221, y 222, y 223, y 224, y 225, y 226, y 227, y 228, y 229, y 230, y 231, y 232, y 233, y 234, y 235, y 236, y 237, y 238, y 239, y 240, y 241, y 242, y 243, y 244, y 245, y 246, y 247, y 248, y 249, y 250, y 251, y 252, y 253, y 254, y 255, y 256, y 257, y 258, y 259, y 260, y 261, y 262, y 263, y 264, y 265, y 266, y 267, y 268, y 269, y 270, y 271, y 272, y 273, y 274, y 275, y 276, y 277, y 278, y 279, y 280, y 281, y 282, y 283, y 284, y 285, y 286, y 287, y 288, y 289, y 290, y 291, y 292, y 293, y 294, y 295, y 296, y 297, y 298, y 299, y 300, y 301, y 302, y 303, y 304, y 305, y 306, y 307, y 308, y 309, y 310, y 311, y 312, y 313, y 314, y 315, y 316, y 317, y 318, y 319, y 320, y 321, y 322, y 323, y 324, y 325, y 326, y 327, y 328, y 329, y 330, y 331, y 332, y 333, y 334, y 335, y 336, y 337, y 338, y 339, y 340, y 341, y 342, y 343, y 344, y 345, y 346, y 347, y 348, y 349, y 350, y 351, y 352, y 353, y 354, y 355, y 356, y 357, y 358, y 359, y 360, y 361, y 362, y 363, y 364, y 365, y 366, y 367, y 368, y 369, y 370, y 371, y 372, y 373, y 374, y 375, y 376, y 377, y 378, y 379, y 380, y 381, y 382, y 383, y 384, y 385, y 386, y 387, y 388, y 389, y 390, y 391, y 392, y 393, y 394, y 395, y 396, y 397, y 398, y 399, y 400, y 401, y 402, y 403, y 404, y 405, y 406, y 407, y 408, y 409, y 410, y 411, y 412, y 413, y 414, y 415, y 416, y 417, y 418, y 419, y 420, y 421, y 422, y 423, y 424, y 425, y 426, y 427, y 428, y 429, y 430, y 431, y 432, y 433, y 434, y 435, y 436, y 437, y 438, y 439, y 440, y 441, y 442, y 443, y 444, y 445, y 446, y 447, y 448, y 449, y 450, y 451, y 452, y 453, y 454, y 455, y 456, y 457, y 458, y 459, y 460, y 461, y 462, y 463, y 464, y 465, y 466, y 467, y 468, y 469, y 470, y 471, y 472, y 473, y 474, y 475, y 476, y 477, y 478, y 479, y 480, y 481, y 482, y 483, y 484, y 485, y 486, y 487, y 488, y 489, y 490, y 491, y 492, y 493, y 494, y 495, y 496, y 497, y 498, y 499, y 500, y 501, y 502, y 503, y 504, y 505, y 506, y 507, y 508, y 509, y 510, y 511, y 512, y 513, y 514, y 515, y 516, y 517, y 518, y 519, y 520, y 521, y 522, y 523, y 524, y 525, y 526, y 527, y 528, y 529, y 530, y 531, y 532, y 533, y 534, y 535, y 536, y 537, y 538, y 539, y 540, y 541, y 542, y 543, y 544, y 545, y 546, y 547, y 548, y 549, y 550, y 551, y 552, y 553, y 554, y 555, y 556, y 557, y 558, y 559, y 560, y 561, y 562, y 563, y 564, y 565, y 566, y 567, y 568, y 569, y 570, y 571, y 572, y 573, y 574, y 575, y 576, y 577, y 578, y 579, y 580, y 581, y 582, y 583, y 584, y 585], defers := [] } := by
  obtain ⟨tmps, defers⟩ := a
  have yd : defers = [] := hd
  subst yd
  obtain ⟨y, hy, hi⟩ := arr_586 tmps hs
  have e1 := (hi 1).trans h1
  have e8 := (hi 8).trans h8
  have e9 := (hi 9).trans h9
  have e10 := (hi 10).trans h10
  have e11 := (hi 11).trans h11
  have e12 := (hi 12).trans h12
  have e13 := (hi 13).trans h13
  have e14 := (hi 14).trans h14
  have e15 := (hi 15).trans h15
  have e16 := (hi 16).trans h16
  have e17 := (hi 17).trans h17
  have e18 := (hi 18).trans h18
  have e19 := (hi 19).trans h19
  rw [e1, e8, e9, e10, e11, e12, e13, e14, e15, e16, e17, e18, e19] at hy
  exact ⟨y, congrArg (fun t => (⟨t, []⟩ : Act)) hy⟩

set_option maxRecDepth 40000 in
set_option maxHeartbeats 8000000 in
/-- Regions 42 to 50. -/
theorem l3_1d (wb : World) (gB gM gA : Nat) (V : Fam) (G : GR) (R : Nat → Nat → Bool) (nc : Nat) (cls : Nat → Nat) (P P2 : PS) (c D0 : Nat) (nu : Nat → Nat) (hin : L3In wb gB gM gA V G R nc cls P P2 c D0 nu) (e f k k2 : Nat) (he : e < G.E) (hp : pC G R nc cls P c e = true) (hk : k < P.mn c) (hk2 : k2 < P.mn c) (q2 : P2.fr e = ((P.ns k : Nat) : Int)) (q3 : P2.to e = ((P.ns k2 : Nat) : Int)) (q4 : P.ns k < P2.nS) (q5 : P.ns k2 < P2.nS) (q6 : P2.node (P.ns k) = ((G.sr e : Nat) : Int)) (q7 : P2.node (P.ns k2) = ((G.ds e : Nat) : Int)) (q8 : P2.comp (P.ns k) = (D0 : Int)) (q9 : P2.comp (P.ns k2) = (D0 : Int)) (dv : Int) (hdv : dv = (D0 : Int) ∨ dv = -1) (v15 : Value) (wr : World) (hT : Tp wb G R nc cls P c e v15 wr) (a : Act) (hf : F5 gB gM gA c G.E P2.nS P2.nC a) (h14 : a.tmps.getD 14 undef = .int .i64 dv) (h15 : a.tmps.getD 15 undef = v15) (h16 : a.tmps.getD 16 undef = .int .i64 (e : Int)) (h17 : a.tmps.getD 17 undef = .int .i64 (f : Int)) (h18 : a.tmps.getD 18 undef = .int .i64 ((P.ns k : Nat) : Int)) (h19 : a.tmps.getD 19 undef = .int .i64 ((P.ns k2 : Nat) : Int)) (Q : Exit → Act → World → Prop)
    (hC : ∀ (a : Act) (w : World) (v15 : Value), F5 gB gM gA c G.E P2.nS P2.nC a → a.tmps.getD 14 undef = .int .i64 (D0 : Int) → a.tmps.getD 15 undef = v15 → a.tmps.getD 16 undef = .int .i64 (e : Int) → Tp wb G R nc cls P c (e + 1) v15 w → Q .normal a w) :
    Code.wp Try.prog (tl 6 (f5e (Try.f5.body.getD .skip))) Q a wr := by
  obtain ⟨y, rfl⟩ := l5g hf.sz hf.df hf.s1 hf.s8 hf.s9 hf.s10 hf.s11 hf.s12 hf.s13 h14 h15 h16 h17 h18 h19
  obtain ⟨hE, hn, hS, hCC, hS2, hC2⟩ := hin.sm
  have HIN : Hid (L3In wb gB gM gA V G R nc cls P P2 c D0 nu) := hin
  have hG := hT.grew
  obtain ⟨b2, k2', x1, x2, x3, x4⟩ := hin.va.v2.two hG q4 q5
  obtain ⟨b3, k3, x5, x6, x7⟩ := hin.m1.at hG he
  obtain ⟨b4, k4, x8, x9, x10⟩ := hin.m2.at hG he
  obtain ⟨b5, k5, z1, z2, z3, z4⟩ := hin.va.v3.two hG q4 q5
  rw [q6] at x3
  rw [q7] at x4
  rw [q8] at z3
  rw [q9] at z4
  have D2 := hin.sf.D2
  have HC : Hid (∀ (a : Act) (q : Nat), F5 gB gM gA c G.E P2.nS P2.nC a → a.tmps.getD 14 undef = .int .i64 (D0 : Int) → a.tmps.getD 15 undef = v15 → a.tmps.getD 16 undef = .int .i64 (e : Int) → Code.wp Try.prog (tl 11 (f5e (Try.f5.body.getD .skip))) Q a (wr.drewN q)) := fun a q hf h14 h15 h16 => l3_1c wb gB gM gA V G R nc cls P P2 c D0 nu hin e he hp v15 _ (hT.drewN q) a hf h14 h15 h16 Q hC
  clear hf hC hin h14 h15 h16 h17 h18 h19 hT hG q2 q3 q6 q7 q8 q9 hp HIN
  generalize P.ns k = nf at *
  generalize P.ns k2 = nt at *
  generalize G.sr e = sr at *
  generalize G.ds e = ds at *
  have f1 : (nf : Int) < (P2.nS : Int) := by omega
  have f2 : (nt : Int) < (P2.nS : Int) := by omega
  have f3 : (D0 : Int) < (P2.nC : Int) := by omega
  show Code.wp Try.prog (Code.seq (Code.seq _ (Code.cond (.tmp 231) _ Code.skip)) (Code.seq _ (Code.seq (Code.seq _ (Code.cond (.tmp 252) _ Code.skip)) (Code.seq (Code.seq _ (Code.cond (.tmp 254) _ Code.skip)) (Code.seq (Code.seq _ (Code.cond (.tmp 258) _ Code.skip)) (tl 11 (f5e (Try.f5.body.getD .skip)))))))) Q _ wr
  refine wp_seq_k (fun K1 hK => ?_)
  have HK1 : Hid (∀ (a : Act) (w : World), _ → K1 a w) := hK
  clear hK
  refine wp_seq_k (fun K2 hK => ?_)
  have HK2 : Hid (∀ (a : Act) (w : World), _ → K2 a w) := hK
  clear hK
  go_quiet (fail)
  refine HK2.out _ _ (wp_cond_false (by kernel_rfl) (wp_skip ?_))
  refine HK1.out _ _ ?_
  clear HK1 K1 HK2 K2 x1 x2 x3 x4 x5 x6 x7 x8 x9 x10
  have z1' : (wr.drewN nq).cell? ⟨gA, 3, none⟩ = some (.slice (some ⟨b5, 0, none⟩) P2.nS k5) := z1
  have z3' : (wr.drewN nq).cell? ⟨b5, nf, none⟩ = some (.int .i64 (D0 : Int)) := z3
  have z4' : (wr.drewN nq).cell? ⟨b5, nt, none⟩ = some (.int .i64 (D0 : Int)) := z4
  have HCq : Hid (∀ (a : Act), F5 gB gM gA c G.E P2.nS P2.nC a → a.tmps.getD 14 undef = .int .i64 (D0 : Int) → a.tmps.getD 15 undef = v15 → a.tmps.getD 16 undef = .int .i64 (e : Int) → Code.wp Try.prog (tl 11 (f5e (Try.f5.body.getD .skip))) Q a (wr.drewN nq)) := fun a => HC.out a nq
  clear z1 z3 z4 HC
  generalize wr.drewN nq = wq at *
  refine wp_seq_k (fun K1 hK => ?_)
  have HK1 : Hid (∀ (a : Act) (w : World), _ → K1 a w) := hK
  clear hK
  go_wp2
  refine HK1.out _ _ ?_
  clear HK1 K1
  refine wp_seq_k (fun K1 hK => ?_)
  have HK1 : Hid (∀ (a : Act) (w : World), _ → K1 a w) := hK
  clear hK
  go_wp2
  refine HK1.out _ _ ?_
  clear HK1 K1 z1' z2 z3' z4'
  rcases hdv with rfl | rfl
  · have hz : ((D0 : Int) == -1) = false := by rw [beq_eq_false_iff_ne]; omega
    refine wp_seq_k (fun K1 hK => ?_)
    have HK1 : Hid (∀ (a : Act) (w : World), _ → K1 a w) := hK
    clear hK
    go_wp2
    refine HK1.out _ _ ?_
    clear HK1 K1
    refine wp_seq_k (fun K1 hK => ?_)
    have HK1 : Hid (∀ (a : Act) (w : World), _ → K1 a w) := hK
    clear hK
    go_wp2
    refine HK1.out _ _ ?_
    exact HCq.out _ ⟨by kernel_rfl, by kernel_rfl, by kernel_rfl, by kernel_rfl, by kernel_rfl, by kernel_rfl, by kernel_rfl, by kernel_rfl, by kernel_rfl⟩ (by kernel_rfl) (by kernel_rfl) (by kernel_rfl)
  ·
    refine wp_seq_k (fun K1 hK => ?_)
    have HK1 : Hid (∀ (a : Act) (w : World), _ → K1 a w) := hK
    clear hK
    go_wp2
    refine HK1.out _ _ ?_
    clear HK1 K1
    refine wp_seq_k (fun K1 hK => ?_)
    have HK1 : Hid (∀ (a : Act) (w : World), _ → K1 a w) := hK
    clear hK
    go_wp2
    refine HK1.out _ _ ?_
    exact HCq.out _ ⟨by kernel_rfl, by kernel_rfl, by kernel_rfl, by kernel_rfl, by kernel_rfl, by kernel_rfl, by kernel_rfl, by kernel_rfl, by kernel_rfl⟩ (by kernel_rfl) (by kernel_rfl) (by kernel_rfl)

end Go.Proofs.Qxb6602148a
