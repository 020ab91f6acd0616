/-
  The third law: from 'split' to the loops.
-/
import Derived.Test.Qxb6602148aLzb
attribute [local go_sem] Go.Proofs.Qxb6602148a.yTo Go.Proofs.Qxb6602148a.yUpon
namespace Go.Proofs.Qxb6602148a
open Go.RowKit
set_option linter.unusedVariables false
set_option linter.unusedSimpArgs false


structure F5d (p gB gM gS c mc : Nat) (a : Act) : Prop where
  sz : a.tmps.size = 586
  df : a.defers = []
  s1 : a.tmps.getD 1 undef = .int .i64 (c : Int)
  s2 : a.tmps.getD 2 undef = .slice (some ⟨gS, 0, none⟩) mc mc
  s7 : a.tmps.getD 7 undef = .pointer (some ⟨p, 0, none⟩)
  s8 : a.tmps.getD 8 undef = .pointer (some ⟨gB, 0, none⟩)
  s9 : a.tmps.getD 9 undef = .pointer (some ⟨gM, 0, none⟩)
set_option maxRecDepth 40000 in
theorem l5x {a : Act} {u1 u2 u7 u8 u9 : Value} (hs : a.tmps.size = 586) (hd : a.defers = []) (h1 : a.tmps.getD 1 undef = u1) (h2 : a.tmps.getD 2 undef = u2) (h7 : a.tmps.getD 7 undef = u7) (h8 : a.tmps.getD 8 undef = u8) (h9 : a.tmps.getD 9 undef = u9) : ∃ y : Nat → Value, a = { tmps := #[y 0, u1, u2, y 3, y 4, y 5, y 6, u7, u8, u9, y 10, y 11, y 12, y 13, y 14, y 15, y 16, y 17, y 18, y 19, y 20, y 21, y 22, y 23, y 24, y 25, y 26, y 27, y 28, y 29, y 30, y 31, y 32, y 33, y 34, y 35, y 36, y 37, y 38, y 39, y 40, y 41, y 42, y 43, y 44, y 45, y 46, y 47, y 48, y 49, y 50, y 51, y 52, y 53, y 54, y 55, y 56, y 57, y 58, y 59, y 60, y 61, y 62, y 63, y 64, y 65, y 66, y 67, y 68, y 69, y 70, y 71, y 72, y 73, y 74, y 75, y 76, y 77, y 78, y 79, y 80, y 81, y 82, y 83, y 84, y 85, y 86, y 87, y 88, y 89, y 90, y 91, y 92, y 93, y 94, y 95, y 96, y 97, y 98, y 99, y 100, y 101, y 102, y 103, y 104, y 105, y 106, y 107, y 108, y 109, y 110, y 111, y 112, y 113, y 114, y 115, y 116, y 117, y 118, y 119, y 120, y 121, y 122, y 123, y 124, y 125, y 126, y 127, y 128, y 129, y 130, y 131, y 132, y 133, y 134, y 135, y 136, y 137, y 138, y 139, y 140, y 141, y 142, y 143, y 144, y 145, y 146, y 147, y 148, y 149, y 150, y 151, y 152, y 153, y 154, y 155, y 156, y 157, y 158, y 159, y 160, y 161, y 162, y 163, y 164, y 165, y 166, y 167, y 168, y 169, y 170, y 171, y 172, y 173, y 174, y 175, y 176, y 177, y 178, y 179, y 180, y 181, y 182, y 183, y 184, y 185, y 186, y 187, y 188, y 189, y 190, y 191, y 192, y 193, y 194, y 195, y 196, y 197, y 198, y 199, y 200, y 201, y 202, y 203, y 204, y 205, y 206, y 207, y 208, y 209, y 210, y 211, y 212, y 213, y 214, y 215, y 216, y 217, y 218, y 219, y 220, y 221, y 222, y 223, y 224, y 225, y 226, y 227, y 228, y 229, y 230, y 231, y 232, y 233, y 234, y 235, y 236, y 237, y 238, y 239, y 240, y 241, y 242, y 243, y 244, y 245, y 246, y 247, y 248, y 249, y 250, y 251, y 252, y 253, y 254, y 255, y 256, y 257, y 258, y 259, y 260, y 261, y 262, y 263, y 264, y 265, y 266, y 267, y 268, y 269, y 270, y 271, y 272, y 273, y 274, y 275, y 276, y 277, y 278, y 279, y 280, y 281, y 282, y 283, y 284, y 285, y 286, y 287, y 288, y 289, y 290, y 291, y 292, y 293, y 294, y 295, y 296, y 297, y 298, y 299, y 300, y 301, y 302, y 303, y 304, y 305, y 306, y 307, y 308, y 309, y 310, y 311, y 312, y 313, y 314, y 315, y 316, y 317, y 318, y 319, y 320, y 321, y 322, y 323, y 324, y 325, y 326, y 327, y 328, y 329, y 330, y 331, y 332, y 333, y 334, y 335, y 336, y 337, y 338, y 339, y 340, y 341, y 342, y 343, y 344, y 345, y 346, y 347, y 348, y 349, y 350, y 351, y 352, y 353, y 354, y 355, y 356, y 357, y 358, y 359, y 360, y 361, y 362, y 363, y 364, y 365, y 366, y 367, y 368, y 369, y 370, y 371, y 372, y 373, y 374, y 375, y 376, y 377, y 378, y 379, y 380, y 381, y 382, y 383, y 384, y 385, y 386, y 387, y 388, y 389, y 390, y 391, y 392, y 393, y 394, y 395, y 396, y 397, y 398, y 399, y 400, y 401, y 402, y 403, y 404, y 405, y 406, y 407, y 408, y 409, y 410, y 411, y 412, y 413, y 414, y 415, y 416, y 417, y 418, y 419, y 420, y 421, y 422, y 423, y 424, y 425, y 426, y 427, y 428, y 429, y 430, y 431, y 432, y 433, y 434, y 435, y 436, y 437, y 438, y 439, y 440, y 441, y 442, y 443, y 444, y 445, y 446, y 447, y 448, y 449, y 450, y 451, y 452, y 453, y 454, y 455, y 456, y 457, y 458, y 459, y 460, y 461, y 462, y 463, y 464, y 465, y 466, y 467, y 468, y 469, y 470, y 471, y 472, y 473, y 474, y 475, y 476, y 477, y 478, y 479, y 480, y 481, y 482, y 483, y 484, y 485, y 486, y 487, y 488, y 489, y 490, y 491, y 492, y 493, y 494, y 495, y 496, y 497, y 498, y 499, y 500, y 501, y 502, y 503, y 504, y 505, y 506, y 507, y 508, y 509, y 510, y 511, y 512, y 513, y 514, y 515, y 516, y 517, y 518, y 519, y 520, y 521, y 522, y 523, y 524, y 525, y 526, y 527, y 528, y 529, y 530, y 531, y 532, y 533, y 534, y 535, y 536, y 537, y 538, y 539, y 540, y 541, y 542, y 543, y 544, y 545, y 546, y 547, y 548, y 549, y 550, y 551, y 552, y 553, y 554, y 555, y 556, y 557, y 558, y 559, y 560, y 561, y 562, y 563, y 564, y 565, y 566, y 567, y 568, y 569, y 570, y 571, y 572, y 573, y 574, y 575, y 576, y 577, y 578, y 579, y 580, y 581, y 582, y 583, y 584, y 585], defers := [] } := by
  obtain ⟨tmps, defers⟩ := a
  have yd : defers = [] := hd
  subst yd
  obtain ⟨y, hy, hi⟩ := arr_586 tmps hs
  have e1 := (hi 1).trans h1
  have e2 := (hi 2).trans h2
  have e7 := (hi 7).trans h7
  have e8 := (hi 8).trans h8
  have e9 := (hi 9).trans h9
  rw [e1, e2, e7, e8, e9] at hy
  exact ⟨y, congrArg (fun t => (⟨t, []⟩ : Act)) hy⟩

set_option maxRecDepth 40000 in
set_option maxHeartbeats 8000000 in
/-- Regions 16 to 26. -/
theorem l3_g3 (w w8 : World) (G : GR) (p : Nat) (M : Fam) (P : PS) (V : Fam) (gB c : Nat) (R : Nat → Nat → Bool) (nc : Nat) (cls : Nat → Nat) (g0 g1 g2 g3 gM : Nat) (gS : Nat) (str : Nat → Nat) (hS : S13 w w8 G p M P V gB c R nc cls g0 g1 g2 g3 gM) (hQ : Q12 M P c gS str) (a : Act) (hf : F5d p gB gM gS c (P.mn c) a) :
    Code.wp Try.prog (tl 11 (Try.f5.body.getD .skip)) (bodyPost Try.prog Try.f5 fun e w' => e = .returned (.bool true) ∧ Below w.heap.size w w') a w8 := by
  obtain ⟨y, rfl⟩ := l5x hf.sz hf.df hf.s1 hf.s2 hf.s7 hf.s8 hf.s9
  have HD : Hid (Calls Try.prog 21 #[.pointer (some ⟨p, 0, none⟩), .slice (some ⟨gS, 0, none⟩) (P.mn c) (P.mn c)] w8 fun e w9 => e = .returned (.tuple #[]) ∧ ∃ M' P2 nu, S35 w w9 G p M' P P2 V gB c nu R nc cls g0 g1 g2 g3 gM) := hS.spl hQ
  clear hf hS hQ
  show Code.wp Try.prog (Code.seq _ (Code.seq _ (Code.seq _ (Code.seq (Code.seq _ (Code.cond (.tmp 95) _ Code.skip)) (Code.seq _ (Code.seq (Code.seq _ (Code.cond (.tmp 117) _ Code.skip)) (Code.seq _ (Code.seq (Code.seq _ (Code.cond (.tmp 132) _ Code.skip)) (tl 19 (Try.f5.body.getD .skip)))))))))) _ _ w8
  refine wp_seq_k (fun K1 hK => ?_)
  have HK1 : Hid (∀ (a : Act) (w : World), _ → K1 a w) := hK
  clear hK
  go_wp2_with (go_at_call 21; refine HD.out.mono ?_; rintro e w9 ⟨rfl, M', P2, nu, h9⟩; have H9 : Hid (S35 w w9 G p M' P P2 V gB c nu R nc cls g0 g1 g2 g3 gM) := h9; clear h9)
  refine HK1.out _ _ ?_
  clear HK1 K1 HD
  have HT : Hid (Calls Try.prog 13 #[.pointer (some ⟨p, 0, none⟩)] w9 fun e w' => ∃ V a0 n0 k0 a1 n1 k1 a2 n2 k2 a3 n3 k3 a4 n4 k4 a5 n5 k5 a6 n6 k6, e = .returned (.agg #[.slice a0 n0 k0, .slice a1 n1 k1, .slice a2 n2 k2, .slice a3 n3 k3, .slice a4 n4 k4, .slice a5 n5 k5, .slice a6 n6 k6]) ∧ (#[.slice a0 n0 k0, .slice a1 n1 k1, .slice a2 n2 k2, .slice a3 n3 k3, .slice a4 n4 k4, .slice a5 n5 k5, .slice a6 n6 k6] : Array Value) = #[V.val 0, V.val 1, V.val 2, V.val 3, V.val 4, V.val 5, V.val 6] ∧ VOut w9 P2 V w') := take_slices (take_calls w9 M' P2 p H9.out.pin)
  refine wp_seq_k (fun K1 hK => ?_)
  have HK1 : Hid (∀ (a : Act) (w : World), _ → K1 a w) := hK
  clear hK
  go_wp2_with (go_at_call 13; refine HT.out.mono ?_; rintro e w10 ⟨V2, a0, n0, k0, a1, n1, k1, a2, n2, k2, a3, n3, k3, a4, n4, k4, a5, n5, k5, a6, n6, k6, rfl, hq, hV⟩; have HV : Hid (VOut w9 P2 V2 w10) := hV; have HQ : Hid ((#[.slice a0 n0 k0, .slice a1 n1 k1, .slice a2 n2 k2, .slice a3 n3 k3, .slice a4 n4 k4, .slice a5 n5 k5, .slice a6 n6 k6] : Array Value) = #[V2.val 0, V2.val 1, V2.val 2, V2.val 3, V2.val 4, V2.val 5, V2.val 6]) := hq; clear hV hq)
  refine HK1.out _ _ ?_
  clear HK1 K1 HT
  rw [HQ.out]
  have b11 : (w10.alloc (.cells #[V2.val 0, V2.val 1, V2.val 2, V2.val 3, V2.val 4, V2.val 5, V2.val 6] 35)).heap[w10.heap.size]? = some (.cells #[V2.val 0, V2.val 1, V2.val 2, V2.val 3, V2.val 4, V2.val 5, V2.val 6] 35) := heap_alloc_new w10 _
  have gx : Grew Fam.nil w10 Fam.nil (w10.alloc (.cells #[V2.val 0, V2.val 1, V2.val 2, V2.val 3, V2.val 4, V2.val 5, V2.val 6] 35)) := (Grew.refl Fam.nil w10).alloc _
  generalize w10.heap.size = gA at *
  generalize w10.alloc (.cells #[V2.val 0, V2.val 1, V2.val 2, V2.val 3, V2.val 4, V2.val 5, V2.val 6] 35) = w11 at *
  obtain ⟨rv2, vm2⟩ := HV.out.kept gx
  have g911 : Grew Fam.nil w9 Fam.nil w11 := HV.out.2.1.to_nil.trans gx
  have rv11 : Rep KV w11 V := H9.out.rv.kept (fun i g hb => g911.block g (H9.out.rv.lt hb) (fun i e => by cases e))
  have bx11 := box_kept H9.out.box g911
  have bm11 := box_kept H9.out.bm g911
  have mc11 := H9.out.mcl.kept (w2 := w11) (fun g _ j v hv => g911.cell hv)
  obtain ⟨sm1, sm2, sm3, sm4⟩ := H9.out.sm
  have hin : L3In w11 gB gM gA V G R nc cls P P2 c (P.cs 0) nu := ⟨vin_of bx11 rv11 H9.out.vm, vin_of b11 rv2 vm2, by rw [cell_of_row w11 gM 0 _ _ _ bm11]; rfl, ⟨some ⟨g0, 0, none⟩, G.E, by rw [cell_of_row w11 gM 1 _ _ _ bm11]; rfl, fun e he => ⟨g0, rfl, Nat.le_refl _, mc11.c0 e he⟩⟩, ⟨some ⟨g1, 0, none⟩, G.E, by rw [cell_of_row w11 gM 2 _ _ _ bm11]; rfl, fun e he => ⟨g1, rfl, Nat.le_refl _, mc11.c1 e he⟩⟩, bx11, rv11, H9.out.vm, H9.out.meet, H9.out.calm, H9.out.c1, H9.out.c2, H9.out.sf, ⟨H9.out.ok.E, H9.out.ok.n, sm1, sm2, sm3, sm4⟩, fun k hk => by have := H9.out.meet.mn_le hk; omega⟩
  have HIN : Hid (L3In w11 gB gM gA V G R nc cls P P2 c (P.cs 0) nu) := hin
  have HB : Hid (∀ w', Grew Fam.nil w11 Fam.nil w' → Below w.heap.size w w') := fun w' hg' => ((H9.out.gr.keep g911).keep hg').below
  have hE := H9.out.ok.E
  obtain ⟨nE1, nE2⟩ := hin.nE
  have rf := Grew.refl Fam.nil w11
  obtain ⟨p0, q0, z0⟩ := hin.va.v0.len rf
  obtain ⟨p1, q1, z1⟩ := hin.va.v1.len rf
  obtain ⟨p2, q2, z2⟩ := hin.va.v2.len rf
  obtain ⟨p3, q3, z3⟩ := hin.va.v3.len rf
  obtain ⟨p4, q4, z4⟩ := hin.va.v4.len rf
  obtain ⟨p5, q5, z5⟩ := hin.va.v5.len rf
  obtain ⟨p6, q6, z6⟩ := hin.va.v6.len rf
  obtain ⟨r2, t2, u2⟩ := hin.vb.v2.len rf
  obtain ⟨r5, t5, u5⟩ := hin.vb.v5.len rf
  obtain ⟨rm, tm, um⟩ := hin.m1.len rf
  rw [nE2] at z0 z1
  have hnS : P.nS ≤ P2.nS := by have := hin.sf.nS; omega
  have hnC : P.nC ≤ P2.nC := hin.sf.nC
  have d1 : decide ((P2.nS : Int) < (P.nS : Int)) = false := decide_eq_false (by omega)
  have d2 : decide (P2.nS < P.nS) = false := decide_eq_false (by omega)
  have d3 : decide ((P2.nC : Int) < (P.nC : Int)) = false := decide_eq_false (by omega)
  have d4 : decide (P2.nC < P.nC) = false := decide_eq_false (by omega)
  clear HQ HV b11 gx rv2 vm2 g911 rv11 bx11 bm11 mc11 hin rf H9
  refine wp_seq_k (fun K1 hK => ?_)
  have HK1 : Hid (∀ (a : Act) (w : World), _ → K1 a w) := hK
  clear hK
  go_wp2
  refine HK1.out _ _ ?_
  clear HK1 K1 um
  refine wp_seq_k (fun K1 hK => ?_)
  have HK1 : Hid (∀ (a : Act) (w : World), _ → K1 a w) := hK
  clear hK
  refine wp_seq_k (fun K2 hK => ?_)
  have HK2 : Hid (∀ (a : Act) (w : World), _ → K2 a w) := hK
  clear hK
  go_wp2
  refine HK2.out _ _ (wp_cond_false (by kernel_rfl) (wp_skip ?_))
  refine HK1.out _ _ ?_
  clear HK1 K1 HK2 K2 z0 z1
  refine wp_seq_k (fun K1 hK => ?_)
  have HK1 : Hid (∀ (a : Act) (w : World), _ → K1 a w) := hK
  clear hK
  go_wp2
  refine HK1.out _ _ ?_
  clear HK1 K1 z2
  refine wp_seq_k (fun K1 hK => ?_)
  have HK1 : Hid (∀ (a : Act) (w : World), _ → K1 a w) := hK
  clear hK
  refine wp_seq_k (fun K2 hK => ?_)
  have HK2 : Hid (∀ (a : Act) (w : World), _ → K2 a w) := hK
  clear hK
  go_wp2
  refine HK2.out _ _ (wp_cond_false (by kernel_rfl) (wp_skip ?_))
  refine HK1.out _ _ ?_
  clear HK1 K1 HK2 K2 z3 z4 u2
  refine wp_seq_k (fun K1 hK => ?_)
  have HK1 : Hid (∀ (a : Act) (w : World), _ → K1 a w) := hK
  clear hK
  go_wp2
  refine HK1.out _ _ ?_
  clear HK1 K1 z5
  refine wp_seq_k (fun K1 hK => ?_)
  have HK1 : Hid (∀ (a : Act) (w : World), _ → K1 a w) := hK
  clear hK
  refine wp_seq_k (fun K2 hK => ?_)
  have HK2 : Hid (∀ (a : Act) (w : World), _ → K2 a w) := hK
  clear hK
  go_wp2
  refine HK2.out _ _ (wp_cond_false (by kernel_rfl) (wp_skip ?_))
  refine HK1.out _ _ ?_
  exact l3_end w11 gB gM gA V G R nc cls P P2 c (P.cs 0) nu HIN.out _ ⟨by kernel_rfl, by kernel_rfl, by kernel_rfl, by kernel_rfl, by kernel_rfl, by kernel_rfl, by kernel_rfl, by kernel_rfl, by kernel_rfl⟩ _ HB.out
end Go.Proofs.Qxb6602148a
