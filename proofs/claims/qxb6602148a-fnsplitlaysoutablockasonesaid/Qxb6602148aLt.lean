/-
  The third law: between its first loop and its second.
-/
import Derived.Test.Qxb6602148aLs
attribute [local go_sem] Go.Proofs.Qxb6602148a.yTo Go.Proofs.Qxb6602148a.yUpon
namespace Go.Proofs.Qxb6602148a
open Go.RowKit
set_option linter.unusedVariables false
set_option linter.unusedSimpArgs false

/-- The lists at hand. -/
structure L3M (wb : World) (G : GR) (R : Nat → Nat → Bool) (nc : Nat) (cls : Nat → Nat) (P : PS) (c : Nat) (mv : Nat → Nat) (b21 k21 b22 k22 g15 k15 : Nat) : Prop where
  k1 : P.mn c ≤ k21
  k2 : P.mn c ≤ k22
  k3 : (cnt (pC G R nc cls P c) G.E) ≤ k15
  c1 : ∀ j, j < P.mn c → wb.cell? ⟨b21, j, none⟩ = some (.int .i64 ((P.ns j : Nat) : Int))
  c2 : ∀ j, j < P.mn c → wb.cell? ⟨b22, j, none⟩ = some (.int .i64 (P.mem c j))
  mv : Mvd G R nc cls P c G.E mv
def T2 (wb : World) (G : GR) (R : Nat → Nat → Bool) (nc : Nat) (cls : Nat → Nat) (P : PS) (c : Nat) (mv : Nat → Nat) (g15 g23 : Nat) (mk : Nat → Int) (w : World) : Prop := ∃ D, MM wb D w ∧ Roi D 2 g15 (cnt (pC G R nc cls P c) G.E) (fun j => ((mv j : Nat) : Int)) ∧ Roi D 3 g23 G.n mk
structure F5b (gB gM gA c E nS nC D0 m mc b21 k21 b22 k22 g15 k15 : Nat) (a : Act) : Prop where
  sz : a.tmps.size = 586
  df : a.defers = []
  s1 : a.tmps.getD 1 undef = .int .i64 (c : Int)
  s8 : a.tmps.getD 8 undef = .pointer (some ⟨gB, 0, none⟩)
  s9 : a.tmps.getD 9 undef = .pointer (some ⟨gM, 0, none⟩)
  s10 : a.tmps.getD 10 undef = .pointer (some ⟨gA, 0, none⟩)
  s11 : a.tmps.getD 11 undef = .int .i64 (E : Int)
  s12 : a.tmps.getD 12 undef = .int .i64 (nS : Int)
  s13 : a.tmps.getD 13 undef = .int .i64 (nC : Int)
  s14 : a.tmps.getD 14 undef = .int .i64 (D0 : Int)
  s15 : a.tmps.getD 15 undef = .slice (some ⟨g15, 0, none⟩) m k15
  s21 : a.tmps.getD 21 undef = .slice (some ⟨b21, 0, none⟩) mc k21
  s22 : a.tmps.getD 22 undef = .slice (some ⟨b22, 0, none⟩) mc k22
set_option maxRecDepth 40000 in
theorem l5h {a : Act} {u1 u8 u9 u10 u11 u12 u13 u14 u15 u21 u22 : Value} (hs : a.tmps.size = 586) (hd : a.defers = []) (h1 : a.tmps.getD 1 undef = u1) (h8 : a.tmps.getD 8 undef = u8) (h9 : a.tmps.getD 9 undef = u9) (h10 : a.tmps.getD 10 undef = u10) (h11 : a.tmps.getD 11 undef = u11) (h12 : a.tmps.getD 12 undef = u12) (h13 : a.tmps.getD 13 undef = u13) (h14 : a.tmps.getD 14 undef = u14) (h15 : a.tmps.getD 15 undef = u15) (h21 : a.tmps.getD 21 undef = u21) (h22 : a.tmps.getD 22 undef = u22) : ∃ y : Nat → Value, a = { tmps := #[y 0, u1, y 2, y 3, y 4, y 5, y 6, y 7, u8, u9, u10, u11, u12, u13, u14, u15, y 16, y 17, y 18, y 19, y 20, u21, u22, y 23, y 24, y 25, y 26, y 27, y 28, y 29, y 30, y 31, y 32, y 33, y 34, y 35, y 36, y 37, y 38, y 39, y 40, y 41, y 42, y 43, y 44, y 45, y 46, y 47, y 48, y 49, y 50, y 51, y 52, y 53, y 54, y 55, y 56, y 57, y 58, y 59, y 60, y 61, y 62, y 63, y 64, y 65, y 66, y 67, y 68, y 69, y 70, y 71, y 72, y 73, y 74, y 75, y 76, y 77, y 78, y 79, y 80, y 81, y 82, y 83, y 84, y 85, y 86, y 87, y 88, y 89, y 90, y 91, y 92, y 93, y 94, y 95, y 96, y 97, y 98, y 99, y 100, y 101, y 102, y 103, y 104, y 105, y 106, y 107, y 108, y 109, y 110, y 111, y 112, y 113, y 114, y 115, y 116, y 117, y 118, y 119, y 120, y 121, y 122, y 123, y 124, y 125, y 126, y 127, y 128, y 129, y 130, y 131, y 132, y 133, y 134, y 135, y 136, y 137, y 138, y 139, y 140, y 141, y 142, y 143, y 144, y 145, y 146, y 147, y 148, y 149, y 150, y 151, y 152, y 153, y 154, y 155, y 156, y 157, y 158, y 159, y 160, y 161, y 162, y 163, y 164, y 165, y 166, y 167, y 168, y 169, y 170, y 171, y 172, y 173, y 174, y 175, y 176, y 177, y 178, y 179, y 180, y 181, y 182, y 183, y 184, y 185, y 186, y 187, y 188, y 189, y 190, y 191, y 192, y 193, y 194, y 195, y 196, y 197, y 198, y 199, y 200, y 201, y 202, y 203, y 204, y 205, y 206, y 207, y 208, y 209, y 210, y 211, y 212, y 213, y 214, y 215, y 216, y 217, y 218, y 219, y 220, y 221, y 222, y 223, y 224, y 225, y 226, y 227, y 228, y 229, y 230, y 231, y 232, y 233, y 234, y 235, y 236, y 237, y 238, y 239, y 240, y 241, y 242, y 243, y 244, y 245, y 246, y 247, y 248, y 249, y 250, y 251, y 252, y 253, y 254, y 255, y 256, y 257, y 258, y 259, y 260, y 261, y 262, y 263, y 264, y 265, y 266, y 267, y 268, y 269, y 270, y 271, y 272, y 273, y 274, y 275, y 276, y 277, y 278, y 279, y 280, y 281, y 282, y 283, y 284, y 285, y 286, y 287, y 288, y 289, y 290, y 291, y 292, y 293, y 294, y 295, y 296, y 297, y 298, y 299, y 300, y 301, y 302, y 303, y 304, y 305, y 306, y 307, y 308, y 309, y 310, y 311, y 312, y 313, y 314, y 315, y 316, y 317, y 318, y 319, y 320, y 321, y 322, y 323, y 324, y 325, y 326, y 327, y 328, y 329, y 330, y 331, y 332, y 333, y 334, y 335, y 336, y 337, y 338, y 339, y 340, y 341, y 342, y 343, y 344, y 345, y 346, y 347, y 348, y 349, y 350, y 351, y 352, y 353, y 354, y 355, y 356, y 357, y 358, y 359, y 360, y 361, y 362, y 363, y 364, y 365, y 366, y 367, y 368, y 369, y 370, y 371, y 372, y 373, y 374, y 375, y 376, y 377, y 378, y 379, y 380, y 381, y 382, y 383, y 384, y 385, y 386, y 387, y 388, y 389, y 390, y 391, y 392, y 393, y 394, y 395, y 396, y 397, y 398, y 399, y 400, y 401, y 402, y 403, y 404, y 405, y 406, y 407, y 408, y 409, y 410, y 411, y 412, y 413, y 414, y 415, y 416, y 417, y 418, y 419, y 420, y 421, y 422, y 423, y 424, y 425, y 426, y 427, y 428, y 429, y 430, y 431, y 432, y 433, y 434, y 435, y 436, y 437, y 438, y 439, y 440, y 441, y 442, y 443, y 444, y 445, y 446, y 447, y 448, y 449, y 450, y 451, y 452, y 453, y 454, y 455, y 456, y 457, y 458, y 459, y 460, y 461, y 462, y 463, y 464, y 465, y 466, y 467, y 468, y 469, y 470, y 471, y 472, y 473, y 474, y 475, y 476, y 477, y 478, y 479, y 480, y 481, y 482, y 483, y 484, y 485, y 486, y 487, y 488, y 489, y 490, y 491, y 492, y 493, y 494, y 495, y 496, y 497, y 498, y 499, y 500, y 501, y 502, y 503, y 504, y 505, y 506, y 507, y 508, y 509, y 510, y 511, y 512, y 513, y 514, y 515, y 516, y 517, y 518, y 519, y 520, y 521, y 522, y 523, y 524, y 525, y 526, y 527, y 528, y 529, y 530, y 531, y 532, y 533, y 534, y 535, y 536, y 537, y 538, y 539, y 540, y 541, y 542, y 543, y 544, y 545, y 546, y 547, y 548, y 549, y 550, y 551, y 552, y 553, y 554, y 555, y 556, y 557, y 558, y 559, y 560, y 561, y 562, y 563, y 564, y 565, y 566, y 567, y 568, y 569, y 570, y 571, y 572, y 573, y 574, y 575, y 576, y 577, y 578, y 579, y 580, y 581, y 582, y 583, y 584, y 585], defers := [] } := by
  obtain ⟨tmps, defers⟩ := a
  have yd : defers = [] := hd
  subst yd
  obtain ⟨y, hy, hi⟩ := arr_586 tmps hs
  have e1 := (hi 1).trans h1
  have e8 := (hi 8).trans h8
  have e9 := (hi 9).trans h9
  have e10 := (hi 10).trans h10
  have e11 := (hi 11).trans h11
  have e12 := (hi 12).trans h12
  have e13 := (hi 13).trans h13
  have e14 := (hi 14).trans h14
  have e15 := (hi 15).trans h15
  have e21 := (hi 21).trans h21
  have e22 := (hi 22).trans h22
  rw [e1, e8, e9, e10, e11, e12, e13, e14, e15, e21, e22] at hy
  exact ⟨y, congrArg (fun t => (⟨t, []⟩ : Act)) hy⟩

theorem L3In.rvk {wb w w' : World} {gB gM gA : Nat} {V : Fam} {G : GR} {R : Nat → Nat → Bool} {nc : Nat} {cls : Nat → Nat} {P P2 : PS} {c D0 : Nat} {nu : Nat → Nat} (h : L3In wb gB gM gA V G R nc cls P P2 c D0 nu) (hG : Grew Fam.nil wb Fam.nil w) (hg : Grew Fam.nil w Fam.nil w') : Rep KV w' V := h.rv.kept (fun i g hb => (hG.trans hg).block g (h.rv.lt hb) (fun i e => by cases e))

set_option maxRecDepth 40000 in
set_option maxHeartbeats 8000000 in
/-- Region 52. -/
theorem l3_2a (wb : World) (gB gM gA : Nat) (V : Fam) (G : GR) (R : Nat → Nat → Bool) (nc : Nat) (cls : Nat → Nat) (P P2 : PS) (c D0 : Nat) (nu : Nat → Nat) (hin : L3In wb gB gM gA V G R nc cls P P2 c D0 nu) (v15 : Value) (wr : World) (hT : Tp wb G R nc cls P c G.E v15 wr) (a : Act) (hf : F5 gB gM gA c G.E P2.nS P2.nC a) (h14 : a.tmps.getD 14 undef = .int .i64 (D0 : Int)) (h15 : a.tmps.getD 15 undef = v15) (Q : Exit → Act → World → Prop)
    (hC : ∀ (a : Act) (w : World), F5 gB gM gA c G.E P2.nS P2.nC a → a.tmps.getD 14 undef = .int .i64 (D0 : Int) → a.tmps.getD 15 undef = v15 → Tp wb G R nc cls P c G.E v15 w → Q .normal a w) :
    Code.wp Try.prog (sL (tl 22 (Try.f5.body.getD .skip))) Q a wr := by
  obtain ⟨y, rfl⟩ := l5c hf.sz hf.df hf.s1 hf.s8 hf.s9 hf.s10 hf.s11 hf.s12 hf.s13 h14 h15
  obtain ⟨hE, hn, hS, hCC, hS2, hC2⟩ := hin.sm
  have HIN : Hid (L3In wb gB gM gA V G R nc cls P P2 c D0 nu) := hin
  have hG := hT.grew
  have HGX : Hid (Grew Fam.nil wb Fam.nil wr) := hG
  have d0 : wr.cell? ⟨gB, 0, none⟩ = some (V.val 0) := HIN.out.bcell HGX.out 0 _ rfl
  have d1 : wr.cell? ⟨gB, 1, none⟩ = some (V.val 1) := HIN.out.bcell HGX.out 1 _ rfl
  have d2 : wr.cell? ⟨gB, 2, none⟩ = some (V.val 2) := HIN.out.bcell HGX.out 2 _ rfl
  have d3 : wr.cell? ⟨gB, 3, none⟩ = some (V.val 3) := HIN.out.bcell HGX.out 3 _ rfl
  have d4 : wr.cell? ⟨gB, 4, none⟩ = some (V.val 4) := HIN.out.bcell HGX.out 4 _ rfl
  have d5 : wr.cell? ⟨gB, 5, none⟩ = some (V.val 5) := HIN.out.bcell HGX.out 5 _ rfl
  have d6 : wr.cell? ⟨gB, 6, none⟩ = some (V.val 6) := HIN.out.bcell HGX.out 6 _ rfl
  have hcc := hin.c1
  have HU : Hid (Calls Try.prog 15 #[.agg #[V.val 0, V.val 1, V.val 2, V.val 3, V.val 4, V.val 5, V.val 6], .int .i64 (D0 : Int)] wr fun e w' => e = .returned (.bool false) ∧ Grew Fam.nil wr Fam.nil w') := by
    refine (inUse_calls wr V P (D0 : Int) (hin.rvk hG (Grew.refl _ _)) hin.vm (by omega) (by have := hin.sf.D2; omega)).mono ?_
    rintro e w' ⟨b, rfl, hb, hg⟩
    have : b = false := by
      cases b with
      | false => rfl
      | true =>
        obtain ⟨_, h2, h3⟩ := hb.1 rfl
        rw [Int.toNat_natCast] at h2 h3
        exact absurd (hin.sf.Du h2) h3
    subst this
    exact ⟨rfl, hg⟩
  have HVA : Hid (∀ w', Grew Fam.nil wr Fam.nil w' → ∃ b k b' l, w'.cell? ⟨gA, 5, none⟩ = some (.slice (some ⟨b, 0, none⟩) P2.nC k) ∧ P2.nC ≤ k ∧ w'.cell? ⟨b, D0, none⟩ = some (.slice (some ⟨b', 0, none⟩) (P.mn c) l)) := by
    intro w' hg
    obtain ⟨b, k, b', l, h1, h2, h3, _⟩ := hin.va.v5.some (hG.trans hg) hin.sf.D2 (by rw [hin.sf.mn]; exact hin.c2)
    rw [hin.sf.mn] at h3
    exact ⟨b, k, b', l, h1, h2, h3⟩
  have hdc : ((D0 : Int) == (c : Int)) = false := by
    have := hin.sf.Dc
    rw [beq_eq_false_iff_ne]; omega
  have hd1 : ((D0 : Int) == -1) = false := by rw [beq_eq_false_iff_ne]; omega
  have hD2 : (D0 : Int) < (P2.nC : Int) := by have := hin.sf.D2; omega
  have hnil := fun (a : Option Addr) (n c : Nat) (w : World) => Lib.run_eql_slice_nil (P := Try.prog) w 26 3 a n c 0 0 Try.underlying26
  have HC : Hid (∀ (a : Act) (w : World), Grew Fam.nil wr Fam.nil w → F5 gB gM gA c G.E P2.nS P2.nC a → a.tmps.getD 14 undef = .int .i64 (D0 : Int) → a.tmps.getD 15 undef = v15 → Q .normal a w) := fun a w hg h1 h2 h3 => hC a w h1 h2 h3 (hT.keep hg)
  clear hf hC hin h14 h15 hT hG HIN HGX
  show Code.wp Try.prog (Code.seq _ (Code.cond (.tmp 282) _ Code.skip)) Q _ wr
  refine wp_seq_k (fun K1 hK => ?_)
  have HK1 : Hid (∀ (a : Act) (w : World), _ → K1 a w) := hK
  clear hK
  go_wp2_with (go_at_call 15; refine HU.out.mono ?_; rintro e w2 ⟨rfl, hg⟩; have HG2 : Hid (Grew Fam.nil wr Fam.nil w2) := hg; clear hg; obtain ⟨b, k, b', l, x1, x2, x3⟩ := HVA.out w2 HG2.out)
  refine HK1.out _ _ (wp_cond_false (by kernel_rfl) (wp_skip ?_))
  exact HC.out _ _ HG2.out ⟨by kernel_rfl, by kernel_rfl, by kernel_rfl, by kernel_rfl, by kernel_rfl, by kernel_rfl, by kernel_rfl, by kernel_rfl, by kernel_rfl⟩ (by kernel_rfl) (by kernel_rfl)

set_option maxRecDepth 40000 in
set_option maxHeartbeats 8000000 in
/-- Regions 54 to 60. -/
theorem l3_2b (wb : World) (gB gM gA : Nat) (V : Fam) (G : GR) (R : Nat → Nat → Bool) (nc : Nat) (cls : Nat → Nat) (P P2 : PS) (c D0 : Nat) (nu : Nat → Nat) (hin : L3In wb gB gM gA V G R nc cls P P2 c D0 nu) (v15 : Value) (wr : World) (hT : Tp wb G R nc cls P c G.E v15 wr) (a : Act) (hf : F5 gB gM gA c G.E P2.nS P2.nC a) (h14 : a.tmps.getD 14 undef = .int .i64 (D0 : Int)) (h15 : a.tmps.getD 15 undef = v15) (Q : Exit → Act → World → Prop)
    (hC : ∀ (a : Act) (w : World) (mv : Nat → Nat) (b21 k21 b22 k22 g15 k15 : Nat) (g23 : Nat), F5b gB gM gA c G.E P2.nS P2.nC D0 (cnt (pC G R nc cls P c) G.E) (P.mn c) b21 k21 b22 k22 g15 k15 a → a.tmps.getD 23 undef = .slice (some ⟨g23, 0, none⟩) G.n G.n → L3M wb G R nc cls P c mv b21 k21 b22 k22 g15 k15 → T2 wb G R nc cls P c mv g15 g23 (fun _ => 0) w → Code.wp Try.prog (tl 28 (Try.f5.body.getD .skip)) Q a w) :
    Code.wp Try.prog (tl 23 (Try.f5.body.getD .skip)) Q a wr := by
  obtain ⟨hE, hn, hS, hCC, hS2, hC2⟩ := hin.sm
  have HIN : Hid (L3In wb gB gM gA V G R nc cls P P2 c D0 nu) := hin
  have hG := hT.grew
  obtain ⟨D, mv, t1, t2, t3, t4⟩ := hT
  have hm0 : (cnt (pC G R nc cls P c) G.E) ≠ 0 := (hin.meet.c1 c hin.c1 hin.c2).1
  have hmE : (cnt (pC G R nc cls P c) G.E) ≤ G.E := cnt_le (pC G R nc cls P c) G.E
  obtain ⟨g15, hb15⟩ := t1.rep.hasBlock (i := 2) (by rw [t3.1]; omega)
  have hk3 := t1.rep.le_cap 2
  rw [t3.1] at hk3
  have hv : D.val 2 = .slice (some ⟨g15, 0, none⟩) (cnt (pC G R nc cls P c) G.E) (D.cap 2) := by unfold Fam.val; rw [t3.1, hb15]; rfl
  have v15e : v15 = .slice (some ⟨g15, 0, none⟩) (cnt (pC G R nc cls P c) G.E) (D.cap 2) := t2.symm.trans hv
  clear hv t2
  generalize D.cap 2 = k15 at *
  subst v15e
  obtain ⟨y, rfl⟩ := l5c hf.sz hf.df hf.s1 hf.s8 hf.s9 hf.s10 hf.s11 hf.s12 hf.s13 h14 h15
  have hD := hin.sf.D2
  have hcc := hin.c1
  obtain ⟨b6, k6, x1, x2, x3⟩ := hin.va.v6.at hG hD
  rw [hin.sf.edg (pC G R nc cls P c) (fun e he => hin.pc he)] at x3
  obtain ⟨b5, k5, b21, k21, z1, z2, z3, z4, z5⟩ := hin.va.v5.some (Grew.refl Fam.nil wb) hD (by rw [hin.sf.mn]; exact hin.c2)
  obtain ⟨c5, q5, b22, k22, u1, u2, u3, u4, u5⟩ := hin.vb.v5.some (Grew.refl Fam.nil wb) hcc hin.c2
  rw [hin.sf.mn] at z3 z4 z5
  have HM : Hid (L3M wb G R nc cls P c mv b21 k21 b22 k22 g15 k15) := ⟨z4, u4, hk3, fun j hj => by rw [z5 j hj, hin.sf.mem j hj], u5, t4⟩
  have z1 := hG.cell z1
  have z3 := hG.cell z3
  have u1 := hG.cell u1
  have u3 := hG.cell u3
  have y1 := hG.cell hin.m0
  obtain ⟨i3, hi3, hz30, hz31, hz32⟩ := info_parts Try.info3
  obtain ⟨mq, hmq, hfmq⟩ := make_fun (P := Try.prog) 26 3 i3 (.int .i64 0) 1 8 (.int .i64 0) Try.underlying26 hi3 hz30 hz31 hz32 rfl (by decide) zero1 G.n (by omega) (by omega)
  have fin : Hid (T2 wb G R nc cls P c mv g15 wr.heap.size (fun _ => 0) (mq wr)) := ⟨_, t1.fresh (r := 3) rfl (hfmq _), Roi.put_ne ⟨hb15, t3⟩ (by omega), Roi.new _ 3 _ _ (fun _ => 0)⟩
  have hD2 : (D0 : Int) < (P2.nC : Int) := by omega
  have hc2 : (c : Int) < (P.nC : Int) := by omega
  have hmc := hin.mnb c hcc
  have HC : Hid (∀ (a : Act), F5b gB gM gA c G.E P2.nS P2.nC D0 (cnt (pC G R nc cls P c) G.E) (P.mn c) b21 k21 b22 k22 g15 k15 a → a.tmps.getD 23 undef = .slice (some ⟨wr.heap.size, 0, none⟩) G.n G.n → Code.wp Try.prog (tl 28 (Try.f5.body.getD .skip)) Q a (mq wr)) := fun a h1 h2 => hC a _ mv b21 k21 b22 k22 g15 k15 _ h1 h2 HM.out fin.out
  clear hf hC hin h14 h15 t1 t3 t4 hG HIN hfmq hi3 hz30 hz31 hz32 z5 u5 fin HM hb15 hm0
  generalize (cnt (pC G R nc cls P c) G.E) = mm at *
  generalize P.mn c = mc at *
  show Code.wp Try.prog (Code.seq (Code.seq _ (Code.cond (.tmp 290) _ Code.skip)) (Code.seq _ (Code.seq _ (Code.seq (Code.seq _ (Code.cond (.tmp 305) _ Code.skip)) (Code.seq _ (tl 28 (Try.f5.body.getD .skip))))))) Q _ wr
  refine wp_seq_k (fun K1 hK => ?_)
  have HK1 : Hid (∀ (a : Act) (w : World), _ → K1 a w) := hK
  clear hK
  refine wp_seq_k (fun K2 hK => ?_)
  have HK2 : Hid (∀ (a : Act) (w : World), _ → K2 a w) := hK
  clear hK
  go_wp2
  refine HK2.out _ _ (wp_cond_false (by kernel_rfl) (wp_skip ?_))
  refine HK1.out _ _ ?_
  clear HK1 K1 HK2 K2 x1 x2 x3
  refine wp_seq_k (fun K1 hK => ?_)
  have HK1 : Hid (∀ (a : Act) (w : World), _ → K1 a w) := hK
  clear hK
  go_wp2
  refine HK1.out _ _ ?_
  clear HK1 K1 z1 z2 z3
  refine wp_seq_k (fun K1 hK => ?_)
  have HK1 : Hid (∀ (a : Act) (w : World), _ → K1 a w) := hK
  clear hK
  go_wp2
  refine HK1.out _ _ ?_
  clear HK1 K1 u1 u2 u3
  refine wp_seq_k (fun K1 hK => ?_)
  have HK1 : Hid (∀ (a : Act) (w : World), _ → K1 a w) := hK
  clear hK
  refine wp_seq_k (fun K2 hK => ?_)
  have HK2 : Hid (∀ (a : Act) (w : World), _ → K2 a w) := hK
  clear hK
  go_wp2
  refine HK2.out _ _ (wp_cond_false (by kernel_rfl) (wp_skip ?_))
  refine HK1.out _ _ ?_
  clear HK1 K1 HK2 K2
  refine wp_seq_k (fun K1 hK => ?_)
  have HK1 : Hid (∀ (a : Act) (w : World), _ → K1 a w) := hK
  clear hK
  go_wp2
  refine HK1.out _ _ ?_
  exact HC.out _ ⟨by kernel_rfl, by kernel_rfl, by kernel_rfl, by kernel_rfl, by kernel_rfl, by kernel_rfl, by kernel_rfl, by kernel_rfl, by kernel_rfl, by kernel_rfl, by kernel_rfl, by kernel_rfl, by kernel_rfl⟩ (by kernel_rfl)
end Go.Proofs.Qxb6602148a
