import Derived.Test.Qxb6602148aSa
import Derived.Deep.RegionLawGrows
attribute [local go_sem] Go.Proofs.Qxb6602148a.yTo Go.Proofs.Qxb6602148a.yUpon
namespace Go.Proofs.Qxb6602148a
open Go.RowKit
set_option linter.unusedVariables false

set_option maxRecDepth 40000 in
set_option maxHeartbeats 80000000 in
theorem split_A (w : World) (M : Fam) (P : PS) (p q gq N : Nat) (str : Nat → Nat) (hR : Rep KP w M) (hM : PM M P) (hp : M.b 11 = some p) (hq : Own q) (hx : ¬ XA q) (hK : KP q = (3, 1)) (hbq : M.b q = some gq) (hs : Ints M q N (fun i => (str i : Nat))) (hpre : SPre P N str) (Z : World → Prop) (tail : Code)
    (hT : ∀ (a : Act) (wr : World) (P2 : PS) (g16 g21 T : Nat) (eN eE : Nat → Nat), FA gq N (M.cap q) w.heap.size g16 g21 T a → MA w M p w.heap.size P P2 N str g16 g21 T eN eE wr → Code.wp Try.prog tail (bodyPost Try.prog Try.f29 fun e w' => e = .returned (.tuple #[]) ∧ Z w') a wr) (y : Nat → Value) :
    Code.wp Try.prog (rt 9 (Try.f29.body.getD .skip) tail) (bodyPost Try.prog Try.f29 fun e w' => e = .returned (.tuple #[]) ∧ Z w') { tmps := #[.pointer (some ⟨p, 0, none⟩), .slice (some ⟨gq, 0, none⟩) N (M.cap q), y 2, y 3, y 4, y 5, y 6, y 7, y 8, y 9, y 10, y 11, y 12, y 13, y 14, y 15, y 16, y 17, y 18, y 19, y 20, y 21, y 22, y 23, y 24, y 25, y 26, y 27, y 28, y 29, y 30, y 31, y 32, y 33, y 34, y 35, y 36, y 37, y 38, y 39, y 40, y 41, y 42, y 43, y 44, y 45, y 46, y 47, y 48, y 49, y 50, y 51, y 52, y 53, y 54, y 55, y 56, y 57, y 58, y 59, y 60, y 61, y 62, y 63, y 64, y 65, y 66, y 67, y 68, y 69, y 70, y 71, y 72, y 73, y 74, y 75, y 76, y 77, y 78, y 79, y 80, y 81, y 82, y 83, y 84, y 85, y 86, y 87, y 88, y 89, y 90, y 91, y 92, y 93, y 94, y 95, y 96, y 97, y 98, y 99, y 100, y 101, y 102, y 103, y 104, y 105, y 106, y 107, y 108, y 109, y 110, y 111, y 112, y 113, y 114, y 115, y 116, y 117, y 118, y 119, y 120, y 121, y 122, y 123, y 124, y 125, y 126, y 127, y 128, y 129, y 130, y 131, y 132, y 133, y 134, y 135, y 136, y 137, y 138, y 139, y 140, y 141, y 142, y 143, y 144, y 145, y 146, y 147, y 148, y 149, y 150, y 151, y 152, y 153, y 154, y 155, y 156, y 157, y 158, y 159, y 160, y 161, y 162, y 163, y 164, y 165, y 166, y 167, y 168, y 169, y 170, y 171, y 172, y 173, y 174, y 175, y 176, y 177, y 178, y 179, y 180, y 181, y 182, y 183, y 184, y 185, y 186, y 187, y 188, y 189, y 190, y 191, y 192, y 193, y 194, y 195, y 196, y 197, y 198, y 199, y 200, y 201, y 202, y 203, y 204, y 205, y 206, y 207, y 208, y 209, y 210, y 211, y 212, y 213, y 214, y 215, y 216, y 217, y 218, y 219, y 220, y 221, y 222, y 223, y 224, y 225, y 226, y 227, y 228, y 229, y 230, y 231, y 232, y 233, y 234, y 235, y 236, y 237, y 238, y 239, y 240, y 241, y 242, y 243, y 244, y 245, y 246, y 247, y 248, y 249, y 250, y 251, y 252, y 253, y 254, y 255, y 256, y 257, y 258, y 259, y 260, y 261, y 262, y 263, y 264, y 265, y 266, y 267, y 268, y 269, y 270, y 271, y 272, y 273, y 274, y 275, y 276, y 277, y 278, y 279, y 280, y 281, y 282, y 283, y 284, y 285, y 286, y 287, y 288, y 289, y 290, y 291, y 292, y 293, y 294, y 295, y 296, y 297, y 298, y 299, y 300, y 301, y 302, y 303, y 304, y 305, y 306, y 307, y 308, y 309, y 310, y 311, y 312, y 313, y 314, y 315, y 316, y 317, y 318, y 319, y 320, y 321, y 322, y 323, y 324, y 325, y 326, y 327, y 328, y 329, y 330, y 331, y 332, y 333, y 334, y 335, y 336, y 337, y 338, y 339, y 340, y 341, y 342, y 343, y 344, y 345, y 346, y 347, y 348, y 349, y 350, y 351, y 352, y 353, y 354, y 355, y 356, y 357, y 358, y 359, y 360, y 361, y 362, y 363, y 364, y 365, y 366, y 367, y 368, y 369, y 370, y 371, y 372, y 373, y 374, y 375, y 376, y 377, y 378, y 379, y 380, y 381, y 382, y 383, y 384, y 385, y 386, y 387, y 388, y 389, y 390, y 391, y 392, y 393, y 394, y 395, y 396, y 397, y 398, y 399, y 400, y 401, y 402, y 403, y 404, y 405, y 406, y 407, y 408, y 409, y 410, y 411, y 412, y 413, y 414, y 415, y 416, y 417, y 418, y 419, y 420, y 421, y 422, y 423, y 424, y 425, y 426, y 427, y 428, y 429, y 430, y 431, y 432, y 433, y 434, y 435, y 436, y 437, y 438, y 439, y 440, y 441, y 442, y 443, y 444, y 445, y 446, y 447, y 448, y 449, y 450, y 451, y 452, y 453, y 454, y 455, y 456, y 457, y 458, y 459, y 460, y 461, y 462, y 463, y 464, y 465, y 466, y 467, y 468, y 469, y 470, y 471, y 472, y 473, y 474, y 475, y 476, y 477, y 478, y 479, y 480, y 481, y 482, y 483, y 484, y 485, y 486, y 487, y 488, y 489, y 490, y 491, y 492, y 493, y 494, y 495, y 496, y 497, y 498, y 499, y 500, y 501, y 502, y 503, y 504, y 505, y 506, y 507, y 508, y 509, y 510, y 511, y 512, y 513, y 514, y 515, y 516], defers := [] } w := by
  have HTL : Hid (∀ (a : Act) (wr : World) (P2 : PS) (g16 g21 T : Nat) (eN eE : Nat → Nat), FA gq N (M.cap q) w.heap.size g16 g21 T a → MA w M p w.heap.size P P2 N str g16 g21 T eN eE wr → Code.wp Try.prog tail (bodyPost Try.prog Try.f29 fun e w' => e = .returned (.tuple #[]) ∧ Z w') a wr) := hT
  clear hT
  have lq := hR.le_cap q
  rw [hs.1] at lq
  have c11 : w.cell? ⟨p, 11, none⟩ = some (.int .i64 P.marks) := pcell hR hp hM.p (by omega) hM.marks
  have f11 : w.frozen? ⟨p, 11, none⟩ = false := hR.frozen hp 11
  have sp := hR.lt hp
  have start : Hid (MarkRel w M p w.heap.size N str P (P.marks + 1) (.int .i64 0) ((w.setCell ⟨p, 11, none⟩ (.int .i64 (P.marks + 1))).alloc (.cells #[.pointer (some ⟨p, 0, none⟩)] 31))) := by
    have hsz : (w.setCell ⟨p, 11, none⟩ (.int .i64 (P.marks + 1))).heap.size = w.heap.size := by simp [World.setCell]
    have fr := fresh_box (w.setCell ⟨p, 11, none⟩ (.int .i64 (P.marks + 1))) 31 (.pointer (some ⟨p, 0, none⟩))
    have r0 := hR.set hp 11 (.int .i64 (P.marks + 1))
    have r1 := fr.rep r0 33 rfl
    rw [hsz] at r1 fr
    refine ⟨0, _, P.mark, P.loc, Nat.zero_le _, rfl, ⟨r1, (hM.set_marks (P.marks + 1)).put_local (by omega) _ _ _ _, ((Grew.refl M w).set ⟨11, hp⟩ _ _ _ _).trans (fr.grew _ 33), ((LocX.refl XA M).set (.inl (by unfold Own; omega))).put (.inr (by unfold XA; omega)) (by omega), put_bs, put_ns, ?_⟩, ?_, ?_⟩
    · rw [put_Fs]
    · intro j hj; omega
    · intro s _; rfl
  obtain ⟨hE1, hN, hN0, hmk0, hmk⟩ := hpre.small
  have HPre : Hid (SPre P N str) := hpre
  have HS : Hid (Ints M q N (fun i => (str i : Nat))) := hs
  have HB : Hid (M.b q = some gq) := hbq
  have HP : Hid (M.b 11 = some p) := hp
  have HK : Hid (KP q = (3, 1)) := hK
  have HO : Hid (Own q) := hq
  have HX : Hid (¬ XA q) := hx
  have q33 : w.heap.size ≠ p := by omega
  clear hR hM hs hbq hK hq hx hp hpre
  generalize M.cap q = kq at *
  generalize hmm : P.marks = mm at *
  have HMM : Hid (P.marks = mm) := hmm
  clear hmm
  obtain ⟨i3, hi3, hz30, hz31, hz32⟩ := info_parts Try.info3
  simp only [rt, Try.f29, Option.getD]
  go_wp2
  generalize (w.setCell ⟨p, 11, none⟩ (.int .i64 (mm + 1))).alloc (.cells #[.pointer (some ⟨p, 0, none⟩)] 31) = w1 at *
  go_loopw [50] (fun k wr => MarkRel w M p w.heap.size N str P (mm + 1) k wr) (fun k _ => N - (intOf k).toNat)
  case atStart => exact start.out
  case round =>
    clear c11 f11 start sp
    obtain ⟨i, M', mk, lc, h1, rfl, hS, h3, h4⟩ := hrel
    by_cases hiN : i < N
    · have hst := HPre.out.lt i hiN
      obtain ⟨g3, b3⟩ := hS.rep.hasBlock (i := 3) (by rw [hS.pm.nS]; exact Nat.lt_of_le_of_lt (Nat.zero_le _) hst)
      have x0 := hS.row HO.out HX.out HK.out HB.out HS.out hiN
      have x1 := hS.box
      have x2 := hS.pm.hdr_some hS.rep (hS.hp HP.out) (show 3 < 11 by omega) b3
      have x3 := hS.marks HP.out
      have x4 := hS.slot b3 hst (show 5 < 7 by omega) rfl
      have x5 := hS.slot b3 hst (show 6 < 7 by omega) rfl
      have x6 := hS.rep.frozen b3 (str i * 7 + 5)
      have x7 := hS.rep.frozen b3 (str i * 7 + 6)
      have d1 : p ≠ g3 := hS.ne (hS.hp HP.out) b3 (by omega)
      have d2 : w.heap.size ≠ g3 := hS.ne hS.b33 b3 (by omega)
      have ln : str i < M'.n 3 := by rw [hS.pm.nS]; exact hst
      have lc3 := hS.rep.le_cap 3
      have fin : Hid (MarkRel w M p w.heap.size N str P (mm + 1) (.int .i64 ((i : Int) + 1)) ((wr.drew.setCell ⟨g3, str i * 7 + 5, none⟩ (.int .i64 (mm + 1))).setCell ⟨g3, str i * 7 + 6, none⟩ (.int .i64 (i : Int)))) := mark_step hiN hS.drew b3 h3 h4 HPre.out.inj
      clear h3 h4 hS b3
      generalize M'.n 3 = n3 at *
      generalize M'.cap 3 = k3 at *
      go_wp2
      have FK : Hid (∀ k w', C2 wr.drew (wr.drew.setCell ⟨g3, str i * 7 + 5, none⟩ (.int .i64 (mm + 1))) ((wr.drew.setCell ⟨g3, str i * 7 + 5, none⟩ (.int .i64 (mm + 1))).setCell ⟨g3, str i * 7 + 6, none⟩ (.int .i64 (i : Int))) k w' → w'.cell? ⟨w.heap.size, 0, none⟩ = some (.pointer (some ⟨p, 0, none⟩)) ∧ w'.cell? ⟨p, 3, none⟩ = some (.slice (some ⟨g3, 0, none⟩) n3 k3) ∧ w'.cell? ⟨p, 11, none⟩ = some (.int .i64 (mm + 1))) := by
        refine C2.all ⟨x1, x2, x3⟩ ?_ ?_
        · rw [cell_ne d2, cell_ne d1, cell_ne d1]; exact ⟨x1, x2, x3⟩
        · rw [cell_ne d2, cell_ne d1, cell_ne d1, cell_ne d2, cell_ne d1, cell_ne d1]; exact ⟨x1, x2, x3⟩
      refine wp_region_stage (C2 wr.drew (wr.drew.setCell ⟨g3, str i * 7 + 5, none⟩ (.int .i64 (mm + 1))) ((wr.drew.setCell ⟨g3, str i * 7 + 5, none⟩ (.int .i64 (mm + 1))).setCell ⟨g3, str i * 7 + 6, none⟩ (.int .i64 (i : Int)))) [17, 20] (fun i => 2) (by kernel_rfl) (by kernel_rfl) (rfl) ?_
      refine wpStage_read rfl rfl ?_
      apply Exists.intro
      refine ⟨fun k w' hk hw => ?_, ?_⟩
      · obtain ⟨y1, y2, y3⟩ := FK.out k w' hw
        go_simp
        first | rfl | exact ⟨rfl, hw⟩
      go_simp
      refine wpStage_read rfl rfl ?_
      apply Exists.intro
      refine ⟨fun k w' hk hw => ?_, ?_⟩
      · go_simp
        first | rfl | exact ⟨rfl, hw⟩
      go_simp
      refine wpStage_read rfl rfl ?_
      apply Exists.intro
      refine ⟨fun k w' hk hw => ?_, ?_⟩
      · go_simp
        first | rfl | exact ⟨rfl, hw⟩
      go_simp
      refine wpStage_read rfl rfl ?_
      apply Exists.intro
      refine ⟨fun k w' hk hw => ?_, ?_⟩
      · obtain ⟨y1, y2, y3⟩ := FK.out k w' hw
        go_simp
        first | rfl | exact ⟨rfl, hw⟩
      go_simp
      refine wpStage_read rfl rfl ?_
      apply Exists.intro
      refine ⟨fun k w' hk hw => ?_, ?_⟩
      · go_simp
        first | rfl | exact ⟨rfl, hw⟩
      go_simp
      refine wpStage_read rfl rfl ?_
      apply Exists.intro
      refine ⟨fun k w' hk hw => ?_, ?_⟩
      · obtain ⟨y1, y2, y3⟩ := FK.out k w' hw
        go_simp
        first | rfl | exact ⟨rfl, hw⟩
      go_simp
      refine wpStage_read rfl rfl ?_
      apply Exists.intro
      refine ⟨fun k w' hk hw => ?_, ?_⟩
      · go_simp
        first | rfl | exact ⟨rfl, hw⟩
      go_simp
      refine wpStage_read rfl rfl ?_
      apply Exists.intro
      refine ⟨fun k w' hk hw => ?_, ?_⟩
      · go_simp
        first | rfl | exact ⟨rfl, hw⟩
      go_simp
      refine wpStage_read rfl rfl ?_
      apply Exists.intro
      refine ⟨fun k w' hk hw => ?_, ?_⟩
      · obtain ⟨y1, y2, y3⟩ := FK.out k w' hw
        go_simp
        first | rfl | exact ⟨rfl, hw⟩
      go_simp
      refine wpStage_read rfl rfl ?_
      apply Exists.intro
      refine ⟨fun k w' hk hw => ?_, ?_⟩
      · go_simp
        first | rfl | exact ⟨rfl, hw⟩
      go_simp
      refine wpStage_read rfl rfl ?_
      apply Exists.intro
      refine ⟨fun k w' hk hw => ?_, ?_⟩
      · obtain ⟨y1, y2, y3⟩ := FK.out k w' hw
        go_simp
        first | rfl | exact ⟨rfl, hw⟩
      go_simp
      refine wpStage_read rfl rfl ?_
      apply Exists.intro
      refine ⟨fun k w' hk hw => ?_, ?_⟩
      · go_simp
        first | rfl | exact ⟨rfl, hw⟩
      go_simp
      refine wpStage_read rfl rfl ?_
      apply Exists.intro
      refine ⟨fun k w' hk hw => ?_, ?_⟩
      · go_simp
        first | rfl | exact ⟨rfl, hw⟩
      go_simp
      refine wpStage_read rfl rfl ?_
      apply Exists.intro
      refine ⟨fun k w' hk hw => ?_, ?_⟩
      · obtain ⟨y1, y2, y3⟩ := FK.out k w' hw
        go_simp
        first | rfl | exact ⟨rfl, hw⟩
      go_simp
      refine wpStage_read rfl rfl ?_
      apply Exists.intro
      refine ⟨fun k w' hk hw => ?_, ?_⟩
      · go_simp
        first | rfl | exact ⟨rfl, hw⟩
      go_simp
      refine wpStage_read rfl rfl ?_
      apply Exists.intro
      refine ⟨fun k w' hk hw => ?_, ?_⟩
      · go_simp
        first | rfl | exact ⟨rfl, hw⟩
      go_simp
      refine wpStage_read rfl rfl ?_
      apply Exists.intro
      refine ⟨fun k w' hk hw => ?_, ?_⟩
      · go_simp
        first | rfl | exact ⟨rfl, hw⟩
      go_simp
      refine wpStage_move rfl rfl ?_
      apply Exists.intro
      refine ⟨fun w' hw => ?_, ?_⟩
      · have hw : w' = wr.drew := hw
        subst hw
        go_simp
        first | rfl | exact ⟨rfl, rfl⟩
      go_simp
      refine wpStage_read rfl rfl ?_
      apply Exists.intro
      refine ⟨fun k w' hk hw => ?_, ?_⟩
      · go_simp
        first | rfl | exact ⟨rfl, hw⟩
      go_simp
      refine wpStage_read rfl rfl ?_
      apply Exists.intro
      refine ⟨fun k w' hk hw => ?_, ?_⟩
      · go_simp
        first | rfl | exact ⟨rfl, hw⟩
      go_simp
      refine wpStage_move rfl rfl ?_
      apply Exists.intro
      refine ⟨fun w' hw => ?_, ?_⟩
      · have hw : w' = (wr.drew.setCell ⟨g3, str i * 7 + 5, none⟩ (.int .i64 (mm + 1))) := hw
        subst hw
        go_simp
        first | rfl | exact ⟨rfl, rfl⟩
      go_simp
      intro w' hw
      have hw : w' = ((wr.drew.setCell ⟨g3, str i * 7 + 5, none⟩ (.int .i64 (mm + 1))).setCell ⟨g3, str i * 7 + 6, none⟩ (.int .i64 (i : Int))) := hw
      rw [← hw] at fin
      clear hw
      go_wp2
      go_roundw
      case rel => exact fin.out
      case measure => simp [intOf]; omega
    · obtain rfl : N = i := by omega
      have hm : Hid (Mkd (P.marked (mm + 1) mk lc) N str) := by
        have := HPre.out.mkd (mk := mk) (lc := lc) (by rw [HMM.out]; exact h3) h4
        rw [HMM.out] at this
        exact this
      have HE : Hid ((P.marked (mm + 1) mk lc).nE ≤ 4096) := hE1
      have HP2 : Hid (∃ mk' lc', P.marked (mm + 1) mk lc = P.marked (P.marks + 1) mk' lc' ∧ ∀ s, (∀ j, j < N → s ≠ str j) → mk' s = P.mark s) := ⟨mk, lc, by rw [HMM.out], h4⟩
      clear h3 h4 h1 hiN hE1
      generalize P.marked (mm + 1) mk lc = P2 at *
      have HS1 : Hid (SIn w M p w.heap.size wr M' P2) := hS
      clear hS
      go_wp2_with (at_make; refine wpList_make_row rfl (.tmp 77) (.tmp 77) 26 rfl 3 i3 (.int .i64 0) 1 8 (.int .i64 0) Try.underlying26 hi3 hz30 hz31 hz32 rfl (by decide) zero1 (N + 1) _ _ rfl rfl (by omega) (by omega) (by omega) (by omega) ?_; intro w2 hF2; have HF2 : Hid (Fresh wr w2 3 1 wr.heap.size (N + 1) (N + 1) (fun _ => .int .i64 0)) := hF2; clear hF2)
      generalize hg16 : wr.heap.size = g16 at *
      have startC : Hid (CntO w M p w.heap.size M' P2 g16 N (AGof P2 N str) (.int .i64 0) w2) := ⟨0, fun _ => 0, Nat.zero_le _, rfl, HS1.out.fresh HF2.out (r := 16) rfl (by unfold Own; omega) (by unfold XA; omega) (by omega), rfl, fun v _ => rfl⟩
      clear HF2 HS1 hg16
      go_loopw [81] (fun k wr => CntO w M p w.heap.size M' P2 g16 N (AGof P2 N str) k wr) (fun k _ => N - (intOf k).toNat)
      case atStart => exact startC.out
      case round =>
        clear startC
        obtain ⟨i, f, h1, rfl, hS, hC⟩ := hrel
        have HSS : Hid (SIn w M p w.heap.size wr _ P2) := hS
        have HC : Hid (Cnt (AGof P2 N str) i 0 f) := hC
        clear hS hC
        by_cases hiN : i < N
        · have hst := hm.out.lt i hiN
          obtain ⟨g3, B3⟩ : ∃ g3, Hid (M'.b 3 = some g3) := by
            obtain ⟨g3, b3⟩ := HSS.out.rep.hasBlock (i := 3) (by rw [HSS.out.pm.nS]; omega)
            exact ⟨g3, by rw [put_b (by omega)] at b3; exact b3⟩
          have x0 := HSS.out.row HO.out HX.out HK.out HB.out HS.out hiN
          have x1 := HSS.out.box
          have x2 := HSS.out.pm.hdr_some HSS.out.rep (HSS.out.hp HP.out) (show 3 < 11 by omega) ((put_b (by omega)).trans B3.out)
          have x4 := HSS.out.slot ((put_b (by omega)).trans B3.out) hst (show 2 < 7 by omega) (HSS.out.pm.outh (str i) hst)
          have l3 := HSS.out.rep.le_cap 3
          rw [HSS.out.pm.nS] at x2 l3
          rw [put_val (by omega)] at x4
          unfold Fam.val at x4
          have hno : M'.n (60 + 3 * str i) = P2.on (str i) := by have := (HSS.out.pm.out (str i) hst).1; rw [put_n (by omega)] at this; exact this
          rw [hno] at x4
          clear hno
          generalize hao : Option.map (fun g => (⟨g, 0, none⟩ : Addr)) (M'.b (60 + 3 * str i)) = ao at *
          have Hao : Hid (Option.map (fun g => (⟨g, 0, none⟩ : Addr)) (M'.b (60 + 3 * str i)) = ao) := hao
          have hDG : Hid (∀ i, i < (AGof P2 N str).N → (AGof P2 N str).dg i ≤ 4096) := fun i hi => hm.out.dg_le HE.out hi
          have hon : P2.on (str i) ≤ 4096 := hm.out.dg_le HE.out hiN
          have hlo : P2.on (str i) ≤ M'.cap (60 + 3 * str i) := by
            have h1 := (HSS.out.pm.out (str i) hst).1
            have h2 := HSS.out.rep.le_cap (60 + 3 * str i)
            rw [put_n (by omega)] at h1 h2
            rw [put_cap (by omega)] at h2
            omega
          have startI : Hid (CntI w M p w.heap.size M' P2 g16 N (AGof P2 N str) i (.int .i64 0) wr) := ⟨0, f, Nat.zero_le _, rfl, HSS.out, HC.out⟩
          clear hao HSS HC
          generalize (M'.put 16 (some g16) (N + 1) (N + 1) (iv f)).cap 3 = k3 at *
          generalize hko : M'.cap (60 + 3 * str i) = ko at *
          generalize hdn : P2.on (str i) = dn at *
          have Hdn : Hid (P2.on (str i) = dn) := hdn
          clear hdn hko
          go_wp2
          go_loopw [95] (fun k wr => CntI w M p w.heap.size M' P2 g16 N (AGof P2 N str) i k wr) (fun k _ => dn - (intOf k).toNat)
          case atStart => exact startI.out
          case round =>
            clear startI x0 x1 x2 x4
            obtain ⟨j, f1, h2, rfl, hS, hC⟩ := hrel
            have h2 : j ≤ P2.on (str i) := h2
            rw [Hdn.out] at h2
            by_cases hj : j < dn
            · have hjo : j < P2.on (str i) := by rw [Hdn.out]; exact hj
              obtain ⟨e, t, e1, e2, e3, e4, e5, e6⟩ := hm.out.edge i j hiN hjo
              obtain ⟨go, bo⟩ := hS.rep.hasBlock (i := 60 + 3 * str i) (by rw [(hS.pm.out (str i) hst).1]; omega)
              have y0 := (hS.pm.out (str i) hst).cell hS.rep bo (by rw [KP_out]) hjo
              rw [put_b (by omega)] at bo
              have ea : ao = some ⟨go, 0, none⟩ := by rw [← Hao.out, bo]; rfl
              subst ea
              rw [e1] at y0
              obtain ⟨g2, b2⟩ := hS.rep.hasBlock (i := 2) (by rw [hS.pm.to.1]; omega)
              have b3 : (M'.put 16 (some g16) (N + 1) (N + 1) (iv f1)).b 3 = some g3 := (put_b (by omega)).trans B3.out
              obtain ⟨z1, z2, z3, z4, z5, z6, z7, z8, z9, z10, z11, z12, z13, z14⟩ := hS.edge HP.out b3 b2 e2 e3 e4
              have s3 := hS.rep.lt b3
              have s2 := hS.rep.lt b2
              have s11 := hS.rep.lt (hS.hp HP.out)
              have s33 := hS.rep.lt hS.b33
              have b16 : (M'.put 16 (some g16) (N + 1) (N + 1) (iv f1)).b 16 = some g16 := put_bs
              have s16 := hS.rep.lt b16
              have HSS : Hid (SIn w M p w.heap.size wr _ P2) := hS
              have HC : Hid (Cnt (AGof P2 N str) i j f1) := hC
              generalize (M'.put 16 (some g16) (N + 1) (N + 1) (iv f1)).cap 3 = k3' at *
              generalize (M'.put 16 (some g16) (N + 1) (N + 1) (iv f1)).cap 2 = k2 at *
              unfold Fam.val at z8
              generalize Option.map (fun g => (⟨g, 0, none⟩ : Addr)) ((M'.put 16 (some g16) (N + 1) (N + 1) (iv f1)).b (60 + 3 * t)) = av at *
              generalize (M'.put 16 (some g16) (N + 1) (N + 1) (iv f1)).n (60 + 3 * t) = nv at *
              generalize (M'.put 16 (some g16) (N + 1) (N + 1) (iv f1)).cap (60 + 3 * t) = kv at *
              have E1 : Hid (P2.out (str i) j = (e : Int)) := e1
              clear hS hC b2 b3 bo e1 e6
              generalize hmt : P2.mark t = mt at *
              generalize hm2 : P2.marks = m2 at *
              generalize hlt : P2.loc t = lt at *
              have HMT : Hid (P2.mark t = mt) := hmt
              have HM2 : Hid (P2.marks = m2) := hm2
              have HLT : Hid (P2.loc t = lt) := hlt
              clear hmt hm2 hlt
              go_wp2
              have FK : Hid (∀ k w', k ≤ 1 → C2 wr.drew ((wr.alloc (.cells #[.int .i64 0, .int .i64 0, .slice none 0 0, .int .i64 0, .int .i64 0, .int .i64 0, .int .i64 0] 57)).drew) ((wr.alloc (.cells #[.int .i64 (P2.node t), .int .i64 (P2.comp t), .slice av nv kv, .int .i64 (P2.idx t), .int .i64 (P2.low t), .int .i64 mt, .int .i64 lt] 57)).drew) k w' → w'.cell? ⟨w.heap.size, 0, none⟩ = some (.pointer (some ⟨p, 0, none⟩)) ∧ w'.cell? ⟨p, 3, none⟩ = some (.slice (some ⟨g3, 0, none⟩) P2.nS k3') ∧ w'.cell? ⟨p, 2, none⟩ = some (.slice (some ⟨g2, 0, none⟩) P2.nE k2) ∧ w'.cell? ⟨g2, e, none⟩ = some (.int .i64 (t : Int)) ∧
                  w'.cell? ⟨g3, t * 7, none⟩ = some (.int .i64 (P2.node t)) ∧ w'.cell? ⟨g3, t * 7 + 1, none⟩ = some (.int .i64 (P2.comp t)) ∧ w'.cell? ⟨g3, t * 7 + 2, none⟩ = some (.slice av nv kv) ∧ w'.cell? ⟨g3, t * 7 + 3, none⟩ = some (.int .i64 (P2.idx t)) ∧ w'.cell? ⟨g3, t * 7 + 4, none⟩ = some (.int .i64 (P2.low t)) ∧ w'.cell? ⟨g3, t * 7 + 5, none⟩ = some (.int .i64 mt) ∧ w'.cell? ⟨g3, t * 7 + 6, none⟩ = some (.int .i64 lt)) := by
                intro k w' hk hw
                match k, hk with
                | 0, _ =>
                  have hw : w' = wr.drew := hw
                  subst hw
                  exact ⟨z1, z2, z3, z5, z6, z7, z8, z9, z10, z11, z12⟩
                | 1, _ =>
                  have hw : w' = ((wr.alloc (.cells #[.int .i64 0, .int .i64 0, .slice none 0 0, .int .i64 0, .int .i64 0, .int .i64 0, .int .i64 0] 57)).drew) := hw
                  subst hw
                  rw [cell_alloc_drew s33, cell_alloc_drew s11, cell_alloc_drew s11, cell_alloc_drew s2, cell_alloc_drew s3, cell_alloc_drew s3, cell_alloc_drew s3, cell_alloc_drew s3, cell_alloc_drew s3, cell_alloc_drew s3, cell_alloc_drew s3]
                  exact ⟨z1, z2, z3, z5, z6, z7, z8, z9, z10, z11, z12⟩
              refine wp_region_stage (C2 wr.drew ((wr.alloc (.cells #[.int .i64 0, .int .i64 0, .slice none 0 0, .int .i64 0, .int .i64 0, .int .i64 0, .int .i64 0] 57)).drew) ((wr.alloc (.cells #[.int .i64 (P2.node t), .int .i64 (P2.comp t), .slice av nv kv, .int .i64 (P2.idx t), .int .i64 (P2.low t), .int .i64 mt, .int .i64 lt] 57)).drew)) [13, 14] (fun i => 1) (by kernel_rfl) (by kernel_rfl) (rfl) ?_
              refine wpStage_read rfl rfl ?_
              apply Exists.intro
              refine ⟨fun k w' hk hw => ?_, ?_⟩
              · obtain ⟨y1, y2, y3, y4, y5, y6, y7, y8, y9, y10, y11⟩ := FK.out k w' hk hw
                go_simp
                first | rfl | exact ⟨rfl, hw⟩
              go_simp
              refine wpStage_read rfl rfl ?_
              apply Exists.intro
              refine ⟨fun k w' hk hw => ?_, ?_⟩
              · go_simp
                first | rfl | exact ⟨rfl, hw⟩
              go_simp
              refine wpStage_read rfl rfl ?_
              apply Exists.intro
              refine ⟨fun k w' hk hw => ?_, ?_⟩
              · go_simp
                first | rfl | exact ⟨rfl, hw⟩
              go_simp
              refine wpStage_read rfl rfl ?_
              apply Exists.intro
              refine ⟨fun k w' hk hw => ?_, ?_⟩
              · obtain ⟨y1, y2, y3, y4, y5, y6, y7, y8, y9, y10, y11⟩ := FK.out k w' hk hw
                go_simp
                first | rfl | exact ⟨rfl, hw⟩
              go_simp
              refine wpStage_read rfl rfl ?_
              apply Exists.intro
              refine ⟨fun k w' hk hw => ?_, ?_⟩
              · obtain ⟨y1, y2, y3, y4, y5, y6, y7, y8, y9, y10, y11⟩ := FK.out k w' hk hw
                go_simp
                first | rfl | exact ⟨rfl, hw⟩
              go_simp
              refine wpStage_read rfl rfl ?_
              apply Exists.intro
              refine ⟨fun k w' hk hw => ?_, ?_⟩
              · go_simp
                first | rfl | exact ⟨rfl, hw⟩
              go_simp
              refine wpStage_read rfl rfl ?_
              apply Exists.intro
              refine ⟨fun k w' hk hw => ?_, ?_⟩
              · go_simp
                first | rfl | exact ⟨rfl, hw⟩
              go_simp
              refine wpStage_read rfl rfl ?_
              apply Exists.intro
              refine ⟨fun k w' hk hw => ?_, ?_⟩
              · obtain ⟨y1, y2, y3, y4, y5, y6, y7, y8, y9, y10, y11⟩ := FK.out k w' hk hw
                go_simp
                first | rfl | exact ⟨rfl, hw⟩
              go_simp
              refine wpStage_read rfl rfl ?_
              apply Exists.intro
              refine ⟨fun k w' hk hw => ?_, ?_⟩
              · go_simp
                first | rfl | exact ⟨rfl, hw⟩
              go_simp
              refine wpStage_read rfl rfl ?_
              apply Exists.intro
              refine ⟨fun k w' hk hw => ?_, ?_⟩
              · go_simp
                first | rfl | exact ⟨rfl, hw⟩
              go_simp
              refine wpStage_read rfl rfl ?_
              apply Exists.intro
              refine ⟨fun k w' hk hw => ?_, ?_⟩
              · obtain ⟨y1, y2, y3, y4, y5, y6, y7, y8, y9, y10, y11⟩ := FK.out k w' hk hw
                go_simp
                first | rfl | exact ⟨rfl, hw⟩
              go_simp
              refine wpStage_read rfl rfl ?_
              apply Exists.intro
              refine ⟨fun k w' hk hw => ?_, ?_⟩
              · go_simp
                first | rfl | exact ⟨rfl, hw⟩
              go_simp
              refine wpStage_read rfl rfl ?_
              apply Exists.intro
              refine ⟨fun k w' hk hw => ?_, ?_⟩
              · obtain ⟨y1, y2, y3, y4, y5, y6, y7, y8, y9, y10, y11⟩ := FK.out k w' hk hw
                go_simp
                first | rfl | exact ⟨rfl, hw⟩
              go_simp
              refine wpStage_move rfl rfl ?_
              apply Exists.intro
              refine ⟨fun w' hw => ?_, ?_⟩
              · have hw : w' = wr.drew := hw
                subst hw
                go_simp
                first | rfl | exact ⟨rfl, rfl⟩
              go_simp
              refine wpStage_move rfl rfl ?_
              apply Exists.intro
              refine ⟨fun w' hw => ?_, ?_⟩
              · have hw : w' = ((wr.alloc (.cells #[.int .i64 0, .int .i64 0, .slice none 0 0, .int .i64 0, .int .i64 0, .int .i64 0, .int .i64 0] 57)).drew) := hw
                subst hw
                go_simp
                first | rfl | exact ⟨rfl, rfl⟩
              go_simp
              intro w' hw
              have hw : w' = ((wr.alloc (.cells #[.int .i64 (P2.node t), .int .i64 (P2.comp t), .slice av nv kv, .int .i64 (P2.idx t), .int .i64 (P2.low t), .int .i64 mt, .int .i64 lt] 57)).drew) := hw
              subst hw
              clear FK z2 z3 z5 z6 z7 z8 z9 z10 z11 z12 hw
              by_cases hin : mt = m2
              · obtain ⟨l, l1, l2, l3, l4, l5, l6⟩ := hm.out.lcl hiN hjo E1.out e3 e4 (by rw [HMT.out, HM2.out]; exact hin)
                have hli : l ≠ i := fun h => e5 (by rw [l2, h])
                rw [HLT.out] at l3
                subst l3 hin
                have ca := (HSS.out.rep.cell b16 (j := i + 1) (by rw [put_ns]; show i + 1 < (N + 1) * 1; omega)).trans (congrArg some (congrFun put_Fs (i + 1)))
                have cb := (HSS.out.rep.cell b16 (j := l + 1) (by rw [put_ns]; show l + 1 < (N + 1) * 1; omega)).trans (congrArg some (congrFun put_Fs (l + 1)))
                unfold iv at ca cb
                have fa := HSS.out.rep.frozen b16 (i + 1)
                have fb := HSS.out.rep.frozen b16 (l + 1)
                have ba := HC.out.small hDG.out hN hiN (Nat.le_of_lt hjo) (v := i) hiN
                have bb := HC.out.small hDG.out hN hiN (Nat.le_of_lt hjo) (v := l) l1
                have L4 : Hid ((AGof P2 N str).lcl ((AGof P2 N str).ed i j) = l) := l4
                have L5 : Hid ((AGof P2 N str).inE ((AGof P2 N str).ed i j) = true) := l5
                clear l4 l5 l6 l2
                generalize hfa : f1 (i + 1) = va at *
                generalize hfb : f1 (l + 1) = vb at *
                have FA : Hid (f1 (i + 1) = va) := hfa
                have FB : Hid (f1 (l + 1) = vb) := hfb
                clear hfa hfb
                go_wp2
                go_region
                go_wp2
                go_roundw
                case rel => exact cntI_add HSS.out HC.out hjo hiN l1 hli L5.out L4.out FA.out FB.out
                case measure => simp [intOf]; omega
              · have L5 : Hid ((AGof P2 N str).inE ((AGof P2 N str).ed i j) = false) := hm.out.out E1.out e3 (by rw [HMT.out, HM2.out]; exact hin)
                go_wp2
                go_region
                go_wp2
                go_roundw
                case rel => exact cntI_skip HSS.out HC.out hjo L5.out
                case measure => simp [intOf]; omega
            · obtain rfl : dn = j := by omega
              have HN : Hid (CntO w M p w.heap.size M' P2 g16 N (AGof P2 N str) (.int .i64 ((i : Int) + 1)) wr) := ⟨i + 1, f1, by omega, rfl, hS, by
                have : Cnt (AGof P2 N str) i ((AGof P2 N str).dg i) f1 := by
                  show Cnt _ i (P2.on (str i)) f1
                  rw [Hdn.out]; exact hC
                exact this.next⟩
              clear hS hC
              go_wp2
              go_roundw
              case rel => exact HN.out
              case measure => simp [intOf]; omega
        · obtain rfl : N = i := by omega
          have startP : Hid (PreRel w M p w.heap.size M' P2 g16 N (AGof P2 N str) (.int .i64 0) wr) := ⟨0, f, Nat.zero_le _, rfl, HSS.out, fun v hv => by
            have : v = 0 := by omega
            subst this
            exact HC.out.1, fun v _ hv => HC.out.2 v hv⟩
          have hDG : Hid (∀ i, i < (AGof P2 N str).N → (AGof P2 N str).dg i ≤ 4096) := fun i hi => hm.out.dg_le HE.out hi
          clear HSS HC h1 hiN
          go_wp2
          go_loopw [138] (fun k wr => PreRel w M p w.heap.size M' P2 g16 N (AGof P2 N str) k wr) (fun k _ => N - (intOf k).toNat)
          case atStart => exact startP.out
          case round =>
            clear startP
            obtain ⟨i, f, h1, rfl, hS, h2, h3⟩ := hrel
            have b16 : (M'.put 16 (some g16) (N + 1) (N + 1) (iv f)).b 16 = some g16 := put_bs
            by_cases hiN : i < N
            · have ca := (hS.rep.cell b16 (j := i + 1) (by rw [put_ns]; show i + 1 < (N + 1) * 1; omega)).trans (congrArg some (congrFun put_Fs (i + 1)))
              have cb := (hS.rep.cell b16 (j := i) (by rw [put_ns]; show i < (N + 1) * 1; omega)).trans (congrArg some (congrFun put_Fs i))
              unfold iv at ca cb
              have fa := hS.rep.frozen b16 (i + 1)
              have ba : 0 ≤ f (i + 1) ∧ f (i + 1) ≤ 33554432 := by
                rw [h3 i (Nat.le_refl _) hiN]
                have := (AGof P2 N str).c_le i hDG.out N (Nat.le_refl _)
                omega
              have bb : 0 ≤ f i ∧ f i ≤ 137438953472 := by
                rw [h2 i (Nat.le_refl _)]
                have := (AGof P2 N str).st_small hDG.out hN i
                omega
              have HSS : Hid (SIn w M p w.heap.size wr _ P2) := hS
              have H2 : Hid (∀ v, v ≤ i → f v = (((AGof P2 N str).st v : Nat) : Int)) := h2
              have H3 : Hid (∀ v, i ≤ v → v < N → f (v + 1) = (((AGof P2 N str).c N v : Nat) : Int)) := h3
              clear hS h2 h3
              generalize hfa : f (i + 1) = va at *
              generalize hfb : f i = vb at *
              have FA : Hid (f (i + 1) = va) := hfa
              have FB : Hid (f i = vb) := hfb
              clear hfa hfb
              have hw1 : IntKind.i64.wrap ((i : Int) + 1) = (i : Int) + 1 := by rw [IntKind.wrap_i64]; omega
              have hw2 : IntKind.i64.wrap (va + vb) = va + vb := by rw [IntKind.wrap_i64]; omega
              have hbi : (i : Int) < (N : Int) + 1 := by omega
              go_wp2
              have FK : Hid (∀ k w', k ≤ 0 → C1 wr.drew (wr.drew.setCell ⟨g16, i + 1, none⟩ (.int .i64 (va + vb))) k w' → w' = wr.drew) := by
                intro k w' hk hw
                have hk : k = 0 := by omega
                subst hk
                exact hw
              refine wp_region_stage (C1 wr.drew (wr.drew.setCell ⟨g16, i + 1, none⟩ (.int .i64 (va + vb)))) [11] (fun i => 0) (by kernel_rfl) (by kernel_rfl) (rfl) ?_
              refine wpStage_read rfl rfl ?_
              apply Exists.intro
              refine ⟨fun k w' hk hw => ?_, ?_⟩
              · go_simp
                first | rfl | exact ⟨rfl, hw⟩
              go_simp
              refine wpStage_read rfl rfl ?_
              apply Exists.intro
              refine ⟨fun k w' hk hw => ?_, ?_⟩
              · go_simp
                first | rfl | exact ⟨rfl, hw⟩
              go_simp
              refine wpStage_read rfl rfl ?_
              apply Exists.intro
              refine ⟨fun k w' hk hw => ?_, ?_⟩
              · go_simp
                first | rfl | exact ⟨rfl, hw⟩
              go_simp
              refine wpStage_read rfl rfl ?_
              apply Exists.intro
              refine ⟨fun k w' hk hw => ?_, ?_⟩
              · go_simp
                first | rfl | exact ⟨rfl, hw⟩
              go_simp
              refine wpStage_read rfl rfl ?_
              apply Exists.intro
              refine ⟨fun k w' hk hw => ?_, ?_⟩
              · have hw0 := FK.out k w' hk hw
                subst hw0
                go_simp
                first | rfl | exact ⟨rfl, hw⟩
              go_simp
              refine wpStage_read rfl rfl ?_
              apply Exists.intro
              refine ⟨fun k w' hk hw => ?_, ?_⟩
              · go_simp
                first | rfl | exact ⟨rfl, hw⟩
              go_simp
              refine wpStage_read rfl rfl ?_
              apply Exists.intro
              refine ⟨fun k w' hk hw => ?_, ?_⟩
              · go_simp
                first | rfl | exact ⟨rfl, hw⟩
              go_simp
              refine wpStage_read rfl rfl ?_
              apply Exists.intro
              refine ⟨fun k w' hk hw => ?_, ?_⟩
              · go_simp
                first | rfl | exact ⟨rfl, hw⟩
              go_simp
              refine wpStage_read rfl rfl ?_
              apply Exists.intro
              refine ⟨fun k w' hk hw => ?_, ?_⟩
              · have hw0 := FK.out k w' hk hw
                subst hw0
                go_simp
                first | rfl | exact ⟨rfl, hw⟩
              go_simp
              refine wpStage_read rfl rfl ?_
              apply Exists.intro
              refine ⟨fun k w' hk hw => ?_, ?_⟩
              · go_simp
                first | rfl | exact ⟨rfl, hw⟩
              go_simp
              refine wpStage_read rfl rfl ?_
              apply Exists.intro
              refine ⟨fun k w' hk hw => ?_, ?_⟩
              · go_simp
                first | rfl | exact ⟨rfl, hw⟩
              go_simp
              refine wpStage_move rfl rfl ?_
              apply Exists.intro
              refine ⟨fun w' hw => ?_, ?_⟩
              · have hw : w' = wr.drew := hw
                subst hw
                go_simp
                first | rfl | exact ⟨rfl, rfl⟩
              go_simp
              intro w' hw
              have hw : w' = (wr.drew.setCell ⟨g16, i + 1, none⟩ (.int .i64 (va + vb))) := hw
              subst hw
              go_wp2
              go_roundw
              case rel => exact pre_step rfl HSS.out hiN H2.out H3.out FA.out FB.out
              case measure => simp [intOf]; omega
            · obtain rfl : N = i := by omega
              have HSS : Hid (SIn w M p w.heap.size wr (M'.put 16 (some g16) (N + 1) (N + 1) (iv fun v => (((AGof P2 N str).st v : Nat) : Int))) P2) := hS.refun (by unfold Own; omega) (by unfold XA; omega) (by omega) (fun j hj => by unfold iv; rw [h2 j (by have hj : j < (N + 1) * 1 := hj; omega)])
              have cN : wr.cell? ⟨g16, N, none⟩ = some (.int .i64 (((AGof P2 N str).st N : Nat) : Int)) := (HSS.out.rep.cell put_bs (j := N) (by rw [put_ns]; show N < (N + 1) * 1; omega)).trans (congrArg some (congrFun put_Fs N))
              have hT : (AGof P2 N str).st N ≤ 137438953472 := by
                have := (AGof P2 N str).st_small hDG.out hN N
                omega
              have HTe : Hid (∀ j, j < N → ∀ (w3 : World) (g3 : Nat), SIn w M p w.heap.size w3 ((M'.put 16 (some g16) (N + 1) (N + 1) (iv fun v => (((AGof P2 N str).st v : Nat) : Int))).put 21 (some g3) ((AGof P2 N str).st N) ((AGof P2 N str).st N) (fun _ => .int .i64 0)) P2 → w3.cell? ⟨g16, j, none⟩ = some (.int .i64 (((AGof P2 N str).st j : Nat) : Int))) := by
                intro j hj w3 g3 h
                have := h.rep.cell (i := 16) (g := g16) (j := j) rfl (by show j < (N + 1) * 1; omega)
                exact this
              generalize hTT : (AGof P2 N str).st N = TT at *
              have HTT : Hid ((AGof P2 N str).st N = TT) := hTT
              clear hS h2 h3 b16 h1 hiN hTT
              obtain ⟨i62, hi62, hz620, hz621, hz622⟩ := info_parts Try.info62
              go_wp2_with (first
                | (at_make; refine wpList_make_row rfl (.tmp 157) (.tmp 157) 61 rfl 62 i62 (.agg #[.int .i64 0, .int .i64 0]) 2 16 (.int .i64 0) Try.underlying61 hi62 hz620 hz621 hz622 rfl (by decide) zero2 TT _ _ rfl rfl (by omega) (by omega) (by omega) (by omega) ?_
                   intro w3 hF3
                   have HS3 : Hid (SIn w M p w.heap.size w3 _ P2) := HSS.out.fresh hF3 (r := 21) rfl (by unfold Own; omega) (by unfold XA; omega) (by omega)
                   have hc3 : Hid (∀ j, j < N → w3.cell? ⟨g16, j, none⟩ = some (.int .i64 (((AGof P2 N str).st j : Nat) : Int))) := fun j hj => HTe.out j hj w3 _ HS3.out
                   clear hF3)
                | (go_at_call 34; refine (clone_calls w3 g16 N (N + 1) (fun v => (((AGof P2 N str).st v : Nat) : Int)) hN0 hc3.out (by omega)).mono ?_
                   rintro e w4 ⟨g17, k17, rfl, hF4⟩
                   have HS4 : Hid (SIn w M p w.heap.size w4 _ P2) := HS3.out.fresh hF4 (r := 17) rfl (by unfold Own; omega) (by unfold XA; omega) (by omega)
                   clear hF4))
              generalize hg21 : wr.heap.size = g21 at *
              have startF : Hid (FlO w M p w.heap.size M' P2 g16 N (AGof P2 N str) g21 TT g17 k17 (.int .i64 0) w4) := by
                refine ⟨0, fun _ => 0, fun _ => 0, fun v => (((AGof P2 N str).st v : Nat) : Int), Nat.zero_le _, rfl, ?_, Filled.init _ _ _, fun v hv => rfl⟩
                have := HS4.out
                rw [ev_zero] at this
                exact this
              clear HS4 HS3 hc3 HSS HTe cN hg21
              go_loopw [166] (fun k wr => FlO w M p w.heap.size M' P2 g16 N (AGof P2 N str) g21 TT g17 k17 k wr) (fun k _ => N - (intOf k).toNat)
              case atStart => exact startF.out
              case round =>
                clear startF
                obtain ⟨i, eN, eE, fl, h1, rfl, hS, hFi, hfl⟩ := hrel
                have HSS : Hid (SIn w M p w.heap.size wr _ P2) := hS
                have HFi : Hid (Filled (AGof P2 N str) i 0 eN eE) := hFi
                have Hfl : Hid (∀ v, v < N → fl v = (((AGof P2 N str).st v + (AGof P2 N str).cc i 0 v : Nat) : Int)) := hfl
                clear hS hFi hfl
                by_cases hiN : i < N
                · have hst := hm.out.lt i hiN
                  obtain ⟨g3, B3⟩ : ∃ g3, Hid (M'.b 3 = some g3) := by
                    obtain ⟨g3, b3⟩ := HSS.out.rep.hasBlock (i := 3) (by rw [HSS.out.pm.nS]; omega)
                    exact ⟨g3, by rw [FF_b (by omega)] at b3; exact b3⟩
                  have x0 := HSS.out.row HO.out HX.out HK.out HB.out HS.out hiN
                  have x1 := HSS.out.box
                  have x2 := HSS.out.pm.hdr_some HSS.out.rep (HSS.out.hp HP.out) (show 3 < 11 by omega) ((FF_b (by omega)).trans B3.out)
                  have x4 := HSS.out.slot ((FF_b (by omega)).trans B3.out) hst (show 2 < 7 by omega) (HSS.out.pm.outh (str i) hst)
                  have l3 := HSS.out.rep.le_cap 3
                  rw [HSS.out.pm.nS] at x2 l3
                  rw [FF_val (by omega)] at x4
                  unfold Fam.val at x4
                  have hno : M'.n (60 + 3 * str i) = P2.on (str i) := by have := (HSS.out.pm.out (str i) hst).1; rw [FF_n (by omega)] at this; exact this
                  rw [hno] at x4
                  clear hno
                  generalize hao : Option.map (fun g => (⟨g, 0, none⟩ : Addr)) (M'.b (60 + 3 * str i)) = ao at *
                  have Hao : Hid (Option.map (fun g => (⟨g, 0, none⟩ : Addr)) (M'.b (60 + 3 * str i)) = ao) := hao
                  have hon : P2.on (str i) ≤ 4096 := hm.out.dg_le HE.out hiN
                  have hlo : P2.on (str i) ≤ M'.cap (60 + 3 * str i) := by
                    have h1 := (HSS.out.pm.out (str i) hst).1
                    have h2 := HSS.out.rep.le_cap (60 + 3 * str i)
                    rw [FF_n (by omega)] at h1 h2
                    rw [FF_cap (by omega)] at h2
                    omega
                  have startI : Hid (FlI w M p w.heap.size M' P2 g16 N (AGof P2 N str) g21 TT g17 k17 i (.int .i64 0) wr) := ⟨0, eN, eE, fl, Nat.zero_le _, rfl, HSS.out, HFi.out, Hfl.out⟩
                  clear hao HSS HFi Hfl
                  generalize (FF M' g16 N (AGof P2 N str) g21 TT g17 k17 eN eE fl).cap 3 = k3 at *
                  generalize hko : M'.cap (60 + 3 * str i) = ko at *
                  generalize hdn : P2.on (str i) = dn at *
                  have Hdn : Hid (P2.on (str i) = dn) := hdn
                  clear hdn hko
                  go_wp2
                  go_loopw [180] (fun k wr => FlI w M p w.heap.size M' P2 g16 N (AGof P2 N str) g21 TT g17 k17 i k wr) (fun k _ => dn - (intOf k).toNat)
                  case atStart => exact startI.out
                  case round =>
                    clear startI x0 x1 x2 x4
                    obtain ⟨j, eN1, eE1, fl1, h2, rfl, hS, hFi, hfl⟩ := hrel
                    have h2 : j ≤ P2.on (str i) := h2
                    rw [Hdn.out] at h2
                    by_cases hj : j < dn
                    · have hjo : j < P2.on (str i) := by rw [Hdn.out]; exact hj
                      obtain ⟨e, t, e1, e2, e3, e4, e5, e6⟩ := hm.out.edge i j hiN hjo
                      obtain ⟨go, bo⟩ := hS.rep.hasBlock (i := 60 + 3 * str i) (by rw [(hS.pm.out (str i) hst).1]; omega)
                      have y0 := (hS.pm.out (str i) hst).cell hS.rep bo (by rw [KP_out]) hjo
                      rw [FF_b (by omega)] at bo
                      have ea : ao = some ⟨go, 0, none⟩ := by rw [← Hao.out, bo]; rfl
                      subst ea
                      rw [e1] at y0
                      obtain ⟨g2, b2⟩ := hS.rep.hasBlock (i := 2) (by rw [hS.pm.to.1]; omega)
                      have b3 : (FF M' g16 N (AGof P2 N str) g21 TT g17 k17 eN1 eE1 fl1).b 3 = some g3 := (FF_b (by omega)).trans B3.out
                      obtain ⟨z1, z2, z3, z4, z5, z6, z7, z8, z9, z10, z11, z12, z13, z14⟩ := hS.edge HP.out b3 b2 e2 e3 e4
                      have s3 := hS.rep.lt b3
                      have s2 := hS.rep.lt b2
                      have s11 := hS.rep.lt (hS.hp HP.out)
                      have s33 := hS.rep.lt hS.b33
                      have b17 : (FF M' g16 N (AGof P2 N str) g21 TT g17 k17 eN1 eE1 fl1).b 17 = some g17 := rfl
                      have b21 : (FF M' g16 N (AGof P2 N str) g21 TT g17 k17 eN1 eE1 fl1).b 21 = some g21 := rfl
                      have s17 := hS.rep.lt b17
                      have s21 := hS.rep.lt b21
                      have d1 : g17 ≠ g21 := hS.ne b17 b21 (by omega)
                      have HSS : Hid (SIn w M p w.heap.size wr (FF M' g16 N (AGof P2 N str) g21 TT g17 k17 eN1 eE1 fl1) P2) := hS
                      have HFi : Hid (Filled (AGof P2 N str) i j eN1 eE1) := hFi
                      have Hfl : Hid (∀ v, v < N → fl1 v = (((AGof P2 N str).st v + (AGof P2 N str).cc i j v : Nat) : Int)) := hfl
                      have B17 : Hid ((FF M' g16 N (AGof P2 N str) g21 TT g17 k17 eN1 eE1 fl1).b 17 = some g17) := b17
                      have B21 : Hid ((FF M' g16 N (AGof P2 N str) g21 TT g17 k17 eN1 eE1 fl1).b 21 = some g21) := b21
                      clear b17 b21
                      generalize (FF M' g16 N (AGof P2 N str) g21 TT g17 k17 eN1 eE1 fl1).cap 3 = k3' at *
                      generalize (FF M' g16 N (AGof P2 N str) g21 TT g17 k17 eN1 eE1 fl1).cap 2 = k2 at *
                      unfold Fam.val at z8
                      generalize Option.map (fun g => (⟨g, 0, none⟩ : Addr)) ((FF M' g16 N (AGof P2 N str) g21 TT g17 k17 eN1 eE1 fl1).b (60 + 3 * t)) = av at *
                      generalize (FF M' g16 N (AGof P2 N str) g21 TT g17 k17 eN1 eE1 fl1).n (60 + 3 * t) = nv at *
                      generalize (FF M' g16 N (AGof P2 N str) g21 TT g17 k17 eN1 eE1 fl1).cap (60 + 3 * t) = kv at *
                      have E1 : Hid (P2.out (str i) j = (e : Int)) := e1
                      clear hS hFi hfl b2 b3 bo e1 e6
                      generalize hmt : P2.mark t = mt at *
                      generalize hm2 : P2.marks = m2 at *
                      generalize hlt : P2.loc t = lt at *
                      have HMT : Hid (P2.mark t = mt) := hmt
                      have HM2 : Hid (P2.marks = m2) := hm2
                      have HLT : Hid (P2.loc t = lt) := hlt
                      clear hmt hm2 hlt
                      go_wp2
                      have FK : Hid (∀ k w', k ≤ 1 → C2 wr.drew ((wr.alloc (.cells #[.int .i64 0, .int .i64 0, .slice none 0 0, .int .i64 0, .int .i64 0, .int .i64 0, .int .i64 0] 57)).drew) ((wr.alloc (.cells #[.int .i64 (P2.node t), .int .i64 (P2.comp t), .slice av nv kv, .int .i64 (P2.idx t), .int .i64 (P2.low t), .int .i64 mt, .int .i64 lt] 57)).drew) k w' → w'.cell? ⟨w.heap.size, 0, none⟩ = some (.pointer (some ⟨p, 0, none⟩)) ∧ w'.cell? ⟨p, 3, none⟩ = some (.slice (some ⟨g3, 0, none⟩) P2.nS k3') ∧ w'.cell? ⟨p, 2, none⟩ = some (.slice (some ⟨g2, 0, none⟩) P2.nE k2) ∧ w'.cell? ⟨g2, e, none⟩ = some (.int .i64 (t : Int)) ∧
                          w'.cell? ⟨g3, t * 7, none⟩ = some (.int .i64 (P2.node t)) ∧ w'.cell? ⟨g3, t * 7 + 1, none⟩ = some (.int .i64 (P2.comp t)) ∧ w'.cell? ⟨g3, t * 7 + 2, none⟩ = some (.slice av nv kv) ∧ w'.cell? ⟨g3, t * 7 + 3, none⟩ = some (.int .i64 (P2.idx t)) ∧ w'.cell? ⟨g3, t * 7 + 4, none⟩ = some (.int .i64 (P2.low t)) ∧ w'.cell? ⟨g3, t * 7 + 5, none⟩ = some (.int .i64 mt) ∧ w'.cell? ⟨g3, t * 7 + 6, none⟩ = some (.int .i64 lt)) := by
                        intro k w' hk hw
                        match k, hk with
                        | 0, _ =>
                          have hw : w' = wr.drew := hw
                          subst hw
                          exact ⟨z1, z2, z3, z5, z6, z7, z8, z9, z10, z11, z12⟩
                        | 1, _ =>
                          have hw : w' = ((wr.alloc (.cells #[.int .i64 0, .int .i64 0, .slice none 0 0, .int .i64 0, .int .i64 0, .int .i64 0, .int .i64 0] 57)).drew) := hw
                          subst hw
                          rw [cell_alloc_drew s33, cell_alloc_drew s11, cell_alloc_drew s11, cell_alloc_drew s2, cell_alloc_drew s3, cell_alloc_drew s3, cell_alloc_drew s3, cell_alloc_drew s3, cell_alloc_drew s3, cell_alloc_drew s3, cell_alloc_drew s3]
                          exact ⟨z1, z2, z3, z5, z6, z7, z8, z9, z10, z11, z12⟩
                      refine wp_region_stage (C2 wr.drew ((wr.alloc (.cells #[.int .i64 0, .int .i64 0, .slice none 0 0, .int .i64 0, .int .i64 0, .int .i64 0, .int .i64 0] 57)).drew) ((wr.alloc (.cells #[.int .i64 (P2.node t), .int .i64 (P2.comp t), .slice av nv kv, .int .i64 (P2.idx t), .int .i64 (P2.low t), .int .i64 mt, .int .i64 lt] 57)).drew)) [13, 14] (fun i => 1) (by kernel_rfl) (by kernel_rfl) (rfl) ?_
                      refine wpStage_read rfl rfl ?_
                      apply Exists.intro
                      refine ⟨fun k w' hk hw => ?_, ?_⟩
                      · obtain ⟨y1, y2, y3, y4, y5, y6, y7, y8, y9, y10, y11⟩ := FK.out k w' hk hw
                        go_simp
                        first | rfl | exact ⟨rfl, hw⟩
                      go_simp
                      refine wpStage_read rfl rfl ?_
                      apply Exists.intro
                      refine ⟨fun k w' hk hw => ?_, ?_⟩
                      · go_simp
                        first | rfl | exact ⟨rfl, hw⟩
                      go_simp
                      refine wpStage_read rfl rfl ?_
                      apply Exists.intro
                      refine ⟨fun k w' hk hw => ?_, ?_⟩
                      · go_simp
                        first | rfl | exact ⟨rfl, hw⟩
                      go_simp
                      refine wpStage_read rfl rfl ?_
                      apply Exists.intro
                      refine ⟨fun k w' hk hw => ?_, ?_⟩
                      · obtain ⟨y1, y2, y3, y4, y5, y6, y7, y8, y9, y10, y11⟩ := FK.out k w' hk hw
                        go_simp
                        first | rfl | exact ⟨rfl, hw⟩
                      go_simp
                      refine wpStage_read rfl rfl ?_
                      apply Exists.intro
                      refine ⟨fun k w' hk hw => ?_, ?_⟩
                      · obtain ⟨y1, y2, y3, y4, y5, y6, y7, y8, y9, y10, y11⟩ := FK.out k w' hk hw
                        go_simp
                        first | rfl | exact ⟨rfl, hw⟩
                      go_simp
                      refine wpStage_read rfl rfl ?_
                      apply Exists.intro
                      refine ⟨fun k w' hk hw => ?_, ?_⟩
                      · go_simp
                        first | rfl | exact ⟨rfl, hw⟩
                      go_simp
                      refine wpStage_read rfl rfl ?_
                      apply Exists.intro
                      refine ⟨fun k w' hk hw => ?_, ?_⟩
                      · go_simp
                        first | rfl | exact ⟨rfl, hw⟩
                      go_simp
                      refine wpStage_read rfl rfl ?_
                      apply Exists.intro
                      refine ⟨fun k w' hk hw => ?_, ?_⟩
                      · obtain ⟨y1, y2, y3, y4, y5, y6, y7, y8, y9, y10, y11⟩ := FK.out k w' hk hw
                        go_simp
                        first | rfl | exact ⟨rfl, hw⟩
                      go_simp
                      refine wpStage_read rfl rfl ?_
                      apply Exists.intro
                      refine ⟨fun k w' hk hw => ?_, ?_⟩
                      · go_simp
                        first | rfl | exact ⟨rfl, hw⟩
                      go_simp
                      refine wpStage_read rfl rfl ?_
                      apply Exists.intro
                      refine ⟨fun k w' hk hw => ?_, ?_⟩
                      · go_simp
                        first | rfl | exact ⟨rfl, hw⟩
                      go_simp
                      refine wpStage_read rfl rfl ?_
                      apply Exists.intro
                      refine ⟨fun k w' hk hw => ?_, ?_⟩
                      · obtain ⟨y1, y2, y3, y4, y5, y6, y7, y8, y9, y10, y11⟩ := FK.out k w' hk hw
                        go_simp
                        first | rfl | exact ⟨rfl, hw⟩
                      go_simp
                      refine wpStage_read rfl rfl ?_
                      apply Exists.intro
                      refine ⟨fun k w' hk hw => ?_, ?_⟩
                      · go_simp
                        first | rfl | exact ⟨rfl, hw⟩
                      go_simp
                      refine wpStage_read rfl rfl ?_
                      apply Exists.intro
                      refine ⟨fun k w' hk hw => ?_, ?_⟩
                      · obtain ⟨y1, y2, y3, y4, y5, y6, y7, y8, y9, y10, y11⟩ := FK.out k w' hk hw
                        go_simp
                        first | rfl | exact ⟨rfl, hw⟩
                      go_simp
                      refine wpStage_move rfl rfl ?_
                      apply Exists.intro
                      refine ⟨fun w' hw => ?_, ?_⟩
                      · have hw : w' = wr.drew := hw
                        subst hw
                        go_simp
                        first | rfl | exact ⟨rfl, rfl⟩
                      go_simp
                      refine wpStage_move rfl rfl ?_
                      apply Exists.intro
                      refine ⟨fun w' hw => ?_, ?_⟩
                      · have hw : w' = ((wr.alloc (.cells #[.int .i64 0, .int .i64 0, .slice none 0 0, .int .i64 0, .int .i64 0, .int .i64 0, .int .i64 0] 57)).drew) := hw
                        subst hw
                        go_simp
                        first | rfl | exact ⟨rfl, rfl⟩
                      go_simp
                      intro w' hw
                      have hw : w' = ((wr.alloc (.cells #[.int .i64 (P2.node t), .int .i64 (P2.comp t), .slice av nv kv, .int .i64 (P2.idx t), .int .i64 (P2.low t), .int .i64 mt, .int .i64 lt] 57)).drew) := hw
                      subst hw
                      clear FK z2 z3 z5 z6 z7 z8 z9 z10 z11 z12 hw
                      by_cases hin : mt = m2
                      · obtain ⟨l, l1, l2, l3, l4, l5, l6⟩ := hm.out.lcl hiN hjo E1.out e3 e4 (by rw [HMT.out, HM2.out]; exact hin)
                        have hli : l ≠ i := fun h => e5 (by rw [l2, h])
                        rw [HLT.out] at l3
                        subst l3 hin
                        obtain ⟨r1, r2, r3⟩ := (AGof P2 N str).room hm.out.ok hiN hjo l5
                        rw [l4] at r2 r3
                        have rT : (AGof P2 N str).st (AGof P2 N str).N = TT := HTT.out
                        rw [rT] at r1 r2
                        have ca : wr.cell? ⟨g17, i, none⟩ = some (.int .i64 (fl1 i)) := HSS.out.rep.cell B17.out (j := i) (by show i < N * 1; omega)
                        have cb : wr.cell? ⟨g17, l, none⟩ = some (.int .i64 (fl1 l)) := HSS.out.rep.cell B17.out (j := l) (by show l < N * 1; omega)
                        have fa := HSS.out.rep.frozen B17.out i
                        have fb := HSS.out.rep.frozen B17.out l
                        rw [Hfl.out i hiN] at ca
                        rw [Hfl.out l l1] at cb
                        have L4 : Hid ((AGof P2 N str).lcl ((AGof P2 N str).ed i j) = l) := l4
                        have L5 : Hid ((AGof P2 N str).inE ((AGof P2 N str).ed i j) = true) := l5
                        have L6 : Hid ((AGof P2 N str).ed i j = e) := l6
                        generalize hq : (AGof P2 N str).st i + (AGof P2 N str).cc i j i = q at *
                        generalize hr : (AGof P2 N str).st l + (AGof P2 N str).cc i j l = r at *
                        have HQ : Hid ((AGof P2 N str).st i + (AGof P2 N str).cc i j i = q) := hq
                        have HR : Hid ((AGof P2 N str).st l + (AGof P2 N str).cc i j l = r) := hr
                        clear hq hr l4 l5 l6 l2 rT
                        have v0 := HSS.out.rep.cell B21.out (j := q * 2) (by show q * 2 < TT * 2; omega)
                        have v1 := HSS.out.rep.cell B21.out (j := q * 2 + 1) (by show q * 2 + 1 < TT * 2; omega)
                        have v2 := HSS.out.rep.cell B21.out (j := r * 2) (by show r * 2 < TT * 2; omega)
                        have v3 := HSS.out.rep.cell B21.out (j := r * 2 + 1) (by show r * 2 + 1 < TT * 2; omega)
                        have f0 := HSS.out.rep.frozen B21.out (q * 2)
                        have f1 := HSS.out.rep.frozen B21.out (q * 2 + 1)
                        have f2 := HSS.out.rep.frozen B21.out (r * 2)
                        have f3 := HSS.out.rep.frozen B21.out (r * 2 + 1)
                        have nk17 : N ≤ k17 := HSS.out.rep.le_cap 17
                        go_wp2
                        go_region
                        go_wp2
                        have FZ : Hid (∀ k w', k ≤ 0 → C1 ((wr.alloc (.cells #[.int .i64 (P2.node t), .int .i64 (P2.comp t), .slice av nv kv, .int .i64 (P2.idx t), .int .i64 (P2.low t), .int .i64 mt, .int .i64 (l : Int)] 57)).drew.drew.drew) ((((wr.setCell ⟨g21, q * 2, none⟩ (.int .i64 (l : Int))).setCell ⟨g21, q * 2 + 1, none⟩ (.int .i64 (e : Int))).alloc (.cells #[.int .i64 (P2.node t), .int .i64 (P2.comp t), .slice av nv kv, .int .i64 (P2.idx t), .int .i64 (P2.low t), .int .i64 mt, .int .i64 (l : Int)] 57)).drew.drew.drew) k w' → w' = ((wr.alloc (.cells #[.int .i64 (P2.node t), .int .i64 (P2.comp t), .slice av nv kv, .int .i64 (P2.idx t), .int .i64 (P2.low t), .int .i64 mt, .int .i64 (l : Int)] 57)).drew.drew.drew)) := by
                          intro k w' hk hw
                          have hk : k = 0 := by omega
                          subst hk
                          exact hw
                        refine wp_region_stage (C1 ((wr.alloc (.cells #[.int .i64 (P2.node t), .int .i64 (P2.comp t), .slice av nv kv, .int .i64 (P2.idx t), .int .i64 (P2.low t), .int .i64 mt, .int .i64 (l : Int)] 57)).drew.drew.drew) ((((wr.setCell ⟨g21, q * 2, none⟩ (.int .i64 (l : Int))).setCell ⟨g21, q * 2 + 1, none⟩ (.int .i64 (e : Int))).alloc (.cells #[.int .i64 (P2.node t), .int .i64 (P2.comp t), .slice av nv kv, .int .i64 (P2.idx t), .int .i64 (P2.low t), .int .i64 mt, .int .i64 (l : Int)] 57)).drew.drew.drew)) [10] (fun i => 0) (by kernel_rfl) (by kernel_rfl) (rfl) ?_
                        refine wpStage_read rfl rfl ?_
                        apply Exists.intro
                        refine ⟨fun k w' hk hw => ?_, ?_⟩
                        · go_simp
                          first | rfl | exact ⟨rfl, hw⟩
                        go_simp
                        refine wpStage_read rfl rfl ?_
                        apply Exists.intro
                        refine ⟨fun k w' hk hw => ?_, ?_⟩
                        · go_simp
                          first | rfl | exact ⟨rfl, hw⟩
                        go_simp
                        refine wpStage_read rfl rfl ?_
                        apply Exists.intro
                        refine ⟨fun k w' hk hw => ?_, ?_⟩
                        · go_simp
                          first | rfl | exact ⟨rfl, hw⟩
                        go_simp
                        refine wpStage_read rfl rfl ?_
                        apply Exists.intro
                        refine ⟨fun k w' hk hw => ?_, ?_⟩
                        · go_simp
                          first | rfl | exact ⟨rfl, hw⟩
                        go_simp
                        refine wpStage_read rfl rfl ?_
                        apply Exists.intro
                        refine ⟨fun k w' hk hw => ?_, ?_⟩
                        · have hw0 := FZ.out k w' hk hw
                          subst hw0
                          go_simp
                          first | rfl | exact ⟨rfl, hw⟩
                        go_simp
                        refine wpStage_read rfl rfl ?_
                        apply Exists.intro
                        refine ⟨fun k w' hk hw => ?_, ?_⟩
                        · go_simp
                          first | rfl | exact ⟨rfl, hw⟩
                        go_simp
                        refine wpStage_read rfl rfl ?_
                        apply Exists.intro
                        refine ⟨fun k w' hk hw => ?_, ?_⟩
                        · have hw0 := FZ.out k w' hk hw
                          subst hw0
                          go_simp
                          first | rfl | exact ⟨rfl, hw⟩
                        go_simp
                        refine wpStage_read rfl rfl ?_
                        apply Exists.intro
                        refine ⟨fun k w' hk hw => ?_, ?_⟩
                        · go_simp
                          first | rfl | exact ⟨rfl, hw⟩
                        go_simp
                        refine wpStage_read rfl rfl ?_
                        apply Exists.intro
                        refine ⟨fun k w' hk hw => ?_, ?_⟩
                        · go_simp
                          first | rfl | exact ⟨rfl, hw⟩
                        go_simp
                        refine wpStage_read rfl rfl ?_
                        apply Exists.intro
                        refine ⟨fun k w' hk hw => ?_, ?_⟩
                        · go_simp
                          first | rfl | exact ⟨rfl, hw⟩
                        go_simp
                        refine wpStage_move rfl rfl ?_
                        apply Exists.intro
                        refine ⟨fun w' hw => ?_, ?_⟩
                        · have hw : w' = ((wr.alloc (.cells #[.int .i64 (P2.node t), .int .i64 (P2.comp t), .slice av nv kv, .int .i64 (P2.idx t), .int .i64 (P2.low t), .int .i64 mt, .int .i64 (l : Int)] 57)).drew.drew.drew) := hw
                          subst hw
                          go_simp
                          first | rfl | exact ⟨rfl, rfl⟩
                        go_simp
                        intro w' hw
                        have hw : w' = ((((wr.setCell ⟨g21, q * 2, none⟩ (.int .i64 (l : Int))).setCell ⟨g21, q * 2 + 1, none⟩ (.int .i64 (e : Int))).alloc (.cells #[.int .i64 (P2.node t), .int .i64 (P2.comp t), .slice av nv kv, .int .i64 (P2.idx t), .int .i64 (P2.low t), .int .i64 mt, .int .i64 (l : Int)] 57)).drew.drew.drew) := hw
                        subst hw
                        clear FZ hw
                        go_wp2
                        go_roundw
                        case rel => exact flI_put hm.out.ok rfl HSS.out HFi.out Hfl.out hiN hjo L5.out L4.out L6.out HQ.out HR.out
                        case measure => simp [intOf]; omega
                      · have L5 : Hid ((AGof P2 N str).inE ((AGof P2 N str).ed i j) = false) := hm.out.out E1.out e3 (by rw [HMT.out, HM2.out]; exact hin)
                        go_wp2
                        go_region
                        go_wp2
                        go_roundw
                        case rel => exact flI_skip HSS.out HFi.out Hfl.out hjo L5.out
                        case measure => simp [intOf]; omega
                    · obtain rfl : dn = j := by omega
                      have HN : Hid (FlO w M p w.heap.size M' P2 g16 N (AGof P2 N str) g21 TT g17 k17 (.int .i64 ((i : Int) + 1)) wr) := ⟨i + 1, eN1, eE1, fl1, by omega, rfl, hS, by
                        have : Filled (AGof P2 N str) i ((AGof P2 N str).dg i) eN1 eE1 := by
                          show Filled _ i (P2.on (str i)) eN1 eE1
                          rw [Hdn.out]; exact hFi
                        exact this.next, by
                        intro v hv
                        have : (AGof P2 N str).cc (i + 1) 0 v = (AGof P2 N str).cc i (P2.on (str i)) v := rfl
                        rw [this, Hdn.out]; exact hfl v hv⟩
                      clear hS hFi hfl
                      go_wp2
                      go_roundw
                      case rel => exact HN.out
                      case measure => simp [intOf]; omega
                · obtain rfl : N = i := by omega
                  clear Hfl h1 hiN
                  go_wp2
                  exact HTL.out _ wr P2 g16 g21 TT eN eE ⟨by kernel_rfl, by kernel_rfl, by kernel_rfl, by kernel_rfl, by kernel_rfl, by kernel_rfl⟩ ⟨⟨_, _, _, _, HSS.out⟩, hm.out, HFi.out, HTT.out, HP2.out⟩
end Go.Proofs.Qxb6602148a
