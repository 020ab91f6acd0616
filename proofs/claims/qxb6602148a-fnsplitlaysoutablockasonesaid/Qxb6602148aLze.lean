/-
  The third law: the model; the law whole.
-/
import Derived.Test.Qxb6602148aLzd
import Derived.Test.Qxb6602148aRg
attribute [local go_sem] Go.Proofs.Qxb6602148a.yTo Go.Proofs.Qxb6602148a.yUpon
namespace Go.Proofs.Qxb6602148a
open Go.RowKit
set_option linter.unusedVariables false
set_option linter.unusedSimpArgs false

set_option maxRecDepth 40000 in
theorem l5aa {a : Act} {u0 u1 u2 u7 u8 : Value} (hs : a.tmps.size = 586) (hd : a.defers = []) (h0 : a.tmps.getD 0 undef = u0) (h1 : a.tmps.getD 1 undef = u1) (h2 : a.tmps.getD 2 undef = u2) (h7 : a.tmps.getD 7 undef = u7) (h8 : a.tmps.getD 8 undef = u8) : ∃ y : Nat → Value, a = { tmps := #[u0, u1, u2, y 3, y 4, y 5, y 6, u7, u8, y 9, y 10, y 11, y 12, y 13, y 14, y 15, y 16, y 17, y 18, y 19, y 20, y 21, y 22, y 23, y 24, y 25, y 26, y 27, y 28, y 29, y 30, y 31, y 32, y 33, y 34, y 35, y 36, y 37, y 38, y 39, y 40, y 41, y 42, y 43, y 44, y 45, y 46, y 47, y 48, y 49, y 50, y 51, y 52, y 53, y 54, y 55, y 56, y 57, y 58, y 59, y 60, y 61, y 62, y 63, y 64, y 65, y 66, y 67, y 68, y 69, y 70, y 71, y 72, y 73, y 74, y 75, y 76, y 77, y 78, y 79, y 80, y 81, y 82, y 83, y 84, y 85, y 86, y 87, y 88, y 89, y 90, y 91, y 92, y 93, y 94, y 95, y 96, y 97, y 98, y 99, y 100, y 101, y 102, y 103, y 104, y 105, y 106, y 107, y 108, y 109, y 110, y 111, y 112, y 113, y 114, y 115, y 116, y 117, y 118, y 119, y 120, y 121, y 122, y 123, y 124, y 125, y 126, y 127, y 128, y 129, y 130, y 131, y 132, y 133, y 134, y 135, y 136, y 137, y 138, y 139, y 140, y 141, y 142, y 143, y 144, y 145, y 146, y 147, y 148, y 149, y 150, y 151, y 152, y 153, y 154, y 155, y 156, y 157, y 158, y 159, y 160, y 161, y 162, y 163, y 164, y 165, y 166, y 167, y 168, y 169, y 170, y 171, y 172, y 173, y 174, y 175, y 176, y 177, y 178, y 179, y 180, y 181, y 182, y 183, y 184, y 185, y 186, y 187, y 188, y 189, y 190, y 191, y 192, y 193, y 194, y 195, y 196, y 197, y 198, y 199, y 200, y 201, y 202, y 203, y 204, y 205, y 206, y 207, y 208, y 209, y 210, y 211, y 212, y 213, y 214, y 215, y 216, y 217, y 218, y 219, y 220, y 221, y 222, y 223, y 224, y 225, y 226, y 227, y 228, y 229, y 230, y 231, y 232, y 233, y 234, y 235, y 236, y 237, y 238, y 239, y 240, y 241, y 242, y 243, y 244, y 245, y 246, y 247, y 248, y 249, y 250, y 251, y 252, y 253, y 254, y 255, y 256, y 257, y 258, y 259, y 260, y 261, y 262, y 263, y 264, y 265, y 266, y 267, y 268, y 269, y 270, y 271, y 272, y 273, y 274, y 275, y 276, y 277, y 278, y 279, y 280, y 281, y 282, y 283, y 284, y 285, y 286, y 287, y 288, y 289, y 290, y 291, y 292, y 293, y 294, y 295, y 296, y 297, y 298, y 299, y 300, y 301, y 302, y 303, y 304, y 305, y 306, y 307, y 308, y 309, y 310, y 311, y 312, y 313, y 314, y 315, y 316, y 317, y 318, y 319, y 320, y 321, y 322, y 323, y 324, y 325, y 326, y 327, y 328, y 329, y 330, y 331, y 332, y 333, y 334, y 335, y 336, y 337, y 338, y 339, y 340, y 341, y 342, y 343, y 344, y 345, y 346, y 347, y 348, y 349, y 350, y 351, y 352, y 353, y 354, y 355, y 356, y 357, y 358, y 359, y 360, y 361, y 362, y 363, y 364, y 365, y 366, y 367, y 368, y 369, y 370, y 371, y 372, y 373, y 374, y 375, y 376, y 377, y 378, y 379, y 380, y 381, y 382, y 383, y 384, y 385, y 386, y 387, y 388, y 389, y 390, y 391, y 392, y 393, y 394, y 395, y 396, y 397, y 398, y 399, y 400, y 401, y 402, y 403, y 404, y 405, y 406, y 407, y 408, y 409, y 410, y 411, y 412, y 413, y 414, y 415, y 416, y 417, y 418, y 419, y 420, y 421, y 422, y 423, y 424, y 425, y 426, y 427, y 428, y 429, y 430, y 431, y 432, y 433, y 434, y 435, y 436, y 437, y 438, y 439, y 440, y 441, y 442, y 443, y 444, y 445, y 446, y 447, y 448, y 449, y 450, y 451, y 452, y 453, y 454, y 455, y 456, y 457, y 458, y 459, y 460, y 461, y 462, y 463, y 464, y 465, y 466, y 467, y 468, y 469, y 470, y 471, y 472, y 473, y 474, y 475, y 476, y 477, y 478, y 479, y 480, y 481, y 482, y 483, y 484, y 485, y 486, y 487, y 488, y 489, y 490, y 491, y 492, y 493, y 494, y 495, y 496, y 497, y 498, y 499, y 500, y 501, y 502, y 503, y 504, y 505, y 506, y 507, y 508, y 509, y 510, y 511, y 512, y 513, y 514, y 515, y 516, y 517, y 518, y 519, y 520, y 521, y 522, y 523, y 524, y 525, y 526, y 527, y 528, y 529, y 530, y 531, y 532, y 533, y 534, y 535, y 536, y 537, y 538, y 539, y 540, y 541, y 542, y 543, y 544, y 545, y 546, y 547, y 548, y 549, y 550, y 551, y 552, y 553, y 554, y 555, y 556, y 557, y 558, y 559, y 560, y 561, y 562, y 563, y 564, y 565, y 566, y 567, y 568, y 569, y 570, y 571, y 572, y 573, y 574, y 575, y 576, y 577, y 578, y 579, y 580, y 581, y 582, y 583, y 584, y 585], defers := [] } := by
  obtain ⟨tmps, defers⟩ := a
  have yd : defers = [] := hd
  subst yd
  obtain ⟨y, hy, hi⟩ := arr_586 tmps hs
  have e0 := (hi 0).trans h0
  have e1 := (hi 1).trans h1
  have e2 := (hi 2).trans h2
  have e7 := (hi 7).trans h7
  have e8 := (hi 8).trans h8
  rw [e0, e1, e2, e7, e8] at hy
  exact ⟨y, congrArg (fun t => (⟨t, []⟩ : Act)) hy⟩

set_option maxRecDepth 40000 in
set_option maxHeartbeats 8000000 in
/-- Regions 13 and 14. -/
theorem l3_g2 (w w5 : World) (Nf : Fam) (G : GR) (a' : Option Addr) (k' p : Nat) (M : Fam) (P : PS) (V : Fam) (gB c : Nat) (gS : Nat) (hS : S10 w w5 Nf G a' k' p M P V gB c) (a : Act) (hf : F5e a' G.n k' gS (P.mn c) p gB c a)
    (hC : ∀ (a : Act) (w8 : World) (R : Nat → Nat → Bool) (nc : Nat) (cls : Nat → Nat) (g0 g1 g2 g3 gM : Nat), F5d p gB gM gS c (P.mn c) a → S13 w w8 G p M P V gB c R nc cls g0 g1 g2 g3 gM → Code.wp Try.prog (tl 11 (Try.f5.body.getD .skip)) (bodyPost Try.prog Try.f5 fun e w' => e = .returned (.bool true) ∧ Below w.heap.size w w') a w8) :
    Code.wp Try.prog (tl 9 (Try.f5.body.getD .skip)) (bodyPost Try.prog Try.f5 fun e w' => e = .returned (.bool true) ∧ Below w.heap.size w w') a w5 := by
  obtain ⟨y, rfl⟩ := l5aa hf.sz hf.df hf.s0 hf.s1 hf.s2 hf.s7 hf.s8
  have HB : Hid (Calls Try.prog 10 #[.slice a' G.n k'] w5 (MRet w5 G)) := build_calls w5 Nf G a' k' hS.gm hS.ok
  have HS : Hid (S10 w w5 Nf G a' k' p M P V gB c) := hS
  have HC : Hid (∀ (a : Act) (w8 : World) (R : Nat → Nat → Bool) (nc : Nat) (cls : Nat → Nat) (g0 g1 g2 g3 gM : Nat), F5d p gB gM gS c (P.mn c) a → S13 w w8 G p M P V gB c R nc cls g0 g1 g2 g3 gM → Code.wp Try.prog (tl 11 (Try.f5.body.getD .skip)) (bodyPost Try.prog Try.f5 fun e w' => e = .returned (.bool true) ∧ Below w.heap.size w w') a w8) := hC
  clear hf hC hS
  show Code.wp Try.prog (Code.seq _ (Code.seq (Code.seq _ (Code.cond (.tmp 75) _ Code.skip)) (tl 11 (Try.f5.body.getD .skip)))) _ _ w5
  refine wp_seq_k (fun K1 hK => ?_)
  have HK1 : Hid (∀ (a : Act) (w : World), _ → K1 a w) := hK
  clear hK
  go_wp2_with (go_at_call 10; refine HB.out.mono ?_; rintro e w6 ⟨R, nc, cls, g0, g1, g2, g3, rfl, hM⟩; have HM : Hid (MRt w5 G R nc cls g0 g1 g2 g3 w6) := hM; clear hM)
  refine HK1.out _ _ ?_
  clear HK1 K1 HB
  have b7 : (w6.alloc (.cells #[.int .i64 (G.n : Int), .slice (some ⟨g0, 0, none⟩) G.E G.E, .slice (some ⟨g1, 0, none⟩) G.E G.E, .slice (some ⟨g2, 0, none⟩) G.E G.E, .slice (some ⟨g3, 0, none⟩) G.E G.E, .int .i64 (nc : Int)] 29)).heap[w6.heap.size]? = some (.cells #[.int .i64 (G.n : Int), .slice (some ⟨g0, 0, none⟩) G.E G.E, .slice (some ⟨g1, 0, none⟩) G.E G.E, .slice (some ⟨g2, 0, none⟩) G.E G.E, .slice (some ⟨g3, 0, none⟩) G.E G.E, .int .i64 (nc : Int)] 29) := heap_alloc_new w6 _
  have g67 : Grew Fam.nil w6 Fam.nil (w6.alloc (.cells #[.int .i64 (G.n : Int), .slice (some ⟨g0, 0, none⟩) G.E G.E, .slice (some ⟨g1, 0, none⟩) G.E G.E, .slice (some ⟨g2, 0, none⟩) G.E G.E, .slice (some ⟨g3, 0, none⟩) G.E G.E, .int .i64 (nc : Int)] 29)) := (Grew.refl Fam.nil w6).alloc _
  obtain ⟨D6, hD6⟩ := HM.out.grew
  have sz6 : w5.heap.size ≤ w6.heap.size := hD6.size
  generalize hgm : w6.heap.size = gM at *
  generalize w6.alloc (.cells #[.int .i64 (G.n : Int), .slice (some ⟨g0, 0, none⟩) G.E G.E, .slice (some ⟨g1, 0, none⟩) G.E G.E, .slice (some ⟨g2, 0, none⟩) G.E G.E, .slice (some ⟨g3, 0, none⟩) G.E G.E, .int .i64 (nc : Int)] 29) = w7 at *
  have g57 : Grew Fam.nil w5 Fam.nil w7 := hD6.to_nil.trans g67
  have m7 := HM.out.kept g67
  have rv7 : Rep KV w7 V := HS.out.rv.kept (fun i g hb => g57.block g (HS.out.rv.lt hb) (fun i e => by cases e))
  have bx7 := box_kept HS.out.box g57
  have c0 : w7.cell? ⟨gM, 0, none⟩ = some (.int .i64 (G.n : Int)) := by rw [cell_of_row w7 gM 0 _ _ _ b7]; rfl
  have c1 : w7.cell? ⟨gM, 1, none⟩ = some (.slice (some ⟨g0, 0, none⟩) G.E G.E) := by rw [cell_of_row w7 gM 1 _ _ _ b7]; rfl
  have c2 : w7.cell? ⟨gM, 2, none⟩ = some (.slice (some ⟨g1, 0, none⟩) G.E G.E) := by rw [cell_of_row w7 gM 2 _ _ _ b7]; rfl
  have c3 : w7.cell? ⟨gM, 3, none⟩ = some (.slice (some ⟨g2, 0, none⟩) G.E G.E) := by rw [cell_of_row w7 gM 3 _ _ _ b7]; rfl
  have c4 : w7.cell? ⟨gM, 4, none⟩ = some (.slice (some ⟨g3, 0, none⟩) G.E G.E) := by rw [cell_of_row w7 gM 4 _ _ _ b7]; rfl
  have c5 : w7.cell? ⟨gM, 5, none⟩ = some (.int .i64 (nc : Int)) := by rw [cell_of_row w7 gM 5 _ _ _ b7]; rfl
  have d0 : w7.cell? ⟨gB, 0, none⟩ = some (V.val 0) := by rw [cell_of_row w7 gB 0 _ _ _ bx7]; rfl
  have d1 : w7.cell? ⟨gB, 1, none⟩ = some (V.val 1) := by rw [cell_of_row w7 gB 1 _ _ _ bx7]; rfl
  have d2 : w7.cell? ⟨gB, 2, none⟩ = some (V.val 2) := by rw [cell_of_row w7 gB 2 _ _ _ bx7]; rfl
  have d3 : w7.cell? ⟨gB, 3, none⟩ = some (V.val 3) := by rw [cell_of_row w7 gB 3 _ _ _ bx7]; rfl
  have d4 : w7.cell? ⟨gB, 4, none⟩ = some (V.val 4) := by rw [cell_of_row w7 gB 4 _ _ _ bx7]; rfl
  have d5 : w7.cell? ⟨gB, 5, none⟩ = some (V.val 5) := by rw [cell_of_row w7 gB 5 _ _ _ bx7]; rfl
  have d6 : w7.cell? ⟨gB, 6, none⟩ = some (V.val 6) := by rw [cell_of_row w7 gB 6 _ _ _ bx7]; rfl
  have hmeet := HS.out.meet R nc cls m7.ok
  have nS := HS.out.nS
  have nC := HS.out.nC
  have HMT : Hid (Calls Try.prog 12 #[.agg #[.int .i64 (G.n : Int), .slice (some ⟨g0, 0, none⟩) G.E G.E, .slice (some ⟨g1, 0, none⟩) G.E G.E, .slice (some ⟨g2, 0, none⟩) G.E G.E, .slice (some ⟨g3, 0, none⟩) G.E G.E, .int .i64 (nc : Int)], .agg #[V.val 0, V.val 1, V.val 2, V.val 3, V.val 4, V.val 5, V.val 6]] w7 fun e w' => e = .returned (.bool true) ∧ S13 w w' G p M P V gB c R nc cls g0 g1 g2 g3 gM) := by
    refine (meets_calls w7 (G.md R nc cls) P (.slice (some ⟨g0, 0, none⟩) G.E G.E) (.slice (some ⟨g1, 0, none⟩) G.E G.E) (.slice (some ⟨g2, 0, none⟩) G.E G.E) (.slice (some ⟨g3, 0, none⟩) G.E G.E) (V.val 0) (V.val 1) (V.val 2) (V.val 3) (V.val 4) (V.val 5) (V.val 6) (mtIn_of HS.out.ok m7.cl rv7 HS.out.vm (by omega) (by omega)) hmeet).mono ?_
    rintro e w8 ⟨rfl, D, hD⟩
    refine ⟨rfl, ?_⟩
    have h78 : Grew Fam.nil w7 Fam.nil w8 := (((Grew.refl Fam.nil w7).alloc _).alloc _).trans hD.to_nil
    have h58 := g57.trans h78
    have m8 := m7.kept h78
    have nw := HM.out.nw
    have lt : ∀ j g, M.b j = some g → g < w5.heap.size := fun j g hj => HS.out.pin.rep.lt hj
    exact ⟨HS.out.ok, HS.out.pin.kept h58, rv7.kept (fun i g hb => h78.block g (rv7.lt hb) (fun i e => by cases e)), HS.out.vm, box_kept bx7 h78, HS.out.gr.keep h58, HS.out.vn, HS.out.bn, hmeet, HS.out.calm, HS.out.c1, HS.out.c2, nS, nC, m8.cl, fun j => ⟨fun e => by have := lt j _ e; omega, fun e => by have := lt j _ e; omega, fun e => by have := lt j _ e; omega, fun e => by have := lt j _ e; omega, fun e => by have := lt j _ e; omega⟩, box_kept b7 h78⟩
  clear HS HM b7 g67 hD6 sz6 hgm g57 m7 rv7 bx7 hmeet nS nC
  refine wp_seq_k (fun K1 hK => ?_)
  have HK1 : Hid (∀ (a : Act) (w : World), _ → K1 a w) := hK
  clear hK
  refine wp_seq_k (fun K2 hK => ?_)
  have HK2 : Hid (∀ (a : Act) (w : World), _ → K2 a w) := hK
  clear hK
  go_wp2_with (go_at_call 12; refine HMT.out.mono ?_; rintro e w8 ⟨rfl, h8⟩; have H8 : Hid (S13 w w8 G p M P V gB c R nc cls g0 g1 g2 g3 gM) := h8; clear h8)
  refine HK2.out _ _ (wp_cond_false (by kernel_rfl) (wp_skip ?_))
  refine HK1.out _ _ ?_
  exact HC.out _ w8 R nc cls g0 g1 g2 g3 gM ⟨by kernel_rfl, by kernel_rfl, by kernel_rfl, by kernel_rfl, by kernel_rfl, by kernel_rfl, by kernel_rfl⟩ H8.out

def RetFx (w : World) (n : Nat) (d : Nat → Nat) (x : Nat) (e : Ending) (w' : World) : Prop := (∃ b : Bool, e = .returned (.bool b) ∧ (b = true → x ≤ 131072 ∧ ∀ r, r < n → d r ≤ 131072)) ∧ w' = w
set_option maxHeartbeats 2000000 in
theorem bytesFit_x (w : World) (a : Option Addr) (n k x : Nat) (A : Nat → Option Addr) (d C : Nat → Nat) (z : Nat → Nat → Int) (h : RG w a n A d C z) (hxb : x ≤ 9223372036854775807) :
    Calls Try.prog 7 #[.slice a n k, .int .i64 (x : Int)] w (RetFx w n d x) := by
  by_cases hx : x ≤ 131072
  · refine (bytesFit_calls w a n k x A d C z h).mono ?_
    rintro e w' ⟨⟨b, rfl, hb⟩, hw⟩
    exact ⟨⟨b, rfl, fun h => ⟨hx, hb h⟩⟩, hw⟩
  · have hn := h.nn
    clear h
    have hx0 : ¬ (x : Int) < 0 := by omega
    have hxi : (131072 : Int) < (x : Int) := by omega
    by_cases h0 : n ≤ 131072
    · have h0i : ¬ (131072 : Int) < (n : Int) := by omega
      go_enter Try.func7, Try.ntmps7
      go_wp2
      go_ret
      exact ⟨⟨_, rfl, fun h => by cases h⟩, rfl⟩
    · have h0i : (131072 : Int) < (n : Int) := by omega
      go_enter Try.func7, Try.ntmps7
      go_wp2
      go_ret
      exact ⟨⟨_, rfl, fun h => by cases h⟩, rfl⟩

set_option maxRecDepth 40000 in
set_option maxHeartbeats 4000000 in
theorem law3_calls (w : World) (a : Option Addr) (n k : Nat) (A : Nat → Option Addr) (d C : Nat → Nat) (z : Nat → Nat → Int) (ci : Int) (hci : ci ≤ 9223372036854775807 ∧ -9223372036854775808 ≤ ci) (h : RG w a n A d C z) (hk : a = none → n = 0 ∧ k = 0) (os : Option Addr) (m ks : Nat) (zs : Nat → Int) (hnil : os = none → m = 0 ∧ ks = 0) (hent : ∀ j, j < m → ∃ ad, os = some ad ∧ w.cell? (ad.add j) = some (.int .i64 (zs j))) (hks : m ≤ ks) (hmb : m ≤ 9223372036854775807) :
    Calls Try.prog 5 #[.slice a n k, .int .i64 ci, .slice os m ks] w fun e w' => e = .returned (.bool true) ∧ Below w.heap.size w w' := by
  have HRG : Hid (RG w a n A d C z) := h
  have HNK : Hid (a = none → n = 0 ∧ k = 0) := hk
  have HCI : Hid (ci ≤ 9223372036854775807 ∧ -9223372036854775808 ≤ ci) := hci
  have HST : Hid ((os = none → m = 0 ∧ ks = 0) ∧ (∀ j, j < m → ∃ ad, os = some ad ∧ w.cell? (ad.add j) = some (.int .i64 (zs j))) ∧ m ≤ ks) := ⟨hnil, hent, hks⟩
  have H6 : Hid (Calls Try.prog 18 #[.slice a n k, .int .i64 ci, .slice os m ks] w (RetB w)) := bytes18_calls w a n k A d C z ci os m ks hmb h
  have H7 : Hid (Calls Try.prog 7 #[.slice a n k, .int .i64 (m : Int)] w (RetFx w n d m)) := bytesFit_x w a n k m A d C z h hmb
  clear h hk hci hnil hent hks
  refine calls_of_wp (c := (Try.f5.body.getD .skip)) Try.func5 rfl ?_
  have hfr : ({ tmps := #[.slice a n k, .int .i64 ci, .slice os m ks] ++ Array.replicate (Try.f5.ntmps - (#[.slice a n k, .int .i64 ci, .slice os m ks] : Array Value).size) undef, defers := [] } : Act) = { tmps := #[.slice a n k, .int .i64 ci, .slice os m ks, undef, undef, undef, undef, undef, undef, undef, undef, undef, undef, undef, undef, undef, undef, undef, undef, undef, undef, undef, undef, undef, undef, undef, undef, undef, undef, undef, undef, undef, undef, undef, undef, undef, undef, undef, undef, undef, undef, undef, undef, undef, undef, undef, undef, undef, undef, undef, undef, undef, undef, undef, undef, undef, undef, undef, undef, undef, undef, undef, undef, undef, undef, undef, undef, undef, undef, undef, undef, undef, undef, undef, undef, undef, undef, undef, undef, undef, undef, undef, undef, undef, undef, undef, undef, undef, undef, undef, undef, undef, undef, undef, undef, undef, undef, undef, undef, undef, undef, undef, undef, undef, undef, undef, undef, undef, undef, undef, undef, undef, undef, undef, undef, undef, undef, undef, undef, undef, undef, undef, undef, undef, undef, undef, undef, undef, undef, undef, undef, undef, undef, undef, undef, undef, undef, undef, undef, undef, undef, undef, undef, undef, undef, undef, undef, undef, undef, undef, undef, undef, undef, undef, undef, undef, undef, undef, undef, undef, undef, undef, undef, undef, undef, undef, undef, undef, undef, undef, undef, undef, undef, undef, undef, undef, undef, undef, undef, undef, undef, undef, undef, undef, undef, undef, undef, undef, undef, undef, undef, undef, undef, undef, undef, undef, undef, undef, undef, undef, undef, undef, undef, undef, undef, undef, undef, undef, undef, undef, undef, undef, undef, undef, undef, undef, undef, undef, undef, undef, undef, undef, undef, undef, undef, undef, undef, undef, undef, undef, undef, undef, undef, undef, undef, undef, undef, undef, undef, undef, undef, undef, undef, undef, undef, undef, undef, undef, undef, undef, undef, undef, undef, undef, undef, undef, undef, undef, undef, undef, undef, undef, undef, undef, undef, undef, undef, undef, undef, undef, undef, undef, undef, undef, undef, undef, undef, undef, undef, undef, undef, undef, undef, undef, undef, undef, undef, undef, undef, undef, undef, undef, undef, undef, undef, undef, undef, undef, undef, undef, undef, undef, undef, undef, undef, undef, undef, undef, undef, undef, undef, undef, undef, undef, undef, undef, undef, undef, undef, undef, undef, undef, undef, undef, undef, undef, undef, undef, undef, undef, undef, undef, undef, undef, undef, undef, undef, undef, undef, undef, undef, undef, undef, undef, undef, undef, undef, undef, undef, undef, undef, undef, undef, undef, undef, undef, undef, undef, undef, undef, undef, undef, undef, undef, undef, undef, undef, undef, undef, undef, undef, undef, undef, undef, undef, undef, undef, undef, undef, undef, undef, undef, undef, undef, undef, undef, undef, undef, undef, undef, undef, undef, undef, undef, undef, undef, undef, undef, undef, undef, undef, undef, undef, undef, undef, undef, undef, undef, undef, undef, undef, undef, undef, undef, undef, undef, undef, undef, undef, undef, undef, undef, undef, undef, undef, undef, undef, undef, undef, undef, undef, undef, undef, undef, undef, undef, undef, undef, undef, undef, undef, undef, undef, undef, undef, undef, undef, undef, undef, undef, undef, undef, undef, undef, undef, undef, undef, undef, undef, undef, undef, undef, undef, undef, undef, undef, undef, undef, undef, undef, undef, undef, undef, undef, undef, undef, undef, undef, undef, undef, undef, undef, undef, undef, undef, undef, undef, undef, undef, undef, undef, undef, undef, undef, undef, undef, undef, undef, undef, undef, undef, undef, undef, undef, undef, undef, undef, undef, undef, undef, undef, undef, undef, undef, undef, undef, undef, undef, undef, undef, undef, undef, undef, undef, undef, undef, undef, undef, undef, undef, undef, undef, undef, undef, undef, undef, undef, undef, undef, undef, undef, undef, undef, undef, undef, undef, undef, undef, undef, undef, undef, undef, undef, undef, undef, undef, undef, undef, undef, undef, undef, undef, undef, undef, undef, undef, undef, undef, undef, undef, undef, undef, undef, undef, undef, undef, undef, undef, undef, undef, undef, undef, undef, undef, undef, undef], defers := [] } := by kernel_rfl
  rw [hfr]
  clear hfr
  show Code.wp Try.prog (Code.seq _ (Code.seq (Code.seq _ (Code.cond (.tmp 42) _ Code.skip)) (Code.seq (Code.seq _ (Code.cond (.tmp 47) _ Code.skip)) (Code.seq (Code.seq _ (Code.cond (.tmp 50) _ Code.skip)) (Code.seq _ (tl 5 (Try.f5.body.getD .skip))))))) _ _ w
  refine wp_seq_k (fun K1 hK => ?_)
  have HK1 : Hid (∀ (a : Act) (w : World), _ → K1 a w) := hK
  clear hK
  go_wp2
  refine HK1.out _ _ ?_
  clear HK1 K1
  refine wp_seq_k (fun K1 hK => ?_)
  have HK1 : Hid (∀ (a : Act) (w : World), _ → K1 a w) := hK
  clear hK
  refine wp_seq_k (fun K2 hK => ?_)
  have HK2 : Hid (∀ (a : Act) (w : World), _ → K2 a w) := hK
  clear hK
  go_wp2_with (go_at_call 18; refine H6.out.mono ?_; rintro e w2 ⟨⟨b, rfl⟩, hw2⟩; have HW2 : Hid (w2 = w) := hw2; clear hw2)
  obtain rfl := HW2.out
  clear HW2 H6
  cases b with
  | false =>
    refine HK2.out _ _ (wp_cond_true (by kernel_rfl) ?_)
    clear HK1 HK2 K2
    go_wp2
    go_ret
    exact ⟨rfl, Below.refl _ _⟩
  | true =>
  refine HK2.out _ _ (wp_cond_false (by kernel_rfl) (wp_skip ?_))
  refine HK1.out _ _ ?_
  clear HK1 K1 HK2 K2
  refine wp_seq_k (fun K1 hK => ?_)
  have HK1 : Hid (∀ (a : Act) (w : World), _ → K1 a w) := hK
  clear hK
  refine wp_seq_k (fun K2 hK => ?_)
  have HK2 : Hid (∀ (a : Act) (w : World), _ → K2 a w) := hK
  clear hK
  go_wp2_with (go_at_call 7; refine H7.out.mono ?_; rintro e w3 ⟨⟨b, rfl, hb⟩, hw3⟩; have HW3 : Hid (w3 = w2) := hw3; have HB : Hid (b = true → m ≤ 131072 ∧ ∀ r, r < n → d r ≤ 131072) := hb; clear hw3 hb)
  obtain rfl := HW3.out
  clear HW3 H7
  cases b with
  | false =>
    refine HK2.out _ _ (wp_cond_true (by kernel_rfl) ?_)
    clear HK1 HK2 K2
    go_wp2
    go_ret
    exact ⟨rfl, Below.refl _ _⟩
  | true =>
  have HM : Hid (m ≤ 131072) := (HB.out rfl).1
  have HB2 : Hid (∀ r, r < n → d r ≤ 131072) := (HB.out rfl).2
  clear HB
  have H8 : Hid (Calls Try.prog 8 #[.slice a n k] w3 (RetG w3 n d z)) := graphFits_calls w3 a n k A d C z HRG.out HB2.out
  refine HK2.out _ _ (wp_cond_false (by kernel_rfl) (wp_skip ?_))
  refine HK1.out _ _ ?_
  clear HK1 K1 HK2 K2
  refine wp_seq_k (fun K1 hK => ?_)
  have HK1 : Hid (∀ (a : Act) (w : World), _ → K1 a w) := hK
  clear hK
  refine wp_seq_k (fun K2 hK => ?_)
  have HK2 : Hid (∀ (a : Act) (w : World), _ → K2 a w) := hK
  clear hK
  go_wp2_with (go_at_call 8; refine H8.out.mono ?_; rintro e w4 ⟨⟨b, rfl, hb⟩, hw4⟩; have HW4 : Hid (w4 = w3) := hw4; have HG : Hid (b = true → (rgG n d z).Ok ∧ ∀ r c, r < n → c < d r → 0 ≤ z r c) := hb; clear hw4 hb)
  obtain rfl := HW4.out
  clear HW4 H8
  cases b with
  | false =>
    refine HK2.out _ _ (wp_cond_true (by kernel_rfl) ?_)
    clear HK1 HK2 K2
    go_wp2
    go_ret
    exact ⟨rfl, Below.refl _ _⟩
  | true =>
  have HG2 : Hid ((rgG n d z).Ok ∧ ∀ r c, r < n → c < d r → 0 ≤ z r c) := HG.out rfl
  clear HG
  have H9 : Hid (Calls Try.prog 9 #[.slice a n k] w4 (CGOut w4 n d z)) := cloneGraph_calls w4 a n k A d C z HRG.out HNK.out HG2.out.1.n HB2.out HG2.out.2
  refine HK2.out _ _ (wp_cond_false (by kernel_rfl) (wp_skip ?_))
  refine HK1.out _ _ ?_
  clear HK1 K1 HK2 K2
  refine wp_seq_k (fun K1 hK => ?_)
  have HK1 : Hid (∀ (a : Act) (w : World), _ → K1 a w) := hK
  clear hK
  go_wp2_with (go_at_call 9; refine H9.out.mono ?_; rintro e w5 ⟨Nf, a', k', rfl, hGM, hGr⟩; have HGM : Hid (GM w5 Nf (rgG n d z) a' k') := hGM; have HGR : Hid (Grew Fam.nil w4 Nf w5) := hGr; clear hGM hGr)
  refine HK1.out _ _ ?_
  clear HK1 K1 H9
  obtain ⟨s1, s2, s3⟩ := HST.out
  refine l3_g0 w4 w5 Nf (rgG n d z) a' k' HGM.out HG2.out.1 HGR.out.to_nil ci os m ks zs s1 (fun j hj => ?_) s3 HM.out _ (by kernel_rfl) (by kernel_rfl) (by kernel_rfl) (by kernel_rfl) (by kernel_rfl) ?_
  · obtain ⟨ad, e1, e2⟩ := s2 j hj
    exact ⟨ad, e1, HGR.out.cell e2⟩
  intro ac w6 o2 m2 p M P hs hd h0 h1 h2 h7 hS
  refine l3_g1 w4 w6 Nf (rgG n d z) a' k' p M P zs o2 m2 hS ci HCI.out ac hs hd h0 h1 h2 h7 ?_
  intro ac w7 gS gB c V str hf hS hQ
  refine l3_g2 w4 w7 Nf (rgG n d z) a' k' p M P V gB c gS hS ac hf ?_
  intro ac w8 R nc cls g0 g1 g2 g3 gM hf hS
  exact l3_g3 w4 w8 (rgG n d z) p M P V gB c R nc cls g0 g1 g2 g3 gM gS str hS hQ ac hf
end Go.Proofs.Qxb6602148a
