/-
  The third law: up to the model.
-/
import Derived.Test.Qxb6602148aLzc
attribute [local go_sem] Go.Proofs.Qxb6602148a.yTo Go.Proofs.Qxb6602148a.yUpon
namespace Go.Proofs.Qxb6602148a
open Go.RowKit
set_option linter.unusedVariables false
set_option linter.unusedSimpArgs false


/-- Behind 'new': the list handed lies in row 12, or is empty. -/
structure S9 (w w3 : World) (Nf : Fam) (G : GR) (a' : Option Addr) (k' p : Nat) (M : Fam) (P : PS) (z : Nat → Int) (o2 : Option Addr) (m2 : Nat) : Prop where
  gm : GM w3 Nf G a' k'
  ok : G.Ok
  pin : PIn w3 M P p
  gr : Grew Fam.nil w M w3
  meet : ∀ R nc cls, MOk G R nc cls → Meet (G.md R nc cls) P
  calm : Calm P
  nS : P.nS ≤ 12288
  nC : P.nC ≤ 4097
  ml : m2 ≤ 10000000
  st : m2 = 0 ∨ ∃ gS, o2 = some ⟨gS, 0, none⟩ ∧ M.b 12 = some gS ∧ M.cap 12 = m2 ∧ Ints M 12 m2 z
theorem PIn.join {w1 w2 w3 : World} {M : Fam} {P : PS} {p gS m : Nat} {F : Nat → Value} (h : PIn w3 M P p) (fr : Fresh w1 w2 3 1 gS m m F) (gr : Grew Fam.nil w2 M w3) : PIn w3 (M.put 12 (some gS) m m F) P p := by
  have hS := fr.rep (Rep.nil KP w1) 12 rfl
  have hlt : gS < w2.heap.size := hS.lt (i := 12) put_bs
  have hS3 : Rep KP w3 (Fam.nil.put 12 (some gS) m m F) := hS.kept (fun i g hb => gr.block g (hS.lt hb) (fun i e => by cases e))
  refine ⟨h.rep.join hS3 (fun i e => ?_), h.pm.put_local ⟨by omega, by omega⟩ _ _ _ _, (put_b (by omega)).trans h.b11, h.small, h.on, h.mn⟩
  rcases gr.own i gS e with ⟨j, hj⟩ | hge
  · cases hj
  · omega
theorem Grew.join {w w1 w2 w3 : World} {M : Fam} {gS m : Nat} {F : Nat → Value} (hw : Grew Fam.nil w Fam.nil w1) (fr : Fresh w1 w2 3 1 gS m m F) (gr : Grew Fam.nil w2 M w3) : Grew Fam.nil w (M.put 12 (some gS) m m F) w3 := by
  have g12 := fr.grew Fam.nil 12
  have g := (hw.trans g12.to_nil).trans gr
  refine ⟨g.os, g.tape, g.output, g.size, g.block, fun i g' hb => ?_⟩
  by_cases e : i = 12
  · subst e
    rw [put_bs] at hb
    injection hb with hb
    subst hb
    rcases g12.own 12 gS put_bs with ⟨j, hj⟩ | hge
    · cases hj
    · exact .inr (Nat.le_trans hw.size hge)
  · rw [put_b e] at hb
    exact g.own i g' hb
set_option maxRecDepth 40000 in
theorem l5y {a : Act} {u0 u1 u2 : Value} (hs : a.tmps.size = 586) (hd : a.defers = []) (h0 : a.tmps.getD 0 undef = u0) (h1 : a.tmps.getD 1 undef = u1) (h2 : a.tmps.getD 2 undef = u2) : ∃ y : Nat → Value, a = { tmps := #[u0, u1, u2, y 3, y 4, y 5, y 6, y 7, y 8, y 9, y 10, y 11, y 12, y 13, y 14, y 15, y 16, y 17, y 18, y 19, y 20, y 21, y 22, y 23, y 24, y 25, y 26, y 27, y 28, y 29, y 30, y 31, y 32, y 33, y 34, y 35, y 36, y 37, y 38, y 39, y 40, y 41, y 42, y 43, y 44, y 45, y 46, y 47, y 48, y 49, y 50, y 51, y 52, y 53, y 54, y 55, y 56, y 57, y 58, y 59, y 60, y 61, y 62, y 63, y 64, y 65, y 66, y 67, y 68, y 69, y 70, y 71, y 72, y 73, y 74, y 75, y 76, y 77, y 78, y 79, y 80, y 81, y 82, y 83, y 84, y 85, y 86, y 87, y 88, y 89, y 90, y 91, y 92, y 93, y 94, y 95, y 96, y 97, y 98, y 99, y 100, y 101, y 102, y 103, y 104, y 105, y 106, y 107, y 108, y 109, y 110, y 111, y 112, y 113, y 114, y 115, y 116, y 117, y 118, y 119, y 120, y 121, y 122, y 123, y 124, y 125, y 126, y 127, y 128, y 129, y 130, y 131, y 132, y 133, y 134, y 135, y 136, y 137, y 138, y 139, y 140, y 141, y 142, y 143, y 144, y 145, y 146, y 147, y 148, y 149, y 150, y 151, y 152, y 153, y 154, y 155, y 156, y 157, y 158, y 159, y 160, y 161, y 162, y 163, y 164, y 165, y 166, y 167, y 168, y 169, y 170, y 171, y 172, y 173, y 174, y 175, y 176, y 177, y 178, y 179, y 180, y 181, y 182, y 183, y 184, y 185, y 186, y 187, y 188, y 189, y 190, y 191, y 192, y 193, y 194, y 195, y 196, y 197, y 198, y 199, y 200, y 201, y 202, y 203, y 204, y 205, y 206, y 207, y 208, y 209, y 210, y 211, y 212, y 213, y 214, y 215, y 216, y 217, y 218, y 219, y 220, y 221, y 222, y 223, y 224, y 225, y 226, y 227, y 228, y 229, y 230, y 231, y 232, y 233, y 234, y 235, y 236, y 237, y 238, y 239, y 240, y 241, y 242, y 243, y 244, y 245, y 246, y 247, y 248, y 249, y 250, y 251, y 252, y 253, y 254, y 255, y 256, y 257, y 258, y 259, y 260, y 261, y 262, y 263, y 264, y 265, y 266, y 267, y 268, y 269, y 270, y 271, y 272, y 273, y 274, y 275, y 276, y 277, y 278, y 279, y 280, y 281, y 282, y 283, y 284, y 285, y 286, y 287, y 288, y 289, y 290, y 291, y 292, y 293, y 294, y 295, y 296, y 297, y 298, y 299, y 300, y 301, y 302, y 303, y 304, y 305, y 306, y 307, y 308, y 309, y 310, y 311, y 312, y 313, y 314, y 315, y 316, y 317, y 318, y 319, y 320, y 321, y 322, y 323, y 324, y 325, y 326, y 327, y 328, y 329, y 330, y 331, y 332, y 333, y 334, y 335, y 336, y 337, y 338, y 339, y 340, y 341, y 342, y 343, y 344, y 345, y 346, y 347, y 348, y 349, y 350, y 351, y 352, y 353, y 354, y 355, y 356, y 357, y 358, y 359, y 360, y 361, y 362, y 363, y 364, y 365, y 366, y 367, y 368, y 369, y 370, y 371, y 372, y 373, y 374, y 375, y 376, y 377, y 378, y 379, y 380, y 381, y 382, y 383, y 384, y 385, y 386, y 387, y 388, y 389, y 390, y 391, y 392, y 393, y 394, y 395, y 396, y 397, y 398, y 399, y 400, y 401, y 402, y 403, y 404, y 405, y 406, y 407, y 408, y 409, y 410, y 411, y 412, y 413, y 414, y 415, y 416, y 417, y 418, y 419, y 420, y 421, y 422, y 423, y 424, y 425, y 426, y 427, y 428, y 429, y 430, y 431, y 432, y 433, y 434, y 435, y 436, y 437, y 438, y 439, y 440, y 441, y 442, y 443, y 444, y 445, y 446, y 447, y 448, y 449, y 450, y 451, y 452, y 453, y 454, y 455, y 456, y 457, y 458, y 459, y 460, y 461, y 462, y 463, y 464, y 465, y 466, y 467, y 468, y 469, y 470, y 471, y 472, y 473, y 474, y 475, y 476, y 477, y 478, y 479, y 480, y 481, y 482, y 483, y 484, y 485, y 486, y 487, y 488, y 489, y 490, y 491, y 492, y 493, y 494, y 495, y 496, y 497, y 498, y 499, y 500, y 501, y 502, y 503, y 504, y 505, y 506, y 507, y 508, y 509, y 510, y 511, y 512, y 513, y 514, y 515, y 516, y 517, y 518, y 519, y 520, y 521, y 522, y 523, y 524, y 525, y 526, y 527, y 528, y 529, y 530, y 531, y 532, y 533, y 534, y 535, y 536, y 537, y 538, y 539, y 540, y 541, y 542, y 543, y 544, y 545, y 546, y 547, y 548, y 549, y 550, y 551, y 552, y 553, y 554, y 555, y 556, y 557, y 558, y 559, y 560, y 561, y 562, y 563, y 564, y 565, y 566, y 567, y 568, y 569, y 570, y 571, y 572, y 573, y 574, y 575, y 576, y 577, y 578, y 579, y 580, y 581, y 582, y 583, y 584, y 585], defers := [] } := by
  obtain ⟨tmps, defers⟩ := a
  have yd : defers = [] := hd
  subst yd
  obtain ⟨y, hy, hi⟩ := arr_586 tmps hs
  have e0 := (hi 0).trans h0
  have e1 := (hi 1).trans h1
  have e2 := (hi 2).trans h2
  rw [e0, e1, e2] at hy
  exact ⟨y, congrArg (fun t => (⟨t, []⟩ : Act)) hy⟩
set_option maxRecDepth 40000 in
theorem l5z {a : Act} {u0 u1 u2 u7 : Value} (hs : a.tmps.size = 586) (hd : a.defers = []) (h0 : a.tmps.getD 0 undef = u0) (h1 : a.tmps.getD 1 undef = u1) (h2 : a.tmps.getD 2 undef = u2) (h7 : a.tmps.getD 7 undef = u7) : ∃ y : Nat → Value, a = { tmps := #[u0, u1, u2, y 3, y 4, y 5, y 6, u7, y 8, y 9, y 10, y 11, y 12, y 13, y 14, y 15, y 16, y 17, y 18, y 19, y 20, y 21, y 22, y 23, y 24, y 25, y 26, y 27, y 28, y 29, y 30, y 31, y 32, y 33, y 34, y 35, y 36, y 37, y 38, y 39, y 40, y 41, y 42, y 43, y 44, y 45, y 46, y 47, y 48, y 49, y 50, y 51, y 52, y 53, y 54, y 55, y 56, y 57, y 58, y 59, y 60, y 61, y 62, y 63, y 64, y 65, y 66, y 67, y 68, y 69, y 70, y 71, y 72, y 73, y 74, y 75, y 76, y 77, y 78, y 79, y 80, y 81, y 82, y 83, y 84, y 85, y 86, y 87, y 88, y 89, y 90, y 91, y 92, y 93, y 94, y 95, y 96, y 97, y 98, y 99, y 100, y 101, y 102, y 103, y 104, y 105, y 106, y 107, y 108, y 109, y 110, y 111, y 112, y 113, y 114, y 115, y 116, y 117, y 118, y 119, y 120, y 121, y 122, y 123, y 124, y 125, y 126, y 127, y 128, y 129, y 130, y 131, y 132, y 133, y 134, y 135, y 136, y 137, y 138, y 139, y 140, y 141, y 142, y 143, y 144, y 145, y 146, y 147, y 148, y 149, y 150, y 151, y 152, y 153, y 154, y 155, y 156, y 157, y 158, y 159, y 160, y 161, y 162, y 163, y 164, y 165, y 166, y 167, y 168, y 169, y 170, y 171, y 172, y 173, y 174, y 175, y 176, y 177, y 178, y 179, y 180, y 181, y 182, y 183, y 184, y 185, y 186, y 187, y 188, y 189, y 190, y 191, y 192, y 193, y 194, y 195, y 196, y 197, y 198, y 199, y 200, y 201, y 202, y 203, y 204, y 205, y 206, y 207, y 208, y 209, y 210, y 211, y 212, y 213, y 214, y 215, y 216, y 217, y 218, y 219, y 220, y 221, y 222, y 223, y 224, y 225, y 226, y 227, y 228, y 229, y 230, y 231, y 232, y 233, y 234, y 235, y 236, y 237, y 238, y 239, y 240, y 241, y 242, y 243, y 244, y 245, y 246, y 247, y 248, y 249, y 250, y 251, y 252, y 253, y 254, y 255, y 256, y 257, y 258, y 259, y 260, y 261, y 262, y 263, y 264, y 265, y 266, y 267, y 268, y 269, y 270, y 271, y 272, y 273, y 274, y 275, y 276, y 277, y 278, y 279, y 280, y 281, y 282, y 283, y 284, y 285, y 286, y 287, y 288, y 289, y 290, y 291, y 292, y 293, y 294, y 295, y 296, y 297, y 298, y 299, y 300, y 301, y 302, y 303, y 304, y 305, y 306, y 307, y 308, y 309, y 310, y 311, y 312, y 313, y 314, y 315, y 316, y 317, y 318, y 319, y 320, y 321, y 322, y 323, y 324, y 325, y 326, y 327, y 328, y 329, y 330, y 331, y 332, y 333, y 334, y 335, y 336, y 337, y 338, y 339, y 340, y 341, y 342, y 343, y 344, y 345, y 346, y 347, y 348, y 349, y 350, y 351, y 352, y 353, y 354, y 355, y 356, y 357, y 358, y 359, y 360, y 361, y 362, y 363, y 364, y 365, y 366, y 367, y 368, y 369, y 370, y 371, y 372, y 373, y 374, y 375, y 376, y 377, y 378, y 379, y 380, y 381, y 382, y 383, y 384, y 385, y 386, y 387, y 388, y 389, y 390, y 391, y 392, y 393, y 394, y 395, y 396, y 397, y 398, y 399, y 400, y 401, y 402, y 403, y 404, y 405, y 406, y 407, y 408, y 409, y 410, y 411, y 412, y 413, y 414, y 415, y 416, y 417, y 418, y 419, y 420, y 421, y 422, y 423, y 424, y 425, y 426, y 427, y 428, y 429, y 430, y 431, y 432, y 433, y 434, y 435, y 436, y 437, y 438, y 439, y 440, y 441, y 442, y 443, y 444, y 445, y 446, y 447, y 448, y 449, y 450, y 451, y 452, y 453, y 454, y 455, y 456, y 457, y 458, y 459, y 460, y 461, y 462, y 463, y 464, y 465, y 466, y 467, y 468, y 469, y 470, y 471, y 472, y 473, y 474, y 475, y 476, y 477, y 478, y 479, y 480, y 481, y 482, y 483, y 484, y 485, y 486, y 487, y 488, y 489, y 490, y 491, y 492, y 493, y 494, y 495, y 496, y 497, y 498, y 499, y 500, y 501, y 502, y 503, y 504, y 505, y 506, y 507, y 508, y 509, y 510, y 511, y 512, y 513, y 514, y 515, y 516, y 517, y 518, y 519, y 520, y 521, y 522, y 523, y 524, y 525, y 526, y 527, y 528, y 529, y 530, y 531, y 532, y 533, y 534, y 535, y 536, y 537, y 538, y 539, y 540, y 541, y 542, y 543, y 544, y 545, y 546, y 547, y 548, y 549, y 550, y 551, y 552, y 553, y 554, y 555, y 556, y 557, y 558, y 559, y 560, y 561, y 562, y 563, y 564, y 565, y 566, y 567, y 568, y 569, y 570, y 571, y 572, y 573, y 574, y 575, y 576, y 577, y 578, y 579, y 580, y 581, y 582, y 583, y 584, y 585], defers := [] } := by
  obtain ⟨tmps, defers⟩ := a
  have yd : defers = [] := hd
  subst yd
  obtain ⟨y, hy, hi⟩ := arr_586 tmps hs
  have e0 := (hi 0).trans h0
  have e1 := (hi 1).trans h1
  have e2 := (hi 2).trans h2
  have e7 := (hi 7).trans h7
  rw [e0, e1, e2, e7] at hy
  exact ⟨y, congrArg (fun t => (⟨t, []⟩ : Act)) hy⟩

set_option maxRecDepth 40000 in
set_option maxHeartbeats 8000000 in
/-- Regions 8 and 9. -/
theorem l3_g0 (w w1 : World) (Nf : Fam) (G : GR) (a' : Option Addr) (k' : Nat) (hG : GM w1 Nf G a' k') (ok : G.Ok) (hw : Grew Fam.nil w Fam.nil w1) (ci : Int) (os : Option Addr) (m ks : Nat) (z : Nat → Int) (hnil : os = none → m = 0 ∧ ks = 0) (hent : ∀ j, j < m → ∃ ad, os = some ad ∧ w1.cell? (ad.add j) = some (.int .i64 (z j))) (hks : m ≤ ks) (hm : m ≤ 131072) (a : Act) (hs : a.tmps.size = 586) (hd : a.defers = []) (h0 : a.tmps.getD 0 undef = .slice a' G.n k') (h1 : a.tmps.getD 1 undef = .int .i64 ci) (h2 : a.tmps.getD 2 undef = .slice os m ks)
    (hC : ∀ (a : Act) (w3 : World) (o2 : Option Addr) (m2 p : Nat) (M : Fam) (P : PS), a.tmps.size = 586 → a.defers = [] → a.tmps.getD 0 undef = .slice a' G.n k' → a.tmps.getD 1 undef = .int .i64 ci → a.tmps.getD 2 undef = .slice o2 m2 m2 → a.tmps.getD 7 undef = .pointer (some ⟨p, 0, none⟩) → S9 w w3 Nf G a' k' p M P z o2 m2 → Code.wp Try.prog (tl 7 (Try.f5.body.getD .skip)) (bodyPost Try.prog Try.f5 fun e w' => e = .returned (.bool true) ∧ Below w.heap.size w w') a w3) :
    Code.wp Try.prog (tl 5 (Try.f5.body.getD .skip)) (bodyPost Try.prog Try.f5 fun e w' => e = .returned (.bool true) ∧ Below w.heap.size w w') a w1 := by
  obtain ⟨y, rfl⟩ := l5y hs hd h0 h1 h2
  have HCI : Hid (Calls Try.prog 19 #[.slice os m ks] w1 fun e w2 => ∃ o2 m2, e = .returned (.slice o2 m2 m2) ∧ m2 ≤ 10000000 ∧ ((m2 = 0 ∧ w2 = w1) ∨ ∃ gS, o2 = some ⟨gS, 0, none⟩ ∧ Fresh w1 w2 3 1 gS m2 m2 (fun j => .int .i64 (z j)))) := by
    refine (cloneInts_calls w1 os m ks z hnil hent hks (by omega)).mono ?_
    rintro e w2 (⟨_, rfl, rfl⟩ | ⟨g, rfl, hf⟩)
    · exact ⟨none, 0, rfl, by omega, .inl ⟨rfl, rfl⟩⟩
    · exact ⟨_, _, rfl, by omega, .inr ⟨g, rfl, hf⟩⟩
  have HC : Hid (∀ (a : Act) (w3 : World) (o2 : Option Addr) (m2 p : Nat) (M : Fam) (P : PS), a.tmps.size = 586 → a.defers = [] → a.tmps.getD 0 undef = .slice a' G.n k' → a.tmps.getD 1 undef = .int .i64 ci → a.tmps.getD 2 undef = .slice o2 m2 m2 → a.tmps.getD 7 undef = .pointer (some ⟨p, 0, none⟩) → S9 w w3 Nf G a' k' p M P z o2 m2 → Code.wp Try.prog (tl 7 (Try.f5.body.getD .skip)) (bodyPost Try.prog Try.f5 fun e w' => e = .returned (.bool true) ∧ Below w.heap.size w w') a w3) := hC
  have HG : Hid (GM w1 Nf G a' k') := hG
  have HO : Hid G.Ok := ok
  have HW : Hid (Grew Fam.nil w Fam.nil w1) := hw
  clear hs hd h0 h1 h2 hC hG ok hw hnil hent hks hm
  show Code.wp Try.prog (Code.seq _ (Code.seq _ (tl 7 (Try.f5.body.getD .skip)))) _ _ w1
  refine wp_seq_k (fun K1 hK => ?_)
  have HK1 : Hid (∀ (a : Act) (w : World), _ → K1 a w) := hK
  clear hK
  go_wp2_with (go_at_call 19; refine HCI.out.mono ?_; rintro e w2 ⟨o2, m2, rfl, hm2, hst⟩; have HST : Hid ((m2 = 0 ∧ w2 = w1) ∨ ∃ gS, o2 = some ⟨gS, 0, none⟩ ∧ Fresh w1 w2 3 1 gS m2 m2 (fun j => .int .i64 (z j))) := hst; clear hst)
  refine HK1.out _ _ ?_
  clear HK1 K1 HCI
  have g12 : Grew Fam.nil w1 Fam.nil w2 := by
    rcases HST.out with ⟨_, rfl⟩ | ⟨gS, _, fr⟩
    · exact Grew.refl _ _
    · exact (fr.grew Fam.nil 12).to_nil
  have hG2 := HG.out.kept g12
  have HN : Hid (Calls Try.prog 11 #[.slice a' G.n k'] w2 fun e w' => ∃ p, e = .returned (.pointer (some ⟨p, 0, none⟩)) ∧ NDone w2 G p w') := zzNew_calls w2 Nf G a' k' hG2 HO.out
  have HX : Hid (∀ p w3, NDone w2 G p w3 → ∃ M P, S9 w w3 Nf G a' k' p M P z o2 m2) := by
    intro p w3 hP
    obtain ⟨R0, nc0, cls0, hm0⟩ := HO.out.mok
    obtain ⟨M, P, P0, L, hpin, _, hNP, hDF, gr, nS, nC, hDE⟩ := hP.pin HO.out hm0
    have hmeet : ∀ R nc cls, MOk G R nc cls → Meet (G.md R nc cls) P := fun R nc cls hm => (hNP.meet HO.out hm hDE).1
    rcases HST.out with ⟨h0, rfl⟩ | ⟨gS, rfl, fr⟩
    · exact ⟨M, P, hG2.kept gr, HO.out, hpin, HW.out.trans gr, hmeet, hNP.calm HO.out hDF, nS, nC, hm2, .inl h0⟩
    · exact ⟨_, P, hG2.kept gr, HO.out, hpin.join fr gr, HW.out.join fr gr, hmeet, hNP.calm HO.out hDF, nS, nC, hm2, .inr ⟨gS, rfl, put_bs, by simp [Fam.put], put_ns, fun j _ => by rw [put_Fs]⟩⟩
  clear HST g12 hG2 HG HO HW hm2
  refine wp_seq_k (fun K1 hK => ?_)
  have HK1 : Hid (∀ (a : Act) (w : World), _ → K1 a w) := hK
  clear hK
  go_wp2_with (go_at_call 11; refine HN.out.mono ?_; rintro e w3 ⟨p, rfl, hP⟩; have HP : Hid (NDone w2 G p w3) := hP; clear hP)
  refine HK1.out _ _ ?_
  clear HK1 K1 HN
  obtain ⟨M, P, h9⟩ := HX.out p w3 HP.out
  exact HC.out _ w3 o2 m2 p M P (by kernel_rfl) (by kernel_rfl) (by kernel_rfl) (by kernel_rfl) (by kernel_rfl) (by kernel_rfl) h9

structure F5e (a' : Option Addr) (n k' gS mc p gB c : Nat) (a : Act) : Prop where
  sz : a.tmps.size = 586
  df : a.defers = []
  s0 : a.tmps.getD 0 undef = .slice a' n k'
  s1 : a.tmps.getD 1 undef = .int .i64 (c : Int)
  s2 : a.tmps.getD 2 undef = .slice (some ⟨gS, 0, none⟩) mc mc
  s7 : a.tmps.getD 7 undef = .pointer (some ⟨p, 0, none⟩)
  s8 : a.tmps.getD 8 undef = .pointer (some ⟨gB, 0, none⟩)
set_option maxRecDepth 40000 in
set_option maxHeartbeats 8000000 in
/-- Regions 10 and 11. -/
theorem l3_g1 (w w3 : World) (Nf : Fam) (G : GR) (a' : Option Addr) (k' p : Nat) (M : Fam) (P : PS) (z : Nat → Int) (o2 : Option Addr) (m2 : Nat) (h9 : S9 w w3 Nf G a' k' p M P z o2 m2) (ci : Int) (hci : ci ≤ 9223372036854775807 ∧ -9223372036854775808 ≤ ci) (a : Act) (hs : a.tmps.size = 586) (hd : a.defers = []) (h0 : a.tmps.getD 0 undef = .slice a' G.n k') (h1 : a.tmps.getD 1 undef = .int .i64 ci) (h2 : a.tmps.getD 2 undef = .slice o2 m2 m2) (h7 : a.tmps.getD 7 undef = .pointer (some ⟨p, 0, none⟩))
    (hC : ∀ (a : Act) (w5 : World) (gS gB c : Nat) (V : Fam) (str : Nat → Nat), F5e a' G.n k' gS (P.mn c) p gB c a → S10 w w5 Nf G a' k' p M P V gB c → Q12 M P c gS str → Code.wp Try.prog (tl 9 (Try.f5.body.getD .skip)) (bodyPost Try.prog Try.f5 fun e w' => e = .returned (.bool true) ∧ Below w.heap.size w w') a w5) :
    Code.wp Try.prog (tl 7 (Try.f5.body.getD .skip)) (bodyPost Try.prog Try.f5 fun e w' => e = .returned (.bool true) ∧ Below w.heap.size w w') a w3 := by
  obtain ⟨y, rfl⟩ := l5z hs hd h0 h1 h2 h7
  have H9 : Hid (S9 w w3 Nf G a' k' p M P z o2 m2) := h9
  have HC : Hid (∀ (a : Act) (w5 : World) (gS gB c : Nat) (V : Fam) (str : Nat → Nat), F5e a' G.n k' gS (P.mn c) p gB c a → S10 w w5 Nf G a' k' p M P V gB c → Q12 M P c gS str → Code.wp Try.prog (tl 9 (Try.f5.body.getD .skip)) (bodyPost Try.prog Try.f5 fun e w' => e = .returned (.bool true) ∧ Below w.heap.size w w') a w5) := hC
  have HT : Hid (Calls Try.prog 13 #[.pointer (some ⟨p, 0, none⟩)] w3 fun e w' => ∃ V a0 n0 k0 a1 n1 k1 a2 n2 k2 a3 n3 k3 a4 n4 k4 a5 n5 k5 a6 n6 k6, e = .returned (.agg #[.slice a0 n0 k0, .slice a1 n1 k1, .slice a2 n2 k2, .slice a3 n3 k3, .slice a4 n4 k4, .slice a5 n5 k5, .slice a6 n6 k6]) ∧ (#[.slice a0 n0 k0, .slice a1 n1 k1, .slice a2 n2 k2, .slice a3 n3 k3, .slice a4 n4 k4, .slice a5 n5 k5, .slice a6 n6 k6] : Array Value) = #[V.val 0, V.val 1, V.val 2, V.val 3, V.val 4, V.val 5, V.val 6] ∧ VOut w3 P V w') := take_slices (take_calls w3 M P p h9.pin)
  have nS := h9.nS
  have nC := h9.nC
  clear hs hd h0 h1 h2 h7 hC h9
  show Code.wp Try.prog (Code.seq _ (Code.seq (Code.seq _ (Code.cond (.tmp 69) (Code.seq _ _) Code.skip)) (tl 9 (Try.f5.body.getD .skip)))) _ _ w3
  refine wp_seq_k (fun K1 hK => ?_)
  have HK1 : Hid (∀ (a : Act) (w : World), _ → K1 a w) := hK
  clear hK
  go_wp2_with (go_at_call 13; refine HT.out.mono ?_; rintro e w4 ⟨V, a0, n0, k0, a1, n1, k1, a2, n2, k2, a3, n3, k3, a4, n4, k4, a5, n5, k5, a6, n6, k6, rfl, hq, hV⟩; have HV : Hid (VOut w3 P V w4) := hV; have HQ : Hid ((#[.slice a0 n0 k0, .slice a1 n1 k1, .slice a2 n2 k2, .slice a3 n3 k3, .slice a4 n4 k4, .slice a5 n5 k5, .slice a6 n6 k6] : Array Value) = #[V.val 0, V.val 1, V.val 2, V.val 3, V.val 4, V.val 5, V.val 6]) := hq; clear hV hq)
  refine HK1.out _ _ ?_
  clear HK1 K1 HT
  rw [HQ.out]
  have b4 : (w4.alloc (.cells #[V.val 0, V.val 1, V.val 2, V.val 3, V.val 4, V.val 5, V.val 6] 35)).heap[w4.heap.size]? = some (.cells #[V.val 0, V.val 1, V.val 2, V.val 3, V.val 4, V.val 5, V.val 6] 35) := heap_alloc_new w4 _
  have g34 : Grew Fam.nil w4 Fam.nil (w4.alloc (.cells #[V.val 0, V.val 1, V.val 2, V.val 3, V.val 4, V.val 5, V.val 6] 35)) := (Grew.refl Fam.nil w4).alloc _
  have sz3 : w3.heap.size ≤ w4.heap.size := HV.out.2.1.size
  generalize hgb : w4.heap.size = gB at *
  generalize w4.alloc (.cells #[V.val 0, V.val 1, V.val 2, V.val 3, V.val 4, V.val 5, V.val 6] 35) = wx at *
  obtain ⟨rv4, vm4⟩ := HV.out.kept g34
  have g24 : Grew Fam.nil w3 Fam.nil wx := HV.out.2.1.to_nil.trans g34
  have HBX : Hid (∀ w', Grew Fam.nil wx Fam.nil w' → ∀ (j : Nat) (v : Value), (#[V.val 0, V.val 1, V.val 2, V.val 3, V.val 4, V.val 5, V.val 6] : Array Value)[j]? = some v → w'.cell? ⟨gB, j, none⟩ = some v) := fun w' hg j v hv => by
    rw [cell_of_row w' gB j _ _ _ (box_kept b4 hg)]; exact hv
  have d0 : wx.cell? ⟨gB, 0, none⟩ = some (V.val 0) := by rw [cell_of_row wx gB 0 _ _ _ b4]; rfl
  have d1 : wx.cell? ⟨gB, 1, none⟩ = some (V.val 1) := by rw [cell_of_row wx gB 1 _ _ _ b4]; rfl
  have d2 : wx.cell? ⟨gB, 2, none⟩ = some (V.val 2) := by rw [cell_of_row wx gB 2 _ _ _ b4]; rfl
  have d3 : wx.cell? ⟨gB, 3, none⟩ = some (V.val 3) := by rw [cell_of_row wx gB 3 _ _ _ b4]; rfl
  have d4 : wx.cell? ⟨gB, 4, none⟩ = some (V.val 4) := by rw [cell_of_row wx gB 4 _ _ _ b4]; rfl
  have d5 : wx.cell? ⟨gB, 5, none⟩ = some (V.val 5) := by rw [cell_of_row wx gB 5 _ _ _ b4]; rfl
  have d6 : wx.cell? ⟨gB, 6, none⟩ = some (V.val 6) := by rw [cell_of_row wx gB 6 _ _ _ b4]; rfl
  have hcall := inUse_calls wx V P ci rv4 vm4 (by omega) hci
  have RV : ∀ w', Grew Fam.nil wx Fam.nil w' → Rep KV w' V := fun w' hg => rv4.kept (fun i g hb => hg.block g (rv4.lt hb) (fun i e => by cases e))
  have FIN : Hid (∀ w5, Grew Fam.nil wx Fam.nil w5 → Below w.heap.size w w5 ∧ ∀ c : Nat, ci = (c : Int) → InU P ci → S10 w w5 Nf G a' k' p M P V gB c) := by
    intro w5 hg
    have g25 := g24.trans hg
    have hpin := H9.out.pin
    refine ⟨(H9.out.gr.keep g25).below, fun c hc hU => ?_⟩
    rw [hc] at hU
    obtain ⟨_, u2, u3⟩ := hU
    rw [Int.toNat_natCast] at u2 u3
    refine ⟨H9.out.gm.kept g25, H9.out.ok, hpin.kept g25, RV w5 hg, vm4, box_kept b4 hg, H9.out.gr.keep g25, fun i g hb j hj => ?_, fun j hj => ?_, H9.out.meet, H9.out.calm, u2, u3, nS, nC⟩
    · rcases HV.out.2.1.own i g hb with ⟨q, hq⟩ | hge
      · cases hq
      · have := hpin.rep.lt hj; omega
    · have := hpin.rep.lt hj; omega
  by_cases hU : InU P ci
  · have HU : Hid (Calls Try.prog 15 #[.agg #[V.val 0, V.val 1, V.val 2, V.val 3, V.val 4, V.val 5, V.val 6], .int .i64 ci] wx fun e w' => e = .returned (.bool true) ∧ Grew Fam.nil wx Fam.nil w') := by
      refine hcall.mono ?_
      rintro e w' ⟨b, rfl, hb, hg⟩
      exact ⟨by rw [hb.2 hU], hg⟩
    obtain ⟨c, rfl⟩ : ∃ c : Nat, ci = (c : Int) := ⟨ci.toNat, by have := hU.1; omega⟩
    have HUU : Hid (InU P (c : Int)) := hU
    have HOR : Hid (∀ w5, Grew Fam.nil wx Fam.nil w5 → Calls Try.prog 20 #[.agg #[V.val 0, V.val 1, V.val 2, V.val 3, V.val 4, V.val 5, V.val 6], .int .i64 (c : Int), .slice o2 m2 m2] w5 (RetO w5 P c m2 z)) := by
      intro w5 hg
      have hS := (FIN.out w5 hg).2 c rfl hU
      obtain ⟨R0, nc0, cls0, hm0⟩ := hS.ok.mok
      have hmt := hS.meet R0 nc0 cls0 hm0
      have hml := hmt.mn_le hS.c1
      refine orders_calls w5 V P c o2 m2 m2 z hS.rv hS.vm hS.c1 hS.c2 (fun j hj => ⟨(hmt.bmem hS.c1 hj).1, (hmt.bmem hS.c1 hj).2.1⟩) (by omega) (by omega) (by omega) (fun j hj => ?_) H9.out.ml
      rcases H9.out.st with h0 | ⟨gS, rfl, h3, h4, h5⟩
      · omega
      · exact ⟨gS, rfl, Nat.le_refl _, h5.cell hS.pin.rep h3 rfl hj⟩
    clear hcall b4 g34 rv4 vm4 g24 RV HV sz3 hgb nS nC hU hci
    refine wp_seq_k (fun K1 hK => ?_)
    have HK1 : Hid (∀ (a : Act) (w : World), _ → K1 a w) := hK
    clear hK
    refine wp_seq_k (fun K2 hK => ?_)
    have HK2 : Hid (∀ (a : Act) (w : World), _ → K2 a w) := hK
    clear hK
    go_wp2_with (first
      | (go_at_call 20; refine (HOR.out w5 HG5.out).mono ?_; rintro er w6 ⟨b, rfl, hb, hg⟩; have HB : Hid (b = true → m2 = P.mn c ∧ ∃ str : Nat → Nat, (∀ i, i < m2 → z i = ((str i : Nat) : Int)) ∧ Ord P c str) := hb; have HG6 : Hid (Grew Fam.nil w5 Fam.nil w6) := hg; clear hb hg)
      | (go_at_call 15; refine HU.out.mono ?_; rintro er w5 ⟨rfl, hg⟩; have HG5 : Hid (Grew Fam.nil wx Fam.nil w5) := hg; clear hg; have u0 := HBX.out w5 HG5.out 0 _ rfl; have u1 := HBX.out w5 HG5.out 1 _ rfl; have u2 := HBX.out w5 HG5.out 2 _ rfl; have u3 := HBX.out w5 HG5.out 3 _ rfl; have u4 := HBX.out w5 HG5.out 4 _ rfl; have u5 := HBX.out w5 HG5.out 5 _ rfl; have u6 := HBX.out w5 HG5.out 6 _ rfl))
    have HF := FIN.out w6 (HG5.out.trans HG6.out)
    cases b with
    | false =>
      refine HK2.out _ _ (wp_cond_true (by kernel_rfl) ?_)
      have fin : Hid (Below w.heap.size w w6) := HF.1
      clear HK1 HK2 K2 HU FIN HC HB HG5 HG6 HF HOR HBX H9 d0 d1 d2 d3 d4 d5 d6 u0 u1 u2 u3 u4 u5 u6
      go_wp2
      go_ret
      exact ⟨rfl, fin.out⟩
    | true =>
      obtain ⟨e1, str, e2, e3⟩ := HB.out rfl
      have hS := HF.2 c rfl HUU.out
      have hne := hS.c2
      obtain ⟨gS, rfl, h3, h4, h5⟩ : ∃ gS, o2 = some ⟨gS, 0, none⟩ ∧ M.b 12 = some gS ∧ M.cap 12 = m2 ∧ Ints M 12 m2 z := by
        rcases H9.out.st with h0 | h
        · omega
        · exact h
      subst e1
      refine HK2.out _ _ (wp_cond_false (by kernel_rfl) (wp_skip ?_))
      refine HK1.out _ _ ?_
      exact HC.out _ w6 gS gB c V str ⟨by kernel_rfl, by kernel_rfl, by kernel_rfl, by kernel_rfl, by kernel_rfl, by kernel_rfl, by kernel_rfl⟩ hS ⟨h3, h4, h5.congr e2, e3⟩
  · have HU : Hid (Calls Try.prog 15 #[.agg #[V.val 0, V.val 1, V.val 2, V.val 3, V.val 4, V.val 5, V.val 6], .int .i64 ci] wx fun e w' => e = .returned (.bool false) ∧ Grew Fam.nil wx Fam.nil w') := by
      refine hcall.mono ?_
      rintro e w' ⟨b, rfl, hb, hg⟩
      have : b = false := by
        cases b with
        | false => rfl
        | true => exact absurd (hb.1 rfl) hU
      subst this
      exact ⟨rfl, hg⟩
    clear hcall b4 g34 rv4 vm4 g24 RV HV sz3 hgb nS nC hU hci
    refine wp_seq_k (fun K1 hK => ?_)
    have HK1 : Hid (∀ (a : Act) (w : World), _ → K1 a w) := hK
    clear hK
    refine wp_seq_k (fun K2 hK => ?_)
    have HK2 : Hid (∀ (a : Act) (w : World), _ → K2 a w) := hK
    clear hK
    go_wp2_with (go_at_call 15; refine HU.out.mono ?_; rintro er w5 ⟨rfl, hg⟩; have HG5 : Hid (Grew Fam.nil wx Fam.nil w5) := hg; clear hg)
    refine HK2.out _ _ (wp_cond_true (by kernel_rfl) ?_)
    have fin : Hid (Below w.heap.size w w5) := (FIN.out w5 HG5.out).1
    clear HK1 HK2 K2 HU FIN HC HG5 HBX H9 d0 d1 d2 d3 d4 d5 d6
    go_wp2
    go_ret
    exact ⟨rfl, fin.out⟩
end Go.Proofs.Qxb6602148a
