/-
  The third law: what its loops are told; the edges.
-/
import Derived.Test.Qxb6602148aLn
import Derived.Test.Qxb6602148aMtc
attribute [local go_sem] Go.Proofs.Qxb6602148a.yTo Go.Proofs.Qxb6602148a.yUpon
namespace Go.Proofs.Qxb6602148a
open Go.RowKit
set_option linter.unusedVariables false
set_option linter.unusedSimpArgs false

theorem MM.keep {wb w1 w2 : World} {D D' : Fam} (h : MM wb D w1) (hg : Grew Fam.nil w1 D' w2) : MM wb D w2 :=
  ⟨h.rep.kept (fun i g hb => hg.block g (h.rep.lt hb) (fun i e => by cases e)), ⟨hg.os.trans h.grew.os, hg.tape.trans h.grew.tape, hg.output.trans h.grew.output, Nat.le_trans h.grew.size hg.size, fun k hk hn => (hg.block k (Nat.lt_of_lt_of_le hk h.grew.size) (fun i e => by cases e)).trans (h.grew.block k hk hn), h.grew.own⟩⟩
/-- What the loops are told. -/
structure L3In (wb : World) (gB gM gA : Nat) (V : Fam) (G : GR) (R : Nat → Nat → Bool) (nc : Nat) (cls : Nat → Nat) (P P2 : PS) (c D0 : Nat) (nu : Nat → Nat) : Prop where
  vb : VIn wb gB P
  va : VIn wb gA P2
  m0 : wb.cell? ⟨gM, 0, none⟩ = some (.int .i64 (G.n : Int))
  m1 : Rdi wb gM 1 G.E (fun e => ((G.sr e : Nat) : Int))
  m2 : Rdi wb gM 2 G.E (fun e => ((G.ds e : Nat) : Int))
  box : wb.heap[gB]? = some (.cells #[V.val 0, V.val 1, V.val 2, V.val 3, V.val 4, V.val 5, V.val 6] 35)
  rv : Rep KV wb V
  vm : VM V P
  meet : Meet (G.md R nc cls) P
  calm : Calm P
  c1 : c < P.nC
  c2 : P.mn c ≠ 0
  sf : SF G.E P c D0 nu P2
  sm : G.E ≤ 4096 ∧ G.n ≤ 4096 ∧ P.nS ≤ 200000 ∧ P.nC ≤ 200000 ∧ P2.nS ≤ 200000 ∧ P2.nC ≤ 200000
  mnb : ∀ k, k < P.nC → P.mn k ≤ 1000000
section
variable {wb : World} {gB gM gA : Nat} {V : Fam} {G : GR} {R : Nat → Nat → Bool} {nc : Nat} {cls : Nat → Nat} {P P2 : PS} {c D0 : Nat} {nu : Nat → Nat}
theorem L3In.bcell (h : L3In wb gB gM gA V G R nc cls P P2 c D0 nu) {D : Fam} {w : World} (hg : Grew Fam.nil wb D w) (j : Nat) (v : Value) (hv : (#[V.val 0, V.val 1, V.val 2, V.val 3, V.val 4, V.val 5, V.val 6] : Array Value)[j]? = some v) : w.cell? ⟨gB, j, none⟩ = some v := by
  refine hg.cell ?_
  rw [cell_of_row wb gB j _ _ _ h.box]; exact hv
theorem L3In.nE (h : L3In wb gB gM gA V G R nc cls P P2 c D0 nu) : P.nE = G.E ∧ P2.nE = G.E := ⟨h.meet.nE, h.sf.nE.trans h.meet.nE⟩
/-- The component's edges, as a test. -/
def pC (G : GR) (R : Nat → Nat → Bool) (nc : Nat) (cls : Nat → Nat) (P : PS) (c e : Nat) : Bool := (G.md R nc cls).inc P c e
theorem L3In.pc (h : L3In wb gB gM gA V G R nc cls P P2 c D0 nu) {e : Nat} (he : e < G.E) : pC G R nc cls P c e = true ↔ InC P (P.mn c) (P.sl c) e := by
  unfold pC MD.inc
  rw [Bool.and_eq_true, h.meet.binC h.c1 h.c2]
  constructor
  · rintro ⟨h1, h2⟩; exact ⟨he, h1, by simpa using h2⟩
  · rintro ⟨_, h1, h2⟩; exact ⟨h1, by rw [h2]; simp⟩
/-- A new slot was not in use. -/
theorem L3In.nwu (h : L3In wb gB gM gA V G R nc cls P P2 c D0 nu) {k : Nat} (hk : k < P.mn c) : ¬ WU P ((P.ns k : Nat) : Int) := by
  rintro ⟨_, h1, h2⟩
  rw [Int.toNat_natCast] at h1 h2
  unfold PS.ns at h1 h2
  by_cases hh : k < P.nF
  · rw [if_pos hh] at h2
    have := h.calm.fr0 (P.nF - 1 - k) (by omega)
    omega
  · rw [if_neg hh] at h1; omega
/-- An edge of the component. -/
theorem L3In.ein (h : L3In wb gB gM gA V G R nc cls P P2 c D0 nu) {e : Nat} (he : e < G.E) (hp : pC G R nc cls P c e = true) : ∃ f k k' : Nat, k < P.mn c ∧ k' < P.mn c ∧ P.fr e = (f : Int) ∧ f < P.nS ∧ P.comp f = (c : Int) ∧ P2.fr e = ((P.ns k : Nat) : Int) ∧ P2.to e = ((P.ns k' : Nat) : Int) ∧ P.ns k < P2.nS ∧ P.ns k' < P2.nS ∧ P2.node (P.ns k) = ((G.sr e : Nat) : Int) ∧ P2.node (P.ns k') = ((G.ds e : Nat) : Int) ∧ P2.comp (P.ns k) = (D0 : Int) ∧ P2.comp (P.ns k') = (D0 : Int) := by
  have hi := (h.pc he).1 hp
  obtain ⟨f, t, q1, q2, ⟨j, j1, j2⟩, q4, q5, q6⟩ := h.meet.bends h.c1 h.c2 hi
  obtain ⟨_, b2, b3, _⟩ := h.meet.bmem h.c1 j1
  rw [j2] at b2 b3
  obtain ⟨k, k', k1, k1', m1, m2, m3, m4⟩ := h.sf.ein e hi
  have e1 : nu k = f := by rw [q1] at m3; omega
  have e2 : nu k' = t := by rw [q2] at m4; omega
  exact ⟨f, k, k', k1, k1', q1, b2, b3, m1, m2, h.sf.lt k k1, h.sf.lt k' k1', by rw [h.sf.node k k1, e1]; exact q5, by rw [h.sf.node k' k1', e2]; exact q6, h.sf.comp k k1, h.sf.comp k' k1'⟩
/-- Another edge. -/
theorem L3In.eoth (h : L3In wb gB gM gA V G R nc cls P P2 c D0 nu) {e : Nat} (he : e < G.E) (hp : pC G R nc cls P c e = false) : (P.fr e = -1 ∨ ∃ f d : Nat, P.fr e = (f : Int) ∧ f < P.nS ∧ P.comp f = (d : Int) ∧ d ≠ c) ∧ P2.fr e = P.fr e ∧ P2.to e = P.to e := by
  have hn : ¬ InC P (P.mn c) (P.sl c) e := fun hi => by rw [(h.pc he).2 hi] at hp; cases hp
  refine ⟨?_, h.sf.eout e hn⟩
  cases ho : (G.md R nc cls).onc e with
  | false => exact .inl (h.meet.off e he ho).1
  | true =>
    obtain ⟨f, t, c', f1, t1, q1, q2, q3, q4, q5, q6⟩ := h.meet.on e he ho
    refine .inr ⟨f, c', q1, f1, q5, fun ec => hn ((h.meet.binC h.c1 h.c2).2 ⟨he, ho, ?_⟩)⟩
    rw [q1, Int.toNat_natCast, q5, ec]
end
/-- The list of edges moved. -/
structure Mvd (G : GR) (R : Nat → Nat → Bool) (nc : Nat) (cls : Nat → Nat) (P : PS) (c e : Nat) (mv : Nat → Nat) : Prop where
  a : ∀ j, j < cnt (pC G R nc cls P c) e → mv j < e ∧ pC G R nc cls P c (mv j) = true ∧ cnt (pC G R nc cls P c) (mv j) = j
def Tp (wb : World) (G : GR) (R : Nat → Nat → Bool) (nc : Nat) (cls : Nat → Nat) (P : PS) (c e : Nat) (v15 : Value) (w : World) : Prop := ∃ D mv, MM wb D w ∧ D.val 2 = v15 ∧ Ints D 2 (cnt (pC G R nc cls P c) e) (fun j => ((mv j : Nat) : Int)) ∧ Mvd G R nc cls P c e mv
section
variable {wb w : World} {G : GR} {R : Nat → Nat → Bool} {nc : Nat} {cls : Nat → Nat} {P : PS} {c e : Nat} {v15 : Value}
theorem Tp.drewN (h : Tp wb G R nc cls P c e v15 w) (k : Nat) : Tp wb G R nc cls P c e v15 (w.drewN k) := by
  obtain ⟨D, mv, h1, h2⟩ := h
  exact ⟨D, mv, h1.drewN k, h2⟩
theorem Tp.keep (h : Tp wb G R nc cls P c e v15 w) {D' : Fam} {w' : World} (hg : Grew Fam.nil w D' w') : Tp wb G R nc cls P c e v15 w' := by
  obtain ⟨D, mv, h1, h2⟩ := h
  exact ⟨D, mv, h1.keep hg, h2⟩
theorem Tp.grew (h : Tp wb G R nc cls P c e v15 w) : Grew Fam.nil wb Fam.nil w := by
  obtain ⟨D, mv, h1, h2⟩ := h
  exact h1.grew.to_nil
theorem Tp.skip (h : Tp wb G R nc cls P c e v15 w) (hp : pC G R nc cls P c e = false) : Tp wb G R nc cls P c (e + 1) v15 w := by
  obtain ⟨D, mv, h1, h2, h3, h4⟩ := h
  have e1 : cnt (pC G R nc cls P c) (e + 1) = cnt (pC G R nc cls P c) e := by rw [cnt_succ, hp]; rfl
  refine ⟨D, mv, h1, h2, by rw [e1]; exact h3, ⟨fun j hj => ?_⟩⟩
  rw [e1] at hj
  obtain ⟨a1, a2⟩ := h4.a j hj
  exact ⟨by omega, a2⟩
end
structure F5 (gB gM gA c E nS nC : Nat) (a : Act) : Prop where
  sz : a.tmps.size = 586
  df : a.defers = []
  s1 : a.tmps.getD 1 undef = .int .i64 (c : Int)
  s8 : a.tmps.getD 8 undef = .pointer (some ⟨gB, 0, none⟩)
  s9 : a.tmps.getD 9 undef = .pointer (some ⟨gM, 0, none⟩)
  s10 : a.tmps.getD 10 undef = .pointer (some ⟨gA, 0, none⟩)
  s11 : a.tmps.getD 11 undef = .int .i64 (E : Int)
  s12 : a.tmps.getD 12 undef = .int .i64 (nS : Int)
  s13 : a.tmps.getD 13 undef = .int .i64 (nC : Int)
def f5e (c : Code) : Code := bl (sL (tl 1 (lp (bl (tl 1 (sL (tl 21 c)))))))
/-- The new component, once an edge of the old one has been met. -/
def Dw (G : GR) (R : Nat → Nat → Bool) (nc : Nat) (cls : Nat → Nat) (P : PS) (c D0 e : Nat) (dv : Int) : Prop := dv = (D0 : Int) ∨ (dv = -1 ∧ cnt (pC G R nc cls P c) e = 0)
set_option maxRecDepth 40000 in
theorem arr_586 (arr : Array Value) (h : arr.size = 586) : ∃ y : Nat → Value, arr = #[y 0, y 1, y 2, y 3, y 4, y 5, y 6, y 7, y 8, y 9, y 10, y 11, y 12, y 13, y 14, y 15, y 16, y 17, y 18, y 19, y 20, y 21, y 22, y 23, y 24, y 25, y 26, y 27, y 28, y 29, y 30, y 31, y 32, y 33, y 34, y 35, y 36, y 37, y 38, y 39, y 40, y 41, y 42, y 43, y 44, y 45, y 46, y 47, y 48, y 49, y 50, y 51, y 52, y 53, y 54, y 55, y 56, y 57, y 58, y 59, y 60, y 61, y 62, y 63, y 64, y 65, y 66, y 67, y 68, y 69, y 70, y 71, y 72, y 73, y 74, y 75, y 76, y 77, y 78, y 79, y 80, y 81, y 82, y 83, y 84, y 85, y 86, y 87, y 88, y 89, y 90, y 91, y 92, y 93, y 94, y 95, y 96, y 97, y 98, y 99, y 100, y 101, y 102, y 103, y 104, y 105, y 106, y 107, y 108, y 109, y 110, y 111, y 112, y 113, y 114, y 115, y 116, y 117, y 118, y 119, y 120, y 121, y 122, y 123, y 124, y 125, y 126, y 127, y 128, y 129, y 130, y 131, y 132, y 133, y 134, y 135, y 136, y 137, y 138, y 139, y 140, y 141, y 142, y 143, y 144, y 145, y 146, y 147, y 148, y 149, y 150, y 151, y 152, y 153, y 154, y 155, y 156, y 157, y 158, y 159, y 160, y 161, y 162, y 163, y 164, y 165, y 166, y 167, y 168, y 169, y 170, y 171, y 172, y 173, y 174, y 175, y 176, y 177, y 178, y 179, y 180, y 181, y 182, y 183, y 184, y 185, y 186, y 187, y 188, y 189, y 190, y 191, y 192, y 193, y 194, y 195, y 196, y 197, y 198, y 199, y 200, y 201, y 202, y 203, y 204, y 205, y 206, y 207, y 208, y 209, y 210, y 211, y 212, y 213, y 214, y 215, y 216, y 217, y 218, y 219, y 220, y 221, y 222, y 223, y 224, y 225, y 226, y 227, y 228, y 229, y 230, y 231, y 232, y 233, y 234, y 235, y 236, y 237, y 238, y 239, y 240, y 241, y 242, y 243, y 244, y 245, y 246, y 247, y 248, y 249, y 250, y 251, y 252, y 253, y 254, y 255, y 256, y 257, y 258, y 259, y 260, y 261, y 262, y 263, y 264, y 265, y 266, y 267, y 268, y 269, y 270, y 271, y 272, y 273, y 274, y 275, y 276, y 277, y 278, y 279, y 280, y 281, y 282, y 283, y 284, y 285, y 286, y 287, y 288, y 289, y 290, y 291, y 292, y 293, y 294, y 295, y 296, y 297, y 298, y 299, y 300, y 301, y 302, y 303, y 304, y 305, y 306, y 307, y 308, y 309, y 310, y 311, y 312, y 313, y 314, y 315, y 316, y 317, y 318, y 319, y 320, y 321, y 322, y 323, y 324, y 325, y 326, y 327, y 328, y 329, y 330, y 331, y 332, y 333, y 334, y 335, y 336, y 337, y 338, y 339, y 340, y 341, y 342, y 343, y 344, y 345, y 346, y 347, y 348, y 349, y 350, y 351, y 352, y 353, y 354, y 355, y 356, y 357, y 358, y 359, y 360, y 361, y 362, y 363, y 364, y 365, y 366, y 367, y 368, y 369, y 370, y 371, y 372, y 373, y 374, y 375, y 376, y 377, y 378, y 379, y 380, y 381, y 382, y 383, y 384, y 385, y 386, y 387, y 388, y 389, y 390, y 391, y 392, y 393, y 394, y 395, y 396, y 397, y 398, y 399, y 400, y 401, y 402, y 403, y 404, y 405, y 406, y 407, y 408, y 409, y 410, y 411, y 412, y 413, y 414, y 415, y 416, y 417, y 418, y 419, y 420, y 421, y 422, y 423, y 424, y 425, y 426, y 427, y 428, y 429, y 430, y 431, y 432, y 433, y 434, y 435, y 436, y 437, y 438, y 439, y 440, y 441, y 442, y 443, y 444, y 445, y 446, y 447, y 448, y 449, y 450, y 451, y 452, y 453, y 454, y 455, y 456, y 457, y 458, y 459, y 460, y 461, y 462, y 463, y 464, y 465, y 466, y 467, y 468, y 469, y 470, y 471, y 472, y 473, y 474, y 475, y 476, y 477, y 478, y 479, y 480, y 481, y 482, y 483, y 484, y 485, y 486, y 487, y 488, y 489, y 490, y 491, y 492, y 493, y 494, y 495, y 496, y 497, y 498, y 499, y 500, y 501, y 502, y 503, y 504, y 505, y 506, y 507, y 508, y 509, y 510, y 511, y 512, y 513, y 514, y 515, y 516, y 517, y 518, y 519, y 520, y 521, y 522, y 523, y 524, y 525, y 526, y 527, y 528, y 529, y 530, y 531, y 532, y 533, y 534, y 535, y 536, y 537, y 538, y 539, y 540, y 541, y 542, y 543, y 544, y 545, y 546, y 547, y 548, y 549, y 550, y 551, y 552, y 553, y 554, y 555, y 556, y 557, y 558, y 559, y 560, y 561, y 562, y 563, y 564, y 565, y 566, y 567, y 568, y 569, y 570, y 571, y 572, y 573, y 574, y 575, y 576, y 577, y 578, y 579, y 580, y 581, y 582, y 583, y 584, y 585] ∧ ∀ i, y i = arr.getD i undef := by
  refine ⟨fun i => arr.getD i undef, ?_, fun _ => rfl⟩
  exact (arr_map arr 586 h undef).trans (by kernel_rfl)
set_option maxRecDepth 40000 in
theorem l5 {a : Act} {u1 u8 u9 u10 u11 u12 u13 : Value} (hs : a.tmps.size = 586) (hd : a.defers = []) (h1 : a.tmps.getD 1 undef = u1) (h8 : a.tmps.getD 8 undef = u8) (h9 : a.tmps.getD 9 undef = u9) (h10 : a.tmps.getD 10 undef = u10) (h11 : a.tmps.getD 11 undef = u11) (h12 : a.tmps.getD 12 undef = u12) (h13 : a.tmps.getD 13 undef = u13) : ∃ y : Nat → Value, a = { tmps := #[y 0, u1, y 2, y 3, y 4, y 5, y 6, y 7, u8, u9, u10, u11, u12, u13, y 14, y 15, y 16, y 17, y 18, y 19, y 20, y 21, y 22, y 23, y 24, y 25, y 26, y 27, y 28, y 29, y 30, y 31, y 32, y 33, y 34, y 35, y 36, y 37, y 38, y 39, y 40, y 41, y 42, y 43, y 44, y 45, y 46, y 47, y 48, y 49, y 50, y 51, y 52, y 53, y 54, y 55, y 56, y 57, y 58, y 59, y 60, y 61, y 62, y 63, y 64, y 65, y 66, y 67, y 68, y 69, y 70, y 71, y 72, y 73, y 74, y 75, y 76, y 77, y 78, y 79, y 80, y 81, y 82, y 83, y 84, y 85, y 86, y 87, y 88, y 89, y 90, y 91, y 92, y 93, y 94, y 95, y 96, y 97, y 98, y 99, y 100, y 101, y 102, y 103, y 104, y 105, y 106, y 107, y 108, y 109, y 110, y 111, y 112, y 113, y 114, y 115, y 116, y 117, y 118, y 119, y 120, y 121, y 122, y 123, y 124, y 125, y 126, y 127, y 128, y 129, y 130, y 131, y 132, y 133, y 134, y 135, y 136, y 137, y 138, y 139, y 140, y 141, y 142, y 143, y 144, y 145, y 146, y 147, y 148, y 149, y 150, y 151, y 152, y 153, y 154, y 155, y 156, y 157, y 158, y 159, y 160, y 161, y 162, y 163, y 164, y 165, y 166, y 167, y 168, y 169, y 170, y 171, y 172, y 173, y 174, y 175, y 176, y 177, y 178, y 179, y 180, y 181, y 182, y 183, y 184, y 185, y 186, y 187, y 188, y 189, y 190, y 191, y 192, y 193, y 194, y 195, y 196, y 197, y 198, y 199, y 200, y 201, y 202, y 203, y 204, y 205, y 206, y 207, y 208, y 209, y 210, y 211, y 212, y 213, y 214, y 215, y 216, y 217, y 218, y 219, y 220, y 221, y 222, y 223, y 224, y 225, y 226, y 227, y 228, y 229, y 230, y 231, y 232, y 233, y 234, y 235, y 236, y 237, y 238, y 239, y 240, y 241, y 242, y 243, y 244, y 245, y 246, y 247, y 248, y 249, y 250, y 251, y 252, y 253, y 254, y 255, y 256, y 257, y 258, y 259, y 260, y 261, y 262, y 263, y 264, y 265, y 266, y 267, y 268, y 269, y 270, y 271, y 272, y 273, y 274, y 275, y 276, y 277, y 278, y 279, y 280, y 281, y 282, y 283, y 284, y 285, y 286, y 287, y 288, y 289, y 290, y 291, y 292, y 293, y 294, y 295, y 296, y 297, y 298, y 299, y 300, y 301, y 302, y 303, y 304, y 305, y 306, y 307, y 308, y 309, y 310, y 311, y 312, y 313, y 314, y 315, y 316, y 317, y 318, y 319, y 320, y 321, y 322, y 323, y 324, y 325, y 326, y 327, y 328, y 329, y 330, y 331, y 332, y 333, y 334, y 335, y 336, y 337, y 338, y 339, y 340, y 341, y 342, y 343, y 344, y 345, y 346, y 347, y 348, y 349, y 350, y 351, y 352, y 353, y 354, y 355, y 356, y 357, y 358, y 359, y 360, y 361, y 362, y 363, y 364, y 365, y 366, y 367, y 368, y 369, y 370, y 371, y 372, y 373, y 374, y 375, y 376, y 377, y 378, y 379, y 380, y 381, y 382, y 383, y 384, y 385, y 386, y 387, y 388, y 389, y 390, y 391, y 392, y 393, y 394, y 395, y 396, y 397, y 398, y 399, y 400, y 401, y 402, y 403, y 404, y 405, y 406, y 407, y 408, y 409, y 410, y 411, y 412, y 413, y 414, y 415, y 416, y 417, y 418, y 419, y 420, y 421, y 422, y 423, y 424, y 425, y 426, y 427, y 428, y 429, y 430, y 431, y 432, y 433, y 434, y 435, y 436, y 437, y 438, y 439, y 440, y 441, y 442, y 443, y 444, y 445, y 446, y 447, y 448, y 449, y 450, y 451, y 452, y 453, y 454, y 455, y 456, y 457, y 458, y 459, y 460, y 461, y 462, y 463, y 464, y 465, y 466, y 467, y 468, y 469, y 470, y 471, y 472, y 473, y 474, y 475, y 476, y 477, y 478, y 479, y 480, y 481, y 482, y 483, y 484, y 485, y 486, y 487, y 488, y 489, y 490, y 491, y 492, y 493, y 494, y 495, y 496, y 497, y 498, y 499, y 500, y 501, y 502, y 503, y 504, y 505, y 506, y 507, y 508, y 509, y 510, y 511, y 512, y 513, y 514, y 515, y 516, y 517, y 518, y 519, y 520, y 521, y 522, y 523, y 524, y 525, y 526, y 527, y 528, y 529, y 530, y 531, y 532, y 533, y 534, y 535, y 536, y 537, y 538, y 539, y 540, y 541, y 542, y 543, y 544, y 545, y 546, y 547, y 548, y 549, y 550, y 551, y 552, y 553, y 554, y 555, y 556, y 557, y 558, y 559, y 560, y 561, y 562, y 563, y 564, y 565, y 566, y 567, y 568, y 569, y 570, y 571, y 572, y 573, y 574, y 575, y 576, y 577, y 578, y 579, y 580, y 581, y 582, y 583, y 584, y 585], defers := [] } := by
  obtain ⟨tmps, defers⟩ := a
  have yd : defers = [] := hd
  subst yd
  obtain ⟨y, hy, hi⟩ := arr_586 tmps hs
  have e1 := (hi 1).trans h1
  have e8 := (hi 8).trans h8
  have e9 := (hi 9).trans h9
  have e10 := (hi 10).trans h10
  have e11 := (hi 11).trans h11
  have e12 := (hi 12).trans h12
  have e13 := (hi 13).trans h13
  rw [e1, e8, e9, e10, e11, e12, e13] at hy
  exact ⟨y, congrArg (fun t => (⟨t, []⟩ : Act)) hy⟩
set_option maxRecDepth 40000 in
theorem l5c {a : Act} {u1 u8 u9 u10 u11 u12 u13 u14 u15 : Value} (hs : a.tmps.size = 586) (hd : a.defers = []) (h1 : a.tmps.getD 1 undef = u1) (h8 : a.tmps.getD 8 undef = u8) (h9 : a.tmps.getD 9 undef = u9) (h10 : a.tmps.getD 10 undef = u10) (h11 : a.tmps.getD 11 undef = u11) (h12 : a.tmps.getD 12 undef = u12) (h13 : a.tmps.getD 13 undef = u13) (h14 : a.tmps.getD 14 undef = u14) (h15 : a.tmps.getD 15 undef = u15) : ∃ y : Nat → Value, a = { tmps := #[y 0, u1, y 2, y 3, y 4, y 5, y 6, y 7, u8, u9, u10, u11, u12, u13, u14, u15, y 16, y 17, y 18, y 19, y 20, y 21, y 22, y 23, y 24, y 25, y 26, y 27, y 28, y 29, y 30, y 31, y 32, y 33, y 34, y 35, y 36, y 37, y 38, y 39, y 40, y 41, y 42, y 43, y 44, y 45, y 46, y 47, y 48, y 49, y 50, y 51, y 52, y 53, y 54, y 55, y 56, y 57, y 58, y 59, y 60, y 61, y 62, y 63, y 64, y 65, y 66, y 67, y 68, y 69, y 70, y 71, y 72, y 73, y 74, y 75, y 76, y 77, y 78, y 79, y 80, y 81, y 82, y 83, y 84, y 85, y 86, y 87, y 88, y 89, y 90, y 91, y 92, y 93, y 94, y 95, y 96, y 97, y 98, y 99, y 100, y 101, y 102, y 103, y 104, y 105, y 106, y 107, y 108, y 109, y 110, y 111, y 112, y 113, y 114, y 115, y 116, y 117, y 118, y 119, y 120, y 121, y 122, y 123, y 124, y 125, y 126, y 127, y 128, y 129, y 130, y 131, y 132, y 133, y 134, y 135, y 136, y 137, y 138, y 139, y 140, y 141, y 142, y 143, y 144, y 145, y 146, y 147, y 148, y 149, y 150, y 151, y 152, y 153, y 154, y 155, y 156, y 157, y 158, y 159, y 160, y 161, y 162, y 163, y 164, y 165, y 166, y 167, y 168, y 169, y 170, y 171, y 172, y 173, y 174, y 175, y 176, y 177, y 178, y 179, y 180, y 181, y 182, y 183, y 184, y 185, y 186, y 187, y 188, y 189, y 190, y 191, y 192, y 193, y 194, y 195, y 196, y 197, y 198, y 199, y 200, y 201, y 202, y 203, y 204, y 205, y 206, y 207, y 208, y 209, y 210, y 211, y 212, y 213, y 214, y 215, y 216, y 217, y 218, y 219, y 220, y 221, y 222, y 223, y 224, y 225, y 226, y 227, y 228, y 229, y 230, y 231, y 232, y 233, y 234, y 235, y 236, y 237, y 238, y 239, y 240, y 241, y 242, y 243, y 244, y 245, y 246, y 247, y 248, y 249, y 250, y 251, y 252, y 253, y 254, y 255, y 256, y 257, y 258, y 259, y 260, y 261, y 262, y 263, y 264, y 265, y 266, y 267, y 268, y 269, y 270, y 271, y 272, y 273, y 274, y 275, y 276, y 277, y 278, y 279, y 280, y 281, y 282, y 283, y 284, y 285, y 286, y 287, y 288, y 289, y 290, y 291, y 292, y 293, y 294, y 295, y 296, y 297, y 298, y 299, y 300, y 301, y 302, y 303, y 304, y 305, y 306, y 307, y 308, y 309, y 310, y 311, y 312, y 313, y 314, y 315, y 316, y 317, y 318, y 319, y 320, y 321, y 322, y 323, y 324, y 325, y 326, y 327, y 328, y 329, y 330, y 331, y 332, y 333, y 334, y 335, y 336, y 337, y 338, y 339, y 340, y 341, y 342, y 343, y 344, y 345, y 346, y 347, y 348, y 349, y 350, y 351, y 352, y 353, y 354, y 355, y 356, y 357, y 358, y 359, y 360, y 361, y 362, y 363, y 364, y 365, y 366, y 367, y 368, y 369, y 370, y 371, y 372, y 373, y 374, y 375, y 376, y 377, y 378, y 379, y 380, y 381, y 382, y 383, y 384, y 385, y 386, y 387, y 388, y 389, y 390, y 391, y 392, y 393, y 394, y 395, y 396, y 397, y 398, y 399, y 400, y 401, y 402, y 403, y 404, y 405, y 406, y 407, y 408, y 409, y 410, y 411, y 412, y 413, y 414, y 415, y 416, y 417, y 418, y 419, y 420, y 421, y 422, y 423, y 424, y 425, y 426, y 427, y 428, y 429, y 430, y 431, y 432, y 433, y 434, y 435, y 436, y 437, y 438, y 439, y 440, y 441, y 442, y 443, y 444, y 445, y 446, y 447, y 448, y 449, y 450, y 451, y 452, y 453, y 454, y 455, y 456, y 457, y 458, y 459, y 460, y 461, y 462, y 463, y 464, y 465, y 466, y 467, y 468, y 469, y 470, y 471, y 472, y 473, y 474, y 475, y 476, y 477, y 478, y 479, y 480, y 481, y 482, y 483, y 484, y 485, y 486, y 487, y 488, y 489, y 490, y 491, y 492, y 493, y 494, y 495, y 496, y 497, y 498, y 499, y 500, y 501, y 502, y 503, y 504, y 505, y 506, y 507, y 508, y 509, y 510, y 511, y 512, y 513, y 514, y 515, y 516, y 517, y 518, y 519, y 520, y 521, y 522, y 523, y 524, y 525, y 526, y 527, y 528, y 529, y 530, y 531, y 532, y 533, y 534, y 535, y 536, y 537, y 538, y 539, y 540, y 541, y 542, y 543, y 544, y 545, y 546, y 547, y 548, y 549, y 550, y 551, y 552, y 553, y 554, y 555, y 556, y 557, y 558, y 559, y 560, y 561, y 562, y 563, y 564, y 565, y 566, y 567, y 568, y 569, y 570, y 571, y 572, y 573, y 574, y 575, y 576, y 577, y 578, y 579, y 580, y 581, y 582, y 583, y 584, y 585], defers := [] } := by
  obtain ⟨tmps, defers⟩ := a
  have yd : defers = [] := hd
  subst yd
  obtain ⟨y, hy, hi⟩ := arr_586 tmps hs
  have e1 := (hi 1).trans h1
  have e8 := (hi 8).trans h8
  have e9 := (hi 9).trans h9
  have e10 := (hi 10).trans h10
  have e11 := (hi 11).trans h11
  have e12 := (hi 12).trans h12
  have e13 := (hi 13).trans h13
  have e14 := (hi 14).trans h14
  have e15 := (hi 15).trans h15
  rw [e1, e8, e9, e10, e11, e12, e13, e14, e15] at hy
  exact ⟨y, congrArg (fun t => (⟨t, []⟩ : Act)) hy⟩
set_option maxRecDepth 40000 in
theorem l5d {a : Act} {u1 u8 u9 u10 u11 u12 u13 u14 u15 u16 : Value} (hs : a.tmps.size = 586) (hd : a.defers = []) (h1 : a.tmps.getD 1 undef = u1) (h8 : a.tmps.getD 8 undef = u8) (h9 : a.tmps.getD 9 undef = u9) (h10 : a.tmps.getD 10 undef = u10) (h11 : a.tmps.getD 11 undef = u11) (h12 : a.tmps.getD 12 undef = u12) (h13 : a.tmps.getD 13 undef = u13) (h14 : a.tmps.getD 14 undef = u14) (h15 : a.tmps.getD 15 undef = u15) (h16 : a.tmps.getD 16 undef = u16) : ∃ y : Nat → Value, a = { tmps := #[y 0, u1, y 2, y 3, y 4, y 5, y 6, y 7, u8, u9, u10, u11, u12, u13, u14, u15, u16, y 17, y 18, y 19, y 20, y 21, y 22, y 23, y 24, y 25, y 26, y 27, y 28, y 29, y 30, y 31, y 32, y 33, y 34, y 35, y 36, y 37, y 38, y 39, y 40, y 41, y 42, y 43, y 44, y 45, y 46, y 47, y 48, y 49, y 50, y 51, y 52, y 53, y 54, y 55, y 56, y 57, y 58, y 59, y 60, y 61, y 62, y 63, y 64, y 65, y 66, y 67, y 68, y 69, y 70, y 71, y 72, y 73, y 74, y 75, y 76, y 77, y 78, y 79, y 80, y 81, y 82, y 83, y 84, y 85, y 86, y 87, y 88, y 89, y 90, y 91, y 92, y 93, y 94, y 95, y 96, y 97, y 98, y 99, y 100, y 101, y 102, y 103, y 104, y 105, y 106, y 107, y 108, y 109, y 110, y 111, y 112, y 113, y 114, y 115, y 116, y 117, y 118, y 119, y 120, y 121, y 122, y 123, y 124, y 125, y 126, y 127, y 128, y 129, y 130, y 131, y 132, y 133, y 134, y 135, y 136, y 137, y 138, y 139, y 140, y 141, y 142, y 143, y 144, y 145, y 146, y 147, y 148, y 149, y 150, y 151, y 152, y 153, y 154, y 155, y 156, y 157, y 158, y 159, y 160, y 161, y 162, y 163, y 164, y 165, y 166, y 167, y 168, y 169, y 170, y 171, y 172, y 173, y 174, y 175, y 176, y 177, y 178, y 179, y 180, y 181, y 182, y 183, y 184, y 185, y 186, y 187, y 188, y 189, y 190, y 191, y 192, y 193, y 194, y 195, y 196, y 197, y 198, y 199, y 200, y 201, y 202, y 203, y 204, y 205, y 206, y 207, y 208, y 209, y 210, y 211, y 212, y 213, y 214, y 215, y 216, y 217, y 218, y 219, y 220, y 221, y 222, y 223, y 224, y 225, y 226, y 227, y 228, y 229, y 230, y 231, y 232, y 233, y 234, y 235, y 236, y 237, y 238, y 239, y 240, y 241, y 242, y 243, y 244, y 245, y 246, y 247, y 248, y 249, y 250, y 251, y 252, y 253, y 254, y 255, y 256, y 257, y 258, y 259, y 260, y 261, y 262, y 263, y 264, y 265, y 266, y 267, y 268, y 269, y 270, y 271, y 272, y 273, y 274, y 275, y 276, y 277, y 278, y 279, y 280, y 281, y 282, y 283, y 284, y 285, y 286, y 287, y 288, y 289, y 290, y 291, y 292, y 293, y 294, y 295, y 296, y 297, y 298, y 299, y 300, y 301, y 302, y 303, y 304, y 305, y 306, y 307, y 308, y 309, y 310, y 311, y 312, y 313, y 314, y 315, y 316, y 317, y 318, y 319, y 320, y 321, y 322, y 323, y 324, y 325, y 326, y 327, y 328, y 329, y 330, y 331, y 332, y 333, y 334, y 335, y 336, y 337, y 338, y 339, y 340, y 341, y 342, y 343, y 344, y 345, y 346, y 347, y 348, y 349, y 350, y 351, y 352, y 353, y 354, y 355, y 356, y 357, y 358, y 359, y 360, y 361, y 362, y 363, y 364, y 365, y 366, y 367, y 368, y 369, y 370, y 371, y 372, y 373, y 374, y 375, y 376, y 377, y 378, y 379, y 380, y 381, y 382, y 383, y 384, y 385, y 386, y 387, y 388, y 389, y 390, y 391, y 392, y 393, y 394, y 395, y 396, y 397, y 398, y 399, y 400, y 401, y 402, y 403, y 404, y 405, y 406, y 407, y 408, y 409, y 410, y 411, y 412, y 413, y 414, y 415, y 416, y 417, y 418, y 419, y 420, y 421, y 422, y 423, y 424, y 425, y 426, y 427, y 428, y 429, y 430, y 431, y 432, y 433, y 434, y 435, y 436, y 437, y 438, y 439, y 440, y 441, y 442, y 443, y 444, y 445, y 446, y 447, y 448, y 449, y 450, y 451, y 452, y 453, y 454, y 455, y 456, y 457, y 458, y 459, y 460, y 461, y 462, y 463, y 464, y 465, y 466, y 467, y 468, y 469, y 470, y 471, y 472, y 473, y 474, y 475, y 476, y 477, y 478, y 479, y 480, y 481, y 482, y 483, y 484, y 485, y 486, y 487, y 488, y 489, y 490, y 491, y 492, y 493, y 494, y 495, y 496, y 497, y 498, y 499, y 500, y 501, y 502, y 503, y 504, y 505, y 506, y 507, y 508, y 509, y 510, y 511, y 512, y 513, y 514, y 515, y 516, y 517, y 518, y 519, y 520, y 521, y 522, y 523, y 524, y 525, y 526, y 527, y 528, y 529, y 530, y 531, y 532, y 533, y 534, y 535, y 536, y 537, y 538, y 539, y 540, y 541, y 542, y 543, y 544, y 545, y 546, y 547, y 548, y 549, y 550, y 551, y 552, y 553, y 554, y 555, y 556, y 557, y 558, y 559, y 560, y 561, y 562, y 563, y 564, y 565, y 566, y 567, y 568, y 569, y 570, y 571, y 572, y 573, y 574, y 575, y 576, y 577, y 578, y 579, y 580, y 581, y 582, y 583, y 584, y 585], defers := [] } := by
  obtain ⟨tmps, defers⟩ := a
  have yd : defers = [] := hd
  subst yd
  obtain ⟨y, hy, hi⟩ := arr_586 tmps hs
  have e1 := (hi 1).trans h1
  have e8 := (hi 8).trans h8
  have e9 := (hi 9).trans h9
  have e10 := (hi 10).trans h10
  have e11 := (hi 11).trans h11
  have e12 := (hi 12).trans h12
  have e13 := (hi 13).trans h13
  have e14 := (hi 14).trans h14
  have e15 := (hi 15).trans h15
  have e16 := (hi 16).trans h16
  rw [e1, e8, e9, e10, e11, e12, e13, e14, e15, e16] at hy
  exact ⟨y, congrArg (fun t => (⟨t, []⟩ : Act)) hy⟩
set_option maxRecDepth 40000 in
theorem l5e {a : Act} {u1 u8 u9 u10 u11 u12 u13 u14 u15 u16 u17 : Value} (hs : a.tmps.size = 586) (hd : a.defers = []) (h1 : a.tmps.getD 1 undef = u1) (h8 : a.tmps.getD 8 undef = u8) (h9 : a.tmps.getD 9 undef = u9) (h10 : a.tmps.getD 10 undef = u10) (h11 : a.tmps.getD 11 undef = u11) (h12 : a.tmps.getD 12 undef = u12) (h13 : a.tmps.getD 13 undef = u13) (h14 : a.tmps.getD 14 undef = u14) (h15 : a.tmps.getD 15 undef = u15) (h16 : a.tmps.getD 16 undef = u16) (h17 : a.tmps.getD 17 undef = u17) : ∃ y : Nat → Value, a = { tmps := #[y 0, u1, y 2, y 3, y 4, y 5, y 6, y 7, u8, u9, u10, u11, u12, u13, u14, u15, u16, u17, y 18, y 19, y 20, y 21, y 22, y 23, y 24, y 25, y 26, y 27, y 28, y 29, y 30, y 31, y 32, y 33, y 34, y 35, y 36, y 37, y 38, y 39, y 40, y 41, y 42, y 43, y 44, y 45, y 46, y 47, y 48, y 49, y 50, y 51, y 52, y 53, y 54, y 55, y 56, y 57, y 58, y 59, y 60, y 61, y 62, y 63, y 64, y 65, y 66, y 67, y 68, y 69, y 70, y 71, y 72, y 73, y 74, y 75, y 76, y 77, y 78, y 79, y 80, y 81, y 82, y 83, y 84, y 85, y 86, y 87, y 88, y 89, y 90, y 91, y 92, y 93, y 94, y 95, y 96, y 97, y 98, y 99, y 100, y 101, y 102, y 103, y 104, y 105, y 106, y 107, y 108, y 109, y 110, y 111, y 112, y 113, y 114, y 115, y 116, y 117, y 118, y 119, y 120, y 121, y 122, y 123, y 124, y 125, y 126, y 127, y 128, y 129, y 130, y 131, y 132, y 133, y 134, y 135, y 136, y 137, y 138, y 139, y 140, y 141, y 142, y 143, y 144, y 145, y 146, y 147, y 148, y 149, y 150, y 151, y 152, y 153, y 154, y 155, y 156, y 157, y 158, y 159, y 160, y 161, y 162, y 163, y 164, y 165, y 166, y 167, y 168, y 169, y 170, y 171, y 172, y 173, y 174, y 175, y 176, y 177, y 178, y 179, y 180, y 181, y 182, y 183, y 184, y 185, y 186, y 187, y 188, y 189, y 190, y 191, y 192, y 193, y 194, y 195, y 196, y 197, y 198, y 199, y 200, y 201, y 202, y 203, y 204, y 205, y 206, y 207, y 208, y 209, y 210, y 211, y 212, y 213, y 214, y 215, y 216, y 217, y 218, y 219, y 220, y 221, y 222, y 223, y 224, y 225, y 226, y 227, y 228, y 229, y 230, y 231, y 232, y 233, y 234, y 235, y 236, y 237, y 238, y 239, y 240, y 241, y 242, y 243, y 244, y 245, y 246, y 247, y 248, y 249, y 250, y 251, y 252, y 253, y 254, y 255, y 256, y 257, y 258, y 259, y 260, y 261, y 262, y 263, y 264, y 265, y 266, y 267, y 268, y 269, y 270, y 271, y 272, y 273, y 274, y 275, y 276, y 277, y 278, y 279, y 280, y 281, y 282, y 283, y 284, y 285, y 286, y 287, y 288, y 289, y 290, y 291, y 292, y 293, y 294, y 295, y 296, y 297, y 298, y 299, y 300, y 301, y 302, y 303, y 304, y 305, y 306, y 307, y 308, y 309, y 310, y 311, y 312, y 313, y 314, y 315, y 316, y 317, y 318, y 319, y 320, y 321, y 322, y 323, y 324, y 325, y 326, y 327, y 328, y 329, y 330, y 331, y 332, y 333, y 334, y 335, y 336, y 337, y 338, y 339, y 340, y 341, y 342, y 343, y 344, y 345, y 346, y 347, y 348, y 349, y 350, y 351, y 352, y 353, y 354, y 355, y 356, y 357, y 358, y 359, y 360, y 361, y 362, y 363, y 364, y 365, y 366, y 367, y 368, y 369, y 370, y 371, y 372, y 373, y 374, y 375, y 376, y 377, y 378, y 379, y 380, y 381, y 382, y 383, y 384, y 385, y 386, y 387, y 388, y 389, y 390, y 391, y 392, y 393, y 394, y 395, y 396, y 397, y 398, y 399, y 400, y 401, y 402, y 403, y 404, y 405, y 406, y 407, y 408, y 409, y 410, y 411, y 412, y 413, y 414, y 415, y 416, y 417, y 418, y 419, y 420, y 421, y 422, y 423, y 424, y 425, y 426, y 427, y 428, y 429, y 430, y 431, y 432, y 433, y 434, y 435, y 436, y 437, y 438, y 439, y 440, y 441, y 442, y 443, y 444, y 445, y 446, y 447, y 448, y 449, y 450, y 451, y 452, y 453, y 454, y 455, y 456, y 457, y 458, y 459, y 460, y 461, y 462, y 463, y 464, y 465, y 466, y 467, y 468, y 469, y 470, y 471, y 472, y 473, y 474, y 475, y 476, y 477, y 478, y 479, y 480, y 481, y 482, y 483, y 484, y 485, y 486, y 487, y 488, y 489, y 490, y 491, y 492, y 493, y 494, y 495, y 496, y 497, y 498, y 499, y 500, y 501, y 502, y 503, y 504, y 505, y 506, y 507, y 508, y 509, y 510, y 511, y 512, y 513, y 514, y 515, y 516, y 517, y 518, y 519, y 520, y 521, y 522, y 523, y 524, y 525, y 526, y 527, y 528, y 529, y 530, y 531, y 532, y 533, y 534, y 535, y 536, y 537, y 538, y 539, y 540, y 541, y 542, y 543, y 544, y 545, y 546, y 547, y 548, y 549, y 550, y 551, y 552, y 553, y 554, y 555, y 556, y 557, y 558, y 559, y 560, y 561, y 562, y 563, y 564, y 565, y 566, y 567, y 568, y 569, y 570, y 571, y 572, y 573, y 574, y 575, y 576, y 577, y 578, y 579, y 580, y 581, y 582, y 583, y 584, y 585], defers := [] } := by
  obtain ⟨tmps, defers⟩ := a
  have yd : defers = [] := hd
  subst yd
  obtain ⟨y, hy, hi⟩ := arr_586 tmps hs
  have e1 := (hi 1).trans h1
  have e8 := (hi 8).trans h8
  have e9 := (hi 9).trans h9
  have e10 := (hi 10).trans h10
  have e11 := (hi 11).trans h11
  have e12 := (hi 12).trans h12
  have e13 := (hi 13).trans h13
  have e14 := (hi 14).trans h14
  have e15 := (hi 15).trans h15
  have e16 := (hi 16).trans h16
  have e17 := (hi 17).trans h17
  rw [e1, e8, e9, e10, e11, e12, e13, e14, e15, e16, e17] at hy
  exact ⟨y, congrArg (fun t => (⟨t, []⟩ : Act)) hy⟩

set_option maxRecDepth 40000 in
set_option maxHeartbeats 8000000 in
/-- The edge's number is kept: region 51. -/
theorem l3_1c (wb : World) (gB gM gA : Nat) (V : Fam) (G : GR) (R : Nat → Nat → Bool) (nc : Nat) (cls : Nat → Nat) (P P2 : PS) (c D0 : Nat) (nu : Nat → Nat) (hin : L3In wb gB gM gA V G R nc cls P P2 c D0 nu) (e : Nat) (he : e < G.E) (hp : pC G R nc cls P c e = true) (v15 : Value) (wr : World) (hT : Tp wb G R nc cls P c e v15 wr) (a : Act) (hf : F5 gB gM gA c G.E P2.nS P2.nC a) (h14 : a.tmps.getD 14 undef = .int .i64 (D0 : Int)) (h15 : a.tmps.getD 15 undef = v15) (h16 : a.tmps.getD 16 undef = .int .i64 (e : Int)) (Q : Exit → Act → World → Prop)
    (hC : ∀ (a : Act) (w : World) (v15 : Value), F5 gB gM gA c G.E P2.nS P2.nC a → a.tmps.getD 14 undef = .int .i64 (D0 : Int) → a.tmps.getD 15 undef = v15 → a.tmps.getD 16 undef = .int .i64 (e : Int) → Tp wb G R nc cls P c (e + 1) v15 w → Q .normal a w) :
    Code.wp Try.prog (tl 11 (f5e (Try.f5.body.getD .skip))) Q a wr := by
  obtain ⟨i3, hi3, hz30, hz31, hz32⟩ := info_parts Try.info3
  obtain ⟨hE, hn, hS, hCC, hS2, hC2⟩ := hin.sm
  have HIN : Hid (L3In wb gB gM gA V G R nc cls P P2 c D0 nu) := hin
  obtain ⟨D, mv, d1, d2, d3, d4⟩ := hT
  have hcn := cnt_le (pC G R nc cls P c) e
  have hv : D.val 2 = .slice ((D.b 2).map fun g => ⟨g, 0, none⟩) (cnt (pC G R nc cls P c) e) (D.cap 2) := by unfold Fam.val; rw [d3.1]
  have v7 := d2
  rw [hv] at v7
  subst v7
  obtain ⟨y, rfl⟩ := l5d hf.sz hf.df hf.s1 hf.s8 hf.s9 hf.s10 hf.s11 hf.s12 hf.s13 h14 h15 h16
  have HV : Hid (D.val 2 = .slice ((D.b 2).map fun g => ⟨g, 0, none⟩) (cnt (pC G R nc cls P c) e) (D.cap 2)) := hv
  have HR : Hid (Rep KM wr D) := d1.rep
  have HL : Hid (D.n 2 = cnt (pC G R nc cls P c) e) := d3.1
  have FIN : Hid (∀ gn kn w2, Rep KM w2 (D.put 2 (some gn) (cnt (pC G R nc cls P c) e + 1) kn (ext (D.F 2) (cnt (pC G R nc cls P c) e * 1) [.int .i64 (e : Int)])) → Grew D (wr.alloc (.cells #[.int .i64 (e : Int)] 3)) (D.put 2 (some gn) (cnt (pC G R nc cls P c) e + 1) kn (ext (D.F 2) (cnt (pC G R nc cls P c) e * 1) [.int .i64 (e : Int)])) w2 → Tp wb G R nc cls P c (e + 1) (.slice (some ⟨gn, 0, none⟩) (cnt (pC G R nc cls P c) e + 1) kn) w2) := by
    intro gn kn w2 h1 h2
    have e1 : cnt (pC G R nc cls P c) (e + 1) = cnt (pC G R nc cls P c) e + 1 := by rw [cnt_succ, hp]; rfl
    have hF : ∀ j, j < cnt (pC G R nc cls P c) e + 1 → ext (D.F 2) (cnt (pC G R nc cls P c) e * 1) [.int .i64 (e : Int)] j = .int .i64 (((up mv (cnt (pC G R nc cls P c) e) e) j : Nat) : Int) := by
      intro j hj
      unfold ext
      by_cases ej : j = cnt (pC G R nc cls P c) e
      · subst ej
        rw [if_neg (by omega), up_same]
        simp
      · rw [if_pos (by omega), up_other _ _ ej]
        exact d3.2 j (by omega)
    have hg2 := (d1.grew.alloc (.cells #[.int .i64 (e : Int)] 3)).trans h2
    refine ⟨_, up mv (cnt (pC G R nc cls P c) e) e, ⟨h1, hg2⟩, ?_, by rw [e1]; exact ⟨put_ns, fun j hj => by rw [put_Fs]; exact hF j hj⟩, ⟨fun j hj => ?_⟩⟩
    · rw [put_vals]; rfl
    · rw [e1] at hj
      by_cases ej : j = cnt (pC G R nc cls P c) e
      · subst ej
        rw [up_same]; exact ⟨by omega, hp, rfl⟩
      · rw [up_other _ _ ej]
        obtain ⟨a1, a2⟩ := d4.a j (by omega)
        exact ⟨by omega, a2⟩
  have HC : Hid (∀ (a : Act) (w : World) (v15 : Value), F5 gB gM gA c G.E P2.nS P2.nC a → a.tmps.getD 14 undef = .int .i64 (D0 : Int) → a.tmps.getD 15 undef = v15 → a.tmps.getD 16 undef = .int .i64 (e : Int) → Tp wb G R nc cls P c (e + 1) v15 w → Q .normal a w) := hC
  clear hf hC hin h14 h15 h16 d1 d2 d3 d4 hv hp
  generalize (D.b 2).map (fun g => (⟨g, 0, none⟩ : Addr)) = o2 at *
  generalize D.cap 2 = k2 at *
  generalize hq : cnt (pC G R nc cls P c) e = cc at *
  show Code.wp Try.prog (Code.region 51 _ _) Q _ wr
  go_wp2_with (at_builtin; refine wpList_append_row rfl (HR.out.alloc _) 2 cc HL.out (.tmp 259) (.tmp 261) 26 rfl 3 i3 (.int .i64 0) 1 8 rfl Try.underlying26 hi3 hz30 hz31 hz32 rfl (by decide) (Eq.trans rfl HV.out.symm) ⟨wr.heap.size, 0, none⟩ 1 [.int .i64 (e : Int)] rfl rfl (news1 _ _ _) (by simp [Value.oneCell']) (by omega) (by decide) ?_; intro gn kn w2 hR2 hG2; have HFF : Hid (Tp wb G R nc cls P c (e + 1) (.slice (some ⟨gn, 0, none⟩) (cc + 1) kn) w2) := FIN.out gn kn w2 hR2 hG2; clear hR2 hG2)
  exact HC.out _ _ _ ⟨by kernel_rfl, by kernel_rfl, by kernel_rfl, by kernel_rfl, by kernel_rfl, by kernel_rfl, by kernel_rfl, by kernel_rfl, by kernel_rfl⟩ (by kernel_rfl) (by kernel_rfl) (by kernel_rfl) HFF.out
end Go.Proofs.Qxb6602148a
