/-
  'zzMeetsModel': the edges.
-/
import Derived.Test.Qxb6602148aMtb
import Derived.BigQuiet
attribute [local go_sem] Go.Proofs.Qxb6602148a.yTo Go.Proofs.Qxb6602148a.yUpon
namespace Go.Proofs.Qxb6602148a
open Go.RowKit
set_option linter.unusedVariables false
set_option linter.unusedSimpArgs false

def f12e (c : Code) : Code := bl (sL (tl 1 (lp (bl (tl 1 (sL (tl 15 c)))))))
theorem ecn_skip {X : MD} {P : PS} {e : Nat} (ho : X.onc e = false) (c : Nat) : ecn X P (e + 1) c = ecn X P e c := by
  unfold ecn
  rw [cnt_step]
  have : X.inc P c e = false := by unfold MD.inc; rw [ho]; rfl
  rw [this]; simp
theorem ecn_next {X : MD} {P : PS} {e c : Nat} (ho : X.onc e = true) (hc : P.comp (P.fr e).toNat = ((c : Nat) : Int)) (c' : Nat) : ecn X P (e + 1) c' = upd (ecn X P e) c (ecn X P e c + 1) c' := by
  have hi : X.inc P c' e = (((c : Nat) : Int) == ((c' : Nat) : Int)) := by unfold MD.inc; rw [ho, hc, Bool.true_and]
  by_cases h : c' = c
  · subst h
    rw [upd_same]
    unfold ecn
    rw [cnt_step, hi]; simp
  · rw [upd_other _ _ h]
    unfold ecn
    rw [cnt_step, hi]
    have : (((c : Nat) : Int) == ((c' : Nat) : Int)) = false := by rw [beq_eq_false_iff_ne]; omega
    rw [this]; simp
theorem ecn_le (X : MD) (P : PS) (e c : Nat) : 0 ≤ ecn X P e c ∧ ecn X P e c ≤ (e : Int) := by
  unfold ecn
  have := cnt_le (X.inc P c) e
  omega
/-- Edge e's class and component know each other. -/
def T5b (wb : World) (gM gW : Nat) (X : MD) (P : PS) (g2 g3 g4 g5 g6 : Nat) (e f t c : Nat) (w : World) : Prop := ∃ D tc tk td tc0 tk0, MM wb D w ∧ Roi D 2 g2 P.nC (icn P P.nS) ∧ Roi D 3 g3 X.nc tc ∧ Roi D 4 g4 P.nC tk ∧ Roi D 5 g5 P.nC (ecn X P e) ∧ Rob D 6 g6 P.nS td ∧ MtE X P e tc0 tk0 td ∧ (∀ k, tc k = if k = X.cls e then ((c : Nat) : Int) else tc0 k) ∧ (∀ k, tk k = if k = c then ((X.cls e : Nat) : Int) else tk0 k)
theorem T5.drewN {wb : World} {X : MD} {P : PS} {g2 g3 g4 g5 g6 : Nat} {e : Nat} {w : World} (h : T5 wb X P g2 g3 g4 g5 g6 e w) (k : Nat) : T5 wb X P g2 g3 g4 g5 g6 e (w.drewN k) := by
  obtain ⟨D, tc, tk, td, h1, h2⟩ := h
  exact ⟨D, tc, tk, td, h1.drewN k, h2⟩
theorem T5.grew {wb : World} {X : MD} {P : PS} {g2 g3 g4 g5 g6 : Nat} {e : Nat} {w : World} (h : T5 wb X P g2 g3 g4 g5 g6 e w) : ∃ D, Grew Fam.nil wb D w := by
  obtain ⟨D, tc, tk, td, h1, h2⟩ := h
  exact ⟨D, h1.grew⟩
set_option maxRecDepth 40000 in
theorem lu17 {a : Act} {u2 u3 u5 u6 u7 u8 u11 u13 u15 u16 u17 : Value} (hs : a.tmps.size = 465) (hd : a.defers = []) (h2 : a.tmps.getD 2 undef = u2) (h3 : a.tmps.getD 3 undef = u3) (h5 : a.tmps.getD 5 undef = u5) (h6 : a.tmps.getD 6 undef = u6) (h7 : a.tmps.getD 7 undef = u7) (h8 : a.tmps.getD 8 undef = u8) (h11 : a.tmps.getD 11 undef = u11) (h13 : a.tmps.getD 13 undef = u13) (h15 : a.tmps.getD 15 undef = u15) (h16 : a.tmps.getD 16 undef = u16) (h17 : a.tmps.getD 17 undef = u17) : ∃ y : Nat → Value, a = { tmps := #[y 0, y 1, u2, u3, y 4, u5, u6, u7, u8, y 9, y 10, u11, y 12, u13, y 14, u15, u16, u17, y 18, y 19, y 20, y 21, y 22, y 23, y 24, y 25, y 26, y 27, y 28, y 29, y 30, y 31, y 32, y 33, y 34, y 35, y 36, y 37, y 38, y 39, y 40, y 41, y 42, y 43, y 44, y 45, y 46, y 47, y 48, y 49, y 50, y 51, y 52, y 53, y 54, y 55, y 56, y 57, y 58, y 59, y 60, y 61, y 62, y 63, y 64, y 65, y 66, y 67, y 68, y 69, y 70, y 71, y 72, y 73, y 74, y 75, y 76, y 77, y 78, y 79, y 80, y 81, y 82, y 83, y 84, y 85, y 86, y 87, y 88, y 89, y 90, y 91, y 92, y 93, y 94, y 95, y 96, y 97, y 98, y 99, y 100, y 101, y 102, y 103, y 104, y 105, y 106, y 107, y 108, y 109, y 110, y 111, y 112, y 113, y 114, y 115, y 116, y 117, y 118, y 119, y 120, y 121, y 122, y 123, y 124, y 125, y 126, y 127, y 128, y 129, y 130, y 131, y 132, y 133, y 134, y 135, y 136, y 137, y 138, y 139, y 140, y 141, y 142, y 143, y 144, y 145, y 146, y 147, y 148, y 149, y 150, y 151, y 152, y 153, y 154, y 155, y 156, y 157, y 158, y 159, y 160, y 161, y 162, y 163, y 164, y 165, y 166, y 167, y 168, y 169, y 170, y 171, y 172, y 173, y 174, y 175, y 176, y 177, y 178, y 179, y 180, y 181, y 182, y 183, y 184, y 185, y 186, y 187, y 188, y 189, y 190, y 191, y 192, y 193, y 194, y 195, y 196, y 197, y 198, y 199, y 200, y 201, y 202, y 203, y 204, y 205, y 206, y 207, y 208, y 209, y 210, y 211, y 212, y 213, y 214, y 215, y 216, y 217, y 218, y 219, y 220, y 221, y 222, y 223, y 224, y 225, y 226, y 227, y 228, y 229, y 230, y 231, y 232, y 233, y 234, y 235, y 236, y 237, y 238, y 239, y 240, y 241, y 242, y 243, y 244, y 245, y 246, y 247, y 248, y 249, y 250, y 251, y 252, y 253, y 254, y 255, y 256, y 257, y 258, y 259, y 260, y 261, y 262, y 263, y 264, y 265, y 266, y 267, y 268, y 269, y 270, y 271, y 272, y 273, y 274, y 275, y 276, y 277, y 278, y 279, y 280, y 281, y 282, y 283, y 284, y 285, y 286, y 287, y 288, y 289, y 290, y 291, y 292, y 293, y 294, y 295, y 296, y 297, y 298, y 299, y 300, y 301, y 302, y 303, y 304, y 305, y 306, y 307, y 308, y 309, y 310, y 311, y 312, y 313, y 314, y 315, y 316, y 317, y 318, y 319, y 320, y 321, y 322, y 323, y 324, y 325, y 326, y 327, y 328, y 329, y 330, y 331, y 332, y 333, y 334, y 335, y 336, y 337, y 338, y 339, y 340, y 341, y 342, y 343, y 344, y 345, y 346, y 347, y 348, y 349, y 350, y 351, y 352, y 353, y 354, y 355, y 356, y 357, y 358, y 359, y 360, y 361, y 362, y 363, y 364, y 365, y 366, y 367, y 368, y 369, y 370, y 371, y 372, y 373, y 374, y 375, y 376, y 377, y 378, y 379, y 380, y 381, y 382, y 383, y 384, y 385, y 386, y 387, y 388, y 389, y 390, y 391, y 392, y 393, y 394, y 395, y 396, y 397, y 398, y 399, y 400, y 401, y 402, y 403, y 404, y 405, y 406, y 407, y 408, y 409, y 410, y 411, y 412, y 413, y 414, y 415, y 416, y 417, y 418, y 419, y 420, y 421, y 422, y 423, y 424, y 425, y 426, y 427, y 428, y 429, y 430, y 431, y 432, y 433, y 434, y 435, y 436, y 437, y 438, y 439, y 440, y 441, y 442, y 443, y 444, y 445, y 446, y 447, y 448, y 449, y 450, y 451, y 452, y 453, y 454, y 455, y 456, y 457, y 458, y 459, y 460, y 461, y 462, y 463, y 464], defers := [] } := by
  obtain ⟨tmps, defers⟩ := a
  have yd : defers = [] := hd
  subst yd
  obtain ⟨y, hy, hi⟩ := arr_465 tmps hs
  have e2 := (hi 2).trans h2
  have e3 := (hi 3).trans h3
  have e5 := (hi 5).trans h5
  have e6 := (hi 6).trans h6
  have e7 := (hi 7).trans h7
  have e8 := (hi 8).trans h8
  have e11 := (hi 11).trans h11
  have e13 := (hi 13).trans h13
  have e15 := (hi 15).trans h15
  have e16 := (hi 16).trans h16
  have e17 := (hi 17).trans h17
  rw [e2, e3, e5, e6, e7, e8, e11, e13, e15, e16, e17] at hy
  exact ⟨y, congrArg (fun t => (⟨t, []⟩ : Act)) hy⟩
set_option maxRecDepth 40000 in
theorem luu {a : Act} {u2 u3 u5 u6 u7 u8 u11 u13 u15 u16 : Value} (hs : a.tmps.size = 465) (hd : a.defers = []) (h2 : a.tmps.getD 2 undef = u2) (h3 : a.tmps.getD 3 undef = u3) (h5 : a.tmps.getD 5 undef = u5) (h6 : a.tmps.getD 6 undef = u6) (h7 : a.tmps.getD 7 undef = u7) (h8 : a.tmps.getD 8 undef = u8) (h11 : a.tmps.getD 11 undef = u11) (h13 : a.tmps.getD 13 undef = u13) (h15 : a.tmps.getD 15 undef = u15) (h16 : a.tmps.getD 16 undef = u16) : ∃ y : Nat → Value, a = { tmps := #[y 0, y 1, u2, u3, y 4, u5, u6, u7, u8, y 9, y 10, u11, y 12, u13, y 14, u15, u16, y 17, y 18, y 19, y 20, y 21, y 22, y 23, y 24, y 25, y 26, y 27, y 28, y 29, y 30, y 31, y 32, y 33, y 34, y 35, y 36, y 37, y 38, y 39, y 40, y 41, y 42, y 43, y 44, y 45, y 46, y 47, y 48, y 49, y 50, y 51, y 52, y 53, y 54, y 55, y 56, y 57, y 58, y 59, y 60, y 61, y 62, y 63, y 64, y 65, y 66, y 67, y 68, y 69, y 70, y 71, y 72, y 73, y 74, y 75, y 76, y 77, y 78, y 79, y 80, y 81, y 82, y 83, y 84, y 85, y 86, y 87, y 88, y 89, y 90, y 91, y 92, y 93, y 94, y 95, y 96, y 97, y 98, y 99, y 100, y 101, y 102, y 103, y 104, y 105, y 106, y 107, y 108, y 109, y 110, y 111, y 112, y 113, y 114, y 115, y 116, y 117, y 118, y 119, y 120, y 121, y 122, y 123, y 124, y 125, y 126, y 127, y 128, y 129, y 130, y 131, y 132, y 133, y 134, y 135, y 136, y 137, y 138, y 139, y 140, y 141, y 142, y 143, y 144, y 145, y 146, y 147, y 148, y 149, y 150, y 151, y 152, y 153, y 154, y 155, y 156, y 157, y 158, y 159, y 160, y 161, y 162, y 163, y 164, y 165, y 166, y 167, y 168, y 169, y 170, y 171, y 172, y 173, y 174, y 175, y 176, y 177, y 178, y 179, y 180, y 181, y 182, y 183, y 184, y 185, y 186, y 187, y 188, y 189, y 190, y 191, y 192, y 193, y 194, y 195, y 196, y 197, y 198, y 199, y 200, y 201, y 202, y 203, y 204, y 205, y 206, y 207, y 208, y 209, y 210, y 211, y 212, y 213, y 214, y 215, y 216, y 217, y 218, y 219, y 220, y 221, y 222, y 223, y 224, y 225, y 226, y 227, y 228, y 229, y 230, y 231, y 232, y 233, y 234, y 235, y 236, y 237, y 238, y 239, y 240, y 241, y 242, y 243, y 244, y 245, y 246, y 247, y 248, y 249, y 250, y 251, y 252, y 253, y 254, y 255, y 256, y 257, y 258, y 259, y 260, y 261, y 262, y 263, y 264, y 265, y 266, y 267, y 268, y 269, y 270, y 271, y 272, y 273, y 274, y 275, y 276, y 277, y 278, y 279, y 280, y 281, y 282, y 283, y 284, y 285, y 286, y 287, y 288, y 289, y 290, y 291, y 292, y 293, y 294, y 295, y 296, y 297, y 298, y 299, y 300, y 301, y 302, y 303, y 304, y 305, y 306, y 307, y 308, y 309, y 310, y 311, y 312, y 313, y 314, y 315, y 316, y 317, y 318, y 319, y 320, y 321, y 322, y 323, y 324, y 325, y 326, y 327, y 328, y 329, y 330, y 331, y 332, y 333, y 334, y 335, y 336, y 337, y 338, y 339, y 340, y 341, y 342, y 343, y 344, y 345, y 346, y 347, y 348, y 349, y 350, y 351, y 352, y 353, y 354, y 355, y 356, y 357, y 358, y 359, y 360, y 361, y 362, y 363, y 364, y 365, y 366, y 367, y 368, y 369, y 370, y 371, y 372, y 373, y 374, y 375, y 376, y 377, y 378, y 379, y 380, y 381, y 382, y 383, y 384, y 385, y 386, y 387, y 388, y 389, y 390, y 391, y 392, y 393, y 394, y 395, y 396, y 397, y 398, y 399, y 400, y 401, y 402, y 403, y 404, y 405, y 406, y 407, y 408, y 409, y 410, y 411, y 412, y 413, y 414, y 415, y 416, y 417, y 418, y 419, y 420, y 421, y 422, y 423, y 424, y 425, y 426, y 427, y 428, y 429, y 430, y 431, y 432, y 433, y 434, y 435, y 436, y 437, y 438, y 439, y 440, y 441, y 442, y 443, y 444, y 445, y 446, y 447, y 448, y 449, y 450, y 451, y 452, y 453, y 454, y 455, y 456, y 457, y 458, y 459, y 460, y 461, y 462, y 463, y 464], defers := [] } := by
  obtain ⟨tmps, defers⟩ := a
  have yd : defers = [] := hd
  subst yd
  obtain ⟨y, hy, hi⟩ := arr_465 tmps hs
  have e2 := (hi 2).trans h2
  have e3 := (hi 3).trans h3
  have e5 := (hi 5).trans h5
  have e6 := (hi 6).trans h6
  have e7 := (hi 7).trans h7
  have e8 := (hi 8).trans h8
  have e11 := (hi 11).trans h11
  have e13 := (hi 13).trans h13
  have e15 := (hi 15).trans h15
  have e16 := (hi 16).trans h16
  rw [e2, e3, e5, e6, e7, e8, e11, e13, e15, e16] at hy
  exact ⟨y, congrArg (fun t => (⟨t, []⟩ : Act)) hy⟩
set_option maxRecDepth 40000 in
theorem lu19 {a : Act} {u2 u3 u5 u6 u7 u8 u11 u13 u15 u16 u17 u18 u19 : Value} (hs : a.tmps.size = 465) (hd : a.defers = []) (h2 : a.tmps.getD 2 undef = u2) (h3 : a.tmps.getD 3 undef = u3) (h5 : a.tmps.getD 5 undef = u5) (h6 : a.tmps.getD 6 undef = u6) (h7 : a.tmps.getD 7 undef = u7) (h8 : a.tmps.getD 8 undef = u8) (h11 : a.tmps.getD 11 undef = u11) (h13 : a.tmps.getD 13 undef = u13) (h15 : a.tmps.getD 15 undef = u15) (h16 : a.tmps.getD 16 undef = u16) (h17 : a.tmps.getD 17 undef = u17) (h18 : a.tmps.getD 18 undef = u18) (h19 : a.tmps.getD 19 undef = u19) : ∃ y : Nat → Value, a = { tmps := #[y 0, y 1, u2, u3, y 4, u5, u6, u7, u8, y 9, y 10, u11, y 12, u13, y 14, u15, u16, u17, u18, u19, y 20, y 21, y 22, y 23, y 24, y 25, y 26, y 27, y 28, y 29, y 30, y 31, y 32, y 33, y 34, y 35, y 36, y 37, y 38, y 39, y 40, y 41, y 42, y 43, y 44, y 45, y 46, y 47, y 48, y 49, y 50, y 51, y 52, y 53, y 54, y 55, y 56, y 57, y 58, y 59, y 60, y 61, y 62, y 63, y 64, y 65, y 66, y 67, y 68, y 69, y 70, y 71, y 72, y 73, y 74, y 75, y 76, y 77, y 78, y 79, y 80, y 81, y 82, y 83, y 84, y 85, y 86, y 87, y 88, y 89, y 90, y 91, y 92, y 93, y 94, y 95, y 96, y 97, y 98, y 99, y 100, y 101, y 102, y 103, y 104, y 105, y 106, y 107, y 108, y 109, y 110, y 111, y 112, y 113, y 114, y 115, y 116, y 117, y 118, y 119, y 120, y 121, y 122, y 123, y 124, y 125, y 126, y 127, y 128, y 129, y 130, y 131, y 132, y 133, y 134, y 135, y 136, y 137, y 138, y 139, y 140, y 141, y 142, y 143, y 144, y 145, y 146, y 147, y 148, y 149, y 150, y 151, y 152, y 153, y 154, y 155, y 156, y 157, y 158, y 159, y 160, y 161, y 162, y 163, y 164, y 165, y 166, y 167, y 168, y 169, y 170, y 171, y 172, y 173, y 174, y 175, y 176, y 177, y 178, y 179, y 180, y 181, y 182, y 183, y 184, y 185, y 186, y 187, y 188, y 189, y 190, y 191, y 192, y 193, y 194, y 195, y 196, y 197, y 198, y 199, y 200, y 201, y 202, y 203, y 204, y 205, y 206, y 207, y 208, y 209, y 210, y 211, y 212, y 213, y 214, y 215, y 216, y 217, y 218, y 219, y 220, y 221, y 222, y 223, y 224, y 225, y 226, y 227, y 228, y 229, y 230, y 231, y 232, y 233, y 234, y 235, y 236, y 237, y 238, y 239, y 240, y 241, y 242, y 243, y 244, y 245, y 246, y 247, y 248, y 249, y 250, y 251, y 252, y 253, y 254, y 255, y 256, y 257, y 258, y 259, y 260, y 261, y 262, y 263, y 264, y 265, y 266, y 267, y 268, y 269, y 270, y 271, y 272, y 273, y 274, y 275, y 276, y 277, y 278, y 279, y 280, y 281, y 282, y 283, y 284, y 285, y 286, y 287, y 288, y 289, y 290, y 291, y 292, y 293, y 294, y 295, y 296, y 297, y 298, y 299, y 300, y 301, y 302, y 303, y 304, y 305, y 306, y 307, y 308, y 309, y 310, y 311, y 312, y 313, y 314, y 315, y 316, y 317, y 318, y 319, y 320, y 321, y 322, y 323, y 324, y 325, y 326, y 327, y 328, y 329, y 330, y 331, y 332, y 333, y 334, y 335, y 336, y 337, y 338, y 339, y 340, y 341, y 342, y 343, y 344, y 345, y 346, y 347, y 348, y 349, y 350, y 351, y 352, y 353, y 354, y 355, y 356, y 357, y 358, y 359, y 360, y 361, y 362, y 363, y 364, y 365, y 366, y 367, y 368, y 369, y 370, y 371, y 372, y 373, y 374, y 375, y 376, y 377, y 378, y 379, y 380, y 381, y 382, y 383, y 384, y 385, y 386, y 387, y 388, y 389, y 390, y 391, y 392, y 393, y 394, y 395, y 396, y 397, y 398, y 399, y 400, y 401, y 402, y 403, y 404, y 405, y 406, y 407, y 408, y 409, y 410, y 411, y 412, y 413, y 414, y 415, y 416, y 417, y 418, y 419, y 420, y 421, y 422, y 423, y 424, y 425, y 426, y 427, y 428, y 429, y 430, y 431, y 432, y 433, y 434, y 435, y 436, y 437, y 438, y 439, y 440, y 441, y 442, y 443, y 444, y 445, y 446, y 447, y 448, y 449, y 450, y 451, y 452, y 453, y 454, y 455, y 456, y 457, y 458, y 459, y 460, y 461, y 462, y 463, y 464], defers := [] } := by
  obtain ⟨tmps, defers⟩ := a
  have yd : defers = [] := hd
  subst yd
  obtain ⟨y, hy, hi⟩ := arr_465 tmps hs
  have e2 := (hi 2).trans h2
  have e3 := (hi 3).trans h3
  have e5 := (hi 5).trans h5
  have e6 := (hi 6).trans h6
  have e7 := (hi 7).trans h7
  have e8 := (hi 8).trans h8
  have e11 := (hi 11).trans h11
  have e13 := (hi 13).trans h13
  have e15 := (hi 15).trans h15
  have e16 := (hi 16).trans h16
  have e17 := (hi 17).trans h17
  have e18 := (hi 18).trans h18
  have e19 := (hi 19).trans h19
  rw [e2, e3, e5, e6, e7, e8, e11, e13, e15, e16, e17, e18, e19] at hy
  exact ⟨y, congrArg (fun t => (⟨t, []⟩ : Act)) hy⟩
set_option maxRecDepth 40000 in
theorem lu20 {a : Act} {u2 u3 u5 u6 u7 u8 u11 u13 u15 u16 u17 u18 u19 u20 : Value} (hs : a.tmps.size = 465) (hd : a.defers = []) (h2 : a.tmps.getD 2 undef = u2) (h3 : a.tmps.getD 3 undef = u3) (h5 : a.tmps.getD 5 undef = u5) (h6 : a.tmps.getD 6 undef = u6) (h7 : a.tmps.getD 7 undef = u7) (h8 : a.tmps.getD 8 undef = u8) (h11 : a.tmps.getD 11 undef = u11) (h13 : a.tmps.getD 13 undef = u13) (h15 : a.tmps.getD 15 undef = u15) (h16 : a.tmps.getD 16 undef = u16) (h17 : a.tmps.getD 17 undef = u17) (h18 : a.tmps.getD 18 undef = u18) (h19 : a.tmps.getD 19 undef = u19) (h20 : a.tmps.getD 20 undef = u20) : ∃ y : Nat → Value, a = { tmps := #[y 0, y 1, u2, u3, y 4, u5, u6, u7, u8, y 9, y 10, u11, y 12, u13, y 14, u15, u16, u17, u18, u19, u20, y 21, y 22, y 23, y 24, y 25, y 26, y 27, y 28, y 29, y 30, y 31, y 32, y 33, y 34, y 35, y 36, y 37, y 38, y 39, y 40, y 41, y 42, y 43, y 44, y 45, y 46, y 47, y 48, y 49, y 50, y 51, y 52, y 53, y 54, y 55, y 56, y 57, y 58, y 59, y 60, y 61, y 62, y 63, y 64, y 65, y 66, y 67, y 68, y 69, y 70, y 71, y 72, y 73, y 74, y 75, y 76, y 77, y 78, y 79, y 80, y 81, y 82, y 83, y 84, y 85, y 86, y 87, y 88, y 89, y 90, y 91, y 92, y 93, y 94, y 95, y 96, y 97, y 98, y 99, y 100, y 101, y 102, y 103, y 104, y 105, y 106, y 107, y 108, y 109, y 110, y 111, y 112, y 113, y 114, y 115, y 116, y 117, y 118, y 119, y 120, y 121, y 122, y 123, y 124, y 125, y 126, y 127, y 128, y 129, y 130, y 131, y 132, y 133, y 134, y 135, y 136, y 137, y 138, y 139, y 140, y 141, y 142, y 143, y 144, y 145, y 146, y 147, y 148, y 149, y 150, y 151, y 152, y 153, y 154, y 155, y 156, y 157, y 158, y 159, y 160, y 161, y 162, y 163, y 164, y 165, y 166, y 167, y 168, y 169, y 170, y 171, y 172, y 173, y 174, y 175, y 176, y 177, y 178, y 179, y 180, y 181, y 182, y 183, y 184, y 185, y 186, y 187, y 188, y 189, y 190, y 191, y 192, y 193, y 194, y 195, y 196, y 197, y 198, y 199, y 200, y 201, y 202, y 203, y 204, y 205, y 206, y 207, y 208, y 209, y 210, y 211, y 212, y 213, y 214, y 215, y 216, y 217, y 218, y 219, y 220, y 221, y 222, y 223, y 224, y 225, y 226, y 227, y 228, y 229, y 230, y 231, y 232, y 233, y 234, y 235, y 236, y 237, y 238, y 239, y 240, y 241, y 242, y 243, y 244, y 245, y 246, y 247, y 248, y 249, y 250, y 251, y 252, y 253, y 254, y 255, y 256, y 257, y 258, y 259, y 260, y 261, y 262, y 263, y 264, y 265, y 266, y 267, y 268, y 269, y 270, y 271, y 272, y 273, y 274, y 275, y 276, y 277, y 278, y 279, y 280, y 281, y 282, y 283, y 284, y 285, y 286, y 287, y 288, y 289, y 290, y 291, y 292, y 293, y 294, y 295, y 296, y 297, y 298, y 299, y 300, y 301, y 302, y 303, y 304, y 305, y 306, y 307, y 308, y 309, y 310, y 311, y 312, y 313, y 314, y 315, y 316, y 317, y 318, y 319, y 320, y 321, y 322, y 323, y 324, y 325, y 326, y 327, y 328, y 329, y 330, y 331, y 332, y 333, y 334, y 335, y 336, y 337, y 338, y 339, y 340, y 341, y 342, y 343, y 344, y 345, y 346, y 347, y 348, y 349, y 350, y 351, y 352, y 353, y 354, y 355, y 356, y 357, y 358, y 359, y 360, y 361, y 362, y 363, y 364, y 365, y 366, y 367, y 368, y 369, y 370, y 371, y 372, y 373, y 374, y 375, y 376, y 377, y 378, y 379, y 380, y 381, y 382, y 383, y 384, y 385, y 386, y 387, y 388, y 389, y 390, y 391, y 392, y 393, y 394, y 395, y 396, y 397, y 398, y 399, y 400, y 401, y 402, y 403, y 404, y 405, y 406, y 407, y 408, y 409, y 410, y 411, y 412, y 413, y 414, y 415, y 416, y 417, y 418, y 419, y 420, y 421, y 422, y 423, y 424, y 425, y 426, y 427, y 428, y 429, y 430, y 431, y 432, y 433, y 434, y 435, y 436, y 437, y 438, y 439, y 440, y 441, y 442, y 443, y 444, y 445, y 446, y 447, y 448, y 449, y 450, y 451, y 452, y 453, y 454, y 455, y 456, y 457, y 458, y 459, y 460, y 461, y 462, y 463, y 464], defers := [] } := by
  obtain ⟨tmps, defers⟩ := a
  have yd : defers = [] := hd
  subst yd
  obtain ⟨y, hy, hi⟩ := arr_465 tmps hs
  have e2 := (hi 2).trans h2
  have e3 := (hi 3).trans h3
  have e5 := (hi 5).trans h5
  have e6 := (hi 6).trans h6
  have e7 := (hi 7).trans h7
  have e8 := (hi 8).trans h8
  have e11 := (hi 11).trans h11
  have e13 := (hi 13).trans h13
  have e15 := (hi 15).trans h15
  have e16 := (hi 16).trans h16
  have e17 := (hi 17).trans h17
  have e18 := (hi 18).trans h18
  have e19 := (hi 19).trans h19
  have e20 := (hi 20).trans h20
  rw [e2, e3, e5, e6, e7, e8, e11, e13, e15, e16, e17, e18, e19, e20] at hy
  exact ⟨y, congrArg (fun t => (⟨t, []⟩ : Act)) hy⟩
set_option maxRecDepth 40000 in
theorem lu21 {a : Act} {u2 u3 u5 u6 u7 u8 u11 u13 u15 u16 u17 u18 u19 u20 u21 : Value} (hs : a.tmps.size = 465) (hd : a.defers = []) (h2 : a.tmps.getD 2 undef = u2) (h3 : a.tmps.getD 3 undef = u3) (h5 : a.tmps.getD 5 undef = u5) (h6 : a.tmps.getD 6 undef = u6) (h7 : a.tmps.getD 7 undef = u7) (h8 : a.tmps.getD 8 undef = u8) (h11 : a.tmps.getD 11 undef = u11) (h13 : a.tmps.getD 13 undef = u13) (h15 : a.tmps.getD 15 undef = u15) (h16 : a.tmps.getD 16 undef = u16) (h17 : a.tmps.getD 17 undef = u17) (h18 : a.tmps.getD 18 undef = u18) (h19 : a.tmps.getD 19 undef = u19) (h20 : a.tmps.getD 20 undef = u20) (h21 : a.tmps.getD 21 undef = u21) : ∃ y : Nat → Value, a = { tmps := #[y 0, y 1, u2, u3, y 4, u5, u6, u7, u8, y 9, y 10, u11, y 12, u13, y 14, u15, u16, u17, u18, u19, u20, u21, y 22, y 23, y 24, y 25, y 26, y 27, y 28, y 29, y 30, y 31, y 32, y 33, y 34, y 35, y 36, y 37, y 38, y 39, y 40, y 41, y 42, y 43, y 44, y 45, y 46, y 47, y 48, y 49, y 50, y 51, y 52, y 53, y 54, y 55, y 56, y 57, y 58, y 59, y 60, y 61, y 62, y 63, y 64, y 65, y 66, y 67, y 68, y 69, y 70, y 71, y 72, y 73, y 74, y 75, y 76, y 77, y 78, y 79, y 80, y 81, y 82, y 83, y 84, y 85, y 86, y 87, y 88, y 89, y 90, y 91, y 92, y 93, y 94, y 95, y 96, y 97, y 98, y 99, y 100, y 101, y 102, y 103, y 104, y 105, y 106, y 107, y 108, y 109, y 110, y 111, y 112, y 113, y 114, y 115, y 116, y 117, y 118, y 119, y 120, y 121, y 122, y 123, y 124, y 125, y 126, y 127, y 128, y 129, y 130, y 131, y 132, y 133, y 134, y 135, y 136, y 137, y 138, y 139, y 140, y 141, y 142, y 143, y 144, y 145, y 146, y 147, y 148, y 149, y 150, y 151, y 152, y 153, y 154, y 155, y 156, y 157, y 158, y 159, y 160, y 161, y 162, y 163, y 164, y 165, y 166, y 167, y 168, y 169, y 170, y 171, y 172, y 173, y 174, y 175, y 176, y 177, y 178, y 179, y 180, y 181, y 182, y 183, y 184, y 185, y 186, y 187, y 188, y 189, y 190, y 191, y 192, y 193, y 194, y 195, y 196, y 197, y 198, y 199, y 200, y 201, y 202, y 203, y 204, y 205, y 206, y 207, y 208, y 209, y 210, y 211, y 212, y 213, y 214, y 215, y 216, y 217, y 218, y 219, y 220, y 221, y 222, y 223, y 224, y 225, y 226, y 227, y 228, y 229, y 230, y 231, y 232, y 233, y 234, y 235, y 236, y 237, y 238, y 239, y 240, y 241, y 242, y 243, y 244, y 245, y 246, y 247, y 248, y 249, y 250, y 251, y 252, y 253, y 254, y 255, y 256, y 257, y 258, y 259, y 260, y 261, y 262, y 263, y 264, y 265, y 266, y 267, y 268, y 269, y 270, y 271, y 272, y 273, y 274, y 275, y 276, y 277, y 278, y 279, y 280, y 281, y 282, y 283, y 284, y 285, y 286, y 287, y 288, y 289, y 290, y 291, y 292, y 293, y 294, y 295, y 296, y 297, y 298, y 299, y 300, y 301, y 302, y 303, y 304, y 305, y 306, y 307, y 308, y 309, y 310, y 311, y 312, y 313, y 314, y 315, y 316, y 317, y 318, y 319, y 320, y 321, y 322, y 323, y 324, y 325, y 326, y 327, y 328, y 329, y 330, y 331, y 332, y 333, y 334, y 335, y 336, y 337, y 338, y 339, y 340, y 341, y 342, y 343, y 344, y 345, y 346, y 347, y 348, y 349, y 350, y 351, y 352, y 353, y 354, y 355, y 356, y 357, y 358, y 359, y 360, y 361, y 362, y 363, y 364, y 365, y 366, y 367, y 368, y 369, y 370, y 371, y 372, y 373, y 374, y 375, y 376, y 377, y 378, y 379, y 380, y 381, y 382, y 383, y 384, y 385, y 386, y 387, y 388, y 389, y 390, y 391, y 392, y 393, y 394, y 395, y 396, y 397, y 398, y 399, y 400, y 401, y 402, y 403, y 404, y 405, y 406, y 407, y 408, y 409, y 410, y 411, y 412, y 413, y 414, y 415, y 416, y 417, y 418, y 419, y 420, y 421, y 422, y 423, y 424, y 425, y 426, y 427, y 428, y 429, y 430, y 431, y 432, y 433, y 434, y 435, y 436, y 437, y 438, y 439, y 440, y 441, y 442, y 443, y 444, y 445, y 446, y 447, y 448, y 449, y 450, y 451, y 452, y 453, y 454, y 455, y 456, y 457, y 458, y 459, y 460, y 461, y 462, y 463, y 464], defers := [] } := by
  obtain ⟨tmps, defers⟩ := a
  have yd : defers = [] := hd
  subst yd
  obtain ⟨y, hy, hi⟩ := arr_465 tmps hs
  have e2 := (hi 2).trans h2
  have e3 := (hi 3).trans h3
  have e5 := (hi 5).trans h5
  have e6 := (hi 6).trans h6
  have e7 := (hi 7).trans h7
  have e8 := (hi 8).trans h8
  have e11 := (hi 11).trans h11
  have e13 := (hi 13).trans h13
  have e15 := (hi 15).trans h15
  have e16 := (hi 16).trans h16
  have e17 := (hi 17).trans h17
  have e18 := (hi 18).trans h18
  have e19 := (hi 19).trans h19
  have e20 := (hi 20).trans h20
  have e21 := (hi 21).trans h21
  rw [e2, e3, e5, e6, e7, e8, e11, e13, e15, e16, e17, e18, e19, e20, e21] at hy
  exact ⟨y, congrArg (fun t => (⟨t, []⟩ : Act)) hy⟩

set_option maxRecDepth 40000 in
set_option maxHeartbeats 8000000 in
/-- Regions 52 to 56. -/
theorem mt_5c (wb : World) (gM gW : Nat) (X : MD) (P : PS) (g2 g3 g4 g5 g6 : Nat) (hin : MtIn wb gM gW X P) (hm : Meet X P) (e f t c : Nat) (he : e < X.E) (ho : X.onc e = true) (f1 : f < P.nS) (t1 : t < P.nS) (c1 : c < P.nC) (hff : P.fr e = (f : Int)) (htt : P.to e = (t : Int)) (hcf : P.comp f = (c : Int)) (hct : P.comp t = (c : Int)) (wr : World) (hI : T5b wb gM gW X P g2 g3 g4 g5 g6 e f t c wr) (a : Act) (hf : FU gM gW X.E P.nS P.nC X.nc g2 g3 g4 g5 g6 a) (h17 : a.tmps.getD 17 undef = .int .i64 (e : Int)) (h18 : a.tmps.getD 18 undef = .int .i64 (f : Int)) (h19 : a.tmps.getD 19 undef = .int .i64 (t : Int)) (h20 : a.tmps.getD 20 undef = .int .i64 (c : Int)) (h21 : a.tmps.getD 21 undef = .int .i64 ((X.cls e : Nat) : Int)) (Q : Exit → Act → World → Prop)
    (hC : ∀ (a : Act) (w : World), FU gM gW X.E P.nS P.nC X.nc g2 g3 g4 g5 g6 a → a.tmps.getD 17 undef = .int .i64 (e : Int) → T5 wb X P g2 g3 g4 g5 g6 (e + 1) w → Q .normal a w) :
    Code.wp Try.prog (tl 9 (f12e (Try.f12.body.getD .skip))) Q a wr := by
  obtain ⟨y, rfl⟩ := lu21 hf.ft.sz hf.ft.df hf.ft.s2 hf.ft.s3 hf.ft.s5 hf.ft.s6 hf.ft.s7 hf.s8 hf.s11 hf.s13 hf.s15 hf.s16 h17 h18 h19 h20 h21
  obtain ⟨hE, hn, hS, hCC, hnc⟩ := hin.sm
  have HIN : Hid (MtIn wb gM gW X P) := hin
  have HM : Hid (Meet X P) := hm
  have HC : Hid (∀ (a : Act) (w : World), FU gM gW X.E P.nS P.nC X.nc g2 g3 g4 g5 g6 a → a.tmps.getD 17 undef = .int .i64 (e : Int) → T5 wb X P g2 g3 g4 g5 g6 (e + 1) w → Q .normal a w) := hC
  obtain ⟨D, tc, tk, td, tc0, tk0, d1, d2, d3, d4, d5, d6, d7, d8, d9⟩ := hI
  have kn := hm.cl e he ho
  have z3 := d3.cell d1 rfl kn
  have z4 := d4.cell d1 rfl c1
  rw [d8, if_pos rfl] at z3
  rw [d9, if_pos rfl] at z4
  have z5 := d5.cell d1 rfl c1
  have y5 := d5.frozen d1 c
  obtain ⟨n0, n1⟩ := ecn_le X P e c
  have e1 := d1.set d5.1 c (.int .i64 (ecn X P e c + 1))
  have e6 := d6.set_ne (r' := 5) (j := c) (v := .int .i64 (ecn X P e c + 1)) (by omega)
  have z6 := e6.cell e1 rfl f1
  have y6 := e6.frozen e1 f
  have g1 := e1.set e6.1 f (.bool true)
  have g6' := e6.set f true
  have z7 := g6'.cell g1 rfl t1
  have y7 := g6'.frozen g1 t
  have fin : Hid (T5 wb X P g2 g3 g4 g5 g6 (e + 1) (((wr.setCell ⟨g5, c, none⟩ (.int .i64 (ecn X P e c + 1))).setCell ⟨g6, f, none⟩ (.bool true)).setCell ⟨g6, t, none⟩ (.bool true))) := by
    have hcc : P.comp (P.fr e).toNat = ((c : Nat) : Int) := by rw [hff, Int.toNat_natCast]; exact hcf
    refine ⟨_, tc, tk, upb (upb td f true) t true, g1.set g6'.1 t _, ((d2.set_ne (by omega)).set_ne (by omega)).set_ne (by omega), ((d3.set_ne (by omega)).set_ne (by omega)).set_ne (by omega), ((d4.set_ne (by omega)).set_ne (by omega)).set_ne (by omega), (((d5.set c _).set_ne (by omega)).set_ne (by omega)).congr (fun c' _ => (ecn_next ho hcc c').symm), g6'.set t true, d7.next hff htt hcf d8 d9 (fun s => ?_) hm he ho⟩
    by_cases s2 : s = t
    · subst s2; rw [upb_same, if_pos (.inr rfl)]
    · rw [upb_other _ _ s2]
      by_cases s3 : s = f
      · subst s3; rw [upb_same, if_pos (.inl rfl)]
      · rw [upb_other _ _ s3, if_neg (by omega)]
  clear hf hC hin hm h17 h18 h19 h20 h21 d1 d2 d3 d4 d5 d6 d7 d8 d9 e1 e6 g1 g6' hff htt hcf ho hct
  generalize ecn X P e c = ec at *
  generalize upb td f true t = tb at *
  generalize td f = ta at *
  generalize X.cls e = k at *
  show Code.wp Try.prog (Code.seq _ (Code.seq _ (Code.seq _ _))) Q _ wr
  refine wp_seq_k (fun K1 hK => ?_)
  have HK1 : Hid (∀ (a : Act) (w : World), _ → K1 a w) := hK
  clear hK
  go_wp2
  refine HK1.out _ _ ?_
  clear HK1 K1 z3 z4
  refine wp_seq_k (fun K1 hK => ?_)
  have HK1 : Hid (∀ (a : Act) (w : World), _ → K1 a w) := hK
  clear hK
  go_wp2
  refine HK1.out _ _ ?_
  clear HK1 K1 z5 y5
  generalize wr.setCell ⟨g5, c, none⟩ (.int .i64 (ec + 1)) = w1 at *
  refine wp_seq_k (fun K1 hK => ?_)
  have HK1 : Hid (∀ (a : Act) (w : World), _ → K1 a w) := hK
  clear hK
  go_wp2
  refine HK1.out _ _ ?_
  clear HK1 K1 z6 y6
  generalize w1.setCell ⟨g6, f, none⟩ (.bool true) = w2 at *
  go_wp2
  generalize w2.setCell ⟨g6, t, none⟩ (.bool true) = w3 at *
  exact HC.out _ _ ⟨⟨by kernel_rfl, by kernel_rfl, by kernel_rfl, by kernel_rfl, by kernel_rfl, by kernel_rfl, by kernel_rfl⟩, by kernel_rfl, by kernel_rfl, by kernel_rfl, by kernel_rfl, by kernel_rfl⟩ (by kernel_rfl) fin.out

set_option maxRecDepth 40000 in
set_option maxHeartbeats 8000000 in
/-- Regions 45 to 51. -/
theorem mt_5b (wb : World) (gM gW : Nat) (X : MD) (P : PS) (g2 g3 g4 g5 g6 : Nat) (hin : MtIn wb gM gW X P) (hm : Meet X P) (e f t c : Nat) (he : e < X.E) (ho : X.onc e = true) (f1 : f < P.nS) (t1 : t < P.nS) (c1 : c < P.nC) (hff : P.fr e = (f : Int)) (htt : P.to e = (t : Int)) (hcf : P.comp f = (c : Int)) (hct : P.comp t = (c : Int)) (wr : World) (hI : T5 wb X P g2 g3 g4 g5 g6 e wr) (a : Act) (hf : FU gM gW X.E P.nS P.nC X.nc g2 g3 g4 g5 g6 a) (h17 : a.tmps.getD 17 undef = .int .i64 (e : Int)) (h18 : a.tmps.getD 18 undef = .int .i64 (f : Int)) (h19 : a.tmps.getD 19 undef = .int .i64 (t : Int)) (Q : Exit → Act → World → Prop)
    (hC : ∀ (a : Act) (w : World), FU gM gW X.E P.nS P.nC X.nc g2 g3 g4 g5 g6 a → a.tmps.getD 17 undef = .int .i64 (e : Int) → T5 wb X P g2 g3 g4 g5 g6 (e + 1) w → Q .normal a w) :
    Code.wp Try.prog (tl 5 (f12e (Try.f12.body.getD .skip))) Q a wr := by
  obtain ⟨y, rfl⟩ := lu19 hf.ft.sz hf.ft.df hf.ft.s2 hf.ft.s3 hf.ft.s5 hf.ft.s6 hf.ft.s7 hf.s8 hf.s11 hf.s13 hf.s15 hf.s16 h17 h18 h19
  obtain ⟨hE, hn, hS, hCC, hnc⟩ := hin.sm
  have HIN : Hid (MtIn wb gM gW X P) := hin
  have HM : Hid (Meet X P) := hm
  have HC : Hid (∀ (a : Act) (w : World), FU gM gW X.E P.nS P.nC X.nc g2 g3 g4 g5 g6 a → a.tmps.getD 17 undef = .int .i64 (e : Int) → T5 wb X P g2 g3 g4 g5 g6 (e + 1) w → Q .normal a w) := hC
  have H5 : Hid (∀ (wr : World), T5b wb gM gW X P g2 g3 g4 g5 g6 e f t c wr → ∀ (a : Act), FU gM gW X.E P.nS P.nC X.nc g2 g3 g4 g5 g6 a → a.tmps.getD 17 undef = .int .i64 (e : Int) → a.tmps.getD 18 undef = .int .i64 (f : Int) → a.tmps.getD 19 undef = .int .i64 (t : Int) → a.tmps.getD 20 undef = .int .i64 (c : Int) → a.tmps.getD 21 undef = .int .i64 ((X.cls e : Nat) : Int) → Code.wp Try.prog (tl 9 (f12e (Try.f12.body.getD .skip))) Q a wr) := fun wr hI a hf h17 h18 h19 h20 h21 => mt_5c wb gM gW X P g2 g3 g4 g5 g6 hin hm e f t c he ho f1 t1 c1 hff htt hcf hct wr hI a hf h17 h18 h19 h20 h21 Q hC
  obtain ⟨D, tc, tk, td, d1, d2, d3, d4, d5, d6, d7⟩ := hI
  obtain ⟨b3, k3, x1, x2, x3, x4⟩ := hin.v3.two d1.grew f1 t1
  obtain ⟨fc, hfc, hfe⟩ := hin.m4
  obtain ⟨b4, k4, x5, x6, x7⟩ := hfc.at d1.grew he
  rw [hfe e he ho] at x7
  rw [hcf] at x3
  rw [hct] at x4
  have kn := hm.cl e he ho
  have z3 := d3.cell d1 rfl kn
  have z4 := d4.cell d1 rfl c1
  have hcc : P.comp (P.fr e).toNat = ((c : Nat) : Int) := by rw [hff, Int.toNat_natCast]; exact hcf
  show Code.wp Try.prog (Code.seq _ (Code.seq _ (Code.seq _ (Code.seq _ (tl 9 (f12e (Try.f12.body.getD .skip))))))) Q _ wr
  rcases d7.case hm he ho c1 hcc with ⟨i1, i2⟩ | ⟨i1, i2⟩
  · rw [i1] at z3
    rw [i2] at z4
    have y3 := d3.frozen d1 (X.cls e)
    have e1 := d1.set d3.1 (X.cls e) (.int .i64 (c : Int))
    have e4 := d4.set_ne (r' := 3) (j := X.cls e) (v := .int .i64 (c : Int)) (by omega)
    have z4' := e4.cell e1 rfl c1
    have y4 := e4.frozen e1 c
    rw [i2] at z4'
    have fin : Hid (T5b wb gM gW X P g2 g3 g4 g5 g6 e f t c ((wr.setCell ⟨g3, X.cls e, none⟩ (.int .i64 (c : Int))).setCell ⟨g4, c, none⟩ (.int .i64 ((X.cls e : Nat) : Int)))) :=
      ⟨_, _, _, td, tc, tk, e1.set e4.1 c _, (d2.set_ne (by omega)).set_ne (by omega), (d3.set (X.cls e) _).set_ne (by omega), e4.set c _, (d5.set_ne (by omega)).set_ne (by omega), (d6.set_ne (by omega)).set_ne (by omega), d7, fun k => rfl, fun k => rfl⟩
    clear hf hC hin hm h17 h18 h19 d1 d2 d3 d4 d5 d6 d7 e1 e4 hff htt hcf ho hct hfc hfe hcc i1 i2
    generalize X.cls e = k at *
    refine wp_seq_k (fun K1 hK => ?_)
    have HK1 : Hid (∀ (a : Act) (w : World), _ → K1 a w) := hK
    clear hK
    go_wp2
    refine HK1.out _ _ ?_
    clear HK1 K1
    refine wp_seq_k (fun K1 hK => ?_)
    have HK1 : Hid (∀ (a : Act) (w : World), _ → K1 a w) := hK
    clear hK
    go_wp2
    refine HK1.out _ _ ?_
    clear HK1 K1 x1 x2 x3 x4
    refine wp_seq_k (fun K1 hK => ?_)
    have HK1 : Hid (∀ (a : Act) (w : World), _ → K1 a w) := hK
    clear hK
    go_wp2
    refine HK1.out _ _ ?_
    clear HK1 K1 x5 x6 x7
    refine wp_seq_k (fun K1 hK => ?_)
    have HK1 : Hid (∀ (a : Act) (w : World), _ → K1 a w) := hK
    clear hK
    show Code.wp Try.prog (Code.seq _ (Code.cond (.tmp 237) (Code.seq _ _) Code.skip)) _ _ wr
    refine wp_seq_k (fun K2 hK => ?_)
    have HK2 : Hid (∀ (a : Act) (w : World), _ → K2 a w) := hK
    clear hK
    go_wp2
    refine HK2.out _ _ (wp_cond_true (by kernel_rfl) ?_)
    clear HK2 K2 z4
    refine wp_seq_k (fun K2 hK => ?_)
    have HK2 : Hid (∀ (a : Act) (w : World), _ → K2 a w) := hK
    clear hK
    go_wp2
    refine HK2.out _ _ ?_
    clear HK2 K2 z3 y3
    generalize wr.setCell ⟨g3, k, none⟩ (.int .i64 (c : Int)) = w1 at *
    go_wp2
    refine HK1.out _ _ ?_
    exact H5.out _ fin.out _ ⟨⟨by kernel_rfl, by kernel_rfl, by kernel_rfl, by kernel_rfl, by kernel_rfl, by kernel_rfl, by kernel_rfl⟩, by kernel_rfl, by kernel_rfl, by kernel_rfl, by kernel_rfl, by kernel_rfl⟩ (by kernel_rfl) (by kernel_rfl) (by kernel_rfl) (by kernel_rfl) (by kernel_rfl)
  · rw [i1] at z3
    rw [i2] at z4
    have fin : Hid (T5b wb gM gW X P g2 g3 g4 g5 g6 e f t c wr) := by
      refine ⟨D, tc, tk, td, tc, tk, d1, d2, d3, d4, d5, d6, d7, fun k => ?_, fun k => ?_⟩
      · by_cases h : k = X.cls e
        · rw [if_pos h, h]; exact i1
        · rw [if_neg h]
      · by_cases h : k = c
        · rw [if_pos h, h]; exact i2
        · rw [if_neg h]
    clear hf hC hin hm h17 h18 h19 d1 d2 d3 d4 d5 d6 d7 hff htt hcf ho hct hfc hfe hcc i1 i2
    generalize X.cls e = k at *
    have hc1 : ((c : Int) == -1) = false := by rw [beq_eq_false_iff_ne]; omega
    refine wp_seq_k (fun K1 hK => ?_)
    have HK1 : Hid (∀ (a : Act) (w : World), _ → K1 a w) := hK
    clear hK
    go_wp2
    refine HK1.out _ _ ?_
    clear HK1 K1
    refine wp_seq_k (fun K1 hK => ?_)
    have HK1 : Hid (∀ (a : Act) (w : World), _ → K1 a w) := hK
    clear hK
    go_wp2
    refine HK1.out _ _ ?_
    clear HK1 K1 x1 x2 x3 x4
    refine wp_seq_k (fun K1 hK => ?_)
    have HK1 : Hid (∀ (a : Act) (w : World), _ → K1 a w) := hK
    clear hK
    go_wp2
    refine HK1.out _ _ ?_
    clear HK1 K1 x5 x6 x7
    refine wp_seq_k (fun K1 hK => ?_)
    have HK1 : Hid (∀ (a : Act) (w : World), _ → K1 a w) := hK
    clear hK
    go_wp2
    refine HK1.out _ _ ?_
    clear HK1 K1
    exact H5.out _ fin.out _ ⟨⟨by kernel_rfl, by kernel_rfl, by kernel_rfl, by kernel_rfl, by kernel_rfl, by kernel_rfl, by kernel_rfl⟩, by kernel_rfl, by kernel_rfl, by kernel_rfl, by kernel_rfl, by kernel_rfl⟩ (by kernel_rfl) (by kernel_rfl) (by kernel_rfl) (by kernel_rfl) (by kernel_rfl)

def L4I (wb : World) (gM gW : Nat) (X : MD) (P : PS) (g2 g3 g4 g5 g6 : Nat) (a : Act) (w : World) : Prop := FU gM gW X.E P.nS P.nC X.nc g2 g3 g4 g5 g6 a ∧ ∃ e : Nat, a.tmps.getD 17 undef = .int .i64 (e : Int) ∧ e ≤ X.E ∧ T5 wb X P g2 g3 g4 g5 g6 e w
set_option maxRecDepth 40000 in
set_option maxHeartbeats 8000000 in
/-- The edges. -/
theorem mt_5 (wb : World) (gM gW : Nat) (X : MD) (P : PS) (g2 g3 g4 g5 g6 : Nat) (hin : MtIn wb gM gW X P) (hm : Meet X P) (wr : World) (hI : T5 wb X P g2 g3 g4 g5 g6 0 wr) (a : Act) (hf : FU gM gW X.E P.nS P.nC X.nc g2 g3 g4 g5 g6 a) (Q : Exit → Act → World → Prop)
    (hC : ∀ (a : Act) (w : World), FU gM gW X.E P.nS P.nC X.nc g2 g3 g4 g5 g6 a → T5 wb X P g2 g3 g4 g5 g6 X.E w → Q .normal a w) :
    Code.wp Try.prog (sL (tl 15 (Try.f12.body.getD .skip))) Q a wr := by
  obtain ⟨y, rfl⟩ := luu hf.ft.sz hf.ft.df hf.ft.s2 hf.ft.s3 hf.ft.s5 hf.ft.s6 hf.ft.s7 hf.s8 hf.s11 hf.s13 hf.s15 hf.s16
  obtain ⟨hE, hn, hS, hCC, hnc⟩ := hin.sm
  have HIN : Hid (MtIn wb gM gW X P) := hin
  have HM : Hid (Meet X P) := hm
  have HI : Hid (T5 wb X P g2 g3 g4 g5 g6 0 wr) := hI
  have HC : Hid (∀ (a : Act) (w : World), FU gM gW X.E P.nS P.nC X.nc g2 g3 g4 g5 g6 a → T5 wb X P g2 g3 g4 g5 g6 X.E w → Q .normal a w) := hC
  have hnE := hm.nE
  clear hf hC hI hin hm
  show Code.wp Try.prog (Code.seq _ (Code.block 6 (Code.loop (Code.seq (Code.seq _ (Code.cond (.tmp 140) Code.skip (Code.exit 6))) (Code.seq (Code.block 7 (f12e (Try.f12.body.getD .skip))) _))))) Q _ wr
  refine wp_seq_k (fun K1 hK => ?_)
  have HK1 : Hid (∀ (a : Act) (w : World), _ → K1 a w) := hK
  clear hK
  go_wp2
  refine HK1.out _ _ ?_
  clear HK1 K1
  refine wp_block ?_
  refine wp_loop (L4I wb gM gW X P g2 g3 g4 g5 g6) (fun a _ => mus 17 X.E a) ⟨⟨⟨by kernel_rfl, by kernel_rfl, by kernel_rfl, by kernel_rfl, by kernel_rfl, by kernel_rfl, by kernel_rfl⟩, by kernel_rfl, by kernel_rfl, by kernel_rfl, by kernel_rfl, by kernel_rfl⟩, 0, by kernel_rfl, Nat.zero_le _, HI.out⟩ ?_
  clear HI y
  rintro a w' ⟨hf, e, h17, e1, hI⟩
  have e17 : mus 17 X.E a = X.E - e := congrArg (fun v => X.E - (intOf v).toNat) h17
  obtain ⟨y2, rfl⟩ := lu17 hf.ft.sz hf.ft.df hf.ft.s2 hf.ft.s3 hf.ft.s5 hf.ft.s6 hf.ft.s7 hf.s8 hf.s11 hf.s13 hf.s15 hf.s16 h17
  rw [e17]
  clear e17 hf h17
  have HI : Hid (T5 wb X P g2 g3 g4 g5 g6 e w') := hI
  refine wp_seq_k (fun K1 hK => ?_)
  have HK1 : Hid (∀ (a : Act) (w : World), _ → K1 a w) := hK
  clear hK
  refine wp_seq_k (fun K2 hK => ?_)
  have HK2 : Hid (∀ (a : Act) (w : World), _ → K2 a w) := hK
  clear hK
  by_cases he : e < X.E
  · have hee : (e : Int) < (X.E : Int) := by omega
    clear hI
    go_wp2
    refine HK2.out _ _ (wp_cond_true (by kernel_rfl) (wp_skip ?_))
    refine HK1.out _ _ ?_
    clear HK1 K1 HK2 K2
    refine wp_seq_k (fun K1 hK => ?_)
    have HK1 : Hid (∀ (a : Act) (w : World), _ → K1 a w) := hK
    clear hK
    have END : Hid (∀ (a : Act) (w : World), FU gM gW X.E P.nS P.nC X.nc g2 g3 g4 g5 g6 a → a.tmps.getD 17 undef = .int .i64 (e : Int) → T5 wb X P g2 g3 g4 g5 g6 (e + 1) w → K1 a w) := by
      intro a w hf h17 hT
      obtain ⟨y5, rfl⟩ := lu17 hf.ft.sz hf.ft.df hf.ft.s2 hf.ft.s3 hf.ft.s5 hf.ft.s6 hf.ft.s7 hf.s8 hf.s11 hf.s13 hf.s15 hf.s16 h17
      have HT : Hid (T5 wb X P g2 g3 g4 g5 g6 (e + 1) w) := hT
      refine HK1.out _ _ ?_
      clear hf h17 hT HK1
      go_wp2
      exact ⟨⟨⟨⟨by kernel_rfl, by kernel_rfl, by kernel_rfl, by kernel_rfl, by kernel_rfl, by kernel_rfl, by kernel_rfl⟩, by kernel_rfl, by kernel_rfl, by kernel_rfl, by kernel_rfl, by kernel_rfl⟩, e + 1, by kernel_rfl, by omega, HT.out⟩, Nat.lt_of_le_of_lt (Nat.le_of_eq (by kernel_rfl : _ = X.E - (e + 1))) (by omega)⟩
    clear HK1
    obtain ⟨D, hG⟩ := HI.out.grew
    obtain ⟨b0, k0, x1, x2, x3⟩ := HIN.out.v0.at hG (j := e) (by omega)
    obtain ⟨b1, k1, x4, x5, x6⟩ := HIN.out.v1.at hG (j := e) (by omega)
    obtain ⟨b2, k2, x7, x8, x9⟩ := HIN.out.m3.at hG he
    rw [hnE] at x1 x2 x4 x5
    refine wp_block ?_
    cases ho : X.onc e with
    | false =>
      obtain ⟨o1, o2⟩ := HM.out.off e he ho
      rw [o1] at x3
      rw [o2] at x6
      rw [ho] at x9
      have fin : Hid (T5 wb X P g2 g3 g4 g5 g6 (e + 1) w') := by
        obtain ⟨D, tc, tk, td, d1, d2, d3, d4, d5, d6, d7⟩ := HI.out
        exact ⟨D, tc, tk, td, d1, d2, d3, d4, d5.congr (fun c _ => (ecn_skip ho c).symm), d6, d7.skip ho⟩
      clear HI hG ho o1 o2
      show Code.wp Try.prog (Code.seq _ (Code.seq _ (Code.seq _ (tl 3 (f12e (Try.f12.body.getD .skip)))))) _ _ w'
      refine wp_seq_k (fun K2 hK => ?_)
      have HK2 : Hid (∀ (a : Act) (w : World), _ → K2 a w) := hK
      clear hK
      go_wp2
      refine HK2.out _ _ ?_
      clear HK2 K2
      refine wp_seq_k (fun K2 hK => ?_)
      have HK2 : Hid (∀ (a : Act) (w : World), _ → K2 a w) := hK
      clear hK
      go_wp2
      refine HK2.out _ _ ?_
      clear HK2 K2
      go_wp2
      exact END.out _ _ ⟨⟨by kernel_rfl, by kernel_rfl, by kernel_rfl, by kernel_rfl, by kernel_rfl, by kernel_rfl, by kernel_rfl⟩, by kernel_rfl, by kernel_rfl, by kernel_rfl, by kernel_rfl, by kernel_rfl⟩ (by kernel_rfl) fin.out
    | true =>
      obtain ⟨f, t, c, f1, t1, q1, q2, q3, q4, q5, q6⟩ := HM.out.on e he ho
      obtain ⟨c0, c1, c2, c3⟩ := HM.out.s1 f f1 (by rw [q5]; omega)
      have ec : c0 = c := by rw [q5] at c2; omega
      rw [ec] at c1
      clear c2 c3 ec
      obtain ⟨b3, k3, z1, z2, z3, z4⟩ := HIN.out.v2.two hG f1 t1
      obtain ⟨b4, k4, u1, u2, u3⟩ := HIN.out.m1.at hG he
      obtain ⟨b5, k5, u4, u5, u6⟩ := HIN.out.m2.at hG he
      rw [q3] at z3
      rw [q4] at z4
      have H5 : Hid (∀ (k : Nat) (a : Act), FU gM gW X.E P.nS P.nC X.nc g2 g3 g4 g5 g6 a → a.tmps.getD 17 undef = .int .i64 (e : Int) → a.tmps.getD 18 undef = .int .i64 (f : Int) → a.tmps.getD 19 undef = .int .i64 (t : Int) → ∀ (Q : Exit → Act → World → Prop), (∀ (a : Act) (w : World), FU gM gW X.E P.nS P.nC X.nc g2 g3 g4 g5 g6 a → a.tmps.getD 17 undef = .int .i64 (e : Int) → T5 wb X P g2 g3 g4 g5 g6 (e + 1) w → Q .normal a w) → Code.wp Try.prog (tl 5 (f12e (Try.f12.body.getD .skip))) Q a (w'.drewN k)) := fun k a hf h17 h18 h19 Q hC => mt_5b wb gM gW X P g2 g3 g4 g5 g6 HIN.out HM.out e f t c he ho f1 t1 c1 q1 q2 q5 q6 _ (HI.out.drewN k) a hf h17 h18 h19 Q hC
      rw [q1] at x3
      rw [q2] at x6
      rw [ho] at x9
      have ff : (f : Int) < (P.nS : Int) := by omega
      have tt : (t : Int) < (P.nS : Int) := by omega
      have dd : decide ((X.sr e : Int) = (X.sr e : Int)) = true := by simp
      clear HI hG ho q1 q2 q3 q4 q5 q6
      generalize X.sr e = sr at *
      generalize X.ds e = ds at *
      show Code.wp Try.prog (Code.seq _ (Code.seq _ (Code.seq _ (Code.seq _ (Code.seq _ (tl 5 (f12e (Try.f12.body.getD .skip)))))))) _ _ w'
      refine wp_seq_k (fun K2 hK => ?_)
      have HK2 : Hid (∀ (a : Act) (w : World), _ → K2 a w) := hK
      clear hK
      go_wp2
      refine HK2.out _ _ ?_
      clear HK2 K2
      refine wp_seq_k (fun K2 hK => ?_)
      have HK2 : Hid (∀ (a : Act) (w : World), _ → K2 a w) := hK
      clear hK
      go_wp2
      refine HK2.out _ _ ?_
      clear HK2 K2
      refine wp_seq_k (fun K2 hK => ?_)
      have HK2 : Hid (∀ (a : Act) (w : World), _ → K2 a w) := hK
      clear hK
      go_wp2
      refine HK2.out _ _ ?_
      clear HK2 K2
      refine wp_seq_k (fun K2 hK => ?_)
      have HK2 : Hid (∀ (a : Act) (w : World), _ → K2 a w) := hK
      clear hK
      go_wp2
      refine HK2.out _ _ ?_
      clear HK2 K2 x1 x2 x3 x4 x5 x6 x7 x8 x9
      refine wp_seq_k (fun K2 hK => ?_)
      have HK2 : Hid (∀ (a : Act) (w : World), _ → K2 a w) := hK
      clear hK
      show Code.wp Try.prog (Code.seq _ (Code.cond (.tmp 204) _ Code.skip)) _ _ w'
      refine wp_seq_k (fun K3 hK => ?_)
      have HK3 : Hid (∀ (a : Act) (w : World), _ → K3 a w) := hK
      clear hK
      go_quiet (fail)
      refine HK3.out _ _ (wp_cond_false (by kernel_rfl) (wp_skip ?_))
      refine HK2.out _ _ ?_
      exact H5.out _ _ ⟨⟨by kernel_rfl, by kernel_rfl, by kernel_rfl, by kernel_rfl, by kernel_rfl, by kernel_rfl, by kernel_rfl⟩, by kernel_rfl, by kernel_rfl, by kernel_rfl, by kernel_rfl, by kernel_rfl⟩ (by kernel_rfl) (by kernel_rfl) (by kernel_rfl) _ (fun a w hf h17 hT => END.out a w hf h17 hT)
  · have hee : ¬ (e : Int) < (X.E : Int) := by omega
    obtain rfl : e = X.E := by omega
    clear hI
    go_wp2
    refine HK2.out _ _ (wp_cond_false (by kernel_rfl) (wp_exit ?_))
    exact HC.out _ _ ⟨⟨by kernel_rfl, by kernel_rfl, by kernel_rfl, by kernel_rfl, by kernel_rfl, by kernel_rfl, by kernel_rfl⟩, by kernel_rfl, by kernel_rfl, by kernel_rfl, by kernel_rfl, by kernel_rfl⟩ HI.out
end Go.Proofs.Qxb6602148a
