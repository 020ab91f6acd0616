/-
  'zzMeetsModel': the members.
-/
import Derived.Test.Qxb6602148aMtc
attribute [local go_sem] Go.Proofs.Qxb6602148a.yTo Go.Proofs.Qxb6602148a.yUpon
namespace Go.Proofs.Qxb6602148a
open Go.RowKit
set_option linter.unusedVariables false
set_option linter.unusedSimpArgs false

def f12c (c : Code) : Code := bl (sL (tl 1 (lp (bl (tl 1 (sL (tl 18 c)))))))
def f12m (c : Code) : Code := bl (sL (tl 1 (lp (bl (tl 3 (f12c c))))))
structure FW (gM gW E nS nC n g2 g5 g6 g7 g8 : Nat) (a : Act) : Prop where
  ft : FT gM gW E nS nC a
  s8 : a.tmps.getD 8 undef = .slice (some ⟨g2, 0, none⟩) nC nC
  s15 : a.tmps.getD 15 undef = .slice (some ⟨g5, 0, none⟩) nC nC
  s16 : a.tmps.getD 16 undef = .slice (some ⟨g6, 0, none⟩) nS nS
  s22 : a.tmps.getD 22 undef = .slice (some ⟨g7, 0, none⟩) nS nS
  s23 : a.tmps.getD 23 undef = .slice (some ⟨g8, 0, none⟩) n n
/-- The second pass: members before place j of component c have been seen. -/
def T6 (wb : World) (X : MD) (P : PS) (g2 g5 g6 g7 g8 c j : Nat) (w : World) : Prop := ∃ D td ss sn, MM wb D w ∧ Roi D 2 g2 P.nC (icn P P.nS) ∧ Roi D 5 g5 P.nC (ecn X P X.E) ∧ Rob D 6 g6 P.nS td ∧ Rob D 7 g7 P.nS ss ∧ Roi D 8 g8 X.n sn ∧ (∀ e' s : Nat, e' < X.E → X.onc e' = true → (P.fr e' = (s : Int) ∨ P.to e' = (s : Int)) → td s = true) ∧ MtS X P c j ss sn
theorem T6.drewN {wb : World} {X : MD} {P : PS} {g2 g5 g6 g7 g8 : Nat} {c j : Nat} {w : World} (h : T6 wb X P g2 g5 g6 g7 g8 c j w) (k : Nat) : T6 wb X P g2 g5 g6 g7 g8 c j (w.drewN k) := by
  obtain ⟨D, td, ss, sn, h1, h2⟩ := h
  exact ⟨D, td, ss, sn, h1.drewN k, h2⟩
theorem T6.grew {wb : World} {X : MD} {P : PS} {g2 g5 g6 g7 g8 : Nat} {c j : Nat} {w : World} (h : T6 wb X P g2 g5 g6 g7 g8 c j w) : ∃ D, Grew Fam.nil wb D w := by
  obtain ⟨D, td, ss, sn, h1, h2⟩ := h
  exact ⟨D, h1.grew⟩
theorem T6.leave {wb : World} {X : MD} {P : PS} {g2 g5 g6 g7 g8 : Nat} {c j : Nat} {w : World} (h : T6 wb X P g2 g5 g6 g7 g8 c j w) : T6 wb X P g2 g5 g6 g7 g8 (c + 1) 0 w := by
  obtain ⟨D, td, ss, sn, h1, h2, h3, h4, h5, h6, h7, h8⟩ := h
  exact ⟨D, td, ss, sn, h1, h2, h3, h4, h5, h6, h7, h8.skip⟩
set_option maxRecDepth 40000 in
theorem lww {a : Act} {u2 u3 u5 u6 u7 u8 u15 u16 u22 u23 : Value} (hs : a.tmps.size = 465) (hd : a.defers = []) (h2 : a.tmps.getD 2 undef = u2) (h3 : a.tmps.getD 3 undef = u3) (h5 : a.tmps.getD 5 undef = u5) (h6 : a.tmps.getD 6 undef = u6) (h7 : a.tmps.getD 7 undef = u7) (h8 : a.tmps.getD 8 undef = u8) (h15 : a.tmps.getD 15 undef = u15) (h16 : a.tmps.getD 16 undef = u16) (h22 : a.tmps.getD 22 undef = u22) (h23 : a.tmps.getD 23 undef = u23) : ∃ y : Nat → Value, a = { tmps := #[y 0, y 1, u2, u3, y 4, u5, u6, u7, u8, y 9, y 10, y 11, y 12, y 13, y 14, u15, u16, y 17, y 18, y 19, y 20, y 21, u22, u23, y 24, y 25, y 26, y 27, y 28, y 29, y 30, y 31, y 32, y 33, y 34, y 35, y 36, y 37, y 38, y 39, y 40, y 41, y 42, y 43, y 44, y 45, y 46, y 47, y 48, y 49, y 50, y 51, y 52, y 53, y 54, y 55, y 56, y 57, y 58, y 59, y 60, y 61, y 62, y 63, y 64, y 65, y 66, y 67, y 68, y 69, y 70, y 71, y 72, y 73, y 74, y 75, y 76, y 77, y 78, y 79, y 80, y 81, y 82, y 83, y 84, y 85, y 86, y 87, y 88, y 89, y 90, y 91, y 92, y 93, y 94, y 95, y 96, y 97, y 98, y 99, y 100, y 101, y 102, y 103, y 104, y 105, y 106, y 107, y 108, y 109, y 110, y 111, y 112, y 113, y 114, y 115, y 116, y 117, y 118, y 119, y 120, y 121, y 122, y 123, y 124, y 125, y 126, y 127, y 128, y 129, y 130, y 131, y 132, y 133, y 134, y 135, y 136, y 137, y 138, y 139, y 140, y 141, y 142, y 143, y 144, y 145, y 146, y 147, y 148, y 149, y 150, y 151, y 152, y 153, y 154, y 155, y 156, y 157, y 158, y 159, y 160, y 161, y 162, y 163, y 164, y 165, y 166, y 167, y 168, y 169, y 170, y 171, y 172, y 173, y 174, y 175, y 176, y 177, y 178, y 179, y 180, y 181, y 182, y 183, y 184, y 185, y 186, y 187, y 188, y 189, y 190, y 191, y 192, y 193, y 194, y 195, y 196, y 197, y 198, y 199, y 200, y 201, y 202, y 203, y 204, y 205, y 206, y 207, y 208, y 209, y 210, y 211, y 212, y 213, y 214, y 215, y 216, y 217, y 218, y 219, y 220, y 221, y 222, y 223, y 224, y 225, y 226, y 227, y 228, y 229, y 230, y 231, y 232, y 233, y 234, y 235, y 236, y 237, y 238, y 239, y 240, y 241, y 242, y 243, y 244, y 245, y 246, y 247, y 248, y 249, y 250, y 251, y 252, y 253, y 254, y 255, y 256, y 257, y 258, y 259, y 260, y 261, y 262, y 263, y 264, y 265, y 266, y 267, y 268, y 269, y 270, y 271, y 272, y 273, y 274, y 275, y 276, y 277, y 278, y 279, y 280, y 281, y 282, y 283, y 284, y 285, y 286, y 287, y 288, y 289, y 290, y 291, y 292, y 293, y 294, y 295, y 296, y 297, y 298, y 299, y 300, y 301, y 302, y 303, y 304, y 305, y 306, y 307, y 308, y 309, y 310, y 311, y 312, y 313, y 314, y 315, y 316, y 317, y 318, y 319, y 320, y 321, y 322, y 323, y 324, y 325, y 326, y 327, y 328, y 329, y 330, y 331, y 332, y 333, y 334, y 335, y 336, y 337, y 338, y 339, y 340, y 341, y 342, y 343, y 344, y 345, y 346, y 347, y 348, y 349, y 350, y 351, y 352, y 353, y 354, y 355, y 356, y 357, y 358, y 359, y 360, y 361, y 362, y 363, y 364, y 365, y 366, y 367, y 368, y 369, y 370, y 371, y 372, y 373, y 374, y 375, y 376, y 377, y 378, y 379, y 380, y 381, y 382, y 383, y 384, y 385, y 386, y 387, y 388, y 389, y 390, y 391, y 392, y 393, y 394, y 395, y 396, y 397, y 398, y 399, y 400, y 401, y 402, y 403, y 404, y 405, y 406, y 407, y 408, y 409, y 410, y 411, y 412, y 413, y 414, y 415, y 416, y 417, y 418, y 419, y 420, y 421, y 422, y 423, y 424, y 425, y 426, y 427, y 428, y 429, y 430, y 431, y 432, y 433, y 434, y 435, y 436, y 437, y 438, y 439, y 440, y 441, y 442, y 443, y 444, y 445, y 446, y 447, y 448, y 449, y 450, y 451, y 452, y 453, y 454, y 455, y 456, y 457, y 458, y 459, y 460, y 461, y 462, y 463, y 464], defers := [] } := by
  obtain ⟨tmps, defers⟩ := a
  have yd : defers = [] := hd
  subst yd
  obtain ⟨y, hy, hi⟩ := arr_465 tmps hs
  have e2 := (hi 2).trans h2
  have e3 := (hi 3).trans h3
  have e5 := (hi 5).trans h5
  have e6 := (hi 6).trans h6
  have e7 := (hi 7).trans h7
  have e8 := (hi 8).trans h8
  have e15 := (hi 15).trans h15
  have e16 := (hi 16).trans h16
  have e22 := (hi 22).trans h22
  have e23 := (hi 23).trans h23
  rw [e2, e3, e5, e6, e7, e8, e15, e16, e22, e23] at hy
  exact ⟨y, congrArg (fun t => (⟨t, []⟩ : Act)) hy⟩
set_option maxRecDepth 40000 in
theorem lw24 {a : Act} {u2 u3 u5 u6 u7 u8 u15 u16 u22 u23 u24 : Value} (hs : a.tmps.size = 465) (hd : a.defers = []) (h2 : a.tmps.getD 2 undef = u2) (h3 : a.tmps.getD 3 undef = u3) (h5 : a.tmps.getD 5 undef = u5) (h6 : a.tmps.getD 6 undef = u6) (h7 : a.tmps.getD 7 undef = u7) (h8 : a.tmps.getD 8 undef = u8) (h15 : a.tmps.getD 15 undef = u15) (h16 : a.tmps.getD 16 undef = u16) (h22 : a.tmps.getD 22 undef = u22) (h23 : a.tmps.getD 23 undef = u23) (h24 : a.tmps.getD 24 undef = u24) : ∃ y : Nat → Value, a = { tmps := #[y 0, y 1, u2, u3, y 4, u5, u6, u7, u8, y 9, y 10, y 11, y 12, y 13, y 14, u15, u16, y 17, y 18, y 19, y 20, y 21, u22, u23, u24, y 25, y 26, y 27, y 28, y 29, y 30, y 31, y 32, y 33, y 34, y 35, y 36, y 37, y 38, y 39, y 40, y 41, y 42, y 43, y 44, y 45, y 46, y 47, y 48, y 49, y 50, y 51, y 52, y 53, y 54, y 55, y 56, y 57, y 58, y 59, y 60, y 61, y 62, y 63, y 64, y 65, y 66, y 67, y 68, y 69, y 70, y 71, y 72, y 73, y 74, y 75, y 76, y 77, y 78, y 79, y 80, y 81, y 82, y 83, y 84, y 85, y 86, y 87, y 88, y 89, y 90, y 91, y 92, y 93, y 94, y 95, y 96, y 97, y 98, y 99, y 100, y 101, y 102, y 103, y 104, y 105, y 106, y 107, y 108, y 109, y 110, y 111, y 112, y 113, y 114, y 115, y 116, y 117, y 118, y 119, y 120, y 121, y 122, y 123, y 124, y 125, y 126, y 127, y 128, y 129, y 130, y 131, y 132, y 133, y 134, y 135, y 136, y 137, y 138, y 139, y 140, y 141, y 142, y 143, y 144, y 145, y 146, y 147, y 148, y 149, y 150, y 151, y 152, y 153, y 154, y 155, y 156, y 157, y 158, y 159, y 160, y 161, y 162, y 163, y 164, y 165, y 166, y 167, y 168, y 169, y 170, y 171, y 172, y 173, y 174, y 175, y 176, y 177, y 178, y 179, y 180, y 181, y 182, y 183, y 184, y 185, y 186, y 187, y 188, y 189, y 190, y 191, y 192, y 193, y 194, y 195, y 196, y 197, y 198, y 199, y 200, y 201, y 202, y 203, y 204, y 205, y 206, y 207, y 208, y 209, y 210, y 211, y 212, y 213, y 214, y 215, y 216, y 217, y 218, y 219, y 220, y 221, y 222, y 223, y 224, y 225, y 226, y 227, y 228, y 229, y 230, y 231, y 232, y 233, y 234, y 235, y 236, y 237, y 238, y 239, y 240, y 241, y 242, y 243, y 244, y 245, y 246, y 247, y 248, y 249, y 250, y 251, y 252, y 253, y 254, y 255, y 256, y 257, y 258, y 259, y 260, y 261, y 262, y 263, y 264, y 265, y 266, y 267, y 268, y 269, y 270, y 271, y 272, y 273, y 274, y 275, y 276, y 277, y 278, y 279, y 280, y 281, y 282, y 283, y 284, y 285, y 286, y 287, y 288, y 289, y 290, y 291, y 292, y 293, y 294, y 295, y 296, y 297, y 298, y 299, y 300, y 301, y 302, y 303, y 304, y 305, y 306, y 307, y 308, y 309, y 310, y 311, y 312, y 313, y 314, y 315, y 316, y 317, y 318, y 319, y 320, y 321, y 322, y 323, y 324, y 325, y 326, y 327, y 328, y 329, y 330, y 331, y 332, y 333, y 334, y 335, y 336, y 337, y 338, y 339, y 340, y 341, y 342, y 343, y 344, y 345, y 346, y 347, y 348, y 349, y 350, y 351, y 352, y 353, y 354, y 355, y 356, y 357, y 358, y 359, y 360, y 361, y 362, y 363, y 364, y 365, y 366, y 367, y 368, y 369, y 370, y 371, y 372, y 373, y 374, y 375, y 376, y 377, y 378, y 379, y 380, y 381, y 382, y 383, y 384, y 385, y 386, y 387, y 388, y 389, y 390, y 391, y 392, y 393, y 394, y 395, y 396, y 397, y 398, y 399, y 400, y 401, y 402, y 403, y 404, y 405, y 406, y 407, y 408, y 409, y 410, y 411, y 412, y 413, y 414, y 415, y 416, y 417, y 418, y 419, y 420, y 421, y 422, y 423, y 424, y 425, y 426, y 427, y 428, y 429, y 430, y 431, y 432, y 433, y 434, y 435, y 436, y 437, y 438, y 439, y 440, y 441, y 442, y 443, y 444, y 445, y 446, y 447, y 448, y 449, y 450, y 451, y 452, y 453, y 454, y 455, y 456, y 457, y 458, y 459, y 460, y 461, y 462, y 463, y 464], defers := [] } := by
  obtain ⟨tmps, defers⟩ := a
  have yd : defers = [] := hd
  subst yd
  obtain ⟨y, hy, hi⟩ := arr_465 tmps hs
  have e2 := (hi 2).trans h2
  have e3 := (hi 3).trans h3
  have e5 := (hi 5).trans h5
  have e6 := (hi 6).trans h6
  have e7 := (hi 7).trans h7
  have e8 := (hi 8).trans h8
  have e15 := (hi 15).trans h15
  have e16 := (hi 16).trans h16
  have e22 := (hi 22).trans h22
  have e23 := (hi 23).trans h23
  have e24 := (hi 24).trans h24
  rw [e2, e3, e5, e6, e7, e8, e15, e16, e22, e23, e24] at hy
  exact ⟨y, congrArg (fun t => (⟨t, []⟩ : Act)) hy⟩
set_option maxRecDepth 40000 in
theorem lw25 {a : Act} {u2 u3 u5 u6 u7 u8 u15 u16 u22 u23 u24 u25 : Value} (hs : a.tmps.size = 465) (hd : a.defers = []) (h2 : a.tmps.getD 2 undef = u2) (h3 : a.tmps.getD 3 undef = u3) (h5 : a.tmps.getD 5 undef = u5) (h6 : a.tmps.getD 6 undef = u6) (h7 : a.tmps.getD 7 undef = u7) (h8 : a.tmps.getD 8 undef = u8) (h15 : a.tmps.getD 15 undef = u15) (h16 : a.tmps.getD 16 undef = u16) (h22 : a.tmps.getD 22 undef = u22) (h23 : a.tmps.getD 23 undef = u23) (h24 : a.tmps.getD 24 undef = u24) (h25 : a.tmps.getD 25 undef = u25) : ∃ y : Nat → Value, a = { tmps := #[y 0, y 1, u2, u3, y 4, u5, u6, u7, u8, y 9, y 10, y 11, y 12, y 13, y 14, u15, u16, y 17, y 18, y 19, y 20, y 21, u22, u23, u24, u25, y 26, y 27, y 28, y 29, y 30, y 31, y 32, y 33, y 34, y 35, y 36, y 37, y 38, y 39, y 40, y 41, y 42, y 43, y 44, y 45, y 46, y 47, y 48, y 49, y 50, y 51, y 52, y 53, y 54, y 55, y 56, y 57, y 58, y 59, y 60, y 61, y 62, y 63, y 64, y 65, y 66, y 67, y 68, y 69, y 70, y 71, y 72, y 73, y 74, y 75, y 76, y 77, y 78, y 79, y 80, y 81, y 82, y 83, y 84, y 85, y 86, y 87, y 88, y 89, y 90, y 91, y 92, y 93, y 94, y 95, y 96, y 97, y 98, y 99, y 100, y 101, y 102, y 103, y 104, y 105, y 106, y 107, y 108, y 109, y 110, y 111, y 112, y 113, y 114, y 115, y 116, y 117, y 118, y 119, y 120, y 121, y 122, y 123, y 124, y 125, y 126, y 127, y 128, y 129, y 130, y 131, y 132, y 133, y 134, y 135, y 136, y 137, y 138, y 139, y 140, y 141, y 142, y 143, y 144, y 145, y 146, y 147, y 148, y 149, y 150, y 151, y 152, y 153, y 154, y 155, y 156, y 157, y 158, y 159, y 160, y 161, y 162, y 163, y 164, y 165, y 166, y 167, y 168, y 169, y 170, y 171, y 172, y 173, y 174, y 175, y 176, y 177, y 178, y 179, y 180, y 181, y 182, y 183, y 184, y 185, y 186, y 187, y 188, y 189, y 190, y 191, y 192, y 193, y 194, y 195, y 196, y 197, y 198, y 199, y 200, y 201, y 202, y 203, y 204, y 205, y 206, y 207, y 208, y 209, y 210, y 211, y 212, y 213, y 214, y 215, y 216, y 217, y 218, y 219, y 220, y 221, y 222, y 223, y 224, y 225, y 226, y 227, y 228, y 229, y 230, y 231, y 232, y 233, y 234, y 235, y 236, y 237, y 238, y 239, y 240, y 241, y 242, y 243, y 244, y 245, y 246, y 247, y 248, y 249, y 250, y 251, y 252, y 253, y 254, y 255, y 256, y 257, y 258, y 259, y 260, y 261, y 262, y 263, y 264, y 265, y 266, y 267, y 268, y 269, y 270, y 271, y 272, y 273, y 274, y 275, y 276, y 277, y 278, y 279, y 280, y 281, y 282, y 283, y 284, y 285, y 286, y 287, y 288, y 289, y 290, y 291, y 292, y 293, y 294, y 295, y 296, y 297, y 298, y 299, y 300, y 301, y 302, y 303, y 304, y 305, y 306, y 307, y 308, y 309, y 310, y 311, y 312, y 313, y 314, y 315, y 316, y 317, y 318, y 319, y 320, y 321, y 322, y 323, y 324, y 325, y 326, y 327, y 328, y 329, y 330, y 331, y 332, y 333, y 334, y 335, y 336, y 337, y 338, y 339, y 340, y 341, y 342, y 343, y 344, y 345, y 346, y 347, y 348, y 349, y 350, y 351, y 352, y 353, y 354, y 355, y 356, y 357, y 358, y 359, y 360, y 361, y 362, y 363, y 364, y 365, y 366, y 367, y 368, y 369, y 370, y 371, y 372, y 373, y 374, y 375, y 376, y 377, y 378, y 379, y 380, y 381, y 382, y 383, y 384, y 385, y 386, y 387, y 388, y 389, y 390, y 391, y 392, y 393, y 394, y 395, y 396, y 397, y 398, y 399, y 400, y 401, y 402, y 403, y 404, y 405, y 406, y 407, y 408, y 409, y 410, y 411, y 412, y 413, y 414, y 415, y 416, y 417, y 418, y 419, y 420, y 421, y 422, y 423, y 424, y 425, y 426, y 427, y 428, y 429, y 430, y 431, y 432, y 433, y 434, y 435, y 436, y 437, y 438, y 439, y 440, y 441, y 442, y 443, y 444, y 445, y 446, y 447, y 448, y 449, y 450, y 451, y 452, y 453, y 454, y 455, y 456, y 457, y 458, y 459, y 460, y 461, y 462, y 463, y 464], defers := [] } := by
  obtain ⟨tmps, defers⟩ := a
  have yd : defers = [] := hd
  subst yd
  obtain ⟨y, hy, hi⟩ := arr_465 tmps hs
  have e2 := (hi 2).trans h2
  have e3 := (hi 3).trans h3
  have e5 := (hi 5).trans h5
  have e6 := (hi 6).trans h6
  have e7 := (hi 7).trans h7
  have e8 := (hi 8).trans h8
  have e15 := (hi 15).trans h15
  have e16 := (hi 16).trans h16
  have e22 := (hi 22).trans h22
  have e23 := (hi 23).trans h23
  have e24 := (hi 24).trans h24
  have e25 := (hi 25).trans h25
  rw [e2, e3, e5, e6, e7, e8, e15, e16, e22, e23, e24, e25] at hy
  exact ⟨y, congrArg (fun t => (⟨t, []⟩ : Act)) hy⟩

set_option maxRecDepth 40000 in
set_option maxHeartbeats 8000000 in
/-- Regions 57 and 58. -/
theorem mt_6a (wb : World) (gM gW : Nat) (X : MD) (P : PS) (g2 g3 g4 g5 g6 : Nat) (hin : MtIn wb gM gW X P) (hm : Meet X P) (wr : World) (hI : T5 wb X P g2 g3 g4 g5 g6 X.E wr) (a : Act) (hf : FU gM gW X.E P.nS P.nC X.nc g2 g3 g4 g5 g6 a) (tail : Code) (Z : Ending → World → Prop)
    (hT : ∀ (a : Act) (w' : World) (g7 g8 : Nat), FW gM gW X.E P.nS P.nC X.n g2 g5 g6 g7 g8 a → T6 wb X P g2 g5 g6 g7 g8 0 0 w' → Code.wp Try.prog tail (bodyPost Try.prog Try.f12 fun e w' => Z e w') a w') :
    Code.wp Try.prog (rt 2 (tl 16 (Try.f12.body.getD .skip)) tail) (bodyPost Try.prog Try.f12 fun e w' => Z e w') a wr := by
  obtain ⟨y, rfl⟩ := luu hf.ft.sz hf.ft.df hf.ft.s2 hf.ft.s3 hf.ft.s5 hf.ft.s6 hf.ft.s7 hf.s8 hf.s11 hf.s13 hf.s15 hf.s16
  obtain ⟨hE, hn, hS, hCC, hnc⟩ := hin.sm
  have HIN : Hid (MtIn wb gM gW X P) := hin
  have HM : Hid (Meet X P) := hm
  obtain ⟨i3, hi3, hz30, hz31, hz32⟩ := info_parts Try.info3
  obtain ⟨i4, hi4, hz40, hz41, hz42⟩ := info_parts Try.info4
  obtain ⟨mb, hmb, hfmb⟩ := make_fun (P := Try.prog) 27 4 i4 (.bool false) 1 1 (.bool false) Try.underlying27 hi4 hz40 hz41 hz42 rfl (by decide) zeroB P.nS (by omega) (by omega)
  obtain ⟨mq, hmq, hfmq⟩ := make_fun (P := Try.prog) 26 3 i3 (.int .i64 0) 1 8 (.int .i64 0) Try.underlying26 hi3 hz30 hz31 hz32 rfl (by decide) zero1 X.n (by omega) (by omega)
  have HTL : Hid (∀ (a : Act) (w' : World) (g7 g8 : Nat), FW gM gW X.E P.nS P.nC X.n g2 g5 g6 g7 g8 a → T6 wb X P g2 g5 g6 g7 g8 0 0 w' → Code.wp Try.prog tail (bodyPost Try.prog Try.f12 fun e w' => Z e w') a w') := hT
  have fin : Hid (T6 wb X P g2 g5 g6 wr.heap.size (mb wr).heap.size 0 0 (mq (mb wr))) := by
    obtain ⟨D, tc, tk, td, d1, d2, d3, d4, d5, d6, d7⟩ := hI
    exact ⟨_, td, _, _, (d1.fresh (r := 7) rfl (hfmb _)).fresh (r := 8) rfl (hfmq _), (d2.put_ne (by omega)).put_ne (by omega), (d5.put_ne (by omega)).put_ne (by omega), (d6.put_ne (by omega)).put_ne (by omega), (Rob.new _ 7 _ _ (fun _ => false)).put_ne (by omega), Roi.new _ 8 _ _ (fun _ => 0), d7.d, MtS.start X P⟩
  have x0 : (mb wr).cell? ⟨gM, 0, none⟩ = some (.int .i64 (X.n : Int)) := by
    obtain ⟨D, tc, tk, td, d1, d2, d3, d4, d5, d6, d7⟩ := hI
    exact (d1.fresh (r := 7) rfl (hfmb _)).grew.cell hin.m0
  clear hin hm hT hfmq hfmb hi3 hz30 hz31 hz32 hi4 hz40 hz41 hz42 hf hI
  simp only [rt, tl, Try.f12, Option.getD]
  go_wp2
  exact HTL.out _ _ wr.heap.size (mb wr).heap.size ⟨⟨by kernel_rfl, by kernel_rfl, by kernel_rfl, by kernel_rfl, by kernel_rfl, by kernel_rfl, by kernel_rfl⟩, by kernel_rfl, by kernel_rfl, by kernel_rfl, by kernel_rfl, by kernel_rfl⟩ fin.out

set_option maxRecDepth 40000 in
set_option maxHeartbeats 8000000 in
/-- A member: regions 68 to 75. -/
theorem mt_6b (wb : World) (gM gW : Nat) (X : MD) (P : PS) (g2 g5 g6 g7 g8 : Nat) (hin : MtIn wb gM gW X P) (hm : Meet X P) (c j : Nat) (c1 : c < P.nC) (j1 : j < P.mn c) (wr : World) (hI : T6 wb X P g2 g5 g6 g7 g8 c j wr) (a : Act) (hf : FW gM gW X.E P.nS P.nC X.n g2 g5 g6 g7 g8 a) (h24 : a.tmps.getD 24 undef = .int .i64 (c : Int)) (h25 : a.tmps.getD 25 undef = .int .i64 (j : Int)) (Q : Exit → Act → World → Prop)
    (hC : ∀ (a : Act) (w : World), FW gM gW X.E P.nS P.nC X.n g2 g5 g6 g7 g8 a → a.tmps.getD 24 undef = .int .i64 (c : Int) → a.tmps.getD 25 undef = .int .i64 (j : Int) → T6 wb X P g2 g5 g6 g7 g8 c (j + 1) w → Q .normal a w) :
    Code.wp Try.prog (f12m (Try.f12.body.getD .skip)) Q a wr := by
  obtain ⟨y, rfl⟩ := lw25 hf.ft.sz hf.ft.df hf.ft.s2 hf.ft.s3 hf.ft.s5 hf.ft.s6 hf.ft.s7 hf.s8 hf.s15 hf.s16 hf.s22 hf.s23 h24 h25
  obtain ⟨hE, hn, hS, hCC, hnc⟩ := hin.sm
  have HIN : Hid (MtIn wb gM gW X P) := hin
  have HM : Hid (Meet X P) := hm
  have HC : Hid (∀ (a : Act) (w : World), FW gM gW X.E P.nS P.nC X.n g2 g5 g6 g7 g8 a → a.tmps.getD 24 undef = .int .i64 (c : Int) → a.tmps.getD 25 undef = .int .i64 (j : Int) → T6 wb X P g2 g5 g6 g7 g8 c (j + 1) w → Q .normal a w) := hC
  obtain ⟨D, td, ss, sn, d1, d2, d5, d6, d7, d8, d9, d10⟩ := hI
  obtain ⟨s, v, s1, q1, q2, ⟨e, e1, e2, e3⟩, q4, q5⟩ := hm.m1 c j c1 j1
  obtain ⟨r1, r2⟩ := d10.fresh hm c1 j1 q1 q4 q5
  have r3 := d9 e s e1 e2 e3
  obtain ⟨b5, k5, b5', l5, x1, x2, x3, x4, x5⟩ := hin.v5.at2 d1.grew c1 j1
  rw [q1] at x5
  obtain ⟨b3, k3, x6, x7, x8⟩ := hin.v3.at d1.grew s1
  rw [q2] at x8
  have z7 := d7.cell d1 rfl s1
  have y7 := d7.frozen d1 s
  have z6 := d6.cell d1 rfl s1
  rw [r1] at z7
  rw [r3] at z6
  have e1' := d1.set d7.1 s (.bool true)
  obtain ⟨b2, k2, u1, u2, u3⟩ := hin.v2.at e1'.grew s1
  rw [q4] at u3
  have u0 := e1'.grew.cell hin.m0
  have e8 := d8.set_ne (r' := 7) (j := s) (v := .bool true) (by omega)
  have z8 := e8.cell e1' rfl q5
  have y8 := e8.frozen e1' v
  have hb : (sn v == ((c : Nat) : Int) + 1) = false := by rw [beq_eq_false_iff_ne]; exact r2
  have fin : Hid (T6 wb X P g2 g5 g6 g7 g8 c (j + 1) ((wr.setCell ⟨g7, s, none⟩ (.bool true)).setCell ⟨g8, v, none⟩ (.int .i64 ((c : Int) + 1)))) :=
    ⟨_, td, _, _, e1'.set e8.1 v _, (d2.set_ne (by omega)).set_ne (by omega), (d5.set_ne (by omega)).set_ne (by omega), (d6.set_ne (by omega)).set_ne (by omega), (d7.set s true).set_ne (by omega), e8.set v _, d9, d10.next c1 j1 q1 q4⟩
  have hcc : (c : Int) < (P.nC : Int) := by omega
  have hss : (s : Int) < (P.nS : Int) := by omega
  have hvv : (v : Int) < (X.n : Int) := by omega
  clear hf hC hin hm h24 h25 d1 d2 d5 d6 d7 d8 d9 d10 e1' e8 r1 r2 r3 q1 q2 q4 e1 e2 e3
  generalize P.mn c = mc at *
  generalize sn v = sv at *
  show Code.wp Try.prog (Code.seq _ (Code.seq _ (Code.seq _ (Code.seq _ (Code.seq _ _))))) Q _ wr
  refine wp_seq_k (fun K1 hK => ?_)
  have HK1 : Hid (∀ (a : Act) (w : World), _ → K1 a w) := hK
  clear hK
  go_wp2
  refine HK1.out _ _ ?_
  clear HK1 K1 x1 x2 x3 x4 x5
  refine wp_seq_k (fun K1 hK => ?_)
  have HK1 : Hid (∀ (a : Act) (w : World), _ → K1 a w) := hK
  clear hK
  go_wp2
  refine HK1.out _ _ ?_
  clear HK1 K1 x6 x7 x8 z6
  refine wp_seq_k (fun K1 hK => ?_)
  have HK1 : Hid (∀ (a : Act) (w : World), _ → K1 a w) := hK
  clear hK
  go_wp2
  refine HK1.out _ _ ?_
  clear HK1 K1 z7 y7
  generalize wr.setCell ⟨g7, s, none⟩ (.bool true) = w1 at *
  refine wp_seq_k (fun K1 hK => ?_)
  have HK1 : Hid (∀ (a : Act) (w : World), _ → K1 a w) := hK
  clear hK
  go_wp2
  refine HK1.out _ _ ?_
  clear HK1 K1 u1 u2 u3
  refine wp_seq_k (fun K1 hK => ?_)
  have HK1 : Hid (∀ (a : Act) (w : World), _ → K1 a w) := hK
  clear hK
  go_wp2
  refine HK1.out _ _ ?_
  clear HK1 K1 u0 hb
  go_wp2
  generalize w1.setCell ⟨g8, v, none⟩ (.int .i64 ((c : Int) + 1)) = w2 at *
  exact HC.out _ _ ⟨⟨by kernel_rfl, by kernel_rfl, by kernel_rfl, by kernel_rfl, by kernel_rfl, by kernel_rfl, by kernel_rfl⟩, by kernel_rfl, by kernel_rfl, by kernel_rfl, by kernel_rfl, by kernel_rfl⟩ (by kernel_rfl) (by kernel_rfl) fin.out

def Lm6I (wb : World) (gM gW : Nat) (X : MD) (P : PS) (g2 g5 g6 g7 g8 : Nat) (c : Nat) (a : Act) (w : World) : Prop := FW gM gW X.E P.nS P.nC X.n g2 g5 g6 g7 g8 a ∧ a.tmps.getD 24 undef = .int .i64 (c : Int) ∧ ∃ j : Nat, a.tmps.getD 25 undef = .int .i64 (j : Int) ∧ j ≤ P.mn c ∧ T6 wb X P g2 g5 g6 g7 g8 c j w
set_option maxRecDepth 40000 in
set_option maxHeartbeats 8000000 in
/-- The members of a component. -/
theorem mt_6c (wb : World) (gM gW : Nat) (X : MD) (P : PS) (g2 g5 g6 g7 g8 : Nat) (hin : MtIn wb gM gW X P) (hm : Meet X P) (c : Nat) (c1 : c < P.nC) (c2 : P.mn c ≠ 0) (wr : World) (hI : T6 wb X P g2 g5 g6 g7 g8 c 0 wr) (a : Act) (hf : FW gM gW X.E P.nS P.nC X.n g2 g5 g6 g7 g8 a) (h24 : a.tmps.getD 24 undef = .int .i64 (c : Int)) (h25 : a.tmps.getD 25 undef = .int .i64 (0 : Int)) (Q : Exit → Act → World → Prop)
    (hC : ∀ (a : Act) (w : World), FW gM gW X.E P.nS P.nC X.n g2 g5 g6 g7 g8 a → a.tmps.getD 24 undef = .int .i64 (c : Int) → T6 wb X P g2 g5 g6 g7 g8 (c + 1) 0 w → Q .normal a w) :
    Code.wp Try.prog (tl 3 (f12c (Try.f12.body.getD .skip))) Q a wr := by
  obtain ⟨hE, hn, hS, hCC, hnc⟩ := hin.sm
  have HIN : Hid (MtIn wb gM gW X P) := hin
  have HM : Hid (Meet X P) := hm
  have HI : Hid (T6 wb X P g2 g5 g6 g7 g8 c 0 wr) := hI
  have HC : Hid (∀ (a : Act) (w : World), FW gM gW X.E P.nS P.nC X.n g2 g5 g6 g7 g8 a → a.tmps.getD 24 undef = .int .i64 (c : Int) → T6 wb X P g2 g5 g6 g7 g8 (c + 1) 0 w → Q .normal a w) := hC
  have hmn := hm.mn_le c1
  have hcc : (c : Int) < (P.nC : Int) := by omega
  clear hC hI hin hm
  show Code.wp Try.prog (Code.block 10 (Code.loop (Code.seq (Code.seq _ (Code.cond (.tmp 325) Code.skip (Code.exit 10))) (Code.seq (Code.block 11 (f12m (Try.f12.body.getD .skip))) _)))) Q _ wr
  refine wp_block ?_
  refine wp_loop (Lm6I wb gM gW X P g2 g5 g6 g7 g8 c) (fun a _ => mus 25 (P.mn c) a) ⟨hf, h24, 0, h25, Nat.zero_le _, HI.out⟩ ?_
  clear HI hf h24 h25
  rintro a w' ⟨hf, h24, j, h25, j1, hI⟩
  have e25 : mus 25 (P.mn c) a = P.mn c - j := congrArg (fun v => P.mn c - (intOf v).toNat) h25
  obtain ⟨y2, rfl⟩ := lw25 hf.ft.sz hf.ft.df hf.ft.s2 hf.ft.s3 hf.ft.s5 hf.ft.s6 hf.ft.s7 hf.s8 hf.s15 hf.s16 hf.s22 hf.s23 h24 h25
  rw [e25]
  clear e25 hf h24 h25
  have HI : Hid (T6 wb X P g2 g5 g6 g7 g8 c j w') := hI
  obtain ⟨D, hG⟩ := hI.grew
  obtain ⟨b5, k5, o5, l5, x1, x2, x3⟩ := HIN.out.v5.at hG c1
  clear hI hG
  refine wp_seq_k (fun K1 hK => ?_)
  have HK1 : Hid (∀ (a : Act) (w : World), _ → K1 a w) := hK
  clear hK
  refine wp_seq_k (fun K2 hK => ?_)
  have HK2 : Hid (∀ (a : Act) (w : World), _ → K2 a w) := hK
  clear hK
  by_cases hj : j < P.mn c
  · have hjj : (j : Int) < ((P.mn c : Nat) : Int) := by omega
    have H6 : Hid (∀ (a : Act), FW gM gW X.E P.nS P.nC X.n g2 g5 g6 g7 g8 a → a.tmps.getD 24 undef = .int .i64 (c : Int) → a.tmps.getD 25 undef = .int .i64 (j : Int) → ∀ (Q : Exit → Act → World → Prop), (∀ (a : Act) (w : World), FW gM gW X.E P.nS P.nC X.n g2 g5 g6 g7 g8 a → a.tmps.getD 24 undef = .int .i64 (c : Int) → a.tmps.getD 25 undef = .int .i64 (j : Int) → T6 wb X P g2 g5 g6 g7 g8 c (j + 1) w → Q .normal a w) → Code.wp Try.prog (f12m (Try.f12.body.getD .skip)) Q a w') := fun a hf h24 h25 Q hC => mt_6b wb gM gW X P g2 g5 g6 g7 g8 HIN.out HM.out c j c1 hj w' HI.out a hf h24 h25 Q hC
    clear HI
    go_wp2
    refine HK2.out _ _ (wp_cond_true (by kernel_rfl) (wp_skip ?_))
    refine HK1.out _ _ ?_
    clear HK1 K1 HK2 K2 x1 x2 x3
    refine wp_seq_k (fun K1 hK => ?_)
    have HK1 : Hid (∀ (a : Act) (w : World), _ → K1 a w) := hK
    clear hK
    refine wp_block ?_
    refine H6.out _ ⟨⟨by kernel_rfl, by kernel_rfl, by kernel_rfl, by kernel_rfl, by kernel_rfl, by kernel_rfl, by kernel_rfl⟩, by kernel_rfl, by kernel_rfl, by kernel_rfl, by kernel_rfl, by kernel_rfl⟩ (by kernel_rfl) (by kernel_rfl) _ (fun a w hf h24 h25 hT => ?_)
    refine HK1.out _ _ ?_
    obtain ⟨y5, rfl⟩ := lw25 hf.ft.sz hf.ft.df hf.ft.s2 hf.ft.s3 hf.ft.s5 hf.ft.s6 hf.ft.s7 hf.s8 hf.s15 hf.s16 hf.s22 hf.s23 h24 h25
    have HT : Hid (T6 wb X P g2 g5 g6 g7 g8 c (j + 1) w) := hT
    clear hf h24 h25 hT HK1 H6
    go_wp2
    exact ⟨⟨⟨⟨by kernel_rfl, by kernel_rfl, by kernel_rfl, by kernel_rfl, by kernel_rfl, by kernel_rfl, by kernel_rfl⟩, by kernel_rfl, by kernel_rfl, by kernel_rfl, by kernel_rfl, by kernel_rfl⟩, by kernel_rfl, j + 1, by kernel_rfl, by omega, HT.out⟩, Nat.lt_of_le_of_lt (Nat.le_of_eq (by kernel_rfl : _ = P.mn c - (j + 1))) (by omega)⟩
  · have hjj : ¬ (j : Int) < ((P.mn c : Nat) : Int) := by omega
    obtain rfl : j = P.mn c := by omega
    have fin : Hid (T6 wb X P g2 g5 g6 g7 g8 (c + 1) 0 w') := HI.out.leave
    clear HI
    go_wp2
    refine HK2.out _ _ (wp_cond_false (by kernel_rfl) (wp_exit ?_))
    exact HC.out _ _ ⟨⟨by kernel_rfl, by kernel_rfl, by kernel_rfl, by kernel_rfl, by kernel_rfl, by kernel_rfl, by kernel_rfl⟩, by kernel_rfl, by kernel_rfl, by kernel_rfl, by kernel_rfl, by kernel_rfl⟩ (by kernel_rfl) fin.out

def Lm5I (wb : World) (gM gW : Nat) (X : MD) (P : PS) (g2 g5 g6 g7 g8 : Nat) (a : Act) (w : World) : Prop := FW gM gW X.E P.nS P.nC X.n g2 g5 g6 g7 g8 a ∧ ∃ c : Nat, a.tmps.getD 24 undef = .int .i64 (c : Int) ∧ c ≤ P.nC ∧ T6 wb X P g2 g5 g6 g7 g8 c 0 w
set_option maxRecDepth 40000 in
set_option maxHeartbeats 8000000 in
/-- The components. -/
theorem mt_6 (wb : World) (gM gW : Nat) (X : MD) (P : PS) (g2 g5 g6 g7 g8 : Nat) (hin : MtIn wb gM gW X P) (hm : Meet X P) (wr : World) (hI : T6 wb X P g2 g5 g6 g7 g8 0 0 wr) (a : Act) (hf : FW gM gW X.E P.nS P.nC X.n g2 g5 g6 g7 g8 a) (Q : Exit → Act → World → Prop)
    (hC : ∀ (a : Act) (w : World), FW gM gW X.E P.nS P.nC X.n g2 g5 g6 g7 g8 a → T6 wb X P g2 g5 g6 g7 g8 P.nC 0 w → Q .normal a w) :
    Code.wp Try.prog (sL (tl 18 (Try.f12.body.getD .skip))) Q a wr := by
  obtain ⟨y, rfl⟩ := lww hf.ft.sz hf.ft.df hf.ft.s2 hf.ft.s3 hf.ft.s5 hf.ft.s6 hf.ft.s7 hf.s8 hf.s15 hf.s16 hf.s22 hf.s23
  obtain ⟨hE, hn, hS, hCC, hnc⟩ := hin.sm
  have HIN : Hid (MtIn wb gM gW X P) := hin
  have HM : Hid (Meet X P) := hm
  have HI : Hid (T6 wb X P g2 g5 g6 g7 g8 0 0 wr) := hI
  have HC : Hid (∀ (a : Act) (w : World), FW gM gW X.E P.nS P.nC X.n g2 g5 g6 g7 g8 a → T6 wb X P g2 g5 g6 g7 g8 P.nC 0 w → Q .normal a w) := hC
  have hnil := fun (a : Option Addr) (n c : Nat) (w : World) => Lib.run_eql_slice_nil (P := Try.prog) w 26 3 a n c 0 0 Try.underlying26
  clear hf hC hI hin hm
  show Code.wp Try.prog (Code.seq _ (Code.block 8 (Code.loop (Code.seq (Code.seq _ (Code.cond (.tmp 279) Code.skip (Code.exit 8))) (Code.seq (Code.block 9 (f12c (Try.f12.body.getD .skip))) _))))) Q _ wr
  refine wp_seq_k (fun K1 hK => ?_)
  have HK1 : Hid (∀ (a : Act) (w : World), _ → K1 a w) := hK
  clear hK
  go_wp2
  refine HK1.out _ _ ?_
  clear HK1 K1
  refine wp_block ?_
  refine wp_loop (Lm5I wb gM gW X P g2 g5 g6 g7 g8) (fun a _ => mus 24 P.nC a) ⟨⟨⟨by kernel_rfl, by kernel_rfl, by kernel_rfl, by kernel_rfl, by kernel_rfl, by kernel_rfl, by kernel_rfl⟩, by kernel_rfl, by kernel_rfl, by kernel_rfl, by kernel_rfl, by kernel_rfl⟩, 0, by kernel_rfl, Nat.zero_le _, HI.out⟩ ?_
  clear HI y
  rintro a w' ⟨hf, c, h24, c1, hI⟩
  have e24 : mus 24 P.nC a = P.nC - c := congrArg (fun v => P.nC - (intOf v).toNat) h24
  obtain ⟨y2, rfl⟩ := lw24 hf.ft.sz hf.ft.df hf.ft.s2 hf.ft.s3 hf.ft.s5 hf.ft.s6 hf.ft.s7 hf.s8 hf.s15 hf.s16 hf.s22 hf.s23 h24
  rw [e24]
  clear e24 hf h24
  have HI : Hid (T6 wb X P g2 g5 g6 g7 g8 c 0 w') := hI
  refine wp_seq_k (fun K1 hK => ?_)
  have HK1 : Hid (∀ (a : Act) (w : World), _ → K1 a w) := hK
  clear hK
  refine wp_seq_k (fun K2 hK => ?_)
  have HK2 : Hid (∀ (a : Act) (w : World), _ → K2 a w) := hK
  clear hK
  by_cases hc : c < P.nC
  · have hcc : (c : Int) < (P.nC : Int) := by omega
    clear hI
    go_wp2
    refine HK2.out _ _ (wp_cond_true (by kernel_rfl) (wp_skip ?_))
    refine HK1.out _ _ ?_
    clear HK1 K1 HK2 K2
    refine wp_seq_k (fun K1 hK => ?_)
    have HK1 : Hid (∀ (a : Act) (w : World), _ → K1 a w) := hK
    clear hK
    have END : Hid (∀ (a : Act) (w : World), FW gM gW X.E P.nS P.nC X.n g2 g5 g6 g7 g8 a → a.tmps.getD 24 undef = .int .i64 (c : Int) → T6 wb X P g2 g5 g6 g7 g8 (c + 1) 0 w → K1 a w) := by
      intro a w hf h24 hT
      obtain ⟨y5, rfl⟩ := lw24 hf.ft.sz hf.ft.df hf.ft.s2 hf.ft.s3 hf.ft.s5 hf.ft.s6 hf.ft.s7 hf.s8 hf.s15 hf.s16 hf.s22 hf.s23 h24
      have HT : Hid (T6 wb X P g2 g5 g6 g7 g8 (c + 1) 0 w) := hT
      refine HK1.out _ _ ?_
      clear hf h24 hT HK1
      go_wp2
      exact ⟨⟨⟨⟨by kernel_rfl, by kernel_rfl, by kernel_rfl, by kernel_rfl, by kernel_rfl, by kernel_rfl, by kernel_rfl⟩, by kernel_rfl, by kernel_rfl, by kernel_rfl, by kernel_rfl, by kernel_rfl⟩, c + 1, by kernel_rfl, by omega, HT.out⟩, Nat.lt_of_le_of_lt (Nat.le_of_eq (by kernel_rfl : _ = P.nC - (c + 1))) (by omega)⟩
    clear HK1
    refine wp_block ?_
    obtain ⟨D, td, ss, sn, d1, d2, d5, d6, d7, d8, d9, d10⟩ := HI.out
    by_cases h0 : P.mn c = 0
    · obtain ⟨b5, k5, l5, x1, x2, x3⟩ := HIN.out.v5.nil HIN.out.n5 d1.grew hc h0
      have fin : Hid (T6 wb X P g2 g5 g6 g7 g8 (c + 1) 0 w') := HI.out.leave
      clear HI d1 d2 d5 d6 d7 d8 d9 d10 h0
      show Code.wp Try.prog (Code.seq (Code.seq _ (Code.cond (.tmp 287) (Code.exit 9) Code.skip)) (tl 1 (f12c (Try.f12.body.getD .skip)))) _ _ w'
      refine wp_seq_k (fun K2 hK => ?_)
      have HK2 : Hid (∀ (a : Act) (w : World), _ → K2 a w) := hK
      clear hK
      refine wp_seq_k (fun K3 hK => ?_)
      have HK3 : Hid (∀ (a : Act) (w : World), _ → K3 a w) := hK
      clear hK
      go_wp2
      refine HK3.out _ _ (wp_cond_true (by kernel_rfl) (wp_exit ?_))
      exact END.out _ _ ⟨⟨by kernel_rfl, by kernel_rfl, by kernel_rfl, by kernel_rfl, by kernel_rfl, by kernel_rfl, by kernel_rfl⟩, by kernel_rfl, by kernel_rfl, by kernel_rfl, by kernel_rfl, by kernel_rfl⟩ (by kernel_rfl) fin.out
    · obtain ⟨q1, q2, q3⟩ := HM.out.c1 c hc h0
      obtain ⟨b5, k5, b5', l5, x1, x2, x3, x4, _⟩ := HIN.out.v5.at2 d1.grew (j := c) (q := 0) hc (by omega)
      obtain ⟨b6, k6, x5, x6, x7⟩ := HIN.out.v6.at d1.grew hc
      have z2 := d2.cell d1 rfl hc
      have z5 := d5.cell d1 rfl hc
      have e2 : icn P P.nS c = ((P.mn c : Nat) : Int) := by unfold icn; rw [q3]
      have e5 : P.edg c = ecn X P X.E c := q2
      have hz : (ecn X P X.E c == 0) = false := by
        rw [beq_eq_false_iff_ne]; unfold ecn; omega
      rw [e2] at z2
      rw [e5] at x7
      have H6 : Hid (∀ (k : Nat) (a : Act), FW gM gW X.E P.nS P.nC X.n g2 g5 g6 g7 g8 a → a.tmps.getD 24 undef = .int .i64 (c : Int) → a.tmps.getD 25 undef = .int .i64 (0 : Int) → ∀ (Q : Exit → Act → World → Prop), (∀ (a : Act) (w : World), FW gM gW X.E P.nS P.nC X.n g2 g5 g6 g7 g8 a → a.tmps.getD 24 undef = .int .i64 (c : Int) → T6 wb X P g2 g5 g6 g7 g8 (c + 1) 0 w → Q .normal a w) → Code.wp Try.prog (tl 3 (f12c (Try.f12.body.getD .skip))) Q a (w'.drewN k)) := fun k a hf h24 h25 Q hC => mt_6c wb gM gW X P g2 g5 g6 g7 g8 HIN.out HM.out c hc h0 _ (HI.out.drewN k) a hf h24 h25 Q hC
      clear HI d1 d2 d5 d6 d7 d8 d9 d10 q1 q2 q3 e2 e5
      generalize ecn X P X.E c = ec at *
      generalize P.mn c = mc at *
      show Code.wp Try.prog (Code.seq (Code.seq _ (Code.cond (.tmp 287) (Code.exit 9) Code.skip)) (Code.seq (Code.seq _ (Code.cond (.tmp 317) _ Code.skip)) (Code.seq _ (tl 3 (f12c (Try.f12.body.getD .skip)))))) _ _ w'
      refine wp_seq_k (fun K2 hK => ?_)
      have HK2 : Hid (∀ (a : Act) (w : World), _ → K2 a w) := hK
      clear hK
      refine wp_seq_k (fun K3 hK => ?_)
      have HK3 : Hid (∀ (a : Act) (w : World), _ → K3 a w) := hK
      clear hK
      go_wp2
      refine HK3.out _ _ (wp_cond_false (by kernel_rfl) (wp_skip ?_))
      refine HK2.out _ _ ?_
      clear HK2 K2 HK3 K3
      refine wp_seq_k (fun K2 hK => ?_)
      have HK2 : Hid (∀ (a : Act) (w : World), _ → K2 a w) := hK
      clear hK
      refine wp_seq_k (fun K3 hK => ?_)
      have HK3 : Hid (∀ (a : Act) (w : World), _ → K3 a w) := hK
      clear hK
      go_quiet (fail)
      refine HK3.out _ _ (wp_cond_false (by kernel_rfl) (wp_skip ?_))
      refine HK2.out _ _ ?_
      clear HK2 K2 HK3 K3
      refine wp_seq_k (fun K2 hK => ?_)
      have HK2 : Hid (∀ (a : Act) (w : World), _ → K2 a w) := hK
      clear hK
      go_wp2
      refine HK2.out _ _ ?_
      clear HK2 K2
      exact H6.out _ _ ⟨⟨by kernel_rfl, by kernel_rfl, by kernel_rfl, by kernel_rfl, by kernel_rfl, by kernel_rfl, by kernel_rfl⟩, by kernel_rfl, by kernel_rfl, by kernel_rfl, by kernel_rfl, by kernel_rfl⟩ (by kernel_rfl) (by kernel_rfl) _ (fun a w hf h24 hT => END.out a w hf h24 hT)
  · have hcc : ¬ (c : Int) < (P.nC : Int) := by omega
    obtain rfl : c = P.nC := by omega
    clear hI
    go_wp2
    refine HK2.out _ _ (wp_cond_false (by kernel_rfl) (wp_exit ?_))
    exact HC.out _ _ ⟨⟨by kernel_rfl, by kernel_rfl, by kernel_rfl, by kernel_rfl, by kernel_rfl, by kernel_rfl, by kernel_rfl⟩, by kernel_rfl, by kernel_rfl, by kernel_rfl, by kernel_rfl, by kernel_rfl⟩ HI.out
end Go.Proofs.Qxb6602148a
