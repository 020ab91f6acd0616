/-
  'zzMeetsModel': the lists of edges; its end.
-/
import Derived.Test.Qxb6602148aMtc
attribute [local go_sem] Go.Proofs.Qxb6602148a.yTo Go.Proofs.Qxb6602148a.yUpon
namespace Go.Proofs.Qxb6602148a
open Go.RowKit
set_option linter.unusedVariables false
set_option linter.unusedSimpArgs false

structure FZ (gM gW E nS nC g9 : Nat) (a : Act) : Prop where
  ft : FT gM gW E nS nC a
  s28 : a.tmps.getD 28 undef = .slice (some ⟨g9, 0, none⟩) nS nS
/-- How many of the edges before e leave slot s. -/
def pcn (P : PS) (e s : Nat) : Int := ((cnt (P.frm s) e : Nat) : Int)
def T7 (wb : World) (P : PS) (g9 e : Nat) (w : World) : Prop := ∃ D, MM wb D w ∧ Roi D 9 g9 P.nS (pcn P e)
theorem T7.drewN {wb w : World} {P : PS} {g9 e : Nat} (h : T7 wb P g9 e w) (k : Nat) : T7 wb P g9 e (w.drewN k) := by
  obtain ⟨D, h1, h2⟩ := h
  exact ⟨D, h1.drewN k, h2⟩
theorem T7.skip {wb w : World} {P : PS} {g9 e : Nat} (h : T7 wb P g9 e w) (hf : P.fr e = -1) : T7 wb P g9 (e + 1) w := by
  obtain ⟨D, h1, h2⟩ := h
  refine ⟨D, h1, h2.congr (fun s hs => ?_)⟩
  unfold pcn
  rw [cnt_step]
  have : P.frm s e = false := by unfold PS.frm; rw [hf, beq_eq_false_iff_ne]; omega
  rw [this]; simp
theorem T7.next {wb w : World} {P : PS} {g9 e f : Nat} (h : T7 wb P g9 e w) (hf : P.fr e = (f : Int)) : T7 wb P g9 (e + 1) (w.setCell ⟨g9, f, none⟩ (.int .i64 (pcn P e f + 1))) := by
  obtain ⟨D, h1, h2⟩ := h
  refine ⟨_, h1.set h2.1 f _, (h2.set f _).congr (fun s hs => ?_)⟩
  have hi : P.frm s e = (((f : Nat) : Int) == ((s : Nat) : Int)) := by unfold PS.frm; rw [hf]
  by_cases e1 : s = f
  · subst e1
    rw [upd_same]
    unfold pcn
    rw [cnt_step, hi]; simp
  · rw [upd_other _ _ e1]
    unfold pcn
    rw [cnt_step, hi]
    have : (((f : Nat) : Int) == ((s : Nat) : Int)) = false := by rw [beq_eq_false_iff_ne]; omega
    rw [this]; simp
set_option maxRecDepth 40000 in
theorem ltb {a : Act} {u2 u3 u5 u6 u7 : Value} (hs : a.tmps.size = 465) (hd : a.defers = []) (h2 : a.tmps.getD 2 undef = u2) (h3 : a.tmps.getD 3 undef = u3) (h5 : a.tmps.getD 5 undef = u5) (h6 : a.tmps.getD 6 undef = u6) (h7 : a.tmps.getD 7 undef = u7) : ∃ y : Nat → Value, a = { tmps := #[y 0, y 1, u2, u3, y 4, u5, u6, u7, y 8, y 9, y 10, y 11, y 12, y 13, y 14, y 15, y 16, y 17, y 18, y 19, y 20, y 21, y 22, y 23, y 24, y 25, y 26, y 27, y 28, y 29, y 30, y 31, y 32, y 33, y 34, y 35, y 36, y 37, y 38, y 39, y 40, y 41, y 42, y 43, y 44, y 45, y 46, y 47, y 48, y 49, y 50, y 51, y 52, y 53, y 54, y 55, y 56, y 57, y 58, y 59, y 60, y 61, y 62, y 63, y 64, y 65, y 66, y 67, y 68, y 69, y 70, y 71, y 72, y 73, y 74, y 75, y 76, y 77, y 78, y 79, y 80, y 81, y 82, y 83, y 84, y 85, y 86, y 87, y 88, y 89, y 90, y 91, y 92, y 93, y 94, y 95, y 96, y 97, y 98, y 99, y 100, y 101, y 102, y 103, y 104, y 105, y 106, y 107, y 108, y 109, y 110, y 111, y 112, y 113, y 114, y 115, y 116, y 117, y 118, y 119, y 120, y 121, y 122, y 123, y 124, y 125, y 126, y 127, y 128, y 129, y 130, y 131, y 132, y 133, y 134, y 135, y 136, y 137, y 138, y 139, y 140, y 141, y 142, y 143, y 144, y 145, y 146, y 147, y 148, y 149, y 150, y 151, y 152, y 153, y 154, y 155, y 156, y 157, y 158, y 159, y 160, y 161, y 162, y 163, y 164, y 165, y 166, y 167, y 168, y 169, y 170, y 171, y 172, y 173, y 174, y 175, y 176, y 177, y 178, y 179, y 180, y 181, y 182, y 183, y 184, y 185, y 186, y 187, y 188, y 189, y 190, y 191, y 192, y 193, y 194, y 195, y 196, y 197, y 198, y 199, y 200, y 201, y 202, y 203, y 204, y 205, y 206, y 207, y 208, y 209, y 210, y 211, y 212, y 213, y 214, y 215, y 216, y 217, y 218, y 219, y 220, y 221, y 222, y 223, y 224, y 225, y 226, y 227, y 228, y 229, y 230, y 231, y 232, y 233, y 234, y 235, y 236, y 237, y 238, y 239, y 240, y 241, y 242, y 243, y 244, y 245, y 246, y 247, y 248, y 249, y 250, y 251, y 252, y 253, y 254, y 255, y 256, y 257, y 258, y 259, y 260, y 261, y 262, y 263, y 264, y 265, y 266, y 267, y 268, y 269, y 270, y 271, y 272, y 273, y 274, y 275, y 276, y 277, y 278, y 279, y 280, y 281, y 282, y 283, y 284, y 285, y 286, y 287, y 288, y 289, y 290, y 291, y 292, y 293, y 294, y 295, y 296, y 297, y 298, y 299, y 300, y 301, y 302, y 303, y 304, y 305, y 306, y 307, y 308, y 309, y 310, y 311, y 312, y 313, y 314, y 315, y 316, y 317, y 318, y 319, y 320, y 321, y 322, y 323, y 324, y 325, y 326, y 327, y 328, y 329, y 330, y 331, y 332, y 333, y 334, y 335, y 336, y 337, y 338, y 339, y 340, y 341, y 342, y 343, y 344, y 345, y 346, y 347, y 348, y 349, y 350, y 351, y 352, y 353, y 354, y 355, y 356, y 357, y 358, y 359, y 360, y 361, y 362, y 363, y 364, y 365, y 366, y 367, y 368, y 369, y 370, y 371, y 372, y 373, y 374, y 375, y 376, y 377, y 378, y 379, y 380, y 381, y 382, y 383, y 384, y 385, y 386, y 387, y 388, y 389, y 390, y 391, y 392, y 393, y 394, y 395, y 396, y 397, y 398, y 399, y 400, y 401, y 402, y 403, y 404, y 405, y 406, y 407, y 408, y 409, y 410, y 411, y 412, y 413, y 414, y 415, y 416, y 417, y 418, y 419, y 420, y 421, y 422, y 423, y 424, y 425, y 426, y 427, y 428, y 429, y 430, y 431, y 432, y 433, y 434, y 435, y 436, y 437, y 438, y 439, y 440, y 441, y 442, y 443, y 444, y 445, y 446, y 447, y 448, y 449, y 450, y 451, y 452, y 453, y 454, y 455, y 456, y 457, y 458, y 459, y 460, y 461, y 462, y 463, y 464], defers := [] } := by
  obtain ⟨tmps, defers⟩ := a
  have yd : defers = [] := hd
  subst yd
  obtain ⟨y, hy, hi⟩ := arr_465 tmps hs
  have e2 := (hi 2).trans h2
  have e3 := (hi 3).trans h3
  have e5 := (hi 5).trans h5
  have e6 := (hi 6).trans h6
  have e7 := (hi 7).trans h7
  rw [e2, e3, e5, e6, e7] at hy
  exact ⟨y, congrArg (fun t => (⟨t, []⟩ : Act)) hy⟩
set_option maxRecDepth 40000 in
theorem lz {a : Act} {u2 u3 u5 u6 u7 u28 : Value} (hs : a.tmps.size = 465) (hd : a.defers = []) (h2 : a.tmps.getD 2 undef = u2) (h3 : a.tmps.getD 3 undef = u3) (h5 : a.tmps.getD 5 undef = u5) (h6 : a.tmps.getD 6 undef = u6) (h7 : a.tmps.getD 7 undef = u7) (h28 : a.tmps.getD 28 undef = u28) : ∃ y : Nat → Value, a = { tmps := #[y 0, y 1, u2, u3, y 4, u5, u6, u7, y 8, y 9, y 10, y 11, y 12, y 13, y 14, y 15, y 16, y 17, y 18, y 19, y 20, y 21, y 22, y 23, y 24, y 25, y 26, y 27, u28, y 29, y 30, y 31, y 32, y 33, y 34, y 35, y 36, y 37, y 38, y 39, y 40, y 41, y 42, y 43, y 44, y 45, y 46, y 47, y 48, y 49, y 50, y 51, y 52, y 53, y 54, y 55, y 56, y 57, y 58, y 59, y 60, y 61, y 62, y 63, y 64, y 65, y 66, y 67, y 68, y 69, y 70, y 71, y 72, y 73, y 74, y 75, y 76, y 77, y 78, y 79, y 80, y 81, y 82, y 83, y 84, y 85, y 86, y 87, y 88, y 89, y 90, y 91, y 92, y 93, y 94, y 95, y 96, y 97, y 98, y 99, y 100, y 101, y 102, y 103, y 104, y 105, y 106, y 107, y 108, y 109, y 110, y 111, y 112, y 113, y 114, y 115, y 116, y 117, y 118, y 119, y 120, y 121, y 122, y 123, y 124, y 125, y 126, y 127, y 128, y 129, y 130, y 131, y 132, y 133, y 134, y 135, y 136, y 137, y 138, y 139, y 140, y 141, y 142, y 143, y 144, y 145, y 146, y 147, y 148, y 149, y 150, y 151, y 152, y 153, y 154, y 155, y 156, y 157, y 158, y 159, y 160, y 161, y 162, y 163, y 164, y 165, y 166, y 167, y 168, y 169, y 170, y 171, y 172, y 173, y 174, y 175, y 176, y 177, y 178, y 179, y 180, y 181, y 182, y 183, y 184, y 185, y 186, y 187, y 188, y 189, y 190, y 191, y 192, y 193, y 194, y 195, y 196, y 197, y 198, y 199, y 200, y 201, y 202, y 203, y 204, y 205, y 206, y 207, y 208, y 209, y 210, y 211, y 212, y 213, y 214, y 215, y 216, y 217, y 218, y 219, y 220, y 221, y 222, y 223, y 224, y 225, y 226, y 227, y 228, y 229, y 230, y 231, y 232, y 233, y 234, y 235, y 236, y 237, y 238, y 239, y 240, y 241, y 242, y 243, y 244, y 245, y 246, y 247, y 248, y 249, y 250, y 251, y 252, y 253, y 254, y 255, y 256, y 257, y 258, y 259, y 260, y 261, y 262, y 263, y 264, y 265, y 266, y 267, y 268, y 269, y 270, y 271, y 272, y 273, y 274, y 275, y 276, y 277, y 278, y 279, y 280, y 281, y 282, y 283, y 284, y 285, y 286, y 287, y 288, y 289, y 290, y 291, y 292, y 293, y 294, y 295, y 296, y 297, y 298, y 299, y 300, y 301, y 302, y 303, y 304, y 305, y 306, y 307, y 308, y 309, y 310, y 311, y 312, y 313, y 314, y 315, y 316, y 317, y 318, y 319, y 320, y 321, y 322, y 323, y 324, y 325, y 326, y 327, y 328, y 329, y 330, y 331, y 332, y 333, y 334, y 335, y 336, y 337, y 338, y 339, y 340, y 341, y 342, y 343, y 344, y 345, y 346, y 347, y 348, y 349, y 350, y 351, y 352, y 353, y 354, y 355, y 356, y 357, y 358, y 359, y 360, y 361, y 362, y 363, y 364, y 365, y 366, y 367, y 368, y 369, y 370, y 371, y 372, y 373, y 374, y 375, y 376, y 377, y 378, y 379, y 380, y 381, y 382, y 383, y 384, y 385, y 386, y 387, y 388, y 389, y 390, y 391, y 392, y 393, y 394, y 395, y 396, y 397, y 398, y 399, y 400, y 401, y 402, y 403, y 404, y 405, y 406, y 407, y 408, y 409, y 410, y 411, y 412, y 413, y 414, y 415, y 416, y 417, y 418, y 419, y 420, y 421, y 422, y 423, y 424, y 425, y 426, y 427, y 428, y 429, y 430, y 431, y 432, y 433, y 434, y 435, y 436, y 437, y 438, y 439, y 440, y 441, y 442, y 443, y 444, y 445, y 446, y 447, y 448, y 449, y 450, y 451, y 452, y 453, y 454, y 455, y 456, y 457, y 458, y 459, y 460, y 461, y 462, y 463, y 464], defers := [] } := by
  obtain ⟨tmps, defers⟩ := a
  have yd : defers = [] := hd
  subst yd
  obtain ⟨y, hy, hi⟩ := arr_465 tmps hs
  have e2 := (hi 2).trans h2
  have e3 := (hi 3).trans h3
  have e5 := (hi 5).trans h5
  have e6 := (hi 6).trans h6
  have e7 := (hi 7).trans h7
  have e28 := (hi 28).trans h28
  rw [e2, e3, e5, e6, e7, e28] at hy
  exact ⟨y, congrArg (fun t => (⟨t, []⟩ : Act)) hy⟩
set_option maxRecDepth 40000 in
theorem lz29 {a : Act} {u2 u3 u5 u6 u7 u28 u29 : Value} (hs : a.tmps.size = 465) (hd : a.defers = []) (h2 : a.tmps.getD 2 undef = u2) (h3 : a.tmps.getD 3 undef = u3) (h5 : a.tmps.getD 5 undef = u5) (h6 : a.tmps.getD 6 undef = u6) (h7 : a.tmps.getD 7 undef = u7) (h28 : a.tmps.getD 28 undef = u28) (h29 : a.tmps.getD 29 undef = u29) : ∃ y : Nat → Value, a = { tmps := #[y 0, y 1, u2, u3, y 4, u5, u6, u7, y 8, y 9, y 10, y 11, y 12, y 13, y 14, y 15, y 16, y 17, y 18, y 19, y 20, y 21, y 22, y 23, y 24, y 25, y 26, y 27, u28, u29, y 30, y 31, y 32, y 33, y 34, y 35, y 36, y 37, y 38, y 39, y 40, y 41, y 42, y 43, y 44, y 45, y 46, y 47, y 48, y 49, y 50, y 51, y 52, y 53, y 54, y 55, y 56, y 57, y 58, y 59, y 60, y 61, y 62, y 63, y 64, y 65, y 66, y 67, y 68, y 69, y 70, y 71, y 72, y 73, y 74, y 75, y 76, y 77, y 78, y 79, y 80, y 81, y 82, y 83, y 84, y 85, y 86, y 87, y 88, y 89, y 90, y 91, y 92, y 93, y 94, y 95, y 96, y 97, y 98, y 99, y 100, y 101, y 102, y 103, y 104, y 105, y 106, y 107, y 108, y 109, y 110, y 111, y 112, y 113, y 114, y 115, y 116, y 117, y 118, y 119, y 120, y 121, y 122, y 123, y 124, y 125, y 126, y 127, y 128, y 129, y 130, y 131, y 132, y 133, y 134, y 135, y 136, y 137, y 138, y 139, y 140, y 141, y 142, y 143, y 144, y 145, y 146, y 147, y 148, y 149, y 150, y 151, y 152, y 153, y 154, y 155, y 156, y 157, y 158, y 159, y 160, y 161, y 162, y 163, y 164, y 165, y 166, y 167, y 168, y 169, y 170, y 171, y 172, y 173, y 174, y 175, y 176, y 177, y 178, y 179, y 180, y 181, y 182, y 183, y 184, y 185, y 186, y 187, y 188, y 189, y 190, y 191, y 192, y 193, y 194, y 195, y 196, y 197, y 198, y 199, y 200, y 201, y 202, y 203, y 204, y 205, y 206, y 207, y 208, y 209, y 210, y 211, y 212, y 213, y 214, y 215, y 216, y 217, y 218, y 219, y 220, y 221, y 222, y 223, y 224, y 225, y 226, y 227, y 228, y 229, y 230, y 231, y 232, y 233, y 234, y 235, y 236, y 237, y 238, y 239, y 240, y 241, y 242, y 243, y 244, y 245, y 246, y 247, y 248, y 249, y 250, y 251, y 252, y 253, y 254, y 255, y 256, y 257, y 258, y 259, y 260, y 261, y 262, y 263, y 264, y 265, y 266, y 267, y 268, y 269, y 270, y 271, y 272, y 273, y 274, y 275, y 276, y 277, y 278, y 279, y 280, y 281, y 282, y 283, y 284, y 285, y 286, y 287, y 288, y 289, y 290, y 291, y 292, y 293, y 294, y 295, y 296, y 297, y 298, y 299, y 300, y 301, y 302, y 303, y 304, y 305, y 306, y 307, y 308, y 309, y 310, y 311, y 312, y 313, y 314, y 315, y 316, y 317, y 318, y 319, y 320, y 321, y 322, y 323, y 324, y 325, y 326, y 327, y 328, y 329, y 330, y 331, y 332, y 333, y 334, y 335, y 336, y 337, y 338, y 339, y 340, y 341, y 342, y 343, y 344, y 345, y 346, y 347, y 348, y 349, y 350, y 351, y 352, y 353, y 354, y 355, y 356, y 357, y 358, y 359, y 360, y 361, y 362, y 363, y 364, y 365, y 366, y 367, y 368, y 369, y 370, y 371, y 372, y 373, y 374, y 375, y 376, y 377, y 378, y 379, y 380, y 381, y 382, y 383, y 384, y 385, y 386, y 387, y 388, y 389, y 390, y 391, y 392, y 393, y 394, y 395, y 396, y 397, y 398, y 399, y 400, y 401, y 402, y 403, y 404, y 405, y 406, y 407, y 408, y 409, y 410, y 411, y 412, y 413, y 414, y 415, y 416, y 417, y 418, y 419, y 420, y 421, y 422, y 423, y 424, y 425, y 426, y 427, y 428, y 429, y 430, y 431, y 432, y 433, y 434, y 435, y 436, y 437, y 438, y 439, y 440, y 441, y 442, y 443, y 444, y 445, y 446, y 447, y 448, y 449, y 450, y 451, y 452, y 453, y 454, y 455, y 456, y 457, y 458, y 459, y 460, y 461, y 462, y 463, y 464], defers := [] } := by
  obtain ⟨tmps, defers⟩ := a
  have yd : defers = [] := hd
  subst yd
  obtain ⟨y, hy, hi⟩ := arr_465 tmps hs
  have e2 := (hi 2).trans h2
  have e3 := (hi 3).trans h3
  have e5 := (hi 5).trans h5
  have e6 := (hi 6).trans h6
  have e7 := (hi 7).trans h7
  have e28 := (hi 28).trans h28
  have e29 := (hi 29).trans h29
  rw [e2, e3, e5, e6, e7, e28, e29] at hy
  exact ⟨y, congrArg (fun t => (⟨t, []⟩ : Act)) hy⟩
set_option maxRecDepth 40000 in
theorem lz31 {a : Act} {u2 u3 u5 u6 u7 u28 u31 : Value} (hs : a.tmps.size = 465) (hd : a.defers = []) (h2 : a.tmps.getD 2 undef = u2) (h3 : a.tmps.getD 3 undef = u3) (h5 : a.tmps.getD 5 undef = u5) (h6 : a.tmps.getD 6 undef = u6) (h7 : a.tmps.getD 7 undef = u7) (h28 : a.tmps.getD 28 undef = u28) (h31 : a.tmps.getD 31 undef = u31) : ∃ y : Nat → Value, a = { tmps := #[y 0, y 1, u2, u3, y 4, u5, u6, u7, y 8, y 9, y 10, y 11, y 12, y 13, y 14, y 15, y 16, y 17, y 18, y 19, y 20, y 21, y 22, y 23, y 24, y 25, y 26, y 27, u28, y 29, y 30, u31, y 32, y 33, y 34, y 35, y 36, y 37, y 38, y 39, y 40, y 41, y 42, y 43, y 44, y 45, y 46, y 47, y 48, y 49, y 50, y 51, y 52, y 53, y 54, y 55, y 56, y 57, y 58, y 59, y 60, y 61, y 62, y 63, y 64, y 65, y 66, y 67, y 68, y 69, y 70, y 71, y 72, y 73, y 74, y 75, y 76, y 77, y 78, y 79, y 80, y 81, y 82, y 83, y 84, y 85, y 86, y 87, y 88, y 89, y 90, y 91, y 92, y 93, y 94, y 95, y 96, y 97, y 98, y 99, y 100, y 101, y 102, y 103, y 104, y 105, y 106, y 107, y 108, y 109, y 110, y 111, y 112, y 113, y 114, y 115, y 116, y 117, y 118, y 119, y 120, y 121, y 122, y 123, y 124, y 125, y 126, y 127, y 128, y 129, y 130, y 131, y 132, y 133, y 134, y 135, y 136, y 137, y 138, y 139, y 140, y 141, y 142, y 143, y 144, y 145, y 146, y 147, y 148, y 149, y 150, y 151, y 152, y 153, y 154, y 155, y 156, y 157, y 158, y 159, y 160, y 161, y 162, y 163, y 164, y 165, y 166, y 167, y 168, y 169, y 170, y 171, y 172, y 173, y 174, y 175, y 176, y 177, y 178, y 179, y 180, y 181, y 182, y 183, y 184, y 185, y 186, y 187, y 188, y 189, y 190, y 191, y 192, y 193, y 194, y 195, y 196, y 197, y 198, y 199, y 200, y 201, y 202, y 203, y 204, y 205, y 206, y 207, y 208, y 209, y 210, y 211, y 212, y 213, y 214, y 215, y 216, y 217, y 218, y 219, y 220, y 221, y 222, y 223, y 224, y 225, y 226, y 227, y 228, y 229, y 230, y 231, y 232, y 233, y 234, y 235, y 236, y 237, y 238, y 239, y 240, y 241, y 242, y 243, y 244, y 245, y 246, y 247, y 248, y 249, y 250, y 251, y 252, y 253, y 254, y 255, y 256, y 257, y 258, y 259, y 260, y 261, y 262, y 263, y 264, y 265, y 266, y 267, y 268, y 269, y 270, y 271, y 272, y 273, y 274, y 275, y 276, y 277, y 278, y 279, y 280, y 281, y 282, y 283, y 284, y 285, y 286, y 287, y 288, y 289, y 290, y 291, y 292, y 293, y 294, y 295, y 296, y 297, y 298, y 299, y 300, y 301, y 302, y 303, y 304, y 305, y 306, y 307, y 308, y 309, y 310, y 311, y 312, y 313, y 314, y 315, y 316, y 317, y 318, y 319, y 320, y 321, y 322, y 323, y 324, y 325, y 326, y 327, y 328, y 329, y 330, y 331, y 332, y 333, y 334, y 335, y 336, y 337, y 338, y 339, y 340, y 341, y 342, y 343, y 344, y 345, y 346, y 347, y 348, y 349, y 350, y 351, y 352, y 353, y 354, y 355, y 356, y 357, y 358, y 359, y 360, y 361, y 362, y 363, y 364, y 365, y 366, y 367, y 368, y 369, y 370, y 371, y 372, y 373, y 374, y 375, y 376, y 377, y 378, y 379, y 380, y 381, y 382, y 383, y 384, y 385, y 386, y 387, y 388, y 389, y 390, y 391, y 392, y 393, y 394, y 395, y 396, y 397, y 398, y 399, y 400, y 401, y 402, y 403, y 404, y 405, y 406, y 407, y 408, y 409, y 410, y 411, y 412, y 413, y 414, y 415, y 416, y 417, y 418, y 419, y 420, y 421, y 422, y 423, y 424, y 425, y 426, y 427, y 428, y 429, y 430, y 431, y 432, y 433, y 434, y 435, y 436, y 437, y 438, y 439, y 440, y 441, y 442, y 443, y 444, y 445, y 446, y 447, y 448, y 449, y 450, y 451, y 452, y 453, y 454, y 455, y 456, y 457, y 458, y 459, y 460, y 461, y 462, y 463, y 464], defers := [] } := by
  obtain ⟨tmps, defers⟩ := a
  have yd : defers = [] := hd
  subst yd
  obtain ⟨y, hy, hi⟩ := arr_465 tmps hs
  have e2 := (hi 2).trans h2
  have e3 := (hi 3).trans h3
  have e5 := (hi 5).trans h5
  have e6 := (hi 6).trans h6
  have e7 := (hi 7).trans h7
  have e28 := (hi 28).trans h28
  have e31 := (hi 31).trans h31
  rw [e2, e3, e5, e6, e7, e28, e31] at hy
  exact ⟨y, congrArg (fun t => (⟨t, []⟩ : Act)) hy⟩

set_option maxRecDepth 40000 in
set_option maxHeartbeats 8000000 in
/-- Region 76. -/
theorem mt_7a (wb : World) (gM gW : Nat) (X : MD) (P : PS) (hin : MtIn wb gM gW X P) (hm : Meet X P) (wr : World) (hI : ∃ D, MM wb D wr) (a : Act) (hf : FT gM gW X.E P.nS P.nC a) (tail : Code) (Z : Ending → World → Prop)
    (hT : ∀ (a : Act) (w' : World) (g9 : Nat), FZ gM gW X.E P.nS P.nC g9 a → T7 wb P g9 0 w' → Code.wp Try.prog tail (bodyPost Try.prog Try.f12 fun e w' => Z e w') a w') :
    Code.wp Try.prog (rt 1 (tl 19 (Try.f12.body.getD .skip)) tail) (bodyPost Try.prog Try.f12 fun e w' => Z e w') a wr := by
  obtain ⟨y, rfl⟩ := ltb hf.sz hf.df hf.s2 hf.s3 hf.s5 hf.s6 hf.s7
  obtain ⟨hE, hn, hS, hCC, hnc⟩ := hin.sm
  have HIN : Hid (MtIn wb gM gW X P) := hin
  have HM : Hid (Meet X P) := hm
  obtain ⟨i3, hi3, hz30, hz31, hz32⟩ := info_parts Try.info3
  obtain ⟨mq, hmq, hfmq⟩ := make_fun (P := Try.prog) 26 3 i3 (.int .i64 0) 1 8 (.int .i64 0) Try.underlying26 hi3 hz30 hz31 hz32 rfl (by decide) zero1 P.nS (by omega) (by omega)
  have HTL : Hid (∀ (a : Act) (w' : World) (g9 : Nat), FZ gM gW X.E P.nS P.nC g9 a → T7 wb P g9 0 w' → Code.wp Try.prog tail (bodyPost Try.prog Try.f12 fun e w' => Z e w') a w') := hT
  have fin : Hid (T7 wb P wr.heap.size 0 (mq wr)) := by
    obtain ⟨D, d1⟩ := hI
    exact ⟨_, d1.fresh (r := 9) rfl (hfmq _), Roi.new _ 9 _ _ (fun _ => 0)⟩
  clear hin hm hT hfmq hi3 hz30 hz31 hz32 hf hI
  simp only [rt, tl, Try.f12, Option.getD]
  go_wp2
  exact HTL.out _ _ wr.heap.size ⟨⟨by kernel_rfl, by kernel_rfl, by kernel_rfl, by kernel_rfl, by kernel_rfl, by kernel_rfl, by kernel_rfl⟩, by kernel_rfl⟩ fin.out

def Lm7I (wb : World) (gM gW : Nat) (X : MD) (P : PS) (g9 : Nat) (a : Act) (w : World) : Prop := FZ gM gW X.E P.nS P.nC g9 a ∧ ∃ e : Nat, a.tmps.getD 29 undef = .int .i64 (e : Int) ∧ e ≤ X.E ∧ T7 wb P g9 e w
set_option maxRecDepth 40000 in
set_option maxHeartbeats 8000000 in
/-- The edges, once more. -/
theorem mt_7 (wb : World) (gM gW : Nat) (X : MD) (P : PS) (g9 : Nat) (hin : MtIn wb gM gW X P) (hm : Meet X P) (wr : World) (hI : T7 wb P g9 0 wr) (a : Act) (hf : FZ gM gW X.E P.nS P.nC g9 a) (Q : Exit → Act → World → Prop)
    (hC : ∀ (a : Act) (w : World), FZ gM gW X.E P.nS P.nC g9 a → T7 wb P g9 X.E w → Q .normal a w) :
    Code.wp Try.prog (sL (tl 20 (Try.f12.body.getD .skip))) Q a wr := by
  obtain ⟨y, rfl⟩ := lz hf.ft.sz hf.ft.df hf.ft.s2 hf.ft.s3 hf.ft.s5 hf.ft.s6 hf.ft.s7 hf.s28
  obtain ⟨hE, hn, hS, hCC, hnc⟩ := hin.sm
  have HIN : Hid (MtIn wb gM gW X P) := hin
  have HM : Hid (Meet X P) := hm
  have HI : Hid (T7 wb P g9 0 wr) := hI
  have HC : Hid (∀ (a : Act) (w : World), FZ gM gW X.E P.nS P.nC g9 a → T7 wb P g9 X.E w → Q .normal a w) := hC
  have hnE := hm.nE
  clear hf hC hI hin hm
  show Code.wp Try.prog (Code.seq _ (Code.block 12 (Code.loop (Code.seq (Code.seq _ (Code.cond (.tmp 399) Code.skip (Code.exit 12))) (Code.seq (Code.block 13 (Code.seq _ (Code.seq (Code.seq _ (Code.cond (.tmp 408) (Code.exit 13) Code.skip)) (Code.seq (Code.seq _ (Code.cond (.tmp 434) _ Code.skip)) _)))) _))))) Q _ wr
  refine wp_seq_k (fun K1 hK => ?_)
  have HK1 : Hid (∀ (a : Act) (w : World), _ → K1 a w) := hK
  clear hK
  go_wp2
  refine HK1.out _ _ ?_
  clear HK1 K1
  refine wp_block ?_
  refine wp_loop (Lm7I wb gM gW X P g9) (fun a _ => mus 29 X.E a) ⟨⟨⟨by kernel_rfl, by kernel_rfl, by kernel_rfl, by kernel_rfl, by kernel_rfl, by kernel_rfl, by kernel_rfl⟩, by kernel_rfl⟩, 0, by kernel_rfl, Nat.zero_le _, HI.out⟩ ?_
  clear HI y
  rintro a w' ⟨hf, e, h29, e1, hI⟩
  have e29 : mus 29 X.E a = X.E - e := congrArg (fun v => X.E - (intOf v).toNat) h29
  obtain ⟨y2, rfl⟩ := lz29 hf.ft.sz hf.ft.df hf.ft.s2 hf.ft.s3 hf.ft.s5 hf.ft.s6 hf.ft.s7 hf.s28 h29
  rw [e29]
  clear e29 hf h29
  have HI : Hid (T7 wb P g9 e w') := hI
  refine wp_seq_k (fun K1 hK => ?_)
  have HK1 : Hid (∀ (a : Act) (w : World), _ → K1 a w) := hK
  clear hK
  refine wp_seq_k (fun K2 hK => ?_)
  have HK2 : Hid (∀ (a : Act) (w : World), _ → K2 a w) := hK
  clear hK
  by_cases he : e < X.E
  · have hee : (e : Int) < (X.E : Int) := by omega
    clear hI
    go_wp2
    refine HK2.out _ _ (wp_cond_true (by kernel_rfl) (wp_skip ?_))
    refine HK1.out _ _ ?_
    clear HK1 K1 HK2 K2
    refine wp_seq_k (fun K1 hK => ?_)
    have HK1 : Hid (∀ (a : Act) (w : World), _ → K1 a w) := hK
    clear hK
    have END : Hid (∀ (a : Act) (w : World), FZ gM gW X.E P.nS P.nC g9 a → a.tmps.getD 29 undef = .int .i64 (e : Int) → T7 wb P g9 (e + 1) w → K1 a w) := by
      intro a w hf h29 hT
      obtain ⟨y5, rfl⟩ := lz29 hf.ft.sz hf.ft.df hf.ft.s2 hf.ft.s3 hf.ft.s5 hf.ft.s6 hf.ft.s7 hf.s28 h29
      have HT : Hid (T7 wb P g9 (e + 1) w) := hT
      refine HK1.out _ _ ?_
      clear hf h29 hT HK1
      go_wp2
      exact ⟨⟨⟨⟨by kernel_rfl, by kernel_rfl, by kernel_rfl, by kernel_rfl, by kernel_rfl, by kernel_rfl, by kernel_rfl⟩, by kernel_rfl⟩, e + 1, by kernel_rfl, by omega, HT.out⟩, Nat.lt_of_le_of_lt (Nat.le_of_eq (by kernel_rfl : _ = X.E - (e + 1))) (by omega)⟩
    clear HK1
    obtain ⟨D, d1, d2⟩ := HI.out
    obtain ⟨b0, k0, x1, x2, x3⟩ := HIN.out.v0.at d1.grew (j := e) (by omega)
    rw [hnE] at x1 x2
    refine wp_block ?_
    cases ho : X.onc e with
    | false =>
      obtain ⟨o1, o2⟩ := HM.out.off e he ho
      rw [o1] at x3
      have fin : Hid (T7 wb P g9 (e + 1) w') := HI.out.skip o1
      clear HI d1 d2 ho o1 o2
      refine wp_seq_k (fun K2 hK => ?_)
      have HK2 : Hid (∀ (a : Act) (w : World), _ → K2 a w) := hK
      clear hK
      go_wp2
      refine HK2.out _ _ ?_
      clear HK2 K2
      refine wp_seq_k (fun K2 hK => ?_)
      have HK2 : Hid (∀ (a : Act) (w : World), _ → K2 a w) := hK
      clear hK
      refine wp_seq_k (fun K3 hK => ?_)
      have HK3 : Hid (∀ (a : Act) (w : World), _ → K3 a w) := hK
      clear hK
      go_wp2
      refine HK3.out _ _ (wp_cond_true (by kernel_rfl) (wp_exit ?_))
      exact END.out _ _ ⟨⟨by kernel_rfl, by kernel_rfl, by kernel_rfl, by kernel_rfl, by kernel_rfl, by kernel_rfl, by kernel_rfl⟩, by kernel_rfl⟩ (by kernel_rfl) fin.out
    | true =>
      obtain ⟨f, t, c, f1, t1, q1, q2, q3, q4, q5, q6⟩ := HM.out.on e he ho
      obtain ⟨p1, p2⟩ := HM.out.pos_at f1 he q1
      obtain ⟨b4, k4, b4', l4, u1, u2, u3, u4, u5⟩ := HIN.out.v4.at2 d1.grew f1 p1
      rw [p2] at u5
      have z1 := d2.cell d1 rfl f1
      have hpc : pcn P e f = ((cnt (P.frm f) e : Nat) : Int) := rfl
      rw [hpc] at z1
      have hce := cnt_le (P.frm f) e
      have FIN : Hid (∀ k, (w'.drewN k).cell? ⟨g9, f, none⟩ = some (.int .i64 ((cnt (P.frm f) e : Nat) : Int)) ∧ (w'.drewN k).frozen? ⟨g9, f, none⟩ = false ∧ T7 wb P g9 (e + 1) ((w'.drewN k).setCell ⟨g9, f, none⟩ (.int .i64 (((cnt (P.frm f) e : Nat) : Int) + 1)))) := fun k => ⟨d2.cell (d1.drewN k) rfl f1, d2.frozen (d1.drewN k) f, (HI.out.drewN k).next q1⟩
      rw [q1] at x3
      have hpp : ((cnt (P.frm f) e : Nat) : Int) < ((P.on f : Nat) : Int) := by omega
      have ff : (f : Int) < (P.nS : Int) := by omega
      clear HI d1 d2 ho q1 q2 q3 q4 q5 q6 p1 p2 hpc
      generalize cnt (P.frm f) e = pc at *
      generalize P.on f = nf at *
      have dg : decide (nf ≤ pc) = false := decide_eq_false (by omega)
      refine wp_seq_k (fun K2 hK => ?_)
      have HK2 : Hid (∀ (a : Act) (w : World), _ → K2 a w) := hK
      clear hK
      go_wp2
      refine HK2.out _ _ ?_
      clear HK2 K2 x1 x2 x3
      refine wp_seq_k (fun K2 hK => ?_)
      have HK2 : Hid (∀ (a : Act) (w : World), _ → K2 a w) := hK
      clear hK
      refine wp_seq_k (fun K3 hK => ?_)
      have HK3 : Hid (∀ (a : Act) (w : World), _ → K3 a w) := hK
      clear hK
      go_wp2
      refine HK3.out _ _ (wp_cond_false (by kernel_rfl) (wp_skip ?_))
      refine HK2.out _ _ ?_
      clear HK2 K2 HK3 K3
      refine wp_seq_k (fun K2 hK => ?_)
      have HK2 : Hid (∀ (a : Act) (w : World), _ → K2 a w) := hK
      clear hK
      refine wp_seq_k (fun K3 hK => ?_)
      have HK3 : Hid (∀ (a : Act) (w : World), _ → K3 a w) := hK
      clear hK
      go_quiet (fail)
      refine HK3.out _ _ (wp_cond_false (by kernel_rfl) (wp_skip ?_))
      refine HK2.out _ _ ?_
      clear HK2 K2 HK3 K3 u1 u2 u3 u4 u5 z1
      obtain ⟨v1, v2, v3⟩ := FIN.out nq
      have fin : Hid (T7 wb P g9 (e + 1) ((w'.drewN nq).setCell ⟨g9, f, none⟩ (.int .i64 ((pc : Int) + 1)))) := v3
      clear v3 FIN
      generalize w'.drewN nq = w1 at *
      go_wp2
      generalize w1.setCell ⟨g9, f, none⟩ (.int .i64 ((pc : Int) + 1)) = w2 at *
      exact END.out _ _ ⟨⟨by kernel_rfl, by kernel_rfl, by kernel_rfl, by kernel_rfl, by kernel_rfl, by kernel_rfl, by kernel_rfl⟩, by kernel_rfl⟩ (by kernel_rfl) fin.out
  · have hee : ¬ (e : Int) < (X.E : Int) := by omega
    obtain rfl : e = X.E := by omega
    clear hI
    go_wp2
    refine HK2.out _ _ (wp_cond_false (by kernel_rfl) (wp_exit ?_))
    exact HC.out _ _ ⟨⟨by kernel_rfl, by kernel_rfl, by kernel_rfl, by kernel_rfl, by kernel_rfl, by kernel_rfl, by kernel_rfl⟩, by kernel_rfl⟩ HI.out

def Lm8I (wb : World) (gM gW : Nat) (X : MD) (P : PS) (g9 : Nat) (a : Act) (w : World) : Prop := FZ gM gW X.E P.nS P.nC g9 a ∧ ∃ s : Nat, a.tmps.getD 31 undef = .int .i64 (s : Int) ∧ s ≤ P.nS ∧ T7 wb P g9 X.E w
set_option maxRecDepth 40000 in
set_option maxHeartbeats 8000000 in
/-- The slots, once more. -/
theorem mt_8 (wb : World) (gM gW : Nat) (X : MD) (P : PS) (g9 : Nat) (hin : MtIn wb gM gW X P) (hm : Meet X P) (wr : World) (hI : T7 wb P g9 X.E wr) (a : Act) (hf : FZ gM gW X.E P.nS P.nC g9 a) (Q : Exit → Act → World → Prop)
    (hC : ∀ (a : Act) (w : World), FZ gM gW X.E P.nS P.nC g9 a → T7 wb P g9 X.E w → Q .normal a w) :
    Code.wp Try.prog (sL (tl 21 (Try.f12.body.getD .skip))) Q a wr := by
  obtain ⟨y, rfl⟩ := lz hf.ft.sz hf.ft.df hf.ft.s2 hf.ft.s3 hf.ft.s5 hf.ft.s6 hf.ft.s7 hf.s28
  obtain ⟨hE, hn, hS, hCC, hnc⟩ := hin.sm
  have HIN : Hid (MtIn wb gM gW X P) := hin
  have HM : Hid (Meet X P) := hm
  have HI : Hid (T7 wb P g9 X.E wr) := hI
  have HC : Hid (∀ (a : Act) (w : World), FZ gM gW X.E P.nS P.nC g9 a → T7 wb P g9 X.E w → Q .normal a w) := hC
  clear hf hC hI hin hm
  show Code.wp Try.prog (Code.seq _ (Code.block 14 (Code.loop (Code.seq (Code.seq _ (Code.cond (.tmp 443) Code.skip (Code.exit 14))) (Code.seq (Code.block 15 (Code.seq _ (Code.cond (.tmp 464) _ Code.skip))) _))))) Q _ wr
  refine wp_seq_k (fun K1 hK => ?_)
  have HK1 : Hid (∀ (a : Act) (w : World), _ → K1 a w) := hK
  clear hK
  go_wp2
  refine HK1.out _ _ ?_
  clear HK1 K1
  refine wp_block ?_
  refine wp_loop (Lm8I wb gM gW X P g9) (fun a _ => mus 31 P.nS a) ⟨⟨⟨by kernel_rfl, by kernel_rfl, by kernel_rfl, by kernel_rfl, by kernel_rfl, by kernel_rfl, by kernel_rfl⟩, by kernel_rfl⟩, 0, by kernel_rfl, Nat.zero_le _, HI.out⟩ ?_
  clear HI y
  rintro a w' ⟨hf, s, h31, s1, hI⟩
  have e31 : mus 31 P.nS a = P.nS - s := congrArg (fun v => P.nS - (intOf v).toNat) h31
  obtain ⟨y2, rfl⟩ := lz31 hf.ft.sz hf.ft.df hf.ft.s2 hf.ft.s3 hf.ft.s5 hf.ft.s6 hf.ft.s7 hf.s28 h31
  rw [e31]
  clear e31 hf h31
  have HI : Hid (T7 wb P g9 X.E w') := hI
  refine wp_seq_k (fun K1 hK => ?_)
  have HK1 : Hid (∀ (a : Act) (w : World), _ → K1 a w) := hK
  clear hK
  refine wp_seq_k (fun K2 hK => ?_)
  have HK2 : Hid (∀ (a : Act) (w : World), _ → K2 a w) := hK
  clear hK
  by_cases hs : s < P.nS
  · have hss : (s : Int) < (P.nS : Int) := by omega
    clear hI
    go_wp2
    refine HK2.out _ _ (wp_cond_true (by kernel_rfl) (wp_skip ?_))
    refine HK1.out _ _ ?_
    clear HK1 K1 HK2 K2
    refine wp_seq_k (fun K1 hK => ?_)
    have HK1 : Hid (∀ (a : Act) (w : World), _ → K1 a w) := hK
    clear hK
    have END : Hid (∀ (a : Act) (k : Nat), FZ gM gW X.E P.nS P.nC g9 a → a.tmps.getD 31 undef = .int .i64 (s : Int) → K1 a (w'.drewN k)) := by
      intro a k hf h31
      obtain ⟨y5, rfl⟩ := lz31 hf.ft.sz hf.ft.df hf.ft.s2 hf.ft.s3 hf.ft.s5 hf.ft.s6 hf.ft.s7 hf.s28 h31
      have HT : Hid (T7 wb P g9 X.E (w'.drewN k)) := HI.out.drewN k
      refine HK1.out _ _ ?_
      clear hf h31 HK1
      generalize w'.drewN k = wk at *
      go_wp2
      exact ⟨⟨⟨⟨by kernel_rfl, by kernel_rfl, by kernel_rfl, by kernel_rfl, by kernel_rfl, by kernel_rfl, by kernel_rfl⟩, by kernel_rfl⟩, s + 1, by kernel_rfl, by omega, HT.out⟩, Nat.lt_of_le_of_lt (Nat.le_of_eq (by kernel_rfl : _ = P.nS - (s + 1))) (by omega)⟩
    clear HK1
    obtain ⟨D, d1, d2⟩ := HI.out
    obtain ⟨b3, k3, x1, x2, x3⟩ := HIN.out.v3.at d1.grew hs
    obtain ⟨b4, k4, o4, l4, u1, u2, u3⟩ := HIN.out.v4.at d1.grew hs
    have z1 := d2.cell d1 rfl hs
    have hpc : pcn P X.E s = ((P.on s : Nat) : Int) := by unfold pcn; rw [HM.out.pos_all hs]
    rw [hpc] at z1
    refine wp_block ?_
    by_cases hc : P.comp s = -1
    · rw [hc] at x3
      clear HI d1 d2 hc hpc
      generalize P.on s = ns at *
      refine wp_seq_k (fun K2 hK => ?_)
      have HK2 : Hid (∀ (a : Act) (w : World), _ → K2 a w) := hK
      clear hK
      go_quiet (fail)
      refine HK2.out _ _ (wp_cond_false (by kernel_rfl) (wp_skip ?_))
      exact END.out _ _ ⟨⟨by kernel_rfl, by kernel_rfl, by kernel_rfl, by kernel_rfl, by kernel_rfl, by kernel_rfl, by kernel_rfl⟩, by kernel_rfl⟩ (by kernel_rfl)
    · obtain ⟨c, c1, c2, c3⟩ := HM.out.s1 s hs hc
      rw [c2] at x3
      clear HI d1 d2 hc hpc c2 c3
      generalize P.on s = ns at *
      refine wp_seq_k (fun K2 hK => ?_)
      have HK2 : Hid (∀ (a : Act) (w : World), _ → K2 a w) := hK
      clear hK
      go_quiet (fail)
      refine HK2.out _ _ (wp_cond_false (by kernel_rfl) (wp_skip ?_))
      exact END.out _ _ ⟨⟨by kernel_rfl, by kernel_rfl, by kernel_rfl, by kernel_rfl, by kernel_rfl, by kernel_rfl, by kernel_rfl⟩, by kernel_rfl⟩ (by kernel_rfl)
  · have hss : ¬ (s : Int) < (P.nS : Int) := by omega
    obtain rfl : s = P.nS := by omega
    clear hI
    go_wp2
    refine HK2.out _ _ (wp_cond_false (by kernel_rfl) (wp_exit ?_))
    exact HC.out _ _ ⟨⟨by kernel_rfl, by kernel_rfl, by kernel_rfl, by kernel_rfl, by kernel_rfl, by kernel_rfl, by kernel_rfl⟩, by kernel_rfl⟩ HI.out

set_option maxRecDepth 40000 in
set_option maxHeartbeats 8000000 in
/-- The end. -/
theorem mt_9 (E nS nC gM gW : Nat) (wr : World) (R : World → Prop) (hR : R wr) (a : Act) (hf : FT gM gW E nS nC a) :
    Code.wp Try.prog (tl 22 (Try.f12.body.getD .skip)) (bodyPost Try.prog Try.f12 fun e w' => e = .returned (.bool true) ∧ R w') a wr := by
  obtain ⟨y, rfl⟩ := ltb hf.sz hf.df hf.s2 hf.s3 hf.s5 hf.s6 hf.s7
  have HR : Hid (R wr) := hR
  clear hR hf
  simp only [tl, Try.f12, Option.getD]
  go_wp2
  go_ret
  exact ⟨rfl, HR.out⟩
end Go.Proofs.Qxb6602148a
