/-
  'zzBuildModel': edges are grouped by strong component.
-/
import Derived.Test.Qxb6602148aMdg
attribute [local go_sem] Go.Proofs.Qxb6602148a.yTo Go.Proofs.Qxb6602148a.yUpon
namespace Go.Proofs.Qxb6602148a
open Go.RowKit
set_option linter.unusedVariables false
set_option linter.unusedSimpArgs false

def GGI (w0 : World) (G : GR) (ga gm g0 g1 g2 g3 g4 : Nat) (R : Nat → Nat → Bool) (g6 e : Nat) (v20 : Value) (w : World) : Prop :=
  ∃ gof nc cn cl D, GS w0 G ga gm g0 g1 g2 g3 g4 R g6 gof v20 nc cn cl D w ∧ GP G R e gof nc cn cl
def HLI (w0 : World) (G : GR) (a0 : Option Addr) (k0 ga gm g0 g1 g2 g3 g4 m : Nat) (R : Nat → Nat → Bool) (g6 : Nat) (a : Act) (w : World) : Prop :=
  FG a0 G.n k0 ga gm G.E g4 m g6 a ∧ ∃ (e : Nat) (v20 : Value), a.tmps.getD 7 undef = .int .i64 (e : Int) ∧ a.tmps.getD 20 undef = v20 ∧ e ≤ G.E ∧ GGI w0 G ga gm g0 g1 g2 g3 g4 R g6 e v20 w
def RLI (G : GR) (a0 : Option Addr) (k0 ga gm g4 m : Nat) (R : Nat → Nat → Bool) (g6 e v : Nat) (v20 : Value) (wr : World) (a : Act) (w : World) : Prop :=
  w = wr ∧ FG a0 G.n k0 ga gm G.E g4 m g6 a ∧ a.tmps.getD 7 undef = .int .i64 (e : Int) ∧ a.tmps.getD 20 undef = v20 ∧ a.tmps.getD 21 undef = .int .i64 (v : Int) ∧ a.tmps.getD 22 undef = .int .i64 (v : Int) ∧
  ∃ u : Nat, a.tmps.getD 23 undef = .int .i64 (u : Int) ∧ u ≤ v ∧ ∀ u', u' < u → ¬ (R u' v = true ∧ R v u' = true)
theorem up_up (f : Nat → Nat) (i x y : Nat) : up (up f i x) i y = up f i y := by
  funext j
  by_cases h : j = i
  · subst h; rw [up_same, up_same]
  · rw [up_other _ _ h, up_other _ _ h, up_other _ _ h]
set_option maxRecDepth 40000 in
theorem lith20 {a : Act} {u0 u2 u3 u4 u5 u10 u18 u20 : Value} (hs : a.tmps.size = 451) (hd : a.defers = []) (h0 : a.tmps.getD 0 undef = u0) (h2 : a.tmps.getD 2 undef = u2) (h3 : a.tmps.getD 3 undef = u3) (h4 : a.tmps.getD 4 undef = u4) (h5 : a.tmps.getD 5 undef = u5) (h10 : a.tmps.getD 10 undef = u10) (h18 : a.tmps.getD 18 undef = u18) (h20 : a.tmps.getD 20 undef = u20) : ∃ y : Nat → Value, a = { tmps := #[u0, y 1, u2, u3, u4, u5, y 6, y 7, y 8, y 9, u10, y 11, y 12, y 13, y 14, y 15, y 16, y 17, u18, y 19, u20, y 21, y 22, y 23, y 24, y 25, y 26, y 27, y 28, y 29, y 30, y 31, y 32, y 33, y 34, y 35, y 36, y 37, y 38, y 39, y 40, y 41, y 42, y 43, y 44, y 45, y 46, y 47, y 48, y 49, y 50, y 51, y 52, y 53, y 54, y 55, y 56, y 57, y 58, y 59, y 60, y 61, y 62, y 63, y 64, y 65, y 66, y 67, y 68, y 69, y 70, y 71, y 72, y 73, y 74, y 75, y 76, y 77, y 78, y 79, y 80, y 81, y 82, y 83, y 84, y 85, y 86, y 87, y 88, y 89, y 90, y 91, y 92, y 93, y 94, y 95, y 96, y 97, y 98, y 99, y 100, y 101, y 102, y 103, y 104, y 105, y 106, y 107, y 108, y 109, y 110, y 111, y 112, y 113, y 114, y 115, y 116, y 117, y 118, y 119, y 120, y 121, y 122, y 123, y 124, y 125, y 126, y 127, y 128, y 129, y 130, y 131, y 132, y 133, y 134, y 135, y 136, y 137, y 138, y 139, y 140, y 141, y 142, y 143, y 144, y 145, y 146, y 147, y 148, y 149, y 150, y 151, y 152, y 153, y 154, y 155, y 156, y 157, y 158, y 159, y 160, y 161, y 162, y 163, y 164, y 165, y 166, y 167, y 168, y 169, y 170, y 171, y 172, y 173, y 174, y 175, y 176, y 177, y 178, y 179, y 180, y 181, y 182, y 183, y 184, y 185, y 186, y 187, y 188, y 189, y 190, y 191, y 192, y 193, y 194, y 195, y 196, y 197, y 198, y 199, y 200, y 201, y 202, y 203, y 204, y 205, y 206, y 207, y 208, y 209, y 210, y 211, y 212, y 213, y 214, y 215, y 216, y 217, y 218, y 219, y 220, y 221, y 222, y 223, y 224, y 225, y 226, y 227, y 228, y 229, y 230, y 231, y 232, y 233, y 234, y 235, y 236, y 237, y 238, y 239, y 240, y 241, y 242, y 243, y 244, y 245, y 246, y 247, y 248, y 249, y 250, y 251, y 252, y 253, y 254, y 255, y 256, y 257, y 258, y 259, y 260, y 261, y 262, y 263, y 264, y 265, y 266, y 267, y 268, y 269, y 270, y 271, y 272, y 273, y 274, y 275, y 276, y 277, y 278, y 279, y 280, y 281, y 282, y 283, y 284, y 285, y 286, y 287, y 288, y 289, y 290, y 291, y 292, y 293, y 294, y 295, y 296, y 297, y 298, y 299, y 300, y 301, y 302, y 303, y 304, y 305, y 306, y 307, y 308, y 309, y 310, y 311, y 312, y 313, y 314, y 315, y 316, y 317, y 318, y 319, y 320, y 321, y 322, y 323, y 324, y 325, y 326, y 327, y 328, y 329, y 330, y 331, y 332, y 333, y 334, y 335, y 336, y 337, y 338, y 339, y 340, y 341, y 342, y 343, y 344, y 345, y 346, y 347, y 348, y 349, y 350, y 351, y 352, y 353, y 354, y 355, y 356, y 357, y 358, y 359, y 360, y 361, y 362, y 363, y 364, y 365, y 366, y 367, y 368, y 369, y 370, y 371, y 372, y 373, y 374, y 375, y 376, y 377, y 378, y 379, y 380, y 381, y 382, y 383, y 384, y 385, y 386, y 387, y 388, y 389, y 390, y 391, y 392, y 393, y 394, y 395, y 396, y 397, y 398, y 399, y 400, y 401, y 402, y 403, y 404, y 405, y 406, y 407, y 408, y 409, y 410, y 411, y 412, y 413, y 414, y 415, y 416, y 417, y 418, y 419, y 420, y 421, y 422, y 423, y 424, y 425, y 426, y 427, y 428, y 429, y 430, y 431, y 432, y 433, y 434, y 435, y 436, y 437, y 438, y 439, y 440, y 441, y 442, y 443, y 444, y 445, y 446, y 447, y 448, y 449, y 450], defers := [] } := by
  obtain ⟨tmps, defers⟩ := a
  have yd : defers = [] := hd
  subst yd
  obtain ⟨y, hy, hi⟩ := arr_451 tmps hs
  have e0 := (hi 0).trans h0
  have e2 := (hi 2).trans h2
  have e3 := (hi 3).trans h3
  have e4 := (hi 4).trans h4
  have e5 := (hi 5).trans h5
  have e10 := (hi 10).trans h10
  have e18 := (hi 18).trans h18
  have e20 := (hi 20).trans h20
  rw [e0, e2, e3, e4, e5, e10, e18, e20] at hy
  exact ⟨y, congrArg (fun t => (⟨t, []⟩ : Act)) hy⟩
set_option maxRecDepth 40000 in
theorem lith7 {a : Act} {u0 u2 u3 u4 u5 u7 u10 u18 u20 : Value} (hs : a.tmps.size = 451) (hd : a.defers = []) (h0 : a.tmps.getD 0 undef = u0) (h2 : a.tmps.getD 2 undef = u2) (h3 : a.tmps.getD 3 undef = u3) (h4 : a.tmps.getD 4 undef = u4) (h5 : a.tmps.getD 5 undef = u5) (h7 : a.tmps.getD 7 undef = u7) (h10 : a.tmps.getD 10 undef = u10) (h18 : a.tmps.getD 18 undef = u18) (h20 : a.tmps.getD 20 undef = u20) : ∃ y : Nat → Value, a = { tmps := #[u0, y 1, u2, u3, u4, u5, y 6, u7, y 8, y 9, u10, y 11, y 12, y 13, y 14, y 15, y 16, y 17, u18, y 19, u20, y 21, y 22, y 23, y 24, y 25, y 26, y 27, y 28, y 29, y 30, y 31, y 32, y 33, y 34, y 35, y 36, y 37, y 38, y 39, y 40, y 41, y 42, y 43, y 44, y 45, y 46, y 47, y 48, y 49, y 50, y 51, y 52, y 53, y 54, y 55, y 56, y 57, y 58, y 59, y 60, y 61, y 62, y 63, y 64, y 65, y 66, y 67, y 68, y 69, y 70, y 71, y 72, y 73, y 74, y 75, y 76, y 77, y 78, y 79, y 80, y 81, y 82, y 83, y 84, y 85, y 86, y 87, y 88, y 89, y 90, y 91, y 92, y 93, y 94, y 95, y 96, y 97, y 98, y 99, y 100, y 101, y 102, y 103, y 104, y 105, y 106, y 107, y 108, y 109, y 110, y 111, y 112, y 113, y 114, y 115, y 116, y 117, y 118, y 119, y 120, y 121, y 122, y 123, y 124, y 125, y 126, y 127, y 128, y 129, y 130, y 131, y 132, y 133, y 134, y 135, y 136, y 137, y 138, y 139, y 140, y 141, y 142, y 143, y 144, y 145, y 146, y 147, y 148, y 149, y 150, y 151, y 152, y 153, y 154, y 155, y 156, y 157, y 158, y 159, y 160, y 161, y 162, y 163, y 164, y 165, y 166, y 167, y 168, y 169, y 170, y 171, y 172, y 173, y 174, y 175, y 176, y 177, y 178, y 179, y 180, y 181, y 182, y 183, y 184, y 185, y 186, y 187, y 188, y 189, y 190, y 191, y 192, y 193, y 194, y 195, y 196, y 197, y 198, y 199, y 200, y 201, y 202, y 203, y 204, y 205, y 206, y 207, y 208, y 209, y 210, y 211, y 212, y 213, y 214, y 215, y 216, y 217, y 218, y 219, y 220, y 221, y 222, y 223, y 224, y 225, y 226, y 227, y 228, y 229, y 230, y 231, y 232, y 233, y 234, y 235, y 236, y 237, y 238, y 239, y 240, y 241, y 242, y 243, y 244, y 245, y 246, y 247, y 248, y 249, y 250, y 251, y 252, y 253, y 254, y 255, y 256, y 257, y 258, y 259, y 260, y 261, y 262, y 263, y 264, y 265, y 266, y 267, y 268, y 269, y 270, y 271, y 272, y 273, y 274, y 275, y 276, y 277, y 278, y 279, y 280, y 281, y 282, y 283, y 284, y 285, y 286, y 287, y 288, y 289, y 290, y 291, y 292, y 293, y 294, y 295, y 296, y 297, y 298, y 299, y 300, y 301, y 302, y 303, y 304, y 305, y 306, y 307, y 308, y 309, y 310, y 311, y 312, y 313, y 314, y 315, y 316, y 317, y 318, y 319, y 320, y 321, y 322, y 323, y 324, y 325, y 326, y 327, y 328, y 329, y 330, y 331, y 332, y 333, y 334, y 335, y 336, y 337, y 338, y 339, y 340, y 341, y 342, y 343, y 344, y 345, y 346, y 347, y 348, y 349, y 350, y 351, y 352, y 353, y 354, y 355, y 356, y 357, y 358, y 359, y 360, y 361, y 362, y 363, y 364, y 365, y 366, y 367, y 368, y 369, y 370, y 371, y 372, y 373, y 374, y 375, y 376, y 377, y 378, y 379, y 380, y 381, y 382, y 383, y 384, y 385, y 386, y 387, y 388, y 389, y 390, y 391, y 392, y 393, y 394, y 395, y 396, y 397, y 398, y 399, y 400, y 401, y 402, y 403, y 404, y 405, y 406, y 407, y 408, y 409, y 410, y 411, y 412, y 413, y 414, y 415, y 416, y 417, y 418, y 419, y 420, y 421, y 422, y 423, y 424, y 425, y 426, y 427, y 428, y 429, y 430, y 431, y 432, y 433, y 434, y 435, y 436, y 437, y 438, y 439, y 440, y 441, y 442, y 443, y 444, y 445, y 446, y 447, y 448, y 449, y 450], defers := [] } := by
  obtain ⟨tmps, defers⟩ := a
  have yd : defers = [] := hd
  subst yd
  obtain ⟨y, hy, hi⟩ := arr_451 tmps hs
  have e0 := (hi 0).trans h0
  have e2 := (hi 2).trans h2
  have e3 := (hi 3).trans h3
  have e4 := (hi 4).trans h4
  have e5 := (hi 5).trans h5
  have e7 := (hi 7).trans h7
  have e10 := (hi 10).trans h10
  have e18 := (hi 18).trans h18
  have e20 := (hi 20).trans h20
  rw [e0, e2, e3, e4, e5, e7, e10, e18, e20] at hy
  exact ⟨y, congrArg (fun t => (⟨t, []⟩ : Act)) hy⟩
set_option maxRecDepth 40000 in
theorem lith23 {a : Act} {u0 u2 u3 u4 u5 u7 u10 u18 u20 u21 u22 u23 : Value} (hs : a.tmps.size = 451) (hd : a.defers = []) (h0 : a.tmps.getD 0 undef = u0) (h2 : a.tmps.getD 2 undef = u2) (h3 : a.tmps.getD 3 undef = u3) (h4 : a.tmps.getD 4 undef = u4) (h5 : a.tmps.getD 5 undef = u5) (h7 : a.tmps.getD 7 undef = u7) (h10 : a.tmps.getD 10 undef = u10) (h18 : a.tmps.getD 18 undef = u18) (h20 : a.tmps.getD 20 undef = u20) (h21 : a.tmps.getD 21 undef = u21) (h22 : a.tmps.getD 22 undef = u22) (h23 : a.tmps.getD 23 undef = u23) : ∃ y : Nat → Value, a = { tmps := #[u0, y 1, u2, u3, u4, u5, y 6, u7, y 8, y 9, u10, y 11, y 12, y 13, y 14, y 15, y 16, y 17, u18, y 19, u20, u21, u22, u23, y 24, y 25, y 26, y 27, y 28, y 29, y 30, y 31, y 32, y 33, y 34, y 35, y 36, y 37, y 38, y 39, y 40, y 41, y 42, y 43, y 44, y 45, y 46, y 47, y 48, y 49, y 50, y 51, y 52, y 53, y 54, y 55, y 56, y 57, y 58, y 59, y 60, y 61, y 62, y 63, y 64, y 65, y 66, y 67, y 68, y 69, y 70, y 71, y 72, y 73, y 74, y 75, y 76, y 77, y 78, y 79, y 80, y 81, y 82, y 83, y 84, y 85, y 86, y 87, y 88, y 89, y 90, y 91, y 92, y 93, y 94, y 95, y 96, y 97, y 98, y 99, y 100, y 101, y 102, y 103, y 104, y 105, y 106, y 107, y 108, y 109, y 110, y 111, y 112, y 113, y 114, y 115, y 116, y 117, y 118, y 119, y 120, y 121, y 122, y 123, y 124, y 125, y 126, y 127, y 128, y 129, y 130, y 131, y 132, y 133, y 134, y 135, y 136, y 137, y 138, y 139, y 140, y 141, y 142, y 143, y 144, y 145, y 146, y 147, y 148, y 149, y 150, y 151, y 152, y 153, y 154, y 155, y 156, y 157, y 158, y 159, y 160, y 161, y 162, y 163, y 164, y 165, y 166, y 167, y 168, y 169, y 170, y 171, y 172, y 173, y 174, y 175, y 176, y 177, y 178, y 179, y 180, y 181, y 182, y 183, y 184, y 185, y 186, y 187, y 188, y 189, y 190, y 191, y 192, y 193, y 194, y 195, y 196, y 197, y 198, y 199, y 200, y 201, y 202, y 203, y 204, y 205, y 206, y 207, y 208, y 209, y 210, y 211, y 212, y 213, y 214, y 215, y 216, y 217, y 218, y 219, y 220, y 221, y 222, y 223, y 224, y 225, y 226, y 227, y 228, y 229, y 230, y 231, y 232, y 233, y 234, y 235, y 236, y 237, y 238, y 239, y 240, y 241, y 242, y 243, y 244, y 245, y 246, y 247, y 248, y 249, y 250, y 251, y 252, y 253, y 254, y 255, y 256, y 257, y 258, y 259, y 260, y 261, y 262, y 263, y 264, y 265, y 266, y 267, y 268, y 269, y 270, y 271, y 272, y 273, y 274, y 275, y 276, y 277, y 278, y 279, y 280, y 281, y 282, y 283, y 284, y 285, y 286, y 287, y 288, y 289, y 290, y 291, y 292, y 293, y 294, y 295, y 296, y 297, y 298, y 299, y 300, y 301, y 302, y 303, y 304, y 305, y 306, y 307, y 308, y 309, y 310, y 311, y 312, y 313, y 314, y 315, y 316, y 317, y 318, y 319, y 320, y 321, y 322, y 323, y 324, y 325, y 326, y 327, y 328, y 329, y 330, y 331, y 332, y 333, y 334, y 335, y 336, y 337, y 338, y 339, y 340, y 341, y 342, y 343, y 344, y 345, y 346, y 347, y 348, y 349, y 350, y 351, y 352, y 353, y 354, y 355, y 356, y 357, y 358, y 359, y 360, y 361, y 362, y 363, y 364, y 365, y 366, y 367, y 368, y 369, y 370, y 371, y 372, y 373, y 374, y 375, y 376, y 377, y 378, y 379, y 380, y 381, y 382, y 383, y 384, y 385, y 386, y 387, y 388, y 389, y 390, y 391, y 392, y 393, y 394, y 395, y 396, y 397, y 398, y 399, y 400, y 401, y 402, y 403, y 404, y 405, y 406, y 407, y 408, y 409, y 410, y 411, y 412, y 413, y 414, y 415, y 416, y 417, y 418, y 419, y 420, y 421, y 422, y 423, y 424, y 425, y 426, y 427, y 428, y 429, y 430, y 431, y 432, y 433, y 434, y 435, y 436, y 437, y 438, y 439, y 440, y 441, y 442, y 443, y 444, y 445, y 446, y 447, y 448, y 449, y 450], defers := [] } := by
  obtain ⟨tmps, defers⟩ := a
  have yd : defers = [] := hd
  subst yd
  obtain ⟨y, hy, hi⟩ := arr_451 tmps hs
  have e0 := (hi 0).trans h0
  have e2 := (hi 2).trans h2
  have e3 := (hi 3).trans h3
  have e4 := (hi 4).trans h4
  have e5 := (hi 5).trans h5
  have e7 := (hi 7).trans h7
  have e10 := (hi 10).trans h10
  have e18 := (hi 18).trans h18
  have e20 := (hi 20).trans h20
  have e21 := (hi 21).trans h21
  have e22 := (hi 22).trans h22
  have e23 := (hi 23).trans h23
  rw [e0, e2, e3, e4, e5, e7, e10, e18, e20, e21, e22, e23] at hy
  exact ⟨y, congrArg (fun t => (⟨t, []⟩ : Act)) hy⟩

set_option maxRecDepth 40000 in
set_option maxHeartbeats 8000000 in
theorem md_11 (w0 : World) (G : GR) (a0 : Option Addr) (k0 ga gm g0 g1 g2 g3 g4 m : Nat) (hm : m = G.n * G.n) (ok : G.Ok) (R : Nat → Nat → Bool) (hRS : RS G G.n R) (g6 : Nat) (wr : World) (v20 : Value) (hI : GGI w0 G ga gm g0 g1 g2 g3 g4 R g6 0 v20 wr) (a : Act) (hf : FG a0 G.n k0 ga gm G.E g4 m g6 a) (h20 : a.tmps.getD 20 undef = v20) (Q : Exit → Act → World → Prop)
    (hC : ∀ (a : Act) (w : World) (v20 : Value), FG a0 G.n k0 ga gm G.E g4 m g6 a → a.tmps.getD 20 undef = v20 → GGI w0 G ga gm g0 g1 g2 g3 g4 R g6 G.E v20 w → Q .normal a w) :
    Code.wp Try.prog (sL (tl 19 (Try.f10.body.getD .skip))) Q a wr := by
  obtain ⟨y, rfl⟩ := lith20 hf.fs.fe.fm.sz hf.fs.fe.fm.df hf.fs.fe.fm.s0 hf.fs.fe.fm.s2 hf.fs.fe.fm.s3 hf.fs.fe.fm.s4 hf.fs.fe.s5 hf.fs.s10 hf.s18 h20
  have HRS : Hid (RS G G.n R) := hRS
  have HO : Hid G.Ok := ok
  have HM : Hid (m = G.n * G.n) := hm
  have HI : Hid (GGI w0 G ga gm g0 g1 g2 g3 g4 R g6 0 v20 wr) := hI
  have hn := ok.n
  have hE := ok.E
  have hm2 : m ≤ 16777216 := by rw [hm]; exact Nat.mul_le_mul hn hn
  have HC : Hid (∀ (a : Act) (w : World) (v20 : Value), FG a0 G.n k0 ga gm G.E g4 m g6 a → a.tmps.getD 20 undef = v20 → GGI w0 G ga gm g0 g1 g2 g3 g4 R g6 G.E v20 w → Q .normal a w) := hC
  clear hf hC hI ok hRS hm h20
  show Code.wp Try.prog (Code.seq _ (Code.block 16 (Code.loop (Code.seq (Code.seq _ (Code.cond (.tmp 222) Code.skip (Code.exit 16))) (Code.seq (Code.block 17 (Code.seq (Code.seq _ (Code.cond (.tmp 230) (Code.exit 17) Code.skip)) (Code.seq _ (Code.seq _ (Code.seq (Code.seq _ (Code.block 18 (Code.loop (Code.seq (Code.seq _ (Code.cond (.tmp 239) Code.skip (Code.exit 18))) (Code.seq (Code.block 19 (Code.seq _ (Code.cond (.tmp 259) (Code.seq _ (Code.exit 18)) Code.skip))) _))))) (Code.seq (Code.seq _ (Code.cond (.tmp 265) _ Code.skip)) _)))))) _))))) Q _ wr
  refine wp_seq_k (fun K1 hK => ?_)
  have HK1 : Hid (∀ (a : Act) (w : World), _ → K1 a w) := hK
  clear hK
  go_wp2
  refine HK1.out _ _ ?_
  clear HK1 K1
  refine wp_block ?_
  refine wp_loop (HLI w0 G a0 k0 ga gm g0 g1 g2 g3 g4 m R g6) (fun a _ => mus 7 G.E a) ⟨⟨⟨⟨⟨by kernel_rfl, by kernel_rfl, by kernel_rfl, by kernel_rfl, by kernel_rfl, by kernel_rfl⟩, by kernel_rfl⟩, by kernel_rfl⟩, by kernel_rfl⟩, 0, v20, by kernel_rfl, by kernel_rfl, Nat.zero_le _, HI.out⟩ ?_
  clear HI y
  rintro a w' ⟨hf, e, v20, h7, h20, e1, hI⟩
  have HI : Hid (GGI w0 G ga gm g0 g1 g2 g3 g4 R g6 e v20 w') := hI
  have e7 : mus 7 G.E a = G.E - e := congrArg (fun v => G.E - (intOf v).toNat) h7
  obtain ⟨y2, rfl⟩ := lith7 hf.fs.fe.fm.sz hf.fs.fe.fm.df hf.fs.fe.fm.s0 hf.fs.fe.fm.s2 hf.fs.fe.fm.s3 hf.fs.fe.fm.s4 hf.fs.fe.s5 h7 hf.fs.s10 hf.s18 h20
  rw [e7]
  clear e7 hf h7 hI h20
  refine wp_seq_k (fun K1 hK => ?_)
  have HK1 : Hid (∀ (a : Act) (w : World), _ → K1 a w) := hK
  clear hK
  refine wp_seq_k (fun K2 hK => ?_)
  have HK2 : Hid (∀ (a : Act) (w : World), _ → K2 a w) := hK
  clear hK
  by_cases he : e < G.E
  · have hee : (e : Int) < (G.E : Int) := by omega
    go_wp2
    refine HK2.out _ _ (wp_cond_true (by kernel_rfl) (wp_skip ?_))
    refine HK1.out _ _ ?_
    clear HK1 K1 HK2 K2
    refine wp_seq_k (fun K1 hK => ?_)
    have HK1 : Hid (∀ (a : Act) (w : World), _ → K1 a w) := hK
    clear hK
    have END : Hid (∀ (a : Act) (w : World) (v20 : Value), FG a0 G.n k0 ga gm G.E g4 m g6 a → a.tmps.getD 7 undef = .int .i64 (e : Int) → a.tmps.getD 20 undef = v20 → GGI w0 G ga gm g0 g1 g2 g3 g4 R g6 (e + 1) v20 w → K1 a w) := by
      intro a w v20 hf h7 h20 hI
      obtain ⟨y5, rfl⟩ := lith7 hf.fs.fe.fm.sz hf.fs.fe.fm.df hf.fs.fe.fm.s0 hf.fs.fe.fm.s2 hf.fs.fe.fm.s3 hf.fs.fe.fm.s4 hf.fs.fe.s5 h7 hf.fs.s10 hf.s18 h20
      refine HK1.out _ _ ?_
      have HI : Hid (GGI w0 G ga gm g0 g1 g2 g3 g4 R g6 (e + 1) v20 w) := hI
      clear hf h7 h20 hI HK1
      go_wp2
      exact ⟨⟨⟨⟨⟨⟨by kernel_rfl, by kernel_rfl, by kernel_rfl, by kernel_rfl, by kernel_rfl, by kernel_rfl⟩, by kernel_rfl⟩, by kernel_rfl⟩, by kernel_rfl⟩, e + 1, v20, by kernel_rfl, by kernel_rfl, by omega, HI.out⟩, Nat.lt_of_le_of_lt (Nat.le_of_eq (by kernel_rfl : _ = G.E - (e + 1))) (by omega)⟩
    clear HK1
    refine wp_block ?_
    obtain ⟨gof, nc, cn, cl, D, hS, hP⟩ := HI.out
    have z1 : w'.cell? ⟨gm, 1, none⟩ = some (.slice (some ⟨g0, 0, none⟩) G.E G.E) := DS.hd hS.rm.ds (f := 1) (by decide)
    have z3 : w'.cell? ⟨gm, 3, none⟩ = some (.slice (some ⟨g2, 0, none⟩) G.E G.E) := DS.hd hS.rm.ds (f := 3) (by decide)
    have z4 := hS.rm.ds.i2.cell hS.rm.ds.rep hS.rm.ds.b2 rfl he
    have z5 := hS.rm.ds.i0.cell' hS.rm.ds.rep hS.rm.ds.b0 rfl he
    have hv := G.sr_lt he
    refine wp_seq_k (fun K2 hK => ?_)
    have HK2 : Hid (∀ (a : Act) (w : World), _ → K2 a w) := hK
    clear hK
    refine wp_seq_k (fun K3 hK => ?_)
    have HK3 : Hid (∀ (a : Act) (w : World), _ → K3 a w) := hK
    clear hK
    by_cases ho : G.ocb R e = true
    · rw [ho] at z4
      have hnc := hP.nc_le (by omega)
      have REST0 : Hid (∀ (a : Act) (r : Nat) (Qb : Exit → Act → World → Prop) , FG a0 G.n k0 ga gm G.E g4 m g6 a → a.tmps.getD 7 undef = .int .i64 (e : Int) → a.tmps.getD 20 undef = v20 → a.tmps.getD 22 undef = .int .i64 (r : Int) → Rpp R (G.sr e) r → (∀ (a : Act) (w : World) (v20 : Value), FG a0 G.n k0 ga gm G.E g4 m g6 a → a.tmps.getD 7 undef = .int .i64 (e : Int) → a.tmps.getD 20 undef = v20 → GGI w0 G ga gm g0 g1 g2 g3 g4 R g6 (e + 1) v20 w → Qb .normal a w) → Code.wp Try.prog (tl 4 (f10b (Try.f10.body.getD .skip))) Qb a w') := by
        intro a r Qb hf h7 h20 h22 hrp hEnd
        have hr : r < G.n := by have := hrp.le; omega
        have x1 := hS.i6.cell' hS.rm.ds.rep hS.b6 rfl hr
        have hrr : (r : Int) < (G.n : Int) := by omega
        have HE : Hid (∀ (a : Act) (w : World) (v20 : Value), FG a0 G.n k0 ga gm G.E g4 m g6 a → a.tmps.getD 7 undef = .int .i64 (e : Int) → a.tmps.getD 20 undef = v20 → GGI w0 G ga gm g0 g1 g2 g3 g4 R g6 (e + 1) v20 w → Qb .normal a w) := hEnd
        obtain ⟨y5, rfl⟩ := lith hf.fs.fe.fm.sz hf.fs.fe.fm.df hf.fs.fe.fm.s0 hf.fs.fe.fm.s2 hf.fs.fe.fm.s3 hf.fs.fe.fm.s4 hf.fs.fe.s5 h7 hf.fs.s10 hf.s18 h20 h22
        clear hf h7 h20 h22 hEnd
        show Code.wp Try.prog (Code.seq (Code.seq _ (Code.cond (.tmp 265) _ Code.skip)) _) Qb _ w'
        refine wp_seq_k (fun K4 hK => ?_)
        have HK4 : Hid (∀ (a : Act) (w : World), _ → K4 a w) := hK
        clear hK
        refine wp_seq_k (fun K5 hK => ?_)
        have HK5 : Hid (∀ (a : Act) (w : World), _ → K5 a w) := hK
        clear hK
        by_cases hg : gof r = -1
        · rw [hg] at x1
          have hP2 := hP.fresh HRS.out he ho hrp hg
          have HS : Hid (GS w0 G ga gm g0 g1 g2 g3 g4 R g6 gof v20 nc cn cl D w') := hS
          have HP2 : Hid (GP G R (e + 1) (upd gof r ((nc : Nat) : Int)) (nc + 1) (up cn nc 1) (upl cl nc 0 e)) := hP2
          clear hS hP hP2 hrp hg z1 z3 z4 z5
          go_wp2
          refine HK5.out _ _ (wp_cond_true (by kernel_rfl) ?_)
          clear HK5 K5
          refine md_11b w0 G a0 k0 ga gm g0 g1 g2 g3 g4 m R g6 e r gof v20 nc cn cl D w' HS.out hr (by omega) _ ⟨⟨⟨⟨by kernel_rfl, by kernel_rfl, by kernel_rfl, by kernel_rfl, by kernel_rfl, by kernel_rfl⟩, by kernel_rfl⟩, by kernel_rfl⟩, by kernel_rfl⟩ (by kernel_rfl) (by kernel_rfl) (by kernel_rfl) _ (fun a w D' v20' hf h7 h20 h22 hS2 => ?_)
          refine HK4.out _ _ ?_
          refine md_11c w0 G a0 k0 ga gm g0 g1 g2 g3 g4 m R g6 e r nc _ v20' (nc + 1) (up cn nc 0) cl D' w hS2 hr (upd_same _ _ _) (by omega) (by rw [up_same]; omega) (by omega) a hf h7 h20 h22 _ (fun a w D' hf h7 h20 hS3 => ?_)
          rw [up_same, up_up] at hS3
          exact HE.out a w v20' hf h7 h20 ⟨_, _, _, _, D', hS3, HP2.out⟩
        · obtain ⟨i, hi, hgi, hP2⟩ := hP.join HRS.out he ho hrp hg
          have hcn := hP.cn_le (by omega) hi
          rw [hgi] at x1
          have hb : (((i : Nat) : Int) == -1) = false := by simp
          have HS : Hid (GS w0 G ga gm g0 g1 g2 g3 g4 R g6 gof v20 nc cn cl D w') := hS
          have HP2 : Hid (GP G R (e + 1) gof nc (up cn i (cn i + 1)) (upl cl i (cn i) e)) := hP2
          have HGI : Hid (gof r = ((i : Nat) : Int)) := hgi
          clear hS hP hP2 hrp hg hgi z1 z3 z4 z5
          go_wp2
          refine HK5.out _ _ (wp_cond_false (by kernel_rfl) (wp_skip ?_))
          clear HK5 K5
          refine HK4.out _ _ ?_
          refine md_11c w0 G a0 k0 ga gm g0 g1 g2 g3 g4 m R g6 e r i gof v20 nc cn cl D w' HS.out hr HGI.out hi (by omega) (by omega) _ ⟨⟨⟨⟨by kernel_rfl, by kernel_rfl, by kernel_rfl, by kernel_rfl, by kernel_rfl, by kernel_rfl⟩, by kernel_rfl⟩, by kernel_rfl⟩, by kernel_rfl⟩ (by kernel_rfl) (by kernel_rfl) (by kernel_rfl) _ (fun a w D' hf h7 h20 hS3 => ?_)
          exact HE.out a w v20 hf h7 h20 ⟨_, _, _, _, D', hS3, HP2.out⟩
      have R4 : Hid (∀ u b, u < G.n → b < G.n → w'.cell? ⟨g4, u * G.n + b, none⟩ = some (.bool (R u b))) := fun u b hu hb => hS.rm.cell4 hu hb
      clear HI hS hP
      generalize G.sr e = v at *
      go_wp2
      refine HK3.out _ _ (wp_cond_false (by kernel_rfl) (wp_skip ?_))
      refine HK2.out _ _ ?_
      clear HK2 K2 HK3 K3 z3 z4
      refine wp_seq_k (fun K2 hK => ?_)
      have HK2 : Hid (∀ (a : Act) (w : World), _ → K2 a w) := hK
      clear hK
      go_wp2
      refine HK2.out _ _ ?_
      clear HK2 K2 z1 z5
      refine wp_seq_k (fun K2 hK => ?_)
      have HK2 : Hid (∀ (a : Act) (w : World), _ → K2 a w) := hK
      clear hK
      go_wp2
      refine HK2.out _ _ ?_
      clear HK2 K2
      refine wp_seq_k (fun K2 hK => ?_)
      have HK2 : Hid (∀ (a : Act) (w : World), _ → K2 a w) := hK
      clear hK
      have REST : Hid (∀ (a : Act) (r : Nat), FG a0 G.n k0 ga gm G.E g4 m g6 a → a.tmps.getD 7 undef = .int .i64 (e : Int) → a.tmps.getD 20 undef = v20 → a.tmps.getD 22 undef = .int .i64 (r : Int) → Rpp R v r → K2 a w') := fun a r hf h7 h20 h22 hrp => HK2.out a w' (REST0.out a r _ hf h7 h20 h22 hrp (fun a w v20 hf h7 h20 hI => END.out a w v20 hf h7 h20 hI))
      clear HK2 REST0 END
      have hvm : v * G.n + G.n ≤ m := by
        have h1 : (v + 1) * G.n ≤ G.n * G.n := Nat.mul_le_mul_right _ hv
        rw [Nat.succ_mul] at h1
        rw [HM.out]; exact h1
      have hw1 : IntKind.i64.wrap ((v : Int) * (G.n : Int)) = ((v * G.n : Nat) : Int) := by
        rw [← Int.natCast_mul, IntKind.wrap_i64]; omega
      refine wp_seq_k (fun K3 hK => ?_)
      have HK3 : Hid (∀ (a : Act) (w : World), _ → K3 a w) := hK
      clear hK
      go_wp2
      refine HK3.out _ _ ?_
      clear HK3 K3
      refine wp_block ?_
      refine wp_loop (RLI G a0 k0 ga gm g4 m R g6 e v v20 w') (fun a _ => mus 23 v a) ⟨rfl, ⟨⟨⟨⟨by kernel_rfl, by kernel_rfl, by kernel_rfl, by kernel_rfl, by kernel_rfl, by kernel_rfl⟩, by kernel_rfl⟩, by kernel_rfl⟩, by kernel_rfl⟩, by kernel_rfl, by kernel_rfl, by kernel_rfl, by kernel_rfl, 0, by kernel_rfl, Nat.zero_le _, fun u' h => absurd h (Nat.not_lt_zero _)⟩ ?_
      rintro a w'' ⟨rfl, hf, h7, h20, h21, h22, u, h23, u1, hno⟩
      have HNO : Hid (∀ u', u' < u → ¬ (R u' v = true ∧ R v u' = true)) := hno
      have e23 : mus 23 v a = v - u := congrArg (fun x => v - (intOf x).toNat) h23
      obtain ⟨y3, rfl⟩ := lith23 hf.fs.fe.fm.sz hf.fs.fe.fm.df hf.fs.fe.fm.s0 hf.fs.fe.fm.s2 hf.fs.fe.fm.s3 hf.fs.fe.fm.s4 hf.fs.fe.s5 h7 hf.fs.s10 hf.s18 h20 h21 h22 h23
      rw [e23]
      clear e23 hf h7 h20 h21 h22 h23 hno
      refine wp_seq_k (fun K4 hK => ?_)
      have HK4 : Hid (∀ (a : Act) (w : World), _ → K4 a w) := hK
      clear hK
      refine wp_seq_k (fun K5 hK => ?_)
      have HK5 : Hid (∀ (a : Act) (w : World), _ → K5 a w) := hK
      clear hK
      by_cases hu : u < v
      · have huu : (u : Int) < (v : Int) := by omega
        have x1 := R4.out u v (by omega) hv
        have x2 := R4.out v u hv (by omega)
        have hum : u * G.n + G.n ≤ m := by
          have h1 : (u + 1) * G.n ≤ G.n * G.n := Nat.mul_le_mul_right _ (by omega)
          rw [Nat.succ_mul] at h1
          rw [HM.out]; exact h1
        have hw2 : IntKind.i64.wrap ((u : Int) * (G.n : Int)) = ((u * G.n : Nat) : Int) := by
          rw [← Int.natCast_mul, IntKind.wrap_i64]; omega
        generalize u * G.n = ru at *
        generalize v * G.n = rv at *
        obtain ⟨q1, hq1⟩ : ∃ q, q = ru + v := ⟨_, rfl⟩
        obtain ⟨q2, hq2⟩ : ∃ q, q = rv + u := ⟨_, rfl⟩
        rw [← hq1] at x1
        rw [← hq2] at x2
        have hw3 : IntKind.i64.wrap ((ru : Int) + (v : Int)) = (q1 : Int) := by rw [IntKind.wrap_i64]; omega
        have hw4 : IntKind.i64.wrap ((rv : Int) + (u : Int)) = (q2 : Int) := by rw [IntKind.wrap_i64]; omega
        have hqm1 : q1 < m := by omega
        have hqm2 : q2 < m := by omega
        have hqi1 : (q1 : Int) < (m : Int) := by omega
        have hqi2 : (q2 : Int) < (m : Int) := by omega
        clear hq1 hq2 hum hvm
        go_wp2
        refine HK5.out _ _ (wp_cond_true (by kernel_rfl) (wp_skip ?_))
        refine HK4.out _ _ ?_
        clear HK4 K4 HK5 K5
        refine wp_seq_k (fun K4 hK => ?_)
        have HK4 : Hid (∀ (a : Act) (w : World), _ → K4 a w) := hK
        clear hK
        refine wp_block ?_
        refine wp_seq_k (fun K5 hK => ?_)
        have HK5 : Hid (∀ (a : Act) (w : World), _ → K5 a w) := hK
        clear hK
        by_cases ha : R u v = true
        · by_cases hb : R v u = true
          · have HRP : Hid (Rpp R v u) := ⟨by omega, .inr ⟨ha, hb⟩, HNO.out⟩
            rw [ha] at x1
            rw [hb] at x2
            clear ha hb HNO
            go_wp2
            refine HK5.out _ _ (wp_cond_true (by kernel_rfl) ?_)
            clear HK5 K5 x1 x2
            go_wp2
            exact REST.out _ u ⟨⟨⟨⟨by kernel_rfl, by kernel_rfl, by kernel_rfl, by kernel_rfl, by kernel_rfl, by kernel_rfl⟩, by kernel_rfl⟩, by kernel_rfl⟩, by kernel_rfl⟩ (by kernel_rfl) (by kernel_rfl) (by kernel_rfl) HRP.out
          · have hb : R v u = false := by simpa using hb
            have HN2 : Hid (∀ u', u' < u + 1 → ¬ (R u' v = true ∧ R v u' = true)) := by
              intro u' hu' hc
              by_cases eu : u' = u
              · subst eu; rw [hb] at hc; exact absurd hc.2 (by decide)
              · exact HNO.out u' (by omega) hc
            rw [ha] at x1
            rw [hb] at x2
            clear ha hb HNO
            go_wp2
            refine HK5.out _ _ (wp_cond_false (by kernel_rfl) (wp_skip ?_))
            refine HK4.out _ _ ?_
            clear HK4 K4 HK5 K5 x1 x2
            go_wp2
            exact ⟨⟨rfl, ⟨⟨⟨⟨by kernel_rfl, by kernel_rfl, by kernel_rfl, by kernel_rfl, by kernel_rfl, by kernel_rfl⟩, by kernel_rfl⟩, by kernel_rfl⟩, by kernel_rfl⟩, by kernel_rfl, by kernel_rfl, by kernel_rfl, by kernel_rfl, u + 1, by kernel_rfl, by omega, HN2.out⟩, Nat.lt_of_le_of_lt (Nat.le_of_eq (by kernel_rfl : _ = v - (u + 1))) (by omega)⟩
        · have ha : R u v = false := by simpa using ha
          have HN2 : Hid (∀ u', u' < u + 1 → ¬ (R u' v = true ∧ R v u' = true)) := by
            intro u' hu' hc
            by_cases eu : u' = u
            · subst eu; rw [ha] at hc; exact absurd hc.1 (by decide)
            · exact HNO.out u' (by omega) hc
          rw [ha] at x1
          clear ha HNO x2
          go_wp2
          refine HK5.out _ _ (wp_cond_false (by kernel_rfl) (wp_skip ?_))
          refine HK4.out _ _ ?_
          clear HK4 K4 HK5 K5 x1
          go_wp2
          exact ⟨⟨rfl, ⟨⟨⟨⟨by kernel_rfl, by kernel_rfl, by kernel_rfl, by kernel_rfl, by kernel_rfl, by kernel_rfl⟩, by kernel_rfl⟩, by kernel_rfl⟩, by kernel_rfl⟩, by kernel_rfl, by kernel_rfl, by kernel_rfl, by kernel_rfl, u + 1, by kernel_rfl, by omega, HN2.out⟩, Nat.lt_of_le_of_lt (Nat.le_of_eq (by kernel_rfl : _ = v - (u + 1))) (by omega)⟩
      · have huu : ¬ (u : Int) < (v : Int) := by omega
        obtain rfl : u = v := by omega
        have HRP : Hid (Rpp R u u) := ⟨Nat.le_refl _, .inl rfl, HNO.out⟩
        clear HNO
        go_wp2
        refine HK5.out _ _ (wp_cond_false (by kernel_rfl) (wp_exit ?_))
        exact REST.out _ u ⟨⟨⟨⟨by kernel_rfl, by kernel_rfl, by kernel_rfl, by kernel_rfl, by kernel_rfl, by kernel_rfl⟩, by kernel_rfl⟩, by kernel_rfl⟩, by kernel_rfl⟩ (by kernel_rfl) (by kernel_rfl) (by kernel_rfl) HRP.out
    · have ho : G.ocb R e = false := by simpa using ho
      rw [ho] at z4
      have fin : Hid (GGI w0 G ga gm g0 g1 g2 g3 g4 R g6 (e + 1) v20 w') := ⟨gof, nc, cn, cl, D, hS, hP.skip ho⟩
      clear HI hS hP ho
      go_wp2
      refine HK3.out _ _ (wp_cond_true (by kernel_rfl) (wp_exit ?_))
      exact END.out _ _ v20 ⟨⟨⟨⟨by kernel_rfl, by kernel_rfl, by kernel_rfl, by kernel_rfl, by kernel_rfl, by kernel_rfl⟩, by kernel_rfl⟩, by kernel_rfl⟩, by kernel_rfl⟩ (by kernel_rfl) (by kernel_rfl) fin.out
  · have hee : ¬ (e : Int) < (G.E : Int) := by omega
    obtain rfl : e = G.E := by omega
    go_wp2
    refine HK2.out _ _ (wp_cond_false (by kernel_rfl) (wp_exit ?_))
    exact HC.out _ _ v20 ⟨⟨⟨⟨by kernel_rfl, by kernel_rfl, by kernel_rfl, by kernel_rfl, by kernel_rfl, by kernel_rfl⟩, by kernel_rfl⟩, by kernel_rfl⟩, by kernel_rfl⟩ (by kernel_rfl) HI.out
end Go.Proofs.Qxb6602148a
