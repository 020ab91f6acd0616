/-
  'zzBuildModel': each edge's class.
-/
import Derived.Test.Qxb6602148aMdr
attribute [local go_sem] Go.Proofs.Qxb6602148a.yTo Go.Proofs.Qxb6602148a.yUpon
namespace Go.Proofs.Qxb6602148a
open Go.RowKit
set_option linter.unusedVariables false
set_option linter.unusedSimpArgs false

/-- The lists' edges before place j of list i bear their list's number. -/
def CA (w0 : World) (G : GR) (ga gm g0 g1 g2 g3 : Nat) (R : Nat → Nat → Bool) (v20 : Value) (B nc : Nat) (cn : Nat → Nat) (cl : Nat → Nat → Nat) (i j : Nat) (w : World) : Prop :=
  ∃ cls D, DGr w0 G ga gm g0 g1 g2 g3 cls (G.ocb R) D w ∧ D.val 7 = v20 ∧ LSt D 7 B nc cn cl ∧ ∀ i' j', i' < nc → j' < cn i' → (i' < i ∨ (i' = i ∧ j' < j)) → cls (cl i' j') = ((i' : Nat) : Int)
section
variable {w0 w : World} {G : GR} {ga gm g0 g1 g2 g3 : Nat} {R : Nat → Nat → Bool} {v20 : Value} {B nc : Nat} {cn : Nat → Nat} {cl : Nat → Nat → Nat} {i j : Nat}
theorem CA.step (hc : PT (Sb G R G.E) (Rl G R G.n) nc cn cl) (h : CA w0 G ga gm g0 g1 g2 g3 R v20 B nc cn cl i j w) (hi : i < nc) (hj : j < cn i) : CA w0 G ga gm g0 g1 g2 g3 R v20 B nc cn cl i (j + 1) (w.drew.setCell ⟨g3, cl i j, none⟩ (.int .i64 ((i : Nat) : Int))) := by
  obtain ⟨cls, D, h1, h2, h3, h4⟩ := h
  refine ⟨_, _, (DS.drew h1).set3 (cl i j) _, h2, h3.set_ne (by omega) (by omega), fun i' j' a b c => ?_⟩
  by_cases e : i' = i ∧ j' = j
  · obtain ⟨rfl, rfl⟩ := e
    rw [upd_same]
  · rw [upd_other]
    · exact h4 i' j' a b (by omega)
    · intro h
      have := hc.inj i' j' i j a b hi hj h
      omega
theorem CA.leave (h : CA w0 G ga gm g0 g1 g2 g3 R v20 B nc cn cl i (cn i) w) : CA w0 G ga gm g0 g1 g2 g3 R v20 B nc cn cl (i + 1) 0 w := by
  obtain ⟨cls, D, h1, h2, h3, h4⟩ := h
  refine ⟨cls, D, h1, h2, h3, fun i' j' a b c => h4 i' j' a b ?_⟩
  by_cases e : i' = i
  · subst e; exact .inr ⟨rfl, b⟩
  · exact .inl (by omega)
end
def LcI (w0 : World) (G : GR) (a0 : Option Addr) (k0 ga gm g0 g1 g2 g3 : Nat) (R : Nat → Nat → Bool) (v20 : Value) (B nc : Nat) (cn : Nat → Nat) (cl : Nat → Nat → Nat) (a : Act) (w : World) : Prop :=
  ∃ (i : Nat), FE a0 G.n k0 ga gm G.E a ∧ a.tmps.getD 20 undef = v20 ∧ a.tmps.getD 38 undef = .int .i64 (i : Int) ∧ i ≤ nc ∧ CA w0 G ga gm g0 g1 g2 g3 R v20 B nc cn cl i 0 w
def LdI (w0 : World) (G : GR) (a0 : Option Addr) (k0 ga gm g0 g1 g2 g3 : Nat) (R : Nat → Nat → Bool) (v20 : Value) (B nc : Nat) (cn : Nat → Nat) (cl : Nat → Nat → Nat) (i : Nat) (a : Act) (w : World) : Prop :=
  ∃ (j : Nat), FE a0 G.n k0 ga gm G.E a ∧ a.tmps.getD 20 undef = v20 ∧ a.tmps.getD 38 undef = .int .i64 (i : Int) ∧ a.tmps.getD 39 undef = .int .i64 (j : Int) ∧ j ≤ cn i ∧ CA w0 G ga gm g0 g1 g2 g3 R v20 B nc cn cl i j w
set_option maxRecDepth 40000 in
theorem litw20 {a : Act} {u0 u2 u3 u4 u5 u20 : Value} (hs : a.tmps.size = 451) (hd : a.defers = []) (h0 : a.tmps.getD 0 undef = u0) (h2 : a.tmps.getD 2 undef = u2) (h3 : a.tmps.getD 3 undef = u3) (h4 : a.tmps.getD 4 undef = u4) (h5 : a.tmps.getD 5 undef = u5) (h20 : a.tmps.getD 20 undef = u20) : ∃ y : Nat → Value, a = { tmps := #[u0, y 1, u2, u3, u4, u5, y 6, y 7, y 8, y 9, y 10, y 11, y 12, y 13, y 14, y 15, y 16, y 17, y 18, y 19, u20, y 21, y 22, y 23, y 24, y 25, y 26, y 27, y 28, y 29, y 30, y 31, y 32, y 33, y 34, y 35, y 36, y 37, y 38, y 39, y 40, y 41, y 42, y 43, y 44, y 45, y 46, y 47, y 48, y 49, y 50, y 51, y 52, y 53, y 54, y 55, y 56, y 57, y 58, y 59, y 60, y 61, y 62, y 63, y 64, y 65, y 66, y 67, y 68, y 69, y 70, y 71, y 72, y 73, y 74, y 75, y 76, y 77, y 78, y 79, y 80, y 81, y 82, y 83, y 84, y 85, y 86, y 87, y 88, y 89, y 90, y 91, y 92, y 93, y 94, y 95, y 96, y 97, y 98, y 99, y 100, y 101, y 102, y 103, y 104, y 105, y 106, y 107, y 108, y 109, y 110, y 111, y 112, y 113, y 114, y 115, y 116, y 117, y 118, y 119, y 120, y 121, y 122, y 123, y 124, y 125, y 126, y 127, y 128, y 129, y 130, y 131, y 132, y 133, y 134, y 135, y 136, y 137, y 138, y 139, y 140, y 141, y 142, y 143, y 144, y 145, y 146, y 147, y 148, y 149, y 150, y 151, y 152, y 153, y 154, y 155, y 156, y 157, y 158, y 159, y 160, y 161, y 162, y 163, y 164, y 165, y 166, y 167, y 168, y 169, y 170, y 171, y 172, y 173, y 174, y 175, y 176, y 177, y 178, y 179, y 180, y 181, y 182, y 183, y 184, y 185, y 186, y 187, y 188, y 189, y 190, y 191, y 192, y 193, y 194, y 195, y 196, y 197, y 198, y 199, y 200, y 201, y 202, y 203, y 204, y 205, y 206, y 207, y 208, y 209, y 210, y 211, y 212, y 213, y 214, y 215, y 216, y 217, y 218, y 219, y 220, y 221, y 222, y 223, y 224, y 225, y 226, y 227, y 228, y 229, y 230, y 231, y 232, y 233, y 234, y 235, y 236, y 237, y 238, y 239, y 240, y 241, y 242, y 243, y 244, y 245, y 246, y 247, y 248, y 249, y 250, y 251, y 252, y 253, y 254, y 255, y 256, y 257, y 258, y 259, y 260, y 261, y 262, y 263, y 264, y 265, y 266, y 267, y 268, y 269, y 270, y 271, y 272, y 273, y 274, y 275, y 276, y 277, y 278, y 279, y 280, y 281, y 282, y 283, y 284, y 285, y 286, y 287, y 288, y 289, y 290, y 291, y 292, y 293, y 294, y 295, y 296, y 297, y 298, y 299, y 300, y 301, y 302, y 303, y 304, y 305, y 306, y 307, y 308, y 309, y 310, y 311, y 312, y 313, y 314, y 315, y 316, y 317, y 318, y 319, y 320, y 321, y 322, y 323, y 324, y 325, y 326, y 327, y 328, y 329, y 330, y 331, y 332, y 333, y 334, y 335, y 336, y 337, y 338, y 339, y 340, y 341, y 342, y 343, y 344, y 345, y 346, y 347, y 348, y 349, y 350, y 351, y 352, y 353, y 354, y 355, y 356, y 357, y 358, y 359, y 360, y 361, y 362, y 363, y 364, y 365, y 366, y 367, y 368, y 369, y 370, y 371, y 372, y 373, y 374, y 375, y 376, y 377, y 378, y 379, y 380, y 381, y 382, y 383, y 384, y 385, y 386, y 387, y 388, y 389, y 390, y 391, y 392, y 393, y 394, y 395, y 396, y 397, y 398, y 399, y 400, y 401, y 402, y 403, y 404, y 405, y 406, y 407, y 408, y 409, y 410, y 411, y 412, y 413, y 414, y 415, y 416, y 417, y 418, y 419, y 420, y 421, y 422, y 423, y 424, y 425, y 426, y 427, y 428, y 429, y 430, y 431, y 432, y 433, y 434, y 435, y 436, y 437, y 438, y 439, y 440, y 441, y 442, y 443, y 444, y 445, y 446, y 447, y 448, y 449, y 450], defers := [] } := by
  obtain ⟨tmps, defers⟩ := a
  have yd : defers = [] := hd
  subst yd
  obtain ⟨y, hy, hi⟩ := arr_451 tmps hs
  have e0 := (hi 0).trans h0
  have e2 := (hi 2).trans h2
  have e3 := (hi 3).trans h3
  have e4 := (hi 4).trans h4
  have e5 := (hi 5).trans h5
  have e20 := (hi 20).trans h20
  rw [e0, e2, e3, e4, e5, e20] at hy
  exact ⟨y, congrArg (fun t => (⟨t, []⟩ : Act)) hy⟩
set_option maxRecDepth 40000 in
theorem litw38 {a : Act} {u0 u2 u3 u4 u5 u20 u38 : Value} (hs : a.tmps.size = 451) (hd : a.defers = []) (h0 : a.tmps.getD 0 undef = u0) (h2 : a.tmps.getD 2 undef = u2) (h3 : a.tmps.getD 3 undef = u3) (h4 : a.tmps.getD 4 undef = u4) (h5 : a.tmps.getD 5 undef = u5) (h20 : a.tmps.getD 20 undef = u20) (h38 : a.tmps.getD 38 undef = u38) : ∃ y : Nat → Value, a = { tmps := #[u0, y 1, u2, u3, u4, u5, y 6, y 7, y 8, y 9, y 10, y 11, y 12, y 13, y 14, y 15, y 16, y 17, y 18, y 19, u20, y 21, y 22, y 23, y 24, y 25, y 26, y 27, y 28, y 29, y 30, y 31, y 32, y 33, y 34, y 35, y 36, y 37, u38, y 39, y 40, y 41, y 42, y 43, y 44, y 45, y 46, y 47, y 48, y 49, y 50, y 51, y 52, y 53, y 54, y 55, y 56, y 57, y 58, y 59, y 60, y 61, y 62, y 63, y 64, y 65, y 66, y 67, y 68, y 69, y 70, y 71, y 72, y 73, y 74, y 75, y 76, y 77, y 78, y 79, y 80, y 81, y 82, y 83, y 84, y 85, y 86, y 87, y 88, y 89, y 90, y 91, y 92, y 93, y 94, y 95, y 96, y 97, y 98, y 99, y 100, y 101, y 102, y 103, y 104, y 105, y 106, y 107, y 108, y 109, y 110, y 111, y 112, y 113, y 114, y 115, y 116, y 117, y 118, y 119, y 120, y 121, y 122, y 123, y 124, y 125, y 126, y 127, y 128, y 129, y 130, y 131, y 132, y 133, y 134, y 135, y 136, y 137, y 138, y 139, y 140, y 141, y 142, y 143, y 144, y 145, y 146, y 147, y 148, y 149, y 150, y 151, y 152, y 153, y 154, y 155, y 156, y 157, y 158, y 159, y 160, y 161, y 162, y 163, y 164, y 165, y 166, y 167, y 168, y 169, y 170, y 171, y 172, y 173, y 174, y 175, y 176, y 177, y 178, y 179, y 180, y 181, y 182, y 183, y 184, y 185, y 186, y 187, y 188, y 189, y 190, y 191, y 192, y 193, y 194, y 195, y 196, y 197, y 198, y 199, y 200, y 201, y 202, y 203, y 204, y 205, y 206, y 207, y 208, y 209, y 210, y 211, y 212, y 213, y 214, y 215, y 216, y 217, y 218, y 219, y 220, y 221, y 222, y 223, y 224, y 225, y 226, y 227, y 228, y 229, y 230, y 231, y 232, y 233, y 234, y 235, y 236, y 237, y 238, y 239, y 240, y 241, y 242, y 243, y 244, y 245, y 246, y 247, y 248, y 249, y 250, y 251, y 252, y 253, y 254, y 255, y 256, y 257, y 258, y 259, y 260, y 261, y 262, y 263, y 264, y 265, y 266, y 267, y 268, y 269, y 270, y 271, y 272, y 273, y 274, y 275, y 276, y 277, y 278, y 279, y 280, y 281, y 282, y 283, y 284, y 285, y 286, y 287, y 288, y 289, y 290, y 291, y 292, y 293, y 294, y 295, y 296, y 297, y 298, y 299, y 300, y 301, y 302, y 303, y 304, y 305, y 306, y 307, y 308, y 309, y 310, y 311, y 312, y 313, y 314, y 315, y 316, y 317, y 318, y 319, y 320, y 321, y 322, y 323, y 324, y 325, y 326, y 327, y 328, y 329, y 330, y 331, y 332, y 333, y 334, y 335, y 336, y 337, y 338, y 339, y 340, y 341, y 342, y 343, y 344, y 345, y 346, y 347, y 348, y 349, y 350, y 351, y 352, y 353, y 354, y 355, y 356, y 357, y 358, y 359, y 360, y 361, y 362, y 363, y 364, y 365, y 366, y 367, y 368, y 369, y 370, y 371, y 372, y 373, y 374, y 375, y 376, y 377, y 378, y 379, y 380, y 381, y 382, y 383, y 384, y 385, y 386, y 387, y 388, y 389, y 390, y 391, y 392, y 393, y 394, y 395, y 396, y 397, y 398, y 399, y 400, y 401, y 402, y 403, y 404, y 405, y 406, y 407, y 408, y 409, y 410, y 411, y 412, y 413, y 414, y 415, y 416, y 417, y 418, y 419, y 420, y 421, y 422, y 423, y 424, y 425, y 426, y 427, y 428, y 429, y 430, y 431, y 432, y 433, y 434, y 435, y 436, y 437, y 438, y 439, y 440, y 441, y 442, y 443, y 444, y 445, y 446, y 447, y 448, y 449, y 450], defers := [] } := by
  obtain ⟨tmps, defers⟩ := a
  have yd : defers = [] := hd
  subst yd
  obtain ⟨y, hy, hi⟩ := arr_451 tmps hs
  have e0 := (hi 0).trans h0
  have e2 := (hi 2).trans h2
  have e3 := (hi 3).trans h3
  have e4 := (hi 4).trans h4
  have e5 := (hi 5).trans h5
  have e20 := (hi 20).trans h20
  have e38 := (hi 38).trans h38
  rw [e0, e2, e3, e4, e5, e20, e38] at hy
  exact ⟨y, congrArg (fun t => (⟨t, []⟩ : Act)) hy⟩
set_option maxRecDepth 40000 in
theorem litw39 {a : Act} {u0 u2 u3 u4 u5 u20 u38 u39 : Value} (hs : a.tmps.size = 451) (hd : a.defers = []) (h0 : a.tmps.getD 0 undef = u0) (h2 : a.tmps.getD 2 undef = u2) (h3 : a.tmps.getD 3 undef = u3) (h4 : a.tmps.getD 4 undef = u4) (h5 : a.tmps.getD 5 undef = u5) (h20 : a.tmps.getD 20 undef = u20) (h38 : a.tmps.getD 38 undef = u38) (h39 : a.tmps.getD 39 undef = u39) : ∃ y : Nat → Value, a = { tmps := #[u0, y 1, u2, u3, u4, u5, y 6, y 7, y 8, y 9, y 10, y 11, y 12, y 13, y 14, y 15, y 16, y 17, y 18, y 19, u20, y 21, y 22, y 23, y 24, y 25, y 26, y 27, y 28, y 29, y 30, y 31, y 32, y 33, y 34, y 35, y 36, y 37, u38, u39, y 40, y 41, y 42, y 43, y 44, y 45, y 46, y 47, y 48, y 49, y 50, y 51, y 52, y 53, y 54, y 55, y 56, y 57, y 58, y 59, y 60, y 61, y 62, y 63, y 64, y 65, y 66, y 67, y 68, y 69, y 70, y 71, y 72, y 73, y 74, y 75, y 76, y 77, y 78, y 79, y 80, y 81, y 82, y 83, y 84, y 85, y 86, y 87, y 88, y 89, y 90, y 91, y 92, y 93, y 94, y 95, y 96, y 97, y 98, y 99, y 100, y 101, y 102, y 103, y 104, y 105, y 106, y 107, y 108, y 109, y 110, y 111, y 112, y 113, y 114, y 115, y 116, y 117, y 118, y 119, y 120, y 121, y 122, y 123, y 124, y 125, y 126, y 127, y 128, y 129, y 130, y 131, y 132, y 133, y 134, y 135, y 136, y 137, y 138, y 139, y 140, y 141, y 142, y 143, y 144, y 145, y 146, y 147, y 148, y 149, y 150, y 151, y 152, y 153, y 154, y 155, y 156, y 157, y 158, y 159, y 160, y 161, y 162, y 163, y 164, y 165, y 166, y 167, y 168, y 169, y 170, y 171, y 172, y 173, y 174, y 175, y 176, y 177, y 178, y 179, y 180, y 181, y 182, y 183, y 184, y 185, y 186, y 187, y 188, y 189, y 190, y 191, y 192, y 193, y 194, y 195, y 196, y 197, y 198, y 199, y 200, y 201, y 202, y 203, y 204, y 205, y 206, y 207, y 208, y 209, y 210, y 211, y 212, y 213, y 214, y 215, y 216, y 217, y 218, y 219, y 220, y 221, y 222, y 223, y 224, y 225, y 226, y 227, y 228, y 229, y 230, y 231, y 232, y 233, y 234, y 235, y 236, y 237, y 238, y 239, y 240, y 241, y 242, y 243, y 244, y 245, y 246, y 247, y 248, y 249, y 250, y 251, y 252, y 253, y 254, y 255, y 256, y 257, y 258, y 259, y 260, y 261, y 262, y 263, y 264, y 265, y 266, y 267, y 268, y 269, y 270, y 271, y 272, y 273, y 274, y 275, y 276, y 277, y 278, y 279, y 280, y 281, y 282, y 283, y 284, y 285, y 286, y 287, y 288, y 289, y 290, y 291, y 292, y 293, y 294, y 295, y 296, y 297, y 298, y 299, y 300, y 301, y 302, y 303, y 304, y 305, y 306, y 307, y 308, y 309, y 310, y 311, y 312, y 313, y 314, y 315, y 316, y 317, y 318, y 319, y 320, y 321, y 322, y 323, y 324, y 325, y 326, y 327, y 328, y 329, y 330, y 331, y 332, y 333, y 334, y 335, y 336, y 337, y 338, y 339, y 340, y 341, y 342, y 343, y 344, y 345, y 346, y 347, y 348, y 349, y 350, y 351, y 352, y 353, y 354, y 355, y 356, y 357, y 358, y 359, y 360, y 361, y 362, y 363, y 364, y 365, y 366, y 367, y 368, y 369, y 370, y 371, y 372, y 373, y 374, y 375, y 376, y 377, y 378, y 379, y 380, y 381, y 382, y 383, y 384, y 385, y 386, y 387, y 388, y 389, y 390, y 391, y 392, y 393, y 394, y 395, y 396, y 397, y 398, y 399, y 400, y 401, y 402, y 403, y 404, y 405, y 406, y 407, y 408, y 409, y 410, y 411, y 412, y 413, y 414, y 415, y 416, y 417, y 418, y 419, y 420, y 421, y 422, y 423, y 424, y 425, y 426, y 427, y 428, y 429, y 430, y 431, y 432, y 433, y 434, y 435, y 436, y 437, y 438, y 439, y 440, y 441, y 442, y 443, y 444, y 445, y 446, y 447, y 448, y 449, y 450], defers := [] } := by
  obtain ⟨tmps, defers⟩ := a
  have yd : defers = [] := hd
  subst yd
  obtain ⟨y, hy, hi⟩ := arr_451 tmps hs
  have e0 := (hi 0).trans h0
  have e2 := (hi 2).trans h2
  have e3 := (hi 3).trans h3
  have e4 := (hi 4).trans h4
  have e5 := (hi 5).trans h5
  have e20 := (hi 20).trans h20
  have e38 := (hi 38).trans h38
  have e39 := (hi 39).trans h39
  rw [e0, e2, e3, e4, e5, e20, e38, e39] at hy
  exact ⟨y, congrArg (fun t => (⟨t, []⟩ : Act)) hy⟩

set_option maxRecDepth 40000 in
set_option maxHeartbeats 8000000 in
/-- Each edge gets its class. -/
theorem md_16 (w0 : World) (G : GR) (a0 : Option Addr) (k0 ga gm g0 g1 g2 g3 : Nat) (R : Nat → Nat → Bool) (v20 : Value) (B nc : Nat) (cn : Nat → Nat) (cl : Nat → Nat → Nat) (ok : G.Ok) (hc : PT (Sb G R G.E) (Rl G R G.n) nc cn cl) (wr : World) (hI : CA w0 G ga gm g0 g1 g2 g3 R v20 B nc cn cl 0 0 wr) (a : Act) (hf : FE a0 G.n k0 ga gm G.E a) (h20 : a.tmps.getD 20 undef = v20) (Q : Exit → Act → World → Prop)
    (hC : ∀ (a : Act) (w : World), FE a0 G.n k0 ga gm G.E a → a.tmps.getD 20 undef = v20 → CA w0 G ga gm g0 g1 g2 g3 R v20 B nc cn cl nc 0 w → Q .normal a w) :
    Code.wp Try.prog (sL (tl 25 (Try.f10.body.getD .skip))) Q a wr := by
  have hE := ok.E
  have hncE : nc ≤ G.E := hc.nc_le (fun f hf => hf.1)
  have HPT : Hid (PT (Sb G R G.E) (Rl G R G.n) nc cn cl) := hc
  have HI : Hid (CA w0 G ga gm g0 g1 g2 g3 R v20 B nc cn cl 0 0 wr) := hI
  have HC : Hid (∀ (a : Act) (w : World), FE a0 G.n k0 ga gm G.E a → a.tmps.getD 20 undef = v20 → CA w0 G ga gm g0 g1 g2 g3 R v20 B nc cn cl nc 0 w → Q .normal a w) := hC
  obtain ⟨y, rfl⟩ := litw20 hf.fm.sz hf.fm.df hf.fm.s0 hf.fm.s2 hf.fm.s3 hf.fm.s4 hf.s5 h20
  clear hf hC hI ok hc h20
  show Code.wp Try.prog (Code.seq _ (Code.block 30 (Code.loop (Code.seq (Code.seq _ (Code.cond (.tmp 424) Code.skip (Code.exit 30))) (Code.seq (Code.block 31 (Code.seq _ (Code.block 32 (Code.loop (Code.seq (Code.seq _ (Code.cond (.tmp 433) Code.skip (Code.exit 32))) (Code.seq (Code.block 33 _) _)))))) _))))) Q _ wr
  refine wp_seq_k (fun K1 hK => ?_)
  have HK1 : Hid (∀ (a : Act) (w : World), _ → K1 a w) := hK
  clear hK
  go_wp2
  refine HK1.out _ _ ?_
  clear HK1 K1
  refine wp_block ?_
  refine wp_loop (LcI w0 G a0 k0 ga gm g0 g1 g2 g3 R v20 B nc cn cl) (fun a _ => mus 38 nc a) ⟨0, ⟨⟨by kernel_rfl, by kernel_rfl, by kernel_rfl, by kernel_rfl, by kernel_rfl, by kernel_rfl⟩, by kernel_rfl⟩, by kernel_rfl, by kernel_rfl, Nat.zero_le _, HI.out⟩ ?_
  clear HI y
  rintro a w' ⟨i, hf, h20, h38, i1, hI⟩
  have HI : Hid (CA w0 G ga gm g0 g1 g2 g3 R v20 B nc cn cl i 0 w') := hI
  have e38 : mus 38 nc a = nc - i := congrArg (fun v => nc - (intOf v).toNat) h38
  obtain ⟨cls, D, hD, hv7, hL7, hcls⟩ := hI
  have hv : D.val 7 = .slice ((D.b 7).map fun g => ⟨g, 0, none⟩) nc (D.cap 7) := by unfold Fam.val; rw [hL7.n]
  have v7 := hv7
  rw [hv] at v7
  clear hD hv hv7 hL7 hcls
  generalize (D.b 7).map (fun g => (⟨g, 0, none⟩ : Addr)) = o7 at *
  generalize D.cap 7 = k7 at *
  subst v7
  obtain ⟨y2, rfl⟩ := litw38 hf.fm.sz hf.fm.df hf.fm.s0 hf.fm.s2 hf.fm.s3 hf.fm.s4 hf.s5 h20 h38
  rw [e38]
  clear e38 hf h20 h38
  refine wp_seq_k (fun K1 hK => ?_)
  have HK1 : Hid (∀ (a : Act) (w : World), _ → K1 a w) := hK
  clear hK
  refine wp_seq_k (fun K2 hK => ?_)
  have HK2 : Hid (∀ (a : Act) (w : World), _ → K2 a w) := hK
  clear hK
  by_cases hi : i < nc
  · have hii : (i : Int) < (nc : Int) := by omega
    go_wp2
    refine HK2.out _ _ (wp_cond_true (by kernel_rfl) (wp_skip ?_))
    refine HK1.out _ _ ?_
    clear HK1 K1 HK2 K2
    refine wp_seq_k (fun K1 hK => ?_)
    have HK1 : Hid (∀ (a : Act) (w : World), _ → K1 a w) := hK
    clear hK
    refine wp_block ?_
    have hcnE : cn i ≤ G.E := HPT.out.cn_le (fun f hf => hf.1) hi
    refine wp_seq_k (fun K2 hK => ?_)
    have HK2 : Hid (∀ (a : Act) (w : World), _ → K2 a w) := hK
    clear hK
    go_wp2
    refine HK2.out _ _ ?_
    clear HK2 K2
    refine wp_block ?_
    refine wp_loop (LdI w0 G a0 k0 ga gm g0 g1 g2 g3 R (.slice o7 nc k7) B nc cn cl i) (fun a _ => mus 39 (cn i) a) ⟨0, ⟨⟨by kernel_rfl, by kernel_rfl, by kernel_rfl, by kernel_rfl, by kernel_rfl, by kernel_rfl⟩, by kernel_rfl⟩, by kernel_rfl, by kernel_rfl, by kernel_rfl, Nat.zero_le _, HI.out⟩ ?_
    clear HI y2
    rintro a w' ⟨j, hf, h20, h38, h39, j1, hJ⟩
    have HJ : Hid (CA w0 G ga gm g0 g1 g2 g3 R (.slice o7 nc k7) B nc cn cl i j w') := hJ
    have e39 : mus 39 (cn i) a = cn i - j := congrArg (fun v => cn i - (intOf v).toNat) h39
    obtain ⟨cls, D, hD, hv7, hL7, hcls⟩ := hJ
    have n7 : D.n 7 = nc := hL7.n
    obtain ⟨g7, b7⟩ := hD.rep.hasBlock (i := 7) (by rw [n7]; omega)
    have v7 := hv7
    rw [val_some b7, n7] at v7
    have eo : o7 = some ⟨g7, 0, none⟩ := by injection v7 with h1 h2 h3; exact h1.symm
    have ek : D.cap 7 = k7 := by injection v7 with h1 h2 h3
    have l7 := hD.rep.le_cap 7
    rw [n7, ek] at l7
    subst eo
    have hL := hL7.L i hi
    have hv : D.val (16 + B + i) = .slice ((D.b (16 + B + i)).map fun g => ⟨g, 0, none⟩) (cn i) (D.cap (16 + B + i)) := by unfold Fam.val; rw [hL.1]
    have x1 := (hD.rep.cell b7 (j := i) (by rw [n7]; show i < nc * 1; omega)).trans (congrArg some ((hL7.F i hi).trans hv))
    obtain ⟨y3, rfl⟩ := litw39 hf.fm.sz hf.fm.df hf.fm.s0 hf.fm.s2 hf.fm.s3 hf.fm.s4 hf.s5 h20 h38 h39
    rw [e39]
    clear e39 hf h20 h38 h39
    refine wp_seq_k (fun K2 hK => ?_)
    have HK2 : Hid (∀ (a : Act) (w : World), _ → K2 a w) := hK
    clear hK
    refine wp_seq_k (fun K3 hK => ?_)
    have HK3 : Hid (∀ (a : Act) (w : World), _ → K3 a w) := hK
    clear hK
    by_cases hj : j < cn i
    · have hjj : (j : Int) < ((cn i : Nat) : Int) := by omega
      obtain ⟨gl, bl⟩ := hD.rep.hasBlock (i := 16 + B + i) (by rw [hL.1]; omega)
      rw [bl] at x1
      have x1 : w'.cell? ⟨g7, i, none⟩ = some (.slice (some ⟨gl, 0, none⟩) (cn i) (D.cap (16 + B + i))) := x1
      have ll := hD.rep.le_cap (16 + B + i)
      rw [hL.1] at ll
      have hK : KD (16 + B + i) = (3, 1) := by unfold KD; rw [if_neg (by omega), if_neg (by omega), if_neg (by omega)]
      have x2 := hL.cell' hD.rep bl hK hj
      have lf : cl i j < G.E := (HPT.out.el i j hi hj).1
      have z4 : w'.cell? ⟨gm, 4, none⟩ = some (.slice (some ⟨g3, 0, none⟩) G.E G.E) := DS.hd hD (f := 4) (by decide)
      have z5 := hD.i3.cell' hD.rep hD.b3 rfl lf
      have z6 := hD.rep.frozen hD.b3 (cl i j)
      have fin : Hid (CA w0 G ga gm g0 g1 g2 g3 R (.slice (some ⟨g7, 0, none⟩) nc k7) B nc cn cl i (j + 1) (w'.drew.setCell ⟨g3, cl i j, none⟩ (.int .i64 ((i : Nat) : Int)))) := HJ.out.step HPT.out hi hj
      clear hD hv hL v7 n7 b7 ek hL7 hv7 hcls HJ bl hK
      generalize D.cap (16 + B + i) = kl at *
      generalize cls (cl i j) = c0 at *
      generalize cl i j = f at *
      go_wp2
      refine HK3.out _ _ (wp_cond_true (by kernel_rfl) (wp_skip ?_))
      refine HK2.out _ _ ?_
      clear HK2 K2 HK3 K3
      refine wp_seq_k (fun K2 hK => ?_)
      have HK2 : Hid (∀ (a : Act) (w : World), _ → K2 a w) := hK
      clear hK
      refine wp_block ?_
      have x1' : w'.drew.cell? ⟨g7, i, none⟩ = some (.slice (some ⟨gl, 0, none⟩) (cn i) kl) := x1
      have x2' : w'.drew.cell? ⟨gl, j, none⟩ = some (.int .i64 (f : Int)) := x2
      have z4' : w'.drew.cell? ⟨gm, 4, none⟩ = some (.slice (some ⟨g3, 0, none⟩) G.E G.E) := z4
      have z5' : w'.drew.cell? ⟨g3, f, none⟩ = some (.int .i64 c0) := z5
      have z6' : w'.drew.frozen? ⟨g3, f, none⟩ = false := z6
      have FK : Hid (∀ kk w'', kk ≤ 0 → C1 w'.drew (w'.drew.setCell ⟨g3, f, none⟩ (.int .i64 (i : Int))) kk w'' → w'' = w'.drew) := by
        intro kk w'' hk hw
        have hk : kk = 0 := by omega
        subst hk
        exact hw
      refine wp_region_stage (C1 w'.drew (w'.drew.setCell ⟨g3, f, none⟩ (.int .i64 (i : Int)))) [11] (fun i => 0) (by kernel_rfl) (by kernel_rfl) (rfl) ?_
      refine wpStage_read rfl rfl ?_
      apply Exists.intro
      refine ⟨fun kk w'' hk hw => ?_, ?_⟩
      · go_simp
        first | rfl | exact ⟨rfl, hw⟩
      go_simp
      refine wpStage_read rfl rfl ?_
      apply Exists.intro
      refine ⟨fun kk w'' hk hw => ?_, ?_⟩
      · have hw0 := FK.out kk w'' hk hw
        subst hw0
        go_simp
        first | rfl | exact ⟨rfl, hw⟩
      go_simp
      refine wpStage_read rfl rfl ?_
      apply Exists.intro
      refine ⟨fun kk w'' hk hw => ?_, ?_⟩
      · go_simp
        first | rfl | exact ⟨rfl, hw⟩
      go_simp
      refine wpStage_read rfl rfl ?_
      apply Exists.intro
      refine ⟨fun kk w'' hk hw => ?_, ?_⟩
      · go_simp
        first | rfl | exact ⟨rfl, hw⟩
      go_simp
      refine wpStage_read rfl rfl ?_
      apply Exists.intro
      refine ⟨fun kk w'' hk hw => ?_, ?_⟩
      · go_simp
        first | rfl | exact ⟨rfl, hw⟩
      go_simp
      refine wpStage_read rfl rfl ?_
      apply Exists.intro
      refine ⟨fun kk w'' hk hw => ?_, ?_⟩
      · have hw0 := FK.out kk w'' hk hw
        subst hw0
        go_simp
        first | rfl | exact ⟨rfl, hw⟩
      go_simp
      refine wpStage_read rfl rfl ?_
      apply Exists.intro
      refine ⟨fun kk w'' hk hw => ?_, ?_⟩
      · go_simp
        first | rfl | exact ⟨rfl, hw⟩
      go_simp
      refine wpStage_read rfl rfl ?_
      apply Exists.intro
      refine ⟨fun kk w'' hk hw => ?_, ?_⟩
      · go_simp
        first | rfl | exact ⟨rfl, hw⟩
      go_simp
      refine wpStage_read rfl rfl ?_
      apply Exists.intro
      refine ⟨fun kk w'' hk hw => ?_, ?_⟩
      · have hw0 := FK.out kk w'' hk hw
        subst hw0
        go_simp
        first | rfl | exact ⟨rfl, hw⟩
      go_simp
      refine wpStage_read rfl rfl ?_
      apply Exists.intro
      refine ⟨fun kk w'' hk hw => ?_, ?_⟩
      · go_simp
        first | rfl | exact ⟨rfl, hw⟩
      go_simp
      refine wpStage_read rfl rfl ?_
      apply Exists.intro
      refine ⟨fun kk w'' hk hw => ?_, ?_⟩
      · go_simp
        first | rfl | exact ⟨rfl, hw⟩
      go_simp
      refine wpStage_move rfl rfl ?_
      apply Exists.intro
      refine ⟨fun w'' hw => ?_, ?_⟩
      · have hw : w'' = w'.drew := hw
        subst hw
        go_simp
        first | rfl | exact ⟨rfl, rfl⟩
      go_simp
      intro we hw0
      have hw : we = (w'.drew.setCell ⟨g3, f, none⟩ (.int .i64 (i : Int))) := hw0
      clear hw0
      rw [← hw] at fin
      clear hw FK x1 x2 z4 z5 z6 x1' x2' z4' z5' z6'
      refine HK2.out _ _ ?_
      clear HK2 K2
      go_wp2
      exact ⟨⟨j + 1, ⟨⟨by kernel_rfl, by kernel_rfl, by kernel_rfl, by kernel_rfl, by kernel_rfl, by kernel_rfl⟩, by kernel_rfl⟩, by kernel_rfl, by kernel_rfl, by kernel_rfl, by omega, fin.out⟩, Nat.lt_of_le_of_lt (Nat.le_of_eq (by kernel_rfl : _ = cn i - (j + 1))) (by omega)⟩
    · have hjj : ¬ (j : Int) < ((cn i : Nat) : Int) := by omega
      obtain rfl : j = cn i := by omega
      have fin : Hid (CA w0 G ga gm g0 g1 g2 g3 R (.slice (some ⟨g7, 0, none⟩) nc k7) B nc cn cl (i + 1) 0 w') := HJ.out.leave
      clear hD hv hL v7 n7 b7 ek hL7 hv7 hcls HJ
      generalize (D.b (16 + B + i)).map (fun g => (⟨g, 0, none⟩ : Addr)) = ol at *
      generalize D.cap (16 + B + i) = kl at *
      go_wp2
      refine HK3.out _ _ (wp_cond_false (by kernel_rfl) (wp_exit ?_))
      refine HK1.out _ _ ?_
      clear HK1 K1 HK2 K2 HK3 K3
      go_wp2
      exact ⟨⟨i + 1, ⟨⟨by kernel_rfl, by kernel_rfl, by kernel_rfl, by kernel_rfl, by kernel_rfl, by kernel_rfl⟩, by kernel_rfl⟩, by kernel_rfl, by kernel_rfl, by omega, fin.out⟩, Nat.lt_of_le_of_lt (Nat.le_of_eq (by kernel_rfl : _ = nc - (i + 1))) (by omega)⟩
  · have hii : ¬ (i : Int) < (nc : Int) := by omega
    obtain rfl : i = nc := by omega
    go_wp2
    refine HK2.out _ _ (wp_cond_false (by kernel_rfl) (wp_exit ?_))
    exact HC.out _ _ ⟨⟨by kernel_rfl, by kernel_rfl, by kernel_rfl, by kernel_rfl, by kernel_rfl, by kernel_rfl⟩, by kernel_rfl⟩ (by kernel_rfl) HI.out
end Go.Proofs.Qxb6602148a
