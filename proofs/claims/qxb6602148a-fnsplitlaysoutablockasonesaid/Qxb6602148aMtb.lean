/-
  'zzMeetsModel': its beginning; the tables between classes and components are laid open.
-/
import Derived.Test.Qxb6602148aMta
attribute [local go_sem] Go.Proofs.Qxb6602148a.yTo Go.Proofs.Qxb6602148a.yUpon
namespace Go.Proofs.Qxb6602148a
open Go.RowKit
set_option linter.unusedVariables false
set_option linter.unusedSimpArgs false

set_option maxRecDepth 40000 in
set_option maxHeartbeats 8000000 in
/-- Regions 0 to 10. -/
theorem mt_1 (w0 : World) (X : MD) (P : PS) (m1 m2 m3 m4 u0 u1 u2 u3 u4 u5 u6 : Value) (hin : MtIn ((w0.alloc (.cells #[.int .i64 (X.n : Int), m1, m2, m3, m4, .int .i64 (X.nc : Int)] 29)).alloc (.cells #[u0, u1, u2, u3, u4, u5, u6] 35)) w0.heap.size (w0.heap.size + 1) X P) (hm : Meet X P) (y : Nat → Value) (tail : Code) (Z : Ending → World → Prop)
    (hT : ∀ (a : Act) (w' : World) (g2 : Nat), FT w0.heap.size (w0.heap.size + 1) X.E P.nS P.nC a → a.tmps.getD 8 undef = .slice (some ⟨g2, 0, none⟩) P.nC P.nC → T1 ((w0.alloc (.cells #[.int .i64 (X.n : Int), m1, m2, m3, m4, .int .i64 (X.nc : Int)] 29)).alloc (.cells #[u0, u1, u2, u3, u4, u5, u6] 35)) P g2 0 w' → Code.wp Try.prog tail (bodyPost Try.prog Try.f12 fun e w' => Z e w') a w') :
    Code.wp Try.prog (rt 8 (Try.f12.body.getD .skip) tail) (bodyPost Try.prog Try.f12 fun e w' => Z e w') { tmps := #[.agg #[.int .i64 (X.n : Int), m1, m2, m3, m4, .int .i64 (X.nc : Int)], .agg #[u0, u1, u2, u3, u4, u5, u6], y 2, y 3, y 4, y 5, y 6, y 7, y 8, y 9, y 10, y 11, y 12, y 13, y 14, y 15, y 16, y 17, y 18, y 19, y 20, y 21, y 22, y 23, y 24, y 25, y 26, y 27, y 28, y 29, y 30, y 31, y 32, y 33, y 34, y 35, y 36, y 37, y 38, y 39, y 40, y 41, y 42, y 43, y 44, y 45, y 46, y 47, y 48, y 49, y 50, y 51, y 52, y 53, y 54, y 55, y 56, y 57, y 58, y 59, y 60, y 61, y 62, y 63, y 64, y 65, y 66, y 67, y 68, y 69, y 70, y 71, y 72, y 73, y 74, y 75, y 76, y 77, y 78, y 79, y 80, y 81, y 82, y 83, y 84, y 85, y 86, y 87, y 88, y 89, y 90, y 91, y 92, y 93, y 94, y 95, y 96, y 97, y 98, y 99, y 100, y 101, y 102, y 103, y 104, y 105, y 106, y 107, y 108, y 109, y 110, y 111, y 112, y 113, y 114, y 115, y 116, y 117, y 118, y 119, y 120, y 121, y 122, y 123, y 124, y 125, y 126, y 127, y 128, y 129, y 130, y 131, y 132, y 133, y 134, y 135, y 136, y 137, y 138, y 139, y 140, y 141, y 142, y 143, y 144, y 145, y 146, y 147, y 148, y 149, y 150, y 151, y 152, y 153, y 154, y 155, y 156, y 157, y 158, y 159, y 160, y 161, y 162, y 163, y 164, y 165, y 166, y 167, y 168, y 169, y 170, y 171, y 172, y 173, y 174, y 175, y 176, y 177, y 178, y 179, y 180, y 181, y 182, y 183, y 184, y 185, y 186, y 187, y 188, y 189, y 190, y 191, y 192, y 193, y 194, y 195, y 196, y 197, y 198, y 199, y 200, y 201, y 202, y 203, y 204, y 205, y 206, y 207, y 208, y 209, y 210, y 211, y 212, y 213, y 214, y 215, y 216, y 217, y 218, y 219, y 220, y 221, y 222, y 223, y 224, y 225, y 226, y 227, y 228, y 229, y 230, y 231, y 232, y 233, y 234, y 235, y 236, y 237, y 238, y 239, y 240, y 241, y 242, y 243, y 244, y 245, y 246, y 247, y 248, y 249, y 250, y 251, y 252, y 253, y 254, y 255, y 256, y 257, y 258, y 259, y 260, y 261, y 262, y 263, y 264, y 265, y 266, y 267, y 268, y 269, y 270, y 271, y 272, y 273, y 274, y 275, y 276, y 277, y 278, y 279, y 280, y 281, y 282, y 283, y 284, y 285, y 286, y 287, y 288, y 289, y 290, y 291, y 292, y 293, y 294, y 295, y 296, y 297, y 298, y 299, y 300, y 301, y 302, y 303, y 304, y 305, y 306, y 307, y 308, y 309, y 310, y 311, y 312, y 313, y 314, y 315, y 316, y 317, y 318, y 319, y 320, y 321, y 322, y 323, y 324, y 325, y 326, y 327, y 328, y 329, y 330, y 331, y 332, y 333, y 334, y 335, y 336, y 337, y 338, y 339, y 340, y 341, y 342, y 343, y 344, y 345, y 346, y 347, y 348, y 349, y 350, y 351, y 352, y 353, y 354, y 355, y 356, y 357, y 358, y 359, y 360, y 361, y 362, y 363, y 364, y 365, y 366, y 367, y 368, y 369, y 370, y 371, y 372, y 373, y 374, y 375, y 376, y 377, y 378, y 379, y 380, y 381, y 382, y 383, y 384, y 385, y 386, y 387, y 388, y 389, y 390, y 391, y 392, y 393, y 394, y 395, y 396, y 397, y 398, y 399, y 400, y 401, y 402, y 403, y 404, y 405, y 406, y 407, y 408, y 409, y 410, y 411, y 412, y 413, y 414, y 415, y 416, y 417, y 418, y 419, y 420, y 421, y 422, y 423, y 424, y 425, y 426, y 427, y 428, y 429, y 430, y 431, y 432, y 433, y 434, y 435, y 436, y 437, y 438, y 439, y 440, y 441, y 442, y 443, y 444, y 445, y 446, y 447, y 448, y 449, y 450, y 451, y 452, y 453, y 454, y 455, y 456, y 457, y 458, y 459, y 460, y 461, y 462, y 463, y 464], defers := [] } w0 := by
  obtain ⟨hE, hn, hS, hCC, hnc⟩ := hin.sm
  obtain ⟨i3, hi3, hz30, hz31, hz32⟩ := info_parts Try.info3
  obtain ⟨mq, hmq, hfmq⟩ := make_fun (P := Try.prog) 26 3 i3 (.int .i64 0) 1 8 (.int .i64 0) Try.underlying26 hi3 hz30 hz31 hz32 rfl (by decide) zero1 P.nC (by omega) (by omega)
  have HTL : Hid (∀ (a : Act) (w' : World) (g2 : Nat), FT w0.heap.size (w0.heap.size + 1) X.E P.nS P.nC a → a.tmps.getD 8 undef = .slice (some ⟨g2, 0, none⟩) P.nC P.nC → T1 ((w0.alloc (.cells #[.int .i64 (X.n : Int), m1, m2, m3, m4, .int .i64 (X.nc : Int)] 29)).alloc (.cells #[u0, u1, u2, u3, u4, u5, u6] 35)) P g2 0 w' → Code.wp Try.prog tail (bodyPost Try.prog Try.f12 fun e w' => Z e w') a w') := hT
  obtain ⟨o1, k1, x1⟩ := hin.m1.len (Grew.refl Fam.nil _)
  obtain ⟨p0, q0, z0⟩ := hin.v0.len (Grew.refl Fam.nil _)
  obtain ⟨p1, q1, z1⟩ := hin.v1.len (Grew.refl Fam.nil _)
  obtain ⟨p2, q2, z2⟩ := hin.v2.len (Grew.refl Fam.nil _)
  obtain ⟨p3, q3, z3⟩ := hin.v3.len (Grew.refl Fam.nil _)
  obtain ⟨p4, q4, z4⟩ := hin.v4.len (Grew.refl Fam.nil _)
  obtain ⟨p5, q5, z5⟩ := hin.v5.len (Grew.refl Fam.nil _)
  obtain ⟨p6, q6, z6⟩ := hin.v6.len (Grew.refl Fam.nil _)
  rw [hm.nE] at z0 z1
  have fin0 : T1 ((w0.alloc (.cells #[.int .i64 (X.n : Int), m1, m2, m3, m4, .int .i64 (X.nc : Int)] 29)).alloc (.cells #[u0, u1, u2, u3, u4, u5, u6] 35)) P ((w0.alloc (.cells #[.int .i64 (X.n : Int), m1, m2, m3, m4, .int .i64 (X.nc : Int)] 29)).alloc (.cells #[u0, u1, u2, u3, u4, u5, u6] 35)).heap.size 0 (mq ((w0.alloc (.cells #[.int .i64 (X.n : Int), m1, m2, m3, m4, .int .i64 (X.nc : Int)] 29)).alloc (.cells #[u0, u1, u2, u3, u4, u5, u6] 35))) := ⟨_, (MM.nil _).fresh (r := 2) rfl (hfmq _), Roi.new _ 2 _ _ (fun _ => 0)⟩
  have hsz : ((w0.alloc (.cells #[.int .i64 (X.n : Int), m1, m2, m3, m4, .int .i64 (X.nc : Int)] 29)).alloc (.cells #[u0, u1, u2, u3, u4, u5, u6] 35)).heap.size = w0.heap.size + 1 + 1 := by simp
  rw [hsz] at fin0
  have fin : Hid (T1 ((w0.alloc (.cells #[.int .i64 (X.n : Int), m1, m2, m3, m4, .int .i64 (X.nc : Int)] 29)).alloc (.cells #[u0, u1, u2, u3, u4, u5, u6] 35)) P (w0.heap.size + 1 + 1) 0 (mq ((w0.alloc (.cells #[.int .i64 (X.n : Int), m1, m2, m3, m4, .int .i64 (X.nc : Int)] 29)).alloc (.cells #[u0, u1, u2, u3, u4, u5, u6] 35)))) := fin0
  clear hin hm hT hfmq hi3 hz30 hz31 hz32 fin0 hsz
  simp only [rt, Try.f12, Option.getD]
  go_wp2
  exact HTL.out _ _ (w0.heap.size + 1 + 1) ⟨by kernel_rfl, by kernel_rfl, by kernel_rfl, by kernel_rfl, by kernel_rfl, by kernel_rfl, by kernel_rfl⟩ (by kernel_rfl) fin.out

/-- ... with the table of classes. -/
def T3 (wb : World) (X : MD) (P : PS) (g2 g3 : Nat) (tc : Nat → Int) (w : World) : Prop := ∃ D, MM wb D w ∧ Roi D 2 g2 P.nC (icn P P.nS) ∧ Roi D 3 g3 X.nc tc
def L2I (wb : World) (gM gW : Nat) (X : MD) (P : PS) (g2 g3 : Nat) (a : Act) (w : World) : Prop :=
  FT gM gW X.E P.nS P.nC a ∧ a.tmps.getD 8 undef = .slice (some ⟨g2, 0, none⟩) P.nC P.nC ∧ a.tmps.getD 11 undef = .slice (some ⟨g3, 0, none⟩) X.nc X.nc ∧ ∃ (k : Nat) (tc : Nat → Int), a.tmps.getD 12 undef = .int .i64 (k : Int) ∧ k ≤ X.nc ∧ T3 wb X P g2 g3 tc w ∧ ∀ j, j < k → tc j = -1
set_option maxRecDepth 40000 in
theorem lt11 {a : Act} {u2 u3 u5 u6 u7 u8 u11 : Value} (hs : a.tmps.size = 465) (hd : a.defers = []) (h2 : a.tmps.getD 2 undef = u2) (h3 : a.tmps.getD 3 undef = u3) (h5 : a.tmps.getD 5 undef = u5) (h6 : a.tmps.getD 6 undef = u6) (h7 : a.tmps.getD 7 undef = u7) (h8 : a.tmps.getD 8 undef = u8) (h11 : a.tmps.getD 11 undef = u11) : ∃ y : Nat → Value, a = { tmps := #[y 0, y 1, u2, u3, y 4, u5, u6, u7, u8, y 9, y 10, u11, y 12, y 13, y 14, y 15, y 16, y 17, y 18, y 19, y 20, y 21, y 22, y 23, y 24, y 25, y 26, y 27, y 28, y 29, y 30, y 31, y 32, y 33, y 34, y 35, y 36, y 37, y 38, y 39, y 40, y 41, y 42, y 43, y 44, y 45, y 46, y 47, y 48, y 49, y 50, y 51, y 52, y 53, y 54, y 55, y 56, y 57, y 58, y 59, y 60, y 61, y 62, y 63, y 64, y 65, y 66, y 67, y 68, y 69, y 70, y 71, y 72, y 73, y 74, y 75, y 76, y 77, y 78, y 79, y 80, y 81, y 82, y 83, y 84, y 85, y 86, y 87, y 88, y 89, y 90, y 91, y 92, y 93, y 94, y 95, y 96, y 97, y 98, y 99, y 100, y 101, y 102, y 103, y 104, y 105, y 106, y 107, y 108, y 109, y 110, y 111, y 112, y 113, y 114, y 115, y 116, y 117, y 118, y 119, y 120, y 121, y 122, y 123, y 124, y 125, y 126, y 127, y 128, y 129, y 130, y 131, y 132, y 133, y 134, y 135, y 136, y 137, y 138, y 139, y 140, y 141, y 142, y 143, y 144, y 145, y 146, y 147, y 148, y 149, y 150, y 151, y 152, y 153, y 154, y 155, y 156, y 157, y 158, y 159, y 160, y 161, y 162, y 163, y 164, y 165, y 166, y 167, y 168, y 169, y 170, y 171, y 172, y 173, y 174, y 175, y 176, y 177, y 178, y 179, y 180, y 181, y 182, y 183, y 184, y 185, y 186, y 187, y 188, y 189, y 190, y 191, y 192, y 193, y 194, y 195, y 196, y 197, y 198, y 199, y 200, y 201, y 202, y 203, y 204, y 205, y 206, y 207, y 208, y 209, y 210, y 211, y 212, y 213, y 214, y 215, y 216, y 217, y 218, y 219, y 220, y 221, y 222, y 223, y 224, y 225, y 226, y 227, y 228, y 229, y 230, y 231, y 232, y 233, y 234, y 235, y 236, y 237, y 238, y 239, y 240, y 241, y 242, y 243, y 244, y 245, y 246, y 247, y 248, y 249, y 250, y 251, y 252, y 253, y 254, y 255, y 256, y 257, y 258, y 259, y 260, y 261, y 262, y 263, y 264, y 265, y 266, y 267, y 268, y 269, y 270, y 271, y 272, y 273, y 274, y 275, y 276, y 277, y 278, y 279, y 280, y 281, y 282, y 283, y 284, y 285, y 286, y 287, y 288, y 289, y 290, y 291, y 292, y 293, y 294, y 295, y 296, y 297, y 298, y 299, y 300, y 301, y 302, y 303, y 304, y 305, y 306, y 307, y 308, y 309, y 310, y 311, y 312, y 313, y 314, y 315, y 316, y 317, y 318, y 319, y 320, y 321, y 322, y 323, y 324, y 325, y 326, y 327, y 328, y 329, y 330, y 331, y 332, y 333, y 334, y 335, y 336, y 337, y 338, y 339, y 340, y 341, y 342, y 343, y 344, y 345, y 346, y 347, y 348, y 349, y 350, y 351, y 352, y 353, y 354, y 355, y 356, y 357, y 358, y 359, y 360, y 361, y 362, y 363, y 364, y 365, y 366, y 367, y 368, y 369, y 370, y 371, y 372, y 373, y 374, y 375, y 376, y 377, y 378, y 379, y 380, y 381, y 382, y 383, y 384, y 385, y 386, y 387, y 388, y 389, y 390, y 391, y 392, y 393, y 394, y 395, y 396, y 397, y 398, y 399, y 400, y 401, y 402, y 403, y 404, y 405, y 406, y 407, y 408, y 409, y 410, y 411, y 412, y 413, y 414, y 415, y 416, y 417, y 418, y 419, y 420, y 421, y 422, y 423, y 424, y 425, y 426, y 427, y 428, y 429, y 430, y 431, y 432, y 433, y 434, y 435, y 436, y 437, y 438, y 439, y 440, y 441, y 442, y 443, y 444, y 445, y 446, y 447, y 448, y 449, y 450, y 451, y 452, y 453, y 454, y 455, y 456, y 457, y 458, y 459, y 460, y 461, y 462, y 463, y 464], defers := [] } := by
  obtain ⟨tmps, defers⟩ := a
  have yd : defers = [] := hd
  subst yd
  obtain ⟨y, hy, hi⟩ := arr_465 tmps hs
  have e2 := (hi 2).trans h2
  have e3 := (hi 3).trans h3
  have e5 := (hi 5).trans h5
  have e6 := (hi 6).trans h6
  have e7 := (hi 7).trans h7
  have e8 := (hi 8).trans h8
  have e11 := (hi 11).trans h11
  rw [e2, e3, e5, e6, e7, e8, e11] at hy
  exact ⟨y, congrArg (fun t => (⟨t, []⟩ : Act)) hy⟩
set_option maxRecDepth 40000 in
theorem lt12 {a : Act} {u2 u3 u5 u6 u7 u8 u11 u12 : Value} (hs : a.tmps.size = 465) (hd : a.defers = []) (h2 : a.tmps.getD 2 undef = u2) (h3 : a.tmps.getD 3 undef = u3) (h5 : a.tmps.getD 5 undef = u5) (h6 : a.tmps.getD 6 undef = u6) (h7 : a.tmps.getD 7 undef = u7) (h8 : a.tmps.getD 8 undef = u8) (h11 : a.tmps.getD 11 undef = u11) (h12 : a.tmps.getD 12 undef = u12) : ∃ y : Nat → Value, a = { tmps := #[y 0, y 1, u2, u3, y 4, u5, u6, u7, u8, y 9, y 10, u11, u12, y 13, y 14, y 15, y 16, y 17, y 18, y 19, y 20, y 21, y 22, y 23, y 24, y 25, y 26, y 27, y 28, y 29, y 30, y 31, y 32, y 33, y 34, y 35, y 36, y 37, y 38, y 39, y 40, y 41, y 42, y 43, y 44, y 45, y 46, y 47, y 48, y 49, y 50, y 51, y 52, y 53, y 54, y 55, y 56, y 57, y 58, y 59, y 60, y 61, y 62, y 63, y 64, y 65, y 66, y 67, y 68, y 69, y 70, y 71, y 72, y 73, y 74, y 75, y 76, y 77, y 78, y 79, y 80, y 81, y 82, y 83, y 84, y 85, y 86, y 87, y 88, y 89, y 90, y 91, y 92, y 93, y 94, y 95, y 96, y 97, y 98, y 99, y 100, y 101, y 102, y 103, y 104, y 105, y 106, y 107, y 108, y 109, y 110, y 111, y 112, y 113, y 114, y 115, y 116, y 117, y 118, y 119, y 120, y 121, y 122, y 123, y 124, y 125, y 126, y 127, y 128, y 129, y 130, y 131, y 132, y 133, y 134, y 135, y 136, y 137, y 138, y 139, y 140, y 141, y 142, y 143, y 144, y 145, y 146, y 147, y 148, y 149, y 150, y 151, y 152, y 153, y 154, y 155, y 156, y 157, y 158, y 159, y 160, y 161, y 162, y 163, y 164, y 165, y 166, y 167, y 168, y 169, y 170, y 171, y 172, y 173, y 174, y 175, y 176, y 177, y 178, y 179, y 180, y 181, y 182, y 183, y 184, y 185, y 186, y 187, y 188, y 189, y 190, y 191, y 192, y 193, y 194, y 195, y 196, y 197, y 198, y 199, y 200, y 201, y 202, y 203, y 204, y 205, y 206, y 207, y 208, y 209, y 210, y 211, y 212, y 213, y 214, y 215, y 216, y 217, y 218, y 219, y 220, y 221, y 222, y 223, y 224, y 225, y 226, y 227, y 228, y 229, y 230, y 231, y 232, y 233, y 234, y 235, y 236, y 237, y 238, y 239, y 240, y 241, y 242, y 243, y 244, y 245, y 246, y 247, y 248, y 249, y 250, y 251, y 252, y 253, y 254, y 255, y 256, y 257, y 258, y 259, y 260, y 261, y 262, y 263, y 264, y 265, y 266, y 267, y 268, y 269, y 270, y 271, y 272, y 273, y 274, y 275, y 276, y 277, y 278, y 279, y 280, y 281, y 282, y 283, y 284, y 285, y 286, y 287, y 288, y 289, y 290, y 291, y 292, y 293, y 294, y 295, y 296, y 297, y 298, y 299, y 300, y 301, y 302, y 303, y 304, y 305, y 306, y 307, y 308, y 309, y 310, y 311, y 312, y 313, y 314, y 315, y 316, y 317, y 318, y 319, y 320, y 321, y 322, y 323, y 324, y 325, y 326, y 327, y 328, y 329, y 330, y 331, y 332, y 333, y 334, y 335, y 336, y 337, y 338, y 339, y 340, y 341, y 342, y 343, y 344, y 345, y 346, y 347, y 348, y 349, y 350, y 351, y 352, y 353, y 354, y 355, y 356, y 357, y 358, y 359, y 360, y 361, y 362, y 363, y 364, y 365, y 366, y 367, y 368, y 369, y 370, y 371, y 372, y 373, y 374, y 375, y 376, y 377, y 378, y 379, y 380, y 381, y 382, y 383, y 384, y 385, y 386, y 387, y 388, y 389, y 390, y 391, y 392, y 393, y 394, y 395, y 396, y 397, y 398, y 399, y 400, y 401, y 402, y 403, y 404, y 405, y 406, y 407, y 408, y 409, y 410, y 411, y 412, y 413, y 414, y 415, y 416, y 417, y 418, y 419, y 420, y 421, y 422, y 423, y 424, y 425, y 426, y 427, y 428, y 429, y 430, y 431, y 432, y 433, y 434, y 435, y 436, y 437, y 438, y 439, y 440, y 441, y 442, y 443, y 444, y 445, y 446, y 447, y 448, y 449, y 450, y 451, y 452, y 453, y 454, y 455, y 456, y 457, y 458, y 459, y 460, y 461, y 462, y 463, y 464], defers := [] } := by
  obtain ⟨tmps, defers⟩ := a
  have yd : defers = [] := hd
  subst yd
  obtain ⟨y, hy, hi⟩ := arr_465 tmps hs
  have e2 := (hi 2).trans h2
  have e3 := (hi 3).trans h3
  have e5 := (hi 5).trans h5
  have e6 := (hi 6).trans h6
  have e7 := (hi 7).trans h7
  have e8 := (hi 8).trans h8
  have e11 := (hi 11).trans h11
  have e12 := (hi 12).trans h12
  rw [e2, e3, e5, e6, e7, e8, e11, e12] at hy
  exact ⟨y, congrArg (fun t => (⟨t, []⟩ : Act)) hy⟩
set_option maxRecDepth 40000 in
theorem lt13 {a : Act} {u2 u3 u5 u6 u7 u8 u11 u13 : Value} (hs : a.tmps.size = 465) (hd : a.defers = []) (h2 : a.tmps.getD 2 undef = u2) (h3 : a.tmps.getD 3 undef = u3) (h5 : a.tmps.getD 5 undef = u5) (h6 : a.tmps.getD 6 undef = u6) (h7 : a.tmps.getD 7 undef = u7) (h8 : a.tmps.getD 8 undef = u8) (h11 : a.tmps.getD 11 undef = u11) (h13 : a.tmps.getD 13 undef = u13) : ∃ y : Nat → Value, a = { tmps := #[y 0, y 1, u2, u3, y 4, u5, u6, u7, u8, y 9, y 10, u11, y 12, u13, y 14, y 15, y 16, y 17, y 18, y 19, y 20, y 21, y 22, y 23, y 24, y 25, y 26, y 27, y 28, y 29, y 30, y 31, y 32, y 33, y 34, y 35, y 36, y 37, y 38, y 39, y 40, y 41, y 42, y 43, y 44, y 45, y 46, y 47, y 48, y 49, y 50, y 51, y 52, y 53, y 54, y 55, y 56, y 57, y 58, y 59, y 60, y 61, y 62, y 63, y 64, y 65, y 66, y 67, y 68, y 69, y 70, y 71, y 72, y 73, y 74, y 75, y 76, y 77, y 78, y 79, y 80, y 81, y 82, y 83, y 84, y 85, y 86, y 87, y 88, y 89, y 90, y 91, y 92, y 93, y 94, y 95, y 96, y 97, y 98, y 99, y 100, y 101, y 102, y 103, y 104, y 105, y 106, y 107, y 108, y 109, y 110, y 111, y 112, y 113, y 114, y 115, y 116, y 117, y 118, y 119, y 120, y 121, y 122, y 123, y 124, y 125, y 126, y 127, y 128, y 129, y 130, y 131, y 132, y 133, y 134, y 135, y 136, y 137, y 138, y 139, y 140, y 141, y 142, y 143, y 144, y 145, y 146, y 147, y 148, y 149, y 150, y 151, y 152, y 153, y 154, y 155, y 156, y 157, y 158, y 159, y 160, y 161, y 162, y 163, y 164, y 165, y 166, y 167, y 168, y 169, y 170, y 171, y 172, y 173, y 174, y 175, y 176, y 177, y 178, y 179, y 180, y 181, y 182, y 183, y 184, y 185, y 186, y 187, y 188, y 189, y 190, y 191, y 192, y 193, y 194, y 195, y 196, y 197, y 198, y 199, y 200, y 201, y 202, y 203, y 204, y 205, y 206, y 207, y 208, y 209, y 210, y 211, y 212, y 213, y 214, y 215, y 216, y 217, y 218, y 219, y 220, y 221, y 222, y 223, y 224, y 225, y 226, y 227, y 228, y 229, y 230, y 231, y 232, y 233, y 234, y 235, y 236, y 237, y 238, y 239, y 240, y 241, y 242, y 243, y 244, y 245, y 246, y 247, y 248, y 249, y 250, y 251, y 252, y 253, y 254, y 255, y 256, y 257, y 258, y 259, y 260, y 261, y 262, y 263, y 264, y 265, y 266, y 267, y 268, y 269, y 270, y 271, y 272, y 273, y 274, y 275, y 276, y 277, y 278, y 279, y 280, y 281, y 282, y 283, y 284, y 285, y 286, y 287, y 288, y 289, y 290, y 291, y 292, y 293, y 294, y 295, y 296, y 297, y 298, y 299, y 300, y 301, y 302, y 303, y 304, y 305, y 306, y 307, y 308, y 309, y 310, y 311, y 312, y 313, y 314, y 315, y 316, y 317, y 318, y 319, y 320, y 321, y 322, y 323, y 324, y 325, y 326, y 327, y 328, y 329, y 330, y 331, y 332, y 333, y 334, y 335, y 336, y 337, y 338, y 339, y 340, y 341, y 342, y 343, y 344, y 345, y 346, y 347, y 348, y 349, y 350, y 351, y 352, y 353, y 354, y 355, y 356, y 357, y 358, y 359, y 360, y 361, y 362, y 363, y 364, y 365, y 366, y 367, y 368, y 369, y 370, y 371, y 372, y 373, y 374, y 375, y 376, y 377, y 378, y 379, y 380, y 381, y 382, y 383, y 384, y 385, y 386, y 387, y 388, y 389, y 390, y 391, y 392, y 393, y 394, y 395, y 396, y 397, y 398, y 399, y 400, y 401, y 402, y 403, y 404, y 405, y 406, y 407, y 408, y 409, y 410, y 411, y 412, y 413, y 414, y 415, y 416, y 417, y 418, y 419, y 420, y 421, y 422, y 423, y 424, y 425, y 426, y 427, y 428, y 429, y 430, y 431, y 432, y 433, y 434, y 435, y 436, y 437, y 438, y 439, y 440, y 441, y 442, y 443, y 444, y 445, y 446, y 447, y 448, y 449, y 450, y 451, y 452, y 453, y 454, y 455, y 456, y 457, y 458, y 459, y 460, y 461, y 462, y 463, y 464], defers := [] } := by
  obtain ⟨tmps, defers⟩ := a
  have yd : defers = [] := hd
  subst yd
  obtain ⟨y, hy, hi⟩ := arr_465 tmps hs
  have e2 := (hi 2).trans h2
  have e3 := (hi 3).trans h3
  have e5 := (hi 5).trans h5
  have e6 := (hi 6).trans h6
  have e7 := (hi 7).trans h7
  have e8 := (hi 8).trans h8
  have e11 := (hi 11).trans h11
  have e13 := (hi 13).trans h13
  rw [e2, e3, e5, e6, e7, e8, e11, e13] at hy
  exact ⟨y, congrArg (fun t => (⟨t, []⟩ : Act)) hy⟩
set_option maxRecDepth 40000 in
theorem lt14 {a : Act} {u2 u3 u5 u6 u7 u8 u11 u13 u14 : Value} (hs : a.tmps.size = 465) (hd : a.defers = []) (h2 : a.tmps.getD 2 undef = u2) (h3 : a.tmps.getD 3 undef = u3) (h5 : a.tmps.getD 5 undef = u5) (h6 : a.tmps.getD 6 undef = u6) (h7 : a.tmps.getD 7 undef = u7) (h8 : a.tmps.getD 8 undef = u8) (h11 : a.tmps.getD 11 undef = u11) (h13 : a.tmps.getD 13 undef = u13) (h14 : a.tmps.getD 14 undef = u14) : ∃ y : Nat → Value, a = { tmps := #[y 0, y 1, u2, u3, y 4, u5, u6, u7, u8, y 9, y 10, u11, y 12, u13, u14, y 15, y 16, y 17, y 18, y 19, y 20, y 21, y 22, y 23, y 24, y 25, y 26, y 27, y 28, y 29, y 30, y 31, y 32, y 33, y 34, y 35, y 36, y 37, y 38, y 39, y 40, y 41, y 42, y 43, y 44, y 45, y 46, y 47, y 48, y 49, y 50, y 51, y 52, y 53, y 54, y 55, y 56, y 57, y 58, y 59, y 60, y 61, y 62, y 63, y 64, y 65, y 66, y 67, y 68, y 69, y 70, y 71, y 72, y 73, y 74, y 75, y 76, y 77, y 78, y 79, y 80, y 81, y 82, y 83, y 84, y 85, y 86, y 87, y 88, y 89, y 90, y 91, y 92, y 93, y 94, y 95, y 96, y 97, y 98, y 99, y 100, y 101, y 102, y 103, y 104, y 105, y 106, y 107, y 108, y 109, y 110, y 111, y 112, y 113, y 114, y 115, y 116, y 117, y 118, y 119, y 120, y 121, y 122, y 123, y 124, y 125, y 126, y 127, y 128, y 129, y 130, y 131, y 132, y 133, y 134, y 135, y 136, y 137, y 138, y 139, y 140, y 141, y 142, y 143, y 144, y 145, y 146, y 147, y 148, y 149, y 150, y 151, y 152, y 153, y 154, y 155, y 156, y 157, y 158, y 159, y 160, y 161, y 162, y 163, y 164, y 165, y 166, y 167, y 168, y 169, y 170, y 171, y 172, y 173, y 174, y 175, y 176, y 177, y 178, y 179, y 180, y 181, y 182, y 183, y 184, y 185, y 186, y 187, y 188, y 189, y 190, y 191, y 192, y 193, y 194, y 195, y 196, y 197, y 198, y 199, y 200, y 201, y 202, y 203, y 204, y 205, y 206, y 207, y 208, y 209, y 210, y 211, y 212, y 213, y 214, y 215, y 216, y 217, y 218, y 219, y 220, y 221, y 222, y 223, y 224, y 225, y 226, y 227, y 228, y 229, y 230, y 231, y 232, y 233, y 234, y 235, y 236, y 237, y 238, y 239, y 240, y 241, y 242, y 243, y 244, y 245, y 246, y 247, y 248, y 249, y 250, y 251, y 252, y 253, y 254, y 255, y 256, y 257, y 258, y 259, y 260, y 261, y 262, y 263, y 264, y 265, y 266, y 267, y 268, y 269, y 270, y 271, y 272, y 273, y 274, y 275, y 276, y 277, y 278, y 279, y 280, y 281, y 282, y 283, y 284, y 285, y 286, y 287, y 288, y 289, y 290, y 291, y 292, y 293, y 294, y 295, y 296, y 297, y 298, y 299, y 300, y 301, y 302, y 303, y 304, y 305, y 306, y 307, y 308, y 309, y 310, y 311, y 312, y 313, y 314, y 315, y 316, y 317, y 318, y 319, y 320, y 321, y 322, y 323, y 324, y 325, y 326, y 327, y 328, y 329, y 330, y 331, y 332, y 333, y 334, y 335, y 336, y 337, y 338, y 339, y 340, y 341, y 342, y 343, y 344, y 345, y 346, y 347, y 348, y 349, y 350, y 351, y 352, y 353, y 354, y 355, y 356, y 357, y 358, y 359, y 360, y 361, y 362, y 363, y 364, y 365, y 366, y 367, y 368, y 369, y 370, y 371, y 372, y 373, y 374, y 375, y 376, y 377, y 378, y 379, y 380, y 381, y 382, y 383, y 384, y 385, y 386, y 387, y 388, y 389, y 390, y 391, y 392, y 393, y 394, y 395, y 396, y 397, y 398, y 399, y 400, y 401, y 402, y 403, y 404, y 405, y 406, y 407, y 408, y 409, y 410, y 411, y 412, y 413, y 414, y 415, y 416, y 417, y 418, y 419, y 420, y 421, y 422, y 423, y 424, y 425, y 426, y 427, y 428, y 429, y 430, y 431, y 432, y 433, y 434, y 435, y 436, y 437, y 438, y 439, y 440, y 441, y 442, y 443, y 444, y 445, y 446, y 447, y 448, y 449, y 450, y 451, y 452, y 453, y 454, y 455, y 456, y 457, y 458, y 459, y 460, y 461, y 462, y 463, y 464], defers := [] } := by
  obtain ⟨tmps, defers⟩ := a
  have yd : defers = [] := hd
  subst yd
  obtain ⟨y, hy, hi⟩ := arr_465 tmps hs
  have e2 := (hi 2).trans h2
  have e3 := (hi 3).trans h3
  have e5 := (hi 5).trans h5
  have e6 := (hi 6).trans h6
  have e7 := (hi 7).trans h7
  have e8 := (hi 8).trans h8
  have e11 := (hi 11).trans h11
  have e13 := (hi 13).trans h13
  have e14 := (hi 14).trans h14
  rw [e2, e3, e5, e6, e7, e8, e11, e13, e14] at hy
  exact ⟨y, congrArg (fun t => (⟨t, []⟩ : Act)) hy⟩

set_option maxRecDepth 40000 in
set_option maxHeartbeats 8000000 in
/-- Region 21. -/
theorem mt_3a (wb : World) (gM gW : Nat) (X : MD) (P : PS) (g2 : Nat) (hin : MtIn wb gM gW X P) (hm : Meet X P) (wr : World) (hI : T1 wb P g2 P.nS wr) (a : Act) (hf : FT gM gW X.E P.nS P.nC a) (h8 : a.tmps.getD 8 undef = .slice (some ⟨g2, 0, none⟩) P.nC P.nC) (tail : Code) (Z : Ending → World → Prop)
    (hT : ∀ (a : Act) (w' : World) (g3 : Nat), FT gM gW X.E P.nS P.nC a → a.tmps.getD 8 undef = .slice (some ⟨g2, 0, none⟩) P.nC P.nC → a.tmps.getD 11 undef = .slice (some ⟨g3, 0, none⟩) X.nc X.nc → T3 wb X P g2 g3 (fun _ => 0) w' → Code.wp Try.prog tail (bodyPost Try.prog Try.f12 fun e w' => Z e w') a w') :
    Code.wp Try.prog (rt 1 (tl 9 (Try.f12.body.getD .skip)) tail) (bodyPost Try.prog Try.f12 fun e w' => Z e w') a wr := by
  obtain ⟨y, rfl⟩ := lt8 hf.sz hf.df hf.s2 hf.s3 hf.s5 hf.s6 hf.s7 h8
  obtain ⟨hE, hn, hS, hCC, hnc⟩ := hin.sm
  have HIN : Hid (MtIn wb gM gW X P) := hin
  have HM : Hid (Meet X P) := hm
  obtain ⟨i3, hi3, hz30, hz31, hz32⟩ := info_parts Try.info3
  obtain ⟨mq, hmq, hfmq⟩ := make_fun (P := Try.prog) 26 3 i3 (.int .i64 0) 1 8 (.int .i64 0) Try.underlying26 hi3 hz30 hz31 hz32 rfl (by decide) zero1 X.nc (by omega) (by omega)
  have HTL : Hid (∀ (a : Act) (w' : World) (g3 : Nat), FT gM gW X.E P.nS P.nC a → a.tmps.getD 8 undef = .slice (some ⟨g2, 0, none⟩) P.nC P.nC → a.tmps.getD 11 undef = .slice (some ⟨g3, 0, none⟩) X.nc X.nc → T3 wb X P g2 g3 (fun _ => 0) w' → Code.wp Try.prog tail (bodyPost Try.prog Try.f12 fun e w' => Z e w') a w') := hT
  have fin : Hid (T3 wb X P g2 wr.heap.size (fun _ => 0) (mq wr)) := by
    obtain ⟨D, h1, h2⟩ := hI
    exact ⟨_, h1.fresh (r := 3) rfl (hfmq _), h2.put_ne (by omega), Roi.new _ 3 _ _ (fun _ => 0)⟩
  obtain ⟨D, hG⟩ := hI.grew
  have x5 := hG.cell hin.m5
  clear hin hm hT hfmq hi3 hz30 hz31 hz32 hf h8 hI hG
  simp only [rt, tl, Try.f12, Option.getD]
  go_wp2
  exact HTL.out _ _ _ ⟨by kernel_rfl, by kernel_rfl, by kernel_rfl, by kernel_rfl, by kernel_rfl, by kernel_rfl, by kernel_rfl⟩ (by kernel_rfl) (by kernel_rfl) fin.out

set_option maxRecDepth 40000 in
set_option maxHeartbeats 8000000 in
/-- The classes' table is open. -/
theorem mt_3 (wb : World) (gM gW : Nat) (X : MD) (P : PS) (g2 g3 : Nat) (hin : MtIn wb gM gW X P) (hm : Meet X P) (wr : World) (tc0 : Nat → Int) (hI : T3 wb X P g2 g3 tc0 wr) (a : Act) (hf : FT gM gW X.E P.nS P.nC a) (h8 : a.tmps.getD 8 undef = .slice (some ⟨g2, 0, none⟩) P.nC P.nC) (h11 : a.tmps.getD 11 undef = .slice (some ⟨g3, 0, none⟩) X.nc X.nc) (Q : Exit → Act → World → Prop)
    (hC : ∀ (a : Act) (w : World), FT gM gW X.E P.nS P.nC a → a.tmps.getD 8 undef = .slice (some ⟨g2, 0, none⟩) P.nC P.nC → a.tmps.getD 11 undef = .slice (some ⟨g3, 0, none⟩) X.nc X.nc → T3 wb X P g2 g3 (fun _ => -1) w → Q .normal a w) :
    Code.wp Try.prog (sL (tl 10 (Try.f12.body.getD .skip))) Q a wr := by
  obtain ⟨y, rfl⟩ := lt11 hf.sz hf.df hf.s2 hf.s3 hf.s5 hf.s6 hf.s7 h8 h11
  obtain ⟨hE, hn, hS, hCC, hnc⟩ := hin.sm
  have HIN : Hid (MtIn wb gM gW X P) := hin
  have HM : Hid (Meet X P) := hm
  have HI : Hid (T3 wb X P g2 g3 tc0 wr) := hI
  have HC : Hid (∀ (a : Act) (w : World), FT gM gW X.E P.nS P.nC a → a.tmps.getD 8 undef = .slice (some ⟨g2, 0, none⟩) P.nC P.nC → a.tmps.getD 11 undef = .slice (some ⟨g3, 0, none⟩) X.nc X.nc → T3 wb X P g2 g3 (fun _ => -1) w → Q .normal a w) := hC
  clear hf hC hI hin hm h8 h11
  show Code.wp Try.prog (Code.seq _ (Code.block 2 (Code.loop (Code.seq (Code.seq _ (Code.cond (.tmp 118) Code.skip (Code.exit 2))) (Code.seq (Code.block 3 _) _))))) Q _ wr
  refine wp_seq_k (fun K1 hK => ?_)
  have HK1 : Hid (∀ (a : Act) (w : World), _ → K1 a w) := hK
  clear hK
  go_wp2
  refine HK1.out _ _ ?_
  clear HK1 K1
  refine wp_block ?_
  refine wp_loop (L2I wb gM gW X P g2 g3) (fun a _ => mus 12 X.nc a) ⟨⟨by kernel_rfl, by kernel_rfl, by kernel_rfl, by kernel_rfl, by kernel_rfl, by kernel_rfl, by kernel_rfl⟩, by kernel_rfl, by kernel_rfl, 0, tc0, by kernel_rfl, Nat.zero_le _, HI.out, fun j h => absurd h (Nat.not_lt_zero _)⟩ ?_
  clear HI y
  rintro a w' ⟨hf, h8, h11, k, tc, h12, k1, hI, hj⟩
  have e12 : mus 12 X.nc a = X.nc - k := congrArg (fun v => X.nc - (intOf v).toNat) h12
  obtain ⟨y2, rfl⟩ := lt12 hf.sz hf.df hf.s2 hf.s3 hf.s5 hf.s6 hf.s7 h8 h11 h12
  rw [e12]
  clear e12 hf h8 h11 h12
  obtain ⟨D, h1, h2, h3⟩ := hI
  have x5 := h1.grew.cell HIN.out.m5
  refine wp_seq_k (fun K1 hK => ?_)
  have HK1 : Hid (∀ (a : Act) (w : World), _ → K1 a w) := hK
  clear hK
  refine wp_seq_k (fun K2 hK => ?_)
  have HK2 : Hid (∀ (a : Act) (w : World), _ → K2 a w) := hK
  clear hK
  by_cases hk : k < X.nc
  · have hkk : (k : Int) < (X.nc : Int) := by omega
    have z1 := h3.cell h1 rfl hk
    have z2 := h3.frozen h1 k
    have fin : Hid (∃ tc, T3 wb X P g2 g3 tc (w'.setCell ⟨g3, k, none⟩ (.int .i64 (-1))) ∧ ∀ j, j < k + 1 → tc j = -1) := by
      refine ⟨_, ⟨_, h1.set h3.1 k _, h2.set_ne (by omega), h3.set k (-1)⟩, fun j hjl => ?_⟩
      by_cases e : j = k
      · subst e; rw [upd_same]
      · rw [upd_other _ _ e]; exact hj j (by omega)
    clear h1 h2 h3 hj
    generalize tc k = c0 at *
    go_wp2
    refine HK2.out _ _ (wp_cond_true (by kernel_rfl) (wp_skip ?_))
    refine HK1.out _ _ ?_
    clear HK1 K1 HK2 K2
    refine wp_seq_k (fun K1 hK => ?_)
    have HK1 : Hid (∀ (a : Act) (w : World), _ → K1 a w) := hK
    clear hK
    refine wp_block ?_
    go_wp2
    refine HK1.out _ _ ?_
    clear HK1 K1 z1 z2 x5
    generalize w'.setCell ⟨g3, k, none⟩ (.int .i64 (-1)) = wv at *
    go_wp2
    obtain ⟨tc', f1, f2⟩ := fin.out
    exact ⟨⟨⟨by kernel_rfl, by kernel_rfl, by kernel_rfl, by kernel_rfl, by kernel_rfl, by kernel_rfl, by kernel_rfl⟩, by kernel_rfl, by kernel_rfl, k + 1, tc', by kernel_rfl, by omega, f1, f2⟩, Nat.lt_of_le_of_lt (Nat.le_of_eq (by kernel_rfl : _ = X.nc - (k + 1))) (by omega)⟩
  · have hkk : ¬ (k : Int) < (X.nc : Int) := by omega
    obtain rfl : k = X.nc := by omega
    have fin : Hid (T3 wb X P g2 g3 (fun _ => -1) w') := ⟨D, h1, h2, h3.congr hj⟩
    clear h1 h2 h3 hj
    go_wp2
    refine HK2.out _ _ (wp_cond_false (by kernel_rfl) (wp_exit ?_))
    exact HC.out _ _ ⟨by kernel_rfl, by kernel_rfl, by kernel_rfl, by kernel_rfl, by kernel_rfl, by kernel_rfl, by kernel_rfl⟩ (by kernel_rfl) (by kernel_rfl) fin.out

/-- ... with the table of components. -/
def T4 (wb : World) (X : MD) (P : PS) (g2 g3 g4 : Nat) (tk : Nat → Int) (w : World) : Prop := ∃ D, MM wb D w ∧ Roi D 2 g2 P.nC (icn P P.nS) ∧ Roi D 3 g3 X.nc (fun _ => -1) ∧ Roi D 4 g4 P.nC tk
def L3I (wb : World) (gM gW : Nat) (X : MD) (P : PS) (g2 g3 g4 : Nat) (a : Act) (w : World) : Prop :=
  FT gM gW X.E P.nS P.nC a ∧ a.tmps.getD 8 undef = .slice (some ⟨g2, 0, none⟩) P.nC P.nC ∧ a.tmps.getD 11 undef = .slice (some ⟨g3, 0, none⟩) X.nc X.nc ∧ a.tmps.getD 13 undef = .slice (some ⟨g4, 0, none⟩) P.nC P.nC ∧ ∃ (k : Nat) (tk : Nat → Int), a.tmps.getD 14 undef = .int .i64 (k : Int) ∧ k ≤ P.nC ∧ T4 wb X P g2 g3 g4 tk w ∧ ∀ j, j < k → tk j = -1
set_option maxRecDepth 40000 in
set_option maxHeartbeats 8000000 in
/-- Region 26. -/
theorem mt_4a (wb : World) (gM gW : Nat) (X : MD) (P : PS) (g2 g3 : Nat) (hin : MtIn wb gM gW X P) (hm : Meet X P) (wr : World) (hI : T3 wb X P g2 g3 (fun _ => -1) wr) (a : Act) (hf : FT gM gW X.E P.nS P.nC a) (h8 : a.tmps.getD 8 undef = .slice (some ⟨g2, 0, none⟩) P.nC P.nC) (h11 : a.tmps.getD 11 undef = .slice (some ⟨g3, 0, none⟩) X.nc X.nc) (tail : Code) (Z : Ending → World → Prop)
    (hT : ∀ (a : Act) (w' : World) (g4 : Nat), FT gM gW X.E P.nS P.nC a → a.tmps.getD 8 undef = .slice (some ⟨g2, 0, none⟩) P.nC P.nC → a.tmps.getD 11 undef = .slice (some ⟨g3, 0, none⟩) X.nc X.nc → a.tmps.getD 13 undef = .slice (some ⟨g4, 0, none⟩) P.nC P.nC → T4 wb X P g2 g3 g4 (fun _ => 0) w' → Code.wp Try.prog tail (bodyPost Try.prog Try.f12 fun e w' => Z e w') a w') :
    Code.wp Try.prog (rt 1 (tl 11 (Try.f12.body.getD .skip)) tail) (bodyPost Try.prog Try.f12 fun e w' => Z e w') a wr := by
  obtain ⟨y, rfl⟩ := lt11 hf.sz hf.df hf.s2 hf.s3 hf.s5 hf.s6 hf.s7 h8 h11
  obtain ⟨hE, hn, hS, hCC, hnc⟩ := hin.sm
  have HIN : Hid (MtIn wb gM gW X P) := hin
  have HM : Hid (Meet X P) := hm
  obtain ⟨i3, hi3, hz30, hz31, hz32⟩ := info_parts Try.info3
  obtain ⟨mq, hmq, hfmq⟩ := make_fun (P := Try.prog) 26 3 i3 (.int .i64 0) 1 8 (.int .i64 0) Try.underlying26 hi3 hz30 hz31 hz32 rfl (by decide) zero1 P.nC (by omega) (by omega)
  have HTL : Hid (∀ (a : Act) (w' : World) (g4 : Nat), FT gM gW X.E P.nS P.nC a → a.tmps.getD 8 undef = .slice (some ⟨g2, 0, none⟩) P.nC P.nC → a.tmps.getD 11 undef = .slice (some ⟨g3, 0, none⟩) X.nc X.nc → a.tmps.getD 13 undef = .slice (some ⟨g4, 0, none⟩) P.nC P.nC → T4 wb X P g2 g3 g4 (fun _ => 0) w' → Code.wp Try.prog tail (bodyPost Try.prog Try.f12 fun e w' => Z e w') a w') := hT
  have fin : Hid (T4 wb X P g2 g3 wr.heap.size (fun _ => 0) (mq wr)) := by
    obtain ⟨D, h1, h2, h3⟩ := hI
    exact ⟨_, h1.fresh (r := 4) rfl (hfmq _), h2.put_ne (by omega), h3.put_ne (by omega), Roi.new _ 4 _ _ (fun _ => 0)⟩
  clear hin hm hT hfmq hi3 hz30 hz31 hz32 hf h8 h11 hI
  simp only [rt, tl, Try.f12, Option.getD]
  go_wp2
  exact HTL.out _ _ _ ⟨by kernel_rfl, by kernel_rfl, by kernel_rfl, by kernel_rfl, by kernel_rfl, by kernel_rfl, by kernel_rfl⟩ (by kernel_rfl) (by kernel_rfl) (by kernel_rfl) fin.out

set_option maxRecDepth 40000 in
set_option maxHeartbeats 8000000 in
/-- The components' table is open. -/
theorem mt_4 (wb : World) (gM gW : Nat) (X : MD) (P : PS) (g2 g3 g4 : Nat) (hin : MtIn wb gM gW X P) (hm : Meet X P) (wr : World) (tk0 : Nat → Int) (hI : T4 wb X P g2 g3 g4 tk0 wr) (a : Act) (hf : FT gM gW X.E P.nS P.nC a) (h8 : a.tmps.getD 8 undef = .slice (some ⟨g2, 0, none⟩) P.nC P.nC) (h11 : a.tmps.getD 11 undef = .slice (some ⟨g3, 0, none⟩) X.nc X.nc) (h13 : a.tmps.getD 13 undef = .slice (some ⟨g4, 0, none⟩) P.nC P.nC) (Q : Exit → Act → World → Prop)
    (hC : ∀ (a : Act) (w : World), FT gM gW X.E P.nS P.nC a → a.tmps.getD 8 undef = .slice (some ⟨g2, 0, none⟩) P.nC P.nC → a.tmps.getD 11 undef = .slice (some ⟨g3, 0, none⟩) X.nc X.nc → a.tmps.getD 13 undef = .slice (some ⟨g4, 0, none⟩) P.nC P.nC → T4 wb X P g2 g3 g4 (fun _ => -1) w → Q .normal a w) :
    Code.wp Try.prog (sL (tl 12 (Try.f12.body.getD .skip))) Q a wr := by
  obtain ⟨y, rfl⟩ := lt13 hf.sz hf.df hf.s2 hf.s3 hf.s5 hf.s6 hf.s7 h8 h11 h13
  obtain ⟨hE, hn, hS, hCC, hnc⟩ := hin.sm
  have HIN : Hid (MtIn wb gM gW X P) := hin
  have HM : Hid (Meet X P) := hm
  have HI : Hid (T4 wb X P g2 g3 g4 tk0 wr) := hI
  have HC : Hid (∀ (a : Act) (w : World), FT gM gW X.E P.nS P.nC a → a.tmps.getD 8 undef = .slice (some ⟨g2, 0, none⟩) P.nC P.nC → a.tmps.getD 11 undef = .slice (some ⟨g3, 0, none⟩) X.nc X.nc → a.tmps.getD 13 undef = .slice (some ⟨g4, 0, none⟩) P.nC P.nC → T4 wb X P g2 g3 g4 (fun _ => -1) w → Q .normal a w) := hC
  clear hf hC hI hin hm h8 h11 h13
  show Code.wp Try.prog (Code.seq _ (Code.block 4 (Code.loop (Code.seq (Code.seq _ (Code.cond (.tmp 128) Code.skip (Code.exit 4))) (Code.seq (Code.block 5 _) _))))) Q _ wr
  refine wp_seq_k (fun K1 hK => ?_)
  have HK1 : Hid (∀ (a : Act) (w : World), _ → K1 a w) := hK
  clear hK
  go_wp2
  refine HK1.out _ _ ?_
  clear HK1 K1
  refine wp_block ?_
  refine wp_loop (L3I wb gM gW X P g2 g3 g4) (fun a _ => mus 14 P.nC a) ⟨⟨by kernel_rfl, by kernel_rfl, by kernel_rfl, by kernel_rfl, by kernel_rfl, by kernel_rfl, by kernel_rfl⟩, by kernel_rfl, by kernel_rfl, by kernel_rfl, 0, tk0, by kernel_rfl, Nat.zero_le _, HI.out, fun j h => absurd h (Nat.not_lt_zero _)⟩ ?_
  clear HI y
  rintro a w' ⟨hf, h8, h11, h13, k, tc, h14, k1, hI, hj⟩
  have e14 : mus 14 P.nC a = P.nC - k := congrArg (fun v => P.nC - (intOf v).toNat) h14
  obtain ⟨y2, rfl⟩ := lt14 hf.sz hf.df hf.s2 hf.s3 hf.s5 hf.s6 hf.s7 h8 h11 h13 h14
  rw [e14]
  clear e14 hf h8 h11 h13 h14
  obtain ⟨D, h1, h2, h3, h4⟩ := hI
  refine wp_seq_k (fun K1 hK => ?_)
  have HK1 : Hid (∀ (a : Act) (w : World), _ → K1 a w) := hK
  clear hK
  refine wp_seq_k (fun K2 hK => ?_)
  have HK2 : Hid (∀ (a : Act) (w : World), _ → K2 a w) := hK
  clear hK
  by_cases hk : k < P.nC
  · have hkk : (k : Int) < (P.nC : Int) := by omega
    have z1 := h4.cell h1 rfl hk
    have z2 := h4.frozen h1 k
    have fin : Hid (∃ tc, T4 wb X P g2 g3 g4 tc (w'.setCell ⟨g4, k, none⟩ (.int .i64 (-1))) ∧ ∀ j, j < k + 1 → tc j = -1) := by
      refine ⟨_, ⟨_, h1.set h4.1 k _, h2.set_ne (by omega), h3.set_ne (by omega), h4.set k (-1)⟩, fun j hjl => ?_⟩
      by_cases e : j = k
      · subst e; rw [upd_same]
      · rw [upd_other _ _ e]; exact hj j (by omega)
    clear h1 h2 h3 h4 hj
    generalize tc k = c0 at *
    go_wp2
    refine HK2.out _ _ (wp_cond_true (by kernel_rfl) (wp_skip ?_))
    refine HK1.out _ _ ?_
    clear HK1 K1 HK2 K2
    refine wp_seq_k (fun K1 hK => ?_)
    have HK1 : Hid (∀ (a : Act) (w : World), _ → K1 a w) := hK
    clear hK
    refine wp_block ?_
    go_wp2
    refine HK1.out _ _ ?_
    clear HK1 K1 z1 z2
    generalize w'.setCell ⟨g4, k, none⟩ (.int .i64 (-1)) = wv at *
    go_wp2
    obtain ⟨tc', f1, f2⟩ := fin.out
    exact ⟨⟨⟨by kernel_rfl, by kernel_rfl, by kernel_rfl, by kernel_rfl, by kernel_rfl, by kernel_rfl, by kernel_rfl⟩, by kernel_rfl, by kernel_rfl, by kernel_rfl, k + 1, tc', by kernel_rfl, by omega, f1, f2⟩, Nat.lt_of_le_of_lt (Nat.le_of_eq (by kernel_rfl : _ = P.nC - (k + 1))) (by omega)⟩
  · have hkk : ¬ (k : Int) < (P.nC : Int) := by omega
    obtain rfl : k = P.nC := by omega
    have fin : Hid (T4 wb X P g2 g3 g4 (fun _ => -1) w') := ⟨D, h1, h2, h3, h4.congr hj⟩
    clear h1 h2 h3 h4 hj
    go_wp2
    refine HK2.out _ _ (wp_cond_false (by kernel_rfl) (wp_exit ?_))
    exact HC.out _ _ ⟨by kernel_rfl, by kernel_rfl, by kernel_rfl, by kernel_rfl, by kernel_rfl, by kernel_rfl, by kernel_rfl⟩ (by kernel_rfl) (by kernel_rfl) (by kernel_rfl) fin.out

/-- How many of the edges before e are in component c. -/
def ecn (X : MD) (P : PS) (e c : Nat) : Int := ((cnt (X.inc P c) e : Nat) : Int)
/-- The first pass over the edges. -/
def T5 (wb : World) (X : MD) (P : PS) (g2 g3 g4 g5 g6 e : Nat) (w : World) : Prop := ∃ D tc tk td, MM wb D w ∧ Roi D 2 g2 P.nC (icn P P.nS) ∧ Roi D 3 g3 X.nc tc ∧ Roi D 4 g4 P.nC tk ∧ Roi D 5 g5 P.nC (ecn X P e) ∧ Rob D 6 g6 P.nS td ∧ MtE X P e tc tk td
structure FU (gM gW E nS nC nc g2 g3 g4 g5 g6 : Nat) (a : Act) : Prop where
  ft : FT gM gW E nS nC a
  s8 : a.tmps.getD 8 undef = .slice (some ⟨g2, 0, none⟩) nC nC
  s11 : a.tmps.getD 11 undef = .slice (some ⟨g3, 0, none⟩) nc nc
  s13 : a.tmps.getD 13 undef = .slice (some ⟨g4, 0, none⟩) nC nC
  s15 : a.tmps.getD 15 undef = .slice (some ⟨g5, 0, none⟩) nC nC
  s16 : a.tmps.getD 16 undef = .slice (some ⟨g6, 0, none⟩) nS nS
set_option maxRecDepth 40000 in
set_option maxHeartbeats 8000000 in
/-- Regions 31 and 32. -/
theorem mt_5a (wb : World) (gM gW : Nat) (X : MD) (P : PS) (g2 g3 g4 : Nat) (hin : MtIn wb gM gW X P) (hm : Meet X P) (wr : World) (hI : T4 wb X P g2 g3 g4 (fun _ => -1) wr) (a : Act) (hf : FT gM gW X.E P.nS P.nC a) (h8 : a.tmps.getD 8 undef = .slice (some ⟨g2, 0, none⟩) P.nC P.nC) (h11 : a.tmps.getD 11 undef = .slice (some ⟨g3, 0, none⟩) X.nc X.nc) (h13 : a.tmps.getD 13 undef = .slice (some ⟨g4, 0, none⟩) P.nC P.nC) (tail : Code) (Z : Ending → World → Prop)
    (hT : ∀ (a : Act) (w' : World) (g5 g6 : Nat), FU gM gW X.E P.nS P.nC X.nc g2 g3 g4 g5 g6 a → T5 wb X P g2 g3 g4 g5 g6 0 w' → Code.wp Try.prog tail (bodyPost Try.prog Try.f12 fun e w' => Z e w') a w') :
    Code.wp Try.prog (rt 2 (tl 13 (Try.f12.body.getD .skip)) tail) (bodyPost Try.prog Try.f12 fun e w' => Z e w') a wr := by
  obtain ⟨y, rfl⟩ := lt13 hf.sz hf.df hf.s2 hf.s3 hf.s5 hf.s6 hf.s7 h8 h11 h13
  obtain ⟨hE, hn, hS, hCC, hnc⟩ := hin.sm
  have HIN : Hid (MtIn wb gM gW X P) := hin
  have HM : Hid (Meet X P) := hm
  obtain ⟨i3, hi3, hz30, hz31, hz32⟩ := info_parts Try.info3
  obtain ⟨i4, hi4, hz40, hz41, hz42⟩ := info_parts Try.info4
  obtain ⟨mq, hmq, hfmq⟩ := make_fun (P := Try.prog) 26 3 i3 (.int .i64 0) 1 8 (.int .i64 0) Try.underlying26 hi3 hz30 hz31 hz32 rfl (by decide) zero1 P.nC (by omega) (by omega)
  obtain ⟨mb, hmb, hfmb⟩ := make_fun (P := Try.prog) 27 4 i4 (.bool false) 1 1 (.bool false) Try.underlying27 hi4 hz40 hz41 hz42 rfl (by decide) zeroB P.nS (by omega) (by omega)
  have HTL : Hid (∀ (a : Act) (w' : World) (g5 g6 : Nat), FU gM gW X.E P.nS P.nC X.nc g2 g3 g4 g5 g6 a → T5 wb X P g2 g3 g4 g5 g6 0 w' → Code.wp Try.prog tail (bodyPost Try.prog Try.f12 fun e w' => Z e w') a w') := hT
  have fin : Hid (T5 wb X P g2 g3 g4 wr.heap.size (mq wr).heap.size 0 (mb (mq wr))) := by
    obtain ⟨D, h1, h2, h3, h4⟩ := hI
    exact ⟨_, _, _, _, (h1.fresh (r := 5) rfl (hfmq _)).fresh (r := 6) rfl (hfmb _), (h2.put_ne (by omega)).put_ne (by omega), (h3.put_ne (by omega)).put_ne (by omega), (h4.put_ne (by omega)).put_ne (by omega), (Roi.new _ 5 _ _ (fun _ => 0)).put_ne (by omega), Rob.new _ 6 _ _ (fun _ => false), MtE.start X P⟩
  clear hin hm hT hfmq hfmb hi3 hz30 hz31 hz32 hi4 hz40 hz41 hz42 hf h8 h11 h13 hI
  simp only [rt, tl, Try.f12, Option.getD]
  go_wp2
  exact HTL.out _ _ wr.heap.size (mq wr).heap.size ⟨⟨by kernel_rfl, by kernel_rfl, by kernel_rfl, by kernel_rfl, by kernel_rfl, by kernel_rfl, by kernel_rfl⟩, by kernel_rfl, by kernel_rfl, by kernel_rfl, by kernel_rfl, by kernel_rfl⟩ fin.out
end Go.Proofs.Qxb6602148a
