/-
  'zzBuildModel': its memory; the first loops.
-/
import Derived.Test.Qxb6602148aUf
attribute [local go_sem] Go.Proofs.Qxb6602148a.yTo Go.Proofs.Qxb6602148a.yUpon
namespace Go.Proofs.Qxb6602148a
open Go.RowKit
set_option linter.unusedVariables false
set_option linter.unusedSimpArgs false

/-- Rows: 0 src, 1 dst, 2 onCycle, 3 class, 4 reach, 5 queue, 6 groupOf, 7 classes, 8 parent, 9 stamp, 10 where, 11 refined, 14 the model, 15 the result, 16 + i the i-th list. -/
def KD (i : Nat) : TypeId × Nat := if i = 2 ∨ i = 4 then (4, 1) else if i = 7 ∨ i = 11 then (26, 1) else if i = 14 ∨ i = 15 then (29, 6) else (3, 1)
theorem Try.info29 : (Try.prog.info? 29).map (fun i => (i.zero, i.size, i.bytes)) = some (some (.agg #[.int .i64 0, .slice none 0 0, .slice none 0 0, .slice none 0 0, .slice none 0 0, .int .i64 0]), 6, 112) := by kernel_rfl
theorem Try.info4 : (Try.prog.info? 4).map (fun i => (i.zero, i.size, i.bytes)) = some (some (.bool false), 1, 1) := by kernel_rfl
theorem zeroB : ∀ j, j < 1 → (Value.bool false).cells[j]! = .bool false := by
  intro j hj
  have : j = 0 := by omega
  subst this
  rfl
def Bools (M : Fam) (i n : Nat) (f : Nat → Bool) : Prop := M.n i = n ∧ ∀ j, j < n → M.F i j = .bool (f j)

/-- The model's fields. -/
def mfl (n : Nat) (v1 v2 v3 v4 : Value) (k : Int) : Nat → Value := fun j => if j = 0 then .int .i64 (n : Int) else if j = 1 then v1 else if j = 2 then v2 else if j = 3 then v3 else if j = 4 then v4 else .int .i64 k
def zfl : Nat → Value := fun j => if j = 0 then .int .i64 0 else if j < 5 then .slice none 0 0 else .int .i64 0

structure FM (a0 : Option Addr) (n k0 ga gm : Nat) (a : Act) : Prop where
  sz : a.tmps.size = 451
  df : a.defers = []
  s0 : a.tmps.getD 0 undef = .slice a0 n k0
  s2 : a.tmps.getD 2 undef = .pointer (some ⟨ga, 0, none⟩)
  s3 : a.tmps.getD 3 undef = .int .i64 (n : Int)
  s4 : a.tmps.getD 4 undef = .pointer (some ⟨gm, 0, none⟩)
set_option maxRecDepth 40000 in
theorem arr_451 (arr : Array Value) (h : arr.size = 451) : ∃ y : Nat → Value, arr = #[y 0, y 1, y 2, y 3, y 4, y 5, y 6, y 7, y 8, y 9, y 10, y 11, y 12, y 13, y 14, y 15, y 16, y 17, y 18, y 19, y 20, y 21, y 22, y 23, y 24, y 25, y 26, y 27, y 28, y 29, y 30, y 31, y 32, y 33, y 34, y 35, y 36, y 37, y 38, y 39, y 40, y 41, y 42, y 43, y 44, y 45, y 46, y 47, y 48, y 49, y 50, y 51, y 52, y 53, y 54, y 55, y 56, y 57, y 58, y 59, y 60, y 61, y 62, y 63, y 64, y 65, y 66, y 67, y 68, y 69, y 70, y 71, y 72, y 73, y 74, y 75, y 76, y 77, y 78, y 79, y 80, y 81, y 82, y 83, y 84, y 85, y 86, y 87, y 88, y 89, y 90, y 91, y 92, y 93, y 94, y 95, y 96, y 97, y 98, y 99, y 100, y 101, y 102, y 103, y 104, y 105, y 106, y 107, y 108, y 109, y 110, y 111, y 112, y 113, y 114, y 115, y 116, y 117, y 118, y 119, y 120, y 121, y 122, y 123, y 124, y 125, y 126, y 127, y 128, y 129, y 130, y 131, y 132, y 133, y 134, y 135, y 136, y 137, y 138, y 139, y 140, y 141, y 142, y 143, y 144, y 145, y 146, y 147, y 148, y 149, y 150, y 151, y 152, y 153, y 154, y 155, y 156, y 157, y 158, y 159, y 160, y 161, y 162, y 163, y 164, y 165, y 166, y 167, y 168, y 169, y 170, y 171, y 172, y 173, y 174, y 175, y 176, y 177, y 178, y 179, y 180, y 181, y 182, y 183, y 184, y 185, y 186, y 187, y 188, y 189, y 190, y 191, y 192, y 193, y 194, y 195, y 196, y 197, y 198, y 199, y 200, y 201, y 202, y 203, y 204, y 205, y 206, y 207, y 208, y 209, y 210, y 211, y 212, y 213, y 214, y 215, y 216, y 217, y 218, y 219, y 220, y 221, y 222, y 223, y 224, y 225, y 226, y 227, y 228, y 229, y 230, y 231, y 232, y 233, y 234, y 235, y 236, y 237, y 238, y 239, y 240, y 241, y 242, y 243, y 244, y 245, y 246, y 247, y 248, y 249, y 250, y 251, y 252, y 253, y 254, y 255, y 256, y 257, y 258, y 259, y 260, y 261, y 262, y 263, y 264, y 265, y 266, y 267, y 268, y 269, y 270, y 271, y 272, y 273, y 274, y 275, y 276, y 277, y 278, y 279, y 280, y 281, y 282, y 283, y 284, y 285, y 286, y 287, y 288, y 289, y 290, y 291, y 292, y 293, y 294, y 295, y 296, y 297, y 298, y 299, y 300, y 301, y 302, y 303, y 304, y 305, y 306, y 307, y 308, y 309, y 310, y 311, y 312, y 313, y 314, y 315, y 316, y 317, y 318, y 319, y 320, y 321, y 322, y 323, y 324, y 325, y 326, y 327, y 328, y 329, y 330, y 331, y 332, y 333, y 334, y 335, y 336, y 337, y 338, y 339, y 340, y 341, y 342, y 343, y 344, y 345, y 346, y 347, y 348, y 349, y 350, y 351, y 352, y 353, y 354, y 355, y 356, y 357, y 358, y 359, y 360, y 361, y 362, y 363, y 364, y 365, y 366, y 367, y 368, y 369, y 370, y 371, y 372, y 373, y 374, y 375, y 376, y 377, y 378, y 379, y 380, y 381, y 382, y 383, y 384, y 385, y 386, y 387, y 388, y 389, y 390, y 391, y 392, y 393, y 394, y 395, y 396, y 397, y 398, y 399, y 400, y 401, y 402, y 403, y 404, y 405, y 406, y 407, y 408, y 409, y 410, y 411, y 412, y 413, y 414, y 415, y 416, y 417, y 418, y 419, y 420, y 421, y 422, y 423, y 424, y 425, y 426, y 427, y 428, y 429, y 430, y 431, y 432, y 433, y 434, y 435, y 436, y 437, y 438, y 439, y 440, y 441, y 442, y 443, y 444, y 445, y 446, y 447, y 448, y 449, y 450] ∧ ∀ i, y i = arr.getD i undef := by
  refine ⟨fun i => arr.getD i undef, ?_, fun _ => rfl⟩
  exact (arr_map arr 451 h undef).trans (by kernel_rfl)
set_option maxRecDepth 40000 in
theorem litm5 {a : Act} {u0 u2 u3 u4 u5 : Value} (hs : a.tmps.size = 451) (hd : a.defers = []) (h0 : a.tmps.getD 0 undef = u0) (h2 : a.tmps.getD 2 undef = u2) (h3 : a.tmps.getD 3 undef = u3) (h4 : a.tmps.getD 4 undef = u4) (h5 : a.tmps.getD 5 undef = u5) : ∃ y : Nat → Value, a = { tmps := #[u0, y 1, u2, u3, u4, u5, y 6, y 7, y 8, y 9, y 10, y 11, y 12, y 13, y 14, y 15, y 16, y 17, y 18, y 19, y 20, y 21, y 22, y 23, y 24, y 25, y 26, y 27, y 28, y 29, y 30, y 31, y 32, y 33, y 34, y 35, y 36, y 37, y 38, y 39, y 40, y 41, y 42, y 43, y 44, y 45, y 46, y 47, y 48, y 49, y 50, y 51, y 52, y 53, y 54, y 55, y 56, y 57, y 58, y 59, y 60, y 61, y 62, y 63, y 64, y 65, y 66, y 67, y 68, y 69, y 70, y 71, y 72, y 73, y 74, y 75, y 76, y 77, y 78, y 79, y 80, y 81, y 82, y 83, y 84, y 85, y 86, y 87, y 88, y 89, y 90, y 91, y 92, y 93, y 94, y 95, y 96, y 97, y 98, y 99, y 100, y 101, y 102, y 103, y 104, y 105, y 106, y 107, y 108, y 109, y 110, y 111, y 112, y 113, y 114, y 115, y 116, y 117, y 118, y 119, y 120, y 121, y 122, y 123, y 124, y 125, y 126, y 127, y 128, y 129, y 130, y 131, y 132, y 133, y 134, y 135, y 136, y 137, y 138, y 139, y 140, y 141, y 142, y 143, y 144, y 145, y 146, y 147, y 148, y 149, y 150, y 151, y 152, y 153, y 154, y 155, y 156, y 157, y 158, y 159, y 160, y 161, y 162, y 163, y 164, y 165, y 166, y 167, y 168, y 169, y 170, y 171, y 172, y 173, y 174, y 175, y 176, y 177, y 178, y 179, y 180, y 181, y 182, y 183, y 184, y 185, y 186, y 187, y 188, y 189, y 190, y 191, y 192, y 193, y 194, y 195, y 196, y 197, y 198, y 199, y 200, y 201, y 202, y 203, y 204, y 205, y 206, y 207, y 208, y 209, y 210, y 211, y 212, y 213, y 214, y 215, y 216, y 217, y 218, y 219, y 220, y 221, y 222, y 223, y 224, y 225, y 226, y 227, y 228, y 229, y 230, y 231, y 232, y 233, y 234, y 235, y 236, y 237, y 238, y 239, y 240, y 241, y 242, y 243, y 244, y 245, y 246, y 247, y 248, y 249, y 250, y 251, y 252, y 253, y 254, y 255, y 256, y 257, y 258, y 259, y 260, y 261, y 262, y 263, y 264, y 265, y 266, y 267, y 268, y 269, y 270, y 271, y 272, y 273, y 274, y 275, y 276, y 277, y 278, y 279, y 280, y 281, y 282, y 283, y 284, y 285, y 286, y 287, y 288, y 289, y 290, y 291, y 292, y 293, y 294, y 295, y 296, y 297, y 298, y 299, y 300, y 301, y 302, y 303, y 304, y 305, y 306, y 307, y 308, y 309, y 310, y 311, y 312, y 313, y 314, y 315, y 316, y 317, y 318, y 319, y 320, y 321, y 322, y 323, y 324, y 325, y 326, y 327, y 328, y 329, y 330, y 331, y 332, y 333, y 334, y 335, y 336, y 337, y 338, y 339, y 340, y 341, y 342, y 343, y 344, y 345, y 346, y 347, y 348, y 349, y 350, y 351, y 352, y 353, y 354, y 355, y 356, y 357, y 358, y 359, y 360, y 361, y 362, y 363, y 364, y 365, y 366, y 367, y 368, y 369, y 370, y 371, y 372, y 373, y 374, y 375, y 376, y 377, y 378, y 379, y 380, y 381, y 382, y 383, y 384, y 385, y 386, y 387, y 388, y 389, y 390, y 391, y 392, y 393, y 394, y 395, y 396, y 397, y 398, y 399, y 400, y 401, y 402, y 403, y 404, y 405, y 406, y 407, y 408, y 409, y 410, y 411, y 412, y 413, y 414, y 415, y 416, y 417, y 418, y 419, y 420, y 421, y 422, y 423, y 424, y 425, y 426, y 427, y 428, y 429, y 430, y 431, y 432, y 433, y 434, y 435, y 436, y 437, y 438, y 439, y 440, y 441, y 442, y 443, y 444, y 445, y 446, y 447, y 448, y 449, y 450], defers := [] } := by
  obtain ⟨tmps, defers⟩ := a
  have yd : defers = [] := hd
  subst yd
  obtain ⟨y, hy, hi⟩ := arr_451 tmps hs
  have e0 := (hi 0).trans h0
  have e2 := (hi 2).trans h2
  have e3 := (hi 3).trans h3
  have e4 := (hi 4).trans h4
  have e5 := (hi 5).trans h5
  rw [e0, e2, e3, e4, e5] at hy
  exact ⟨y, congrArg (fun t => (⟨t, []⟩ : Act)) hy⟩
set_option maxRecDepth 40000 in
theorem litm56 {a : Act} {u0 u2 u3 u4 u5 u6 : Value} (hs : a.tmps.size = 451) (hd : a.defers = []) (h0 : a.tmps.getD 0 undef = u0) (h2 : a.tmps.getD 2 undef = u2) (h3 : a.tmps.getD 3 undef = u3) (h4 : a.tmps.getD 4 undef = u4) (h5 : a.tmps.getD 5 undef = u5) (h6 : a.tmps.getD 6 undef = u6) : ∃ y : Nat → Value, a = { tmps := #[u0, y 1, u2, u3, u4, u5, u6, y 7, y 8, y 9, y 10, y 11, y 12, y 13, y 14, y 15, y 16, y 17, y 18, y 19, y 20, y 21, y 22, y 23, y 24, y 25, y 26, y 27, y 28, y 29, y 30, y 31, y 32, y 33, y 34, y 35, y 36, y 37, y 38, y 39, y 40, y 41, y 42, y 43, y 44, y 45, y 46, y 47, y 48, y 49, y 50, y 51, y 52, y 53, y 54, y 55, y 56, y 57, y 58, y 59, y 60, y 61, y 62, y 63, y 64, y 65, y 66, y 67, y 68, y 69, y 70, y 71, y 72, y 73, y 74, y 75, y 76, y 77, y 78, y 79, y 80, y 81, y 82, y 83, y 84, y 85, y 86, y 87, y 88, y 89, y 90, y 91, y 92, y 93, y 94, y 95, y 96, y 97, y 98, y 99, y 100, y 101, y 102, y 103, y 104, y 105, y 106, y 107, y 108, y 109, y 110, y 111, y 112, y 113, y 114, y 115, y 116, y 117, y 118, y 119, y 120, y 121, y 122, y 123, y 124, y 125, y 126, y 127, y 128, y 129, y 130, y 131, y 132, y 133, y 134, y 135, y 136, y 137, y 138, y 139, y 140, y 141, y 142, y 143, y 144, y 145, y 146, y 147, y 148, y 149, y 150, y 151, y 152, y 153, y 154, y 155, y 156, y 157, y 158, y 159, y 160, y 161, y 162, y 163, y 164, y 165, y 166, y 167, y 168, y 169, y 170, y 171, y 172, y 173, y 174, y 175, y 176, y 177, y 178, y 179, y 180, y 181, y 182, y 183, y 184, y 185, y 186, y 187, y 188, y 189, y 190, y 191, y 192, y 193, y 194, y 195, y 196, y 197, y 198, y 199, y 200, y 201, y 202, y 203, y 204, y 205, y 206, y 207, y 208, y 209, y 210, y 211, y 212, y 213, y 214, y 215, y 216, y 217, y 218, y 219, y 220, y 221, y 222, y 223, y 224, y 225, y 226, y 227, y 228, y 229, y 230, y 231, y 232, y 233, y 234, y 235, y 236, y 237, y 238, y 239, y 240, y 241, y 242, y 243, y 244, y 245, y 246, y 247, y 248, y 249, y 250, y 251, y 252, y 253, y 254, y 255, y 256, y 257, y 258, y 259, y 260, y 261, y 262, y 263, y 264, y 265, y 266, y 267, y 268, y 269, y 270, y 271, y 272, y 273, y 274, y 275, y 276, y 277, y 278, y 279, y 280, y 281, y 282, y 283, y 284, y 285, y 286, y 287, y 288, y 289, y 290, y 291, y 292, y 293, y 294, y 295, y 296, y 297, y 298, y 299, y 300, y 301, y 302, y 303, y 304, y 305, y 306, y 307, y 308, y 309, y 310, y 311, y 312, y 313, y 314, y 315, y 316, y 317, y 318, y 319, y 320, y 321, y 322, y 323, y 324, y 325, y 326, y 327, y 328, y 329, y 330, y 331, y 332, y 333, y 334, y 335, y 336, y 337, y 338, y 339, y 340, y 341, y 342, y 343, y 344, y 345, y 346, y 347, y 348, y 349, y 350, y 351, y 352, y 353, y 354, y 355, y 356, y 357, y 358, y 359, y 360, y 361, y 362, y 363, y 364, y 365, y 366, y 367, y 368, y 369, y 370, y 371, y 372, y 373, y 374, y 375, y 376, y 377, y 378, y 379, y 380, y 381, y 382, y 383, y 384, y 385, y 386, y 387, y 388, y 389, y 390, y 391, y 392, y 393, y 394, y 395, y 396, y 397, y 398, y 399, y 400, y 401, y 402, y 403, y 404, y 405, y 406, y 407, y 408, y 409, y 410, y 411, y 412, y 413, y 414, y 415, y 416, y 417, y 418, y 419, y 420, y 421, y 422, y 423, y 424, y 425, y 426, y 427, y 428, y 429, y 430, y 431, y 432, y 433, y 434, y 435, y 436, y 437, y 438, y 439, y 440, y 441, y 442, y 443, y 444, y 445, y 446, y 447, y 448, y 449, y 450], defers := [] } := by
  obtain ⟨tmps, defers⟩ := a
  have yd : defers = [] := hd
  subst yd
  obtain ⟨y, hy, hi⟩ := arr_451 tmps hs
  have e0 := (hi 0).trans h0
  have e2 := (hi 2).trans h2
  have e3 := (hi 3).trans h3
  have e4 := (hi 4).trans h4
  have e5 := (hi 5).trans h5
  have e6 := (hi 6).trans h6
  rw [e0, e2, e3, e4, e5, e6] at hy
  exact ⟨y, congrArg (fun t => (⟨t, []⟩ : Act)) hy⟩

/-- The memory. -/
structure MI (w0 : World) (D : Fam) (wr : World) : Prop where
  rep : Rep KD wr D
  grew : Grew Fam.nil w0 D wr
def D0 (n ga gm : Nat) : Fam := (Fam.nil.put 15 (some ga) 1 1 zfl).put 14 (some gm) 1 1 (mfl n (.slice none 0 0) (.slice none 0 0) (.slice none 0 0) (.slice none 0 0) 0)

set_option maxRecDepth 40000 in
set_option maxHeartbeats 4000000 in
/-- Regions 0 to 4. -/
theorem md_1 (w0 : World) (n : Nat) (a0 : Option Addr) (k0 : Nat) (y : Nat → Value) (tail : Code) (Z : Ending → World → Prop)
    (hT : ∀ (a : Act) (w' : World), FM a0 n k0 w0.heap.size (w0.heap.size + 1) a → a.tmps.getD 5 undef = .int .i64 0 → MI w0 (D0 n w0.heap.size (w0.heap.size + 1)) w' → Code.wp Try.prog tail (bodyPost Try.prog Try.f10 fun e w' => Z e w') a w') :
    Code.wp Try.prog (rt 5 (Try.f10.body.getD .skip) tail) (bodyPost Try.prog Try.f10 fun e w' => Z e w') { tmps := #[.slice a0 n k0, y 1, y 2, y 3, y 4, y 5, y 6, y 7, y 8, y 9, y 10, y 11, y 12, y 13, y 14, y 15, y 16, y 17, y 18, y 19, y 20, y 21, y 22, y 23, y 24, y 25, y 26, y 27, y 28, y 29, y 30, y 31, y 32, y 33, y 34, y 35, y 36, y 37, y 38, y 39, y 40, y 41, y 42, y 43, y 44, y 45, y 46, y 47, y 48, y 49, y 50, y 51, y 52, y 53, y 54, y 55, y 56, y 57, y 58, y 59, y 60, y 61, y 62, y 63, y 64, y 65, y 66, y 67, y 68, y 69, y 70, y 71, y 72, y 73, y 74, y 75, y 76, y 77, y 78, y 79, y 80, y 81, y 82, y 83, y 84, y 85, y 86, y 87, y 88, y 89, y 90, y 91, y 92, y 93, y 94, y 95, y 96, y 97, y 98, y 99, y 100, y 101, y 102, y 103, y 104, y 105, y 106, y 107, y 108, y 109, y 110, y 111, y 112, y 113, y 114, y 115, y 116, y 117, y 118, y 119, y 120, y 121, y 122, y 123, y 124, y 125, y 126, y 127, y 128, y 129, y 130, y 131, y 132, y 133, y 134, y 135, y 136, y 137, y 138, y 139, y 140, y 141, y 142, y 143, y 144, y 145, y 146, y 147, y 148, y 149, y 150, y 151, y 152, y 153, y 154, y 155, y 156, y 157, y 158, y 159, y 160, y 161, y 162, y 163, y 164, y 165, y 166, y 167, y 168, y 169, y 170, y 171, y 172, y 173, y 174, y 175, y 176, y 177, y 178, y 179, y 180, y 181, y 182, y 183, y 184, y 185, y 186, y 187, y 188, y 189, y 190, y 191, y 192, y 193, y 194, y 195, y 196, y 197, y 198, y 199, y 200, y 201, y 202, y 203, y 204, y 205, y 206, y 207, y 208, y 209, y 210, y 211, y 212, y 213, y 214, y 215, y 216, y 217, y 218, y 219, y 220, y 221, y 222, y 223, y 224, y 225, y 226, y 227, y 228, y 229, y 230, y 231, y 232, y 233, y 234, y 235, y 236, y 237, y 238, y 239, y 240, y 241, y 242, y 243, y 244, y 245, y 246, y 247, y 248, y 249, y 250, y 251, y 252, y 253, y 254, y 255, y 256, y 257, y 258, y 259, y 260, y 261, y 262, y 263, y 264, y 265, y 266, y 267, y 268, y 269, y 270, y 271, y 272, y 273, y 274, y 275, y 276, y 277, y 278, y 279, y 280, y 281, y 282, y 283, y 284, y 285, y 286, y 287, y 288, y 289, y 290, y 291, y 292, y 293, y 294, y 295, y 296, y 297, y 298, y 299, y 300, y 301, y 302, y 303, y 304, y 305, y 306, y 307, y 308, y 309, y 310, y 311, y 312, y 313, y 314, y 315, y 316, y 317, y 318, y 319, y 320, y 321, y 322, y 323, y 324, y 325, y 326, y 327, y 328, y 329, y 330, y 331, y 332, y 333, y 334, y 335, y 336, y 337, y 338, y 339, y 340, y 341, y 342, y 343, y 344, y 345, y 346, y 347, y 348, y 349, y 350, y 351, y 352, y 353, y 354, y 355, y 356, y 357, y 358, y 359, y 360, y 361, y 362, y 363, y 364, y 365, y 366, y 367, y 368, y 369, y 370, y 371, y 372, y 373, y 374, y 375, y 376, y 377, y 378, y 379, y 380, y 381, y 382, y 383, y 384, y 385, y 386, y 387, y 388, y 389, y 390, y 391, y 392, y 393, y 394, y 395, y 396, y 397, y 398, y 399, y 400, y 401, y 402, y 403, y 404, y 405, y 406, y 407, y 408, y 409, y 410, y 411, y 412, y 413, y 414, y 415, y 416, y 417, y 418, y 419, y 420, y 421, y 422, y 423, y 424, y 425, y 426, y 427, y 428, y 429, y 430, y 431, y 432, y 433, y 434, y 435, y 436, y 437, y 438, y 439, y 440, y 441, y 442, y 443, y 444, y 445, y 446, y 447, y 448, y 449, y 450], defers := [] } w0 := by
  have HTL : Hid (∀ (a : Act) (w' : World), FM a0 n k0 w0.heap.size (w0.heap.size + 1) a → a.tmps.getD 5 undef = .int .i64 0 → MI w0 (D0 n w0.heap.size (w0.heap.size + 1)) w' → Code.wp Try.prog tail (bodyPost Try.prog Try.f10 fun e w' => Z e w') a w') := hT
  clear hT
  have f1 := fresh_alloc w0 29 6 1 #[.int .i64 0, .slice none 0 0, .slice none 0 0, .slice none 0 0, .slice none 0 0, .int .i64 0] zfl rfl (by simp [maxLen]) (fun j hj => by
    match j, hj with
    | 0, _ => rfl
    | 1, _ => rfl
    | 2, _ => rfl
    | 3, _ => rfl
    | 4, _ => rfl
    | 5, _ => rfl)
  have f2 := fresh_alloc (w0.alloc (.cells #[.int .i64 0, .slice none 0 0, .slice none 0 0, .slice none 0 0, .slice none 0 0, .int .i64 0] 29)) 29 6 1 #[.int .i64 (n : Int), .slice none 0 0, .slice none 0 0, .slice none 0 0, .slice none 0 0, .int .i64 0] (mfl n (.slice none 0 0) (.slice none 0 0) (.slice none 0 0) (.slice none 0 0) 0) rfl (by simp [maxLen]) (fun j hj => by
    match j, hj with
    | 0, _ => rfl
    | 1, _ => rfl
    | 2, _ => rfl
    | 3, _ => rfl
    | 4, _ => rfl
    | 5, _ => rfl)
  have hsz : (w0.alloc (.cells #[.int .i64 0, .slice none 0 0, .slice none 0 0, .slice none 0 0, .slice none 0 0, .int .i64 0] 29)).heap.size = w0.heap.size + 1 := by simp
  rw [hsz] at f2
  have fin : Hid (MI w0 (D0 n w0.heap.size (w0.heap.size + 1)) ((w0.alloc (.cells #[.int .i64 0, .slice none 0 0, .slice none 0 0, .slice none 0 0, .slice none 0 0, .int .i64 0] 29)).alloc (.cells #[.int .i64 (n : Int), .slice none 0 0, .slice none 0 0, .slice none 0 0, .slice none 0 0, .int .i64 0] 29))) := ⟨f2.rep (f1.rep (Rep.nil KD w0) 15 rfl) 14 rfl, (f1.grew Fam.nil 15).trans (f2.grew _ 14)⟩
  clear f1 f2 hsz
  simp only [rt, Try.f10, Option.getD]
  go_wp2
  exact HTL.out _ _ ⟨by kernel_rfl, by kernel_rfl, by kernel_rfl, by kernel_rfl, by kernel_rfl, by kernel_rfl⟩ (by kernel_rfl) fin.out

def M1I (G : GR) (a0 : Option Addr) (k0 ga gm : Nat) (wr : World) (a : Act) (w' : World) : Prop :=
  w' = wr ∧ FM a0 G.n k0 ga gm a ∧ ∃ i : Nat, a.tmps.getD 6 undef = .int .i64 (i : Int) ∧ i ≤ G.n ∧ a.tmps.getD 5 undef = .int .i64 ((G.fst i : Nat) : Int)
def mu6 (n : Nat) (a : Act) : Nat := n - (intOf (a.tmps.getD 6 undef)).toNat

set_option maxRecDepth 40000 in
set_option maxHeartbeats 4000000 in
/-- The number of edges. -/
theorem md_2 (N : Fam) (G : GR) (a0 : Option Addr) (k0 ga gm : Nat) (ok : G.Ok) (wr : World) (hG : GM wr N G a0 k0) (a : Act) (hf : FM a0 G.n k0 ga gm a) (h5 : a.tmps.getD 5 undef = .int .i64 0) (Q : Exit → Act → World → Prop)
    (hC : ∀ (a : Act), FM a0 G.n k0 ga gm a → a.tmps.getD 5 undef = .int .i64 (G.E : Int) → Q .normal a wr) :
    Code.wp Try.prog (sL (tl 5 (Try.f10.body.getD .skip))) Q a wr := by
  obtain ⟨y, rfl⟩ := litm5 hf.sz hf.df hf.s0 hf.s2 hf.s3 hf.s4 h5
  have HG : Hid (GM wr N G a0 k0) := hG
  have HO : Hid G.Ok := ok
  have hn := ok.n
  have hE := ok.E
  have HC : Hid (∀ (a : Act), FM a0 G.n k0 ga gm a → a.tmps.getD 5 undef = .int .i64 (G.E : Int) → Q .normal a wr) := hC
  clear hf h5 hG ok hC
  show Code.wp Try.prog (Code.seq _ (Code.block 0 (Code.loop (Code.seq (Code.seq _ (Code.cond (.tmp 46) Code.skip (Code.exit 0))) (Code.seq (Code.block 1 _) _))))) Q _ wr
  refine wp_seq_k (fun K1 hK => ?_)
  have HK : Hid (∀ (a : Act) (w : World), _ → K1 a w) := hK
  clear hK
  go_wp2
  refine HK.out _ _ ?_
  clear HK K1
  refine wp_block ?_
  refine wp_loop (M1I G a0 k0 ga gm wr) (fun a _ => mu6 G.n a) ⟨rfl, ⟨by kernel_rfl, by kernel_rfl, by kernel_rfl, by kernel_rfl, by kernel_rfl, by kernel_rfl⟩, 0, by kernel_rfl, Nat.zero_le _, by kernel_rfl⟩ ?_
  rintro a w' ⟨rfl, hf, i, h6, i1, h5⟩
  have e6 : mu6 G.n a = G.n - i := congrArg (fun v => G.n - (intOf v).toNat) h6
  obtain ⟨y2, rfl⟩ := litm56 hf.sz hf.df hf.s0 hf.s2 hf.s3 hf.s4 h5 h6
  rw [e6]
  clear e6 hf h5 h6
  refine wp_seq_k (fun K1 hK => ?_)
  have HK : Hid (∀ (a : Act) (w : World), _ → K1 a w) := hK
  clear hK
  refine wp_seq_k (fun K2 hK => ?_)
  have HK2 : Hid (∀ (a : Act) (w : World), _ → K2 a w) := hK
  clear hK
  by_cases hi : i < G.n
  · have hii : (i : Int) < (G.n : Int) := by omega
    obtain ⟨g, ha, lc, xh⟩ := HG.out.cell hi
    subst ha
    have hle : G.fst (i + 1) ≤ 4096 := Nat.le_trans (G.fst_mono (by omega)) hE
    have hfs : ((G.fst i : Nat) : Int) + ((G.d i : Nat) : Int) = ((G.fst (i + 1) : Nat) : Int) := by show _ = (((G.fst i + G.d i : Nat)) : Int); omega
    have hfl : G.fst i ≤ 4096 := Nat.le_trans (G.fst_mono (by omega)) hE
    have hdl : G.d i ≤ 4096 := by
      have h2 : G.fst (i + 1) = G.fst i + G.d i := rfl
      omega
    have HF : Hid (∀ (a : Act), a.tmps.getD 5 undef = .int .i64 (((G.fst i : Nat) : Int) + ((G.d i : Nat) : Int)) → a.tmps.getD 5 undef = .int .i64 ((G.fst (i + 1) : Nat) : Int)) := fun a h => by rw [h, hfs]
    clear hfs hle
    generalize Option.map (fun g => (⟨g, 0, none⟩ : Addr)) (N.b (1 + i)) = ar at *
    generalize N.cap (1 + i) = kr at *
    go_wp2
    refine HK2.out _ _ (wp_cond_true (by kernel_rfl) (wp_skip ?_))
    refine HK.out _ _ ?_
    clear HK K1 HK2 K2
    refine wp_seq_k (fun K1 hK => ?_)
    have HK : Hid (∀ (a : Act) (w : World), _ → K1 a w) := hK
    clear hK
    refine wp_block ?_
    go_wp2
    refine HK.out _ _ ?_
    clear HK K1
    go_wp2
    exact ⟨⟨rfl, ⟨by kernel_rfl, by kernel_rfl, by kernel_rfl, by kernel_rfl, by kernel_rfl, by kernel_rfl⟩, i + 1, by kernel_rfl, by omega, HF.out _ (by kernel_rfl)⟩, Nat.lt_of_le_of_lt (Nat.le_of_eq (by kernel_rfl : _ = G.n - (i + 1))) (by omega)⟩
  · have hii : ¬ (i : Int) < (G.n : Int) := by omega
    obtain rfl : i = G.n := by omega
    go_wp2
    refine HK2.out _ _ (wp_cond_false (by kernel_rfl) (wp_exit ?_))
    exact HC.out _ ⟨by kernel_rfl, by kernel_rfl, by kernel_rfl, by kernel_rfl, by kernel_rfl, by kernel_rfl⟩ (by kernel_rfl)
end Go.Proofs.Qxb6602148a
