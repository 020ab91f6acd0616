/-
  The third law: the edges lie in the lists in their order.
-/
import Derived.Test.Qxb6602148aLw
attribute [local go_sem] Go.Proofs.Qxb6602148a.yTo Go.Proofs.Qxb6602148a.yUpon
namespace Go.Proofs.Qxb6602148a
open Go.RowKit
set_option linter.unusedVariables false
set_option linter.unusedSimpArgs false

set_option maxRecDepth 40000 in
theorem l5q {a : Act} {u1 u8 u9 u10 u11 u12 u13 u14 u15 u21 u22 u25 u31 : Value} (hs : a.tmps.size = 586) (hd : a.defers = []) (h1 : a.tmps.getD 1 undef = u1) (h8 : a.tmps.getD 8 undef = u8) (h9 : a.tmps.getD 9 undef = u9) (h10 : a.tmps.getD 10 undef = u10) (h11 : a.tmps.getD 11 undef = u11) (h12 : a.tmps.getD 12 undef = u12) (h13 : a.tmps.getD 13 undef = u13) (h14 : a.tmps.getD 14 undef = u14) (h15 : a.tmps.getD 15 undef = u15) (h21 : a.tmps.getD 21 undef = u21) (h22 : a.tmps.getD 22 undef = u22) (h25 : a.tmps.getD 25 undef = u25) (h31 : a.tmps.getD 31 undef = u31) : ∃ y : Nat → Value, a = { tmps := #[y 0, u1, y 2, y 3, y 4, y 5, y 6, y 7, u8, u9, u10, u11, u12, u13, u14, u15, y 16, y 17, y 18, y 19, y 20, u21, u22, y 23, y 24, u25, y 26, y 27, y 28, y 29, y 30, u31, y 32, y 33, y 34, y 35, y 36, y 37, y 38, y 39, y 40, y 41, y 42, y 43, y 44, y 45, y 46, y 47, y 48, y 49, y 50, y 51, y 52, y 53, y 54, y 55, y 56, y 57, y 58, y 59, y 60, y 61, y 62, y 63, y 64, y 65, y 66, y 67, y 68, y 69, y 70, y 71, y 72, y 73, y 74, y 75, y 76, y 77, y 78, y 79, y 80, y 81, y 82, y 83, y 84, y 85, y 86, y 87, y 88, y 89, y 90, y 91, y 92, y 93, y 94, y 95, y 96, y 97, y 98, y 99, y 100, y 101, y 102, y 103, y 104, y 105, y 106, y 107, y 108, y 109, y 110, y 111, y 112, y 113, y 114, y 115, y 116, y 117, y 118, y 119, y 120, y 121, y 122, y 123, y 124, y 125, y 126, y 127, y 128, y 129, y 130, y 131, y 132, y 133, y 134, y 135, y 136, y 137, y 138, y 139, y 140, y 141, y 142, y 143, y 144, y 145, y 146, y 147, y 148, y 149, y 150, y 151, y 152, y 153, y 154, y 155, y 156, y 157, y 158, y 159, y 160, y 161, y 162, y 163, y 164, y 165, y 166, y 167, y 168, y 169, y 170, y 171, y 172, y 173, y 174, y 175, y 176, y 177, y 178, y 179, y 180, y 181, y 182, y 183, y 184, y 185, y 186, y 187, y 188, y 189, y 190, y 191, y 192, y 193, y 194, y 195, y 196, y 197, y 198, y 199, y 200, y 201, y 202, y 203, y 204, y 205, y 206, y 207, y 208, y 209, y 210, y 211, y 212, y 213, y 214, y 215, y 216, y 217, y 218, y 219, y 220, y 221, y 222, y 223, y 224, y 225, y 226, y 227, y 228, y 229, y 230, y 231, y 232, y 233, y 234, y 235, y 236, y 237, y 238, y 239, y 240, y 241, y 242, y 243, y 244, y 245, y 246, y 247, y 248, y 249, y 250, y 251, y 252, y 253, y 254, y 255, y 256, y 257, y 258, y 259, y 260, y 261, y 262, y 263, y 264, y 265, y 266, y 267, y 268, y 269, y 270, y 271, y 272, y 273, y 274, y 275, y 276, y 277, y 278, y 279, y 280, y 281, y 282, y 283, y 284, y 285, y 286, y 287, y 288, y 289, y 290, y 291, y 292, y 293, y 294, y 295, y 296, y 297, y 298, y 299, y 300, y 301, y 302, y 303, y 304, y 305, y 306, y 307, y 308, y 309, y 310, y 311, y 312, y 313, y 314, y 315, y 316, y 317, y 318, y 319, y 320, y 321, y 322, y 323, y 324, y 325, y 326, y 327, y 328, y 329, y 330, y 331, y 332, y 333, y 334, y 335, y 336, y 337, y 338, y 339, y 340, y 341, y 342, y 343, y 344, y 345, y 346, y 347, y 348, y 349, y 350, y 351, y 352, y 353, y 354, y 355, y 356, y 357, y 358, y 359, y 360, y 361, y 362, y 363, y 364, y 365, y 366, y 367, y 368, y 369, y 370, y 371, y 372, y 373, y 374, y 375, y 376, y 377, y 378, y 379, y 380, y 381, y 382, y 383, y 384, y 385, y 386, y 387, y 388, y 389, y 390, y 391, y 392, y 393, y 394, y 395, y 396, y 397, y 398, y 399, y 400, y 401, y 402, y 403, y 404, y 405, y 406, y 407, y 408, y 409, y 410, y 411, y 412, y 413, y 414, y 415, y 416, y 417, y 418, y 419, y 420, y 421, y 422, y 423, y 424, y 425, y 426, y 427, y 428, y 429, y 430, y 431, y 432, y 433, y 434, y 435, y 436, y 437, y 438, y 439, y 440, y 441, y 442, y 443, y 444, y 445, y 446, y 447, y 448, y 449, y 450, y 451, y 452, y 453, y 454, y 455, y 456, y 457, y 458, y 459, y 460, y 461, y 462, y 463, y 464, y 465, y 466, y 467, y 468, y 469, y 470, y 471, y 472, y 473, y 474, y 475, y 476, y 477, y 478, y 479, y 480, y 481, y 482, y 483, y 484, y 485, y 486, y 487, y 488, y 489, y 490, y 491, y 492, y 493, y 494, y 495, y 496, y 497, y 498, y 499, y 500, y 501, y 502, y 503, y 504, y 505, y 506, y 507, y 508, y 509, y 510, y 511, y 512, y 513, y 514, y 515, y 516, y 517, y 518, y 519, y 520, y 521, y 522, y 523, y 524, y 525, y 526, y 527, y 528, y 529, y 530, y 531, y 532, y 533, y 534, y 535, y 536, y 537, y 538, y 539, y 540, y 541, y 542, y 543, y 544, y 545, y 546, y 547, y 548, y 549, y 550, y 551, y 552, y 553, y 554, y 555, y 556, y 557, y 558, y 559, y 560, y 561, y 562, y 563, y 564, y 565, y 566, y 567, y 568, y 569, y 570, y 571, y 572, y 573, y 574, y 575, y 576, y 577, y 578, y 579, y 580, y 581, y 582, y 583, y 584, y 585], defers := [] } := by
  obtain ⟨tmps, defers⟩ := a
  have yd : defers = [] := hd
  subst yd
  obtain ⟨y, hy, hi⟩ := arr_586 tmps hs
  have e1 := (hi 1).trans h1
  have e8 := (hi 8).trans h8
  have e9 := (hi 9).trans h9
  have e10 := (hi 10).trans h10
  have e11 := (hi 11).trans h11
  have e12 := (hi 12).trans h12
  have e13 := (hi 13).trans h13
  have e14 := (hi 14).trans h14
  have e15 := (hi 15).trans h15
  have e21 := (hi 21).trans h21
  have e22 := (hi 22).trans h22
  have e25 := (hi 25).trans h25
  have e31 := (hi 31).trans h31
  rw [e1, e8, e9, e10, e11, e12, e13, e14, e15, e21, e22, e25, e31] at hy
  exact ⟨y, congrArg (fun t => (⟨t, []⟩ : Act)) hy⟩
set_option maxRecDepth 40000 in
theorem l5r {a : Act} {u1 u8 u9 u10 u11 u12 u13 u14 u15 u21 u22 u25 u31 u32 : Value} (hs : a.tmps.size = 586) (hd : a.defers = []) (h1 : a.tmps.getD 1 undef = u1) (h8 : a.tmps.getD 8 undef = u8) (h9 : a.tmps.getD 9 undef = u9) (h10 : a.tmps.getD 10 undef = u10) (h11 : a.tmps.getD 11 undef = u11) (h12 : a.tmps.getD 12 undef = u12) (h13 : a.tmps.getD 13 undef = u13) (h14 : a.tmps.getD 14 undef = u14) (h15 : a.tmps.getD 15 undef = u15) (h21 : a.tmps.getD 21 undef = u21) (h22 : a.tmps.getD 22 undef = u22) (h25 : a.tmps.getD 25 undef = u25) (h31 : a.tmps.getD 31 undef = u31) (h32 : a.tmps.getD 32 undef = u32) : ∃ y : Nat → Value, a = { tmps := #[y 0, u1, y 2, y 3, y 4, y 5, y 6, y 7, u8, u9, u10, u11, u12, u13, u14, u15, y 16, y 17, y 18, y 19, y 20, u21, u22, y 23, y 24, u25, y 26, y 27, y 28, y 29, y 30, u31, u32, y 33, y 34, y 35, y 36, y 37, y 38, y 39, y 40, y 41, y 42, y 43, y 44, y 45, y 46, y 47, y 48, y 49, y 50, y 51, y 52, y 53, y 54, y 55, y 56, y 57, y 58, y 59, y 60, y 61, y 62, y 63, y 64, y 65, y 66, y 67, y 68, y 69, y 70, y 71, y 72, y 73, y 74, y 75, y 76, y 77, y 78, y 79, y 80, y 81, y 82, y 83, y 84, y 85, y 86, y 87, y 88, y 89, y 90, y 91, y 92, y 93, y 94, y 95, y 96, y 97, y 98, y 99, y 100, y 101, y 102, y 103, y 104, y 105, y 106, y 107, y 108, y 109, y 110, y 111, y 112, y 113, y 114, y 115, y 116, y 117, y 118, y 119, y 120, y 121, y 122, y 123, y 124, y 125, y 126, y 127, y 128, y 129, y 130, y 131, y 132, y 133, y 134, y 135, y 136, y 137, y 138, y 139, y 140, y 141, y 142, y 143, y 144, y 145, y 146, y 147, y 148, y 149, y 150, y 151, y 152, y 153, y 154, y 155, y 156, y 157, y 158, y 159, y 160, y 161, y 162, y 163, y 164, y 165, y 166, y 167, y 168, y 169, y 170, y 171, y 172, y 173, y 174, y 175, y 176, y 177, y 178, y 179, y 180, y 181, y 182, y 183, y 184, y 185, y 186, y 187, y 188, y 189, y 190, y 191, y 192, y 193, y 194, y 195, y 196, y 197, y 198, y 199, y 200, y 201, y 202, y 203, y 204, y 205, y 206, y 207, y 208, y 209, y 210, y 211, y 212, y 213, y 214, y 215, y 216, y 217, y 218, y 219, y 220, y 221, y 222, y 223, y 224, y 225, y 226, y 227, y 228, y 229, y 230, y 231, y 232, y 233, y 234, y 235, y 236, y 237, y 238, y 239, y 240, y 241, y 242, y 243, y 244, y 245, y 246, y 247, y 248, y 249, y 250, y 251, y 252, y 253, y 254, y 255, y 256, y 257, y 258, y 259, y 260, y 261, y 262, y 263, y 264, y 265, y 266, y 267, y 268, y 269, y 270, y 271, y 272, y 273, y 274, y 275, y 276, y 277, y 278, y 279, y 280, y 281, y 282, y 283, y 284, y 285, y 286, y 287, y 288, y 289, y 290, y 291, y 292, y 293, y 294, y 295, y 296, y 297, y 298, y 299, y 300, y 301, y 302, y 303, y 304, y 305, y 306, y 307, y 308, y 309, y 310, y 311, y 312, y 313, y 314, y 315, y 316, y 317, y 318, y 319, y 320, y 321, y 322, y 323, y 324, y 325, y 326, y 327, y 328, y 329, y 330, y 331, y 332, y 333, y 334, y 335, y 336, y 337, y 338, y 339, y 340, y 341, y 342, y 343, y 344, y 345, y 346, y 347, y 348, y 349, y 350, y 351, y 352, y 353, y 354, y 355, y 356, y 357, y 358, y 359, y 360, y 361, y 362, y 363, y 364, y 365, y 366, y 367, y 368, y 369, y 370, y 371, y 372, y 373, y 374, y 375, y 376, y 377, y 378, y 379, y 380, y 381, y 382, y 383, y 384, y 385, y 386, y 387, y 388, y 389, y 390, y 391, y 392, y 393, y 394, y 395, y 396, y 397, y 398, y 399, y 400, y 401, y 402, y 403, y 404, y 405, y 406, y 407, y 408, y 409, y 410, y 411, y 412, y 413, y 414, y 415, y 416, y 417, y 418, y 419, y 420, y 421, y 422, y 423, y 424, y 425, y 426, y 427, y 428, y 429, y 430, y 431, y 432, y 433, y 434, y 435, y 436, y 437, y 438, y 439, y 440, y 441, y 442, y 443, y 444, y 445, y 446, y 447, y 448, y 449, y 450, y 451, y 452, y 453, y 454, y 455, y 456, y 457, y 458, y 459, y 460, y 461, y 462, y 463, y 464, y 465, y 466, y 467, y 468, y 469, y 470, y 471, y 472, y 473, y 474, y 475, y 476, y 477, y 478, y 479, y 480, y 481, y 482, y 483, y 484, y 485, y 486, y 487, y 488, y 489, y 490, y 491, y 492, y 493, y 494, y 495, y 496, y 497, y 498, y 499, y 500, y 501, y 502, y 503, y 504, y 505, y 506, y 507, y 508, y 509, y 510, y 511, y 512, y 513, y 514, y 515, y 516, y 517, y 518, y 519, y 520, y 521, y 522, y 523, y 524, y 525, y 526, y 527, y 528, y 529, y 530, y 531, y 532, y 533, y 534, y 535, y 536, y 537, y 538, y 539, y 540, y 541, y 542, y 543, y 544, y 545, y 546, y 547, y 548, y 549, y 550, y 551, y 552, y 553, y 554, y 555, y 556, y 557, y 558, y 559, y 560, y 561, y 562, y 563, y 564, y 565, y 566, y 567, y 568, y 569, y 570, y 571, y 572, y 573, y 574, y 575, y 576, y 577, y 578, y 579, y 580, y 581, y 582, y 583, y 584, y 585], defers := [] } := by
  obtain ⟨tmps, defers⟩ := a
  have yd : defers = [] := hd
  subst yd
  obtain ⟨y, hy, hi⟩ := arr_586 tmps hs
  have e1 := (hi 1).trans h1
  have e8 := (hi 8).trans h8
  have e9 := (hi 9).trans h9
  have e10 := (hi 10).trans h10
  have e11 := (hi 11).trans h11
  have e12 := (hi 12).trans h12
  have e13 := (hi 13).trans h13
  have e14 := (hi 14).trans h14
  have e15 := (hi 15).trans h15
  have e21 := (hi 21).trans h21
  have e22 := (hi 22).trans h22
  have e25 := (hi 25).trans h25
  have e31 := (hi 31).trans h31
  have e32 := (hi 32).trans h32
  rw [e1, e8, e9, e10, e11, e12, e13, e14, e15, e21, e22, e25, e31, e32] at hy
  exact ⟨y, congrArg (fun t => (⟨t, []⟩ : Act)) hy⟩
set_option maxRecDepth 40000 in
theorem l5s {a : Act} {u1 u8 u9 u10 u11 u12 u13 u14 u15 u21 u22 u25 u31 u32 u33 u34 : Value} (hs : a.tmps.size = 586) (hd : a.defers = []) (h1 : a.tmps.getD 1 undef = u1) (h8 : a.tmps.getD 8 undef = u8) (h9 : a.tmps.getD 9 undef = u9) (h10 : a.tmps.getD 10 undef = u10) (h11 : a.tmps.getD 11 undef = u11) (h12 : a.tmps.getD 12 undef = u12) (h13 : a.tmps.getD 13 undef = u13) (h14 : a.tmps.getD 14 undef = u14) (h15 : a.tmps.getD 15 undef = u15) (h21 : a.tmps.getD 21 undef = u21) (h22 : a.tmps.getD 22 undef = u22) (h25 : a.tmps.getD 25 undef = u25) (h31 : a.tmps.getD 31 undef = u31) (h32 : a.tmps.getD 32 undef = u32) (h33 : a.tmps.getD 33 undef = u33) (h34 : a.tmps.getD 34 undef = u34) : ∃ y : Nat → Value, a = { tmps := #[y 0, u1, y 2, y 3, y 4, y 5, y 6, y 7, u8, u9, u10, u11, u12, u13, u14, u15, y 16, y 17, y 18, y 19, y 20, u21, u22, y 23, y 24, u25, y 26, y 27, y 28, y 29, y 30, u31, u32, u33, u34, y 35, y 36, y 37, y 38, y 39, y 40, y 41, y 42, y 43, y 44, y 45, y 46, y 47, y 48, y 49, y 50, y 51, y 52, y 53, y 54, y 55, y 56, y 57, y 58, y 59, y 60, y 61, y 62, y 63, y 64, y 65, y 66, y 67, y 68, y 69, y 70, y 71, y 72, y 73, y 74, y 75, y 76, y 77, y 78, y 79, y 80, y 81, y 82, y 83, y 84, y 85, y 86, y 87, y 88, y 89, y 90, y 91, y 92, y 93, y 94, y 95, y 96, y 97, y 98, y 99, y 100, y 101, y 102, y 103, y 104, y 105, y 106, y 107, y 108, y 109, y 110, y 111, y 112, y 113, y 114, y 115, y 116, y 117, y 118, y 119, y 120, y 121, y 122, y 123, y 124, y 125, y 126, y 127, y 128, y 129, y 130, y 131, y 132, y 133, y 134, y 135, y 136, y 137, y 138, y 139, y 140, y 141, y 142, y 143, y 144, y 145, y 146, y 147, y 148, y 149, y 150, y 151, y 152, y 153, y 154, y 155, y 156, y 157, y 158, y 159, y 160, y 161, y 162, y 163, y 164, y 165, y 166, y 167, y 168, y 169, y 170, y 171, y 172, y 173, y 174, y 175, y 176, y 177, y 178, y 179, y 180, y 181, y 182, y 183, y 184, y 185, y 186, y 187, y 188, y 189, y 190, y 191, y 192, y 193, y 194, y 195, y 196, y 197, y 198, y 199, y 200, y 201, y 202, y 203, y 204, y 205, y 206, y 207, y 208, y 209, y 210, y 211, y 212, y 213, y 214, y 215, y 216, y 217, y 218, y 219, y 220, y 221, y 222, y 223, y 224, y 225, y 226, y 227, y 228, y 229, y 230, y 231, y 232, y 233, y 234, y 235, y 236, y 237, y 238, y 239, y 240, y 241, y 242, y 243, y 244, y 245, y 246, y 247, y 248, y 249, y 250, y 251, y 252, y 253, y 254, y 255, y 256, y 257, y 258, y 259, y 260, y 261, y 262, y 263, y 264, y 265, y 266, y 267, y 268, y 269, y 270, y 271, y 272, y 273, y 274, y 275, y 276, y 277, y 278, y 279, y 280, y 281, y 282, y 283, y 284, y 285, y 286, y 287, y 288, y 289, y 290, y 291, y 292, y 293, y 294, y 295, y 296, y 297, y 298, y 299, y 300, y 301, y 302, y 303, y 304, y 305, y 306, y 307, y 308, y 309, y 310, y 311, y 312, y 313, y 314, y 315, y 316, y 317, y 318, y 319, y 320, y 321, y 322, y 323, y 324, y 325, y 326, y 327, y 328, y 329, y 330, y 331, y 332, y 333, y 334, y 335, y 336, y 337, y 338, y 339, y 340, y 341, y 342, y 343, y 344, y 345, y 346, y 347, y 348, y 349, y 350, y 351, y 352, y 353, y 354, y 355, y 356, y 357, y 358, y 359, y 360, y 361, y 362, y 363, y 364, y 365, y 366, y 367, y 368, y 369, y 370, y 371, y 372, y 373, y 374, y 375, y 376, y 377, y 378, y 379, y 380, y 381, y 382, y 383, y 384, y 385, y 386, y 387, y 388, y 389, y 390, y 391, y 392, y 393, y 394, y 395, y 396, y 397, y 398, y 399, y 400, y 401, y 402, y 403, y 404, y 405, y 406, y 407, y 408, y 409, y 410, y 411, y 412, y 413, y 414, y 415, y 416, y 417, y 418, y 419, y 420, y 421, y 422, y 423, y 424, y 425, y 426, y 427, y 428, y 429, y 430, y 431, y 432, y 433, y 434, y 435, y 436, y 437, y 438, y 439, y 440, y 441, y 442, y 443, y 444, y 445, y 446, y 447, y 448, y 449, y 450, y 451, y 452, y 453, y 454, y 455, y 456, y 457, y 458, y 459, y 460, y 461, y 462, y 463, y 464, y 465, y 466, y 467, y 468, y 469, y 470, y 471, y 472, y 473, y 474, y 475, y 476, y 477, y 478, y 479, y 480, y 481, y 482, y 483, y 484, y 485, y 486, y 487, y 488, y 489, y 490, y 491, y 492, y 493, y 494, y 495, y 496, y 497, y 498, y 499, y 500, y 501, y 502, y 503, y 504, y 505, y 506, y 507, y 508, y 509, y 510, y 511, y 512, y 513, y 514, y 515, y 516, y 517, y 518, y 519, y 520, y 521, y 522, y 523, y 524, y 525, y 526, y 527, y 528, y 529, y 530, y 531, y 532, y 533, y 534, y 535, y 536, y 537, y 538, y 539, y 540, y 541, y 542, y 543, y 544, y 545, y 546, y 547, y 548, y 549, y 550, y 551, y 552, y 553, y 554, y 555, y 556, y 557, y 558, y 559, y 560, y 561, y 562, y 563, y 564, y 565, y 566, y 567, y 568, y 569, y 570, y 571, y 572, y 573, y 574, y 575, y 576, y 577, y 578, y 579, y 580, y 581, y 582, y 583, y 584, y 585], defers := [] } := by
  obtain ⟨tmps, defers⟩ := a
  have yd : defers = [] := hd
  subst yd
  obtain ⟨y, hy, hi⟩ := arr_586 tmps hs
  have e1 := (hi 1).trans h1
  have e8 := (hi 8).trans h8
  have e9 := (hi 9).trans h9
  have e10 := (hi 10).trans h10
  have e11 := (hi 11).trans h11
  have e12 := (hi 12).trans h12
  have e13 := (hi 13).trans h13
  have e14 := (hi 14).trans h14
  have e15 := (hi 15).trans h15
  have e21 := (hi 21).trans h21
  have e22 := (hi 22).trans h22
  have e25 := (hi 25).trans h25
  have e31 := (hi 31).trans h31
  have e32 := (hi 32).trans h32
  have e33 := (hi 33).trans h33
  have e34 := (hi 34).trans h34
  rw [e1, e8, e9, e10, e11, e12, e13, e14, e15, e21, e22, e25, e31, e32, e33, e34] at hy
  exact ⟨y, congrArg (fun t => (⟨t, []⟩ : Act)) hy⟩
set_option maxRecDepth 40000 in
theorem l5t {a : Act} {u1 u8 u9 u10 u11 u12 u13 u14 u15 u21 u22 u31 : Value} (hs : a.tmps.size = 586) (hd : a.defers = []) (h1 : a.tmps.getD 1 undef = u1) (h8 : a.tmps.getD 8 undef = u8) (h9 : a.tmps.getD 9 undef = u9) (h10 : a.tmps.getD 10 undef = u10) (h11 : a.tmps.getD 11 undef = u11) (h12 : a.tmps.getD 12 undef = u12) (h13 : a.tmps.getD 13 undef = u13) (h14 : a.tmps.getD 14 undef = u14) (h15 : a.tmps.getD 15 undef = u15) (h21 : a.tmps.getD 21 undef = u21) (h22 : a.tmps.getD 22 undef = u22) (h31 : a.tmps.getD 31 undef = u31) : ∃ y : Nat → Value, a = { tmps := #[y 0, u1, y 2, y 3, y 4, y 5, y 6, y 7, u8, u9, u10, u11, u12, u13, u14, u15, y 16, y 17, y 18, y 19, y 20, u21, u22, y 23, y 24, y 25, y 26, y 27, y 28, y 29, y 30, u31, y 32, y 33, y 34, y 35, y 36, y 37, y 38, y 39, y 40, y 41, y 42, y 43, y 44, y 45, y 46, y 47, y 48, y 49, y 50, y 51, y 52, y 53, y 54, y 55, y 56, y 57, y 58, y 59, y 60, y 61, y 62, y 63, y 64, y 65, y 66, y 67, y 68, y 69, y 70, y 71, y 72, y 73, y 74, y 75, y 76, y 77, y 78, y 79, y 80, y 81, y 82, y 83, y 84, y 85, y 86, y 87, y 88, y 89, y 90, y 91, y 92, y 93, y 94, y 95, y 96, y 97, y 98, y 99, y 100, y 101, y 102, y 103, y 104, y 105, y 106, y 107, y 108, y 109, y 110, y 111, y 112, y 113, y 114, y 115, y 116, y 117, y 118, y 119, y 120, y 121, y 122, y 123, y 124, y 125, y 126, y 127, y 128, y 129, y 130, y 131, y 132, y 133, y 134, y 135, y 136, y 137, y 138, y 139, y 140, y 141, y 142, y 143, y 144, y 145, y 146, y 147, y 148, y 149, y 150, y 151, y 152, y 153, y 154, y 155, y 156, y 157, y 158, y 159, y 160, y 161, y 162, y 163, y 164, y 165, y 166, y 167, y 168, y 169, y 170, y 171, y 172, y 173, y 174, y 175, y 176, y 177, y 178, y 179, y 180, y 181, y 182, y 183, y 184, y 185, y 186, y 187, y 188, y 189, y 190, y 191, y 192, y 193, y 194, y 195, y 196, y 197, y 198, y 199, y 200, y 201, y 202, y 203, y 204, y 205, y 206, y 207, y 208, y 209, y 210, y 211, y 212, y 213, y 214, y 215, y 216, y 217, y 218, y 219, y 220, y 221, y 222, y 223, y 224, y 225, y 226, y 227, y 228, y 229, y 230, y 231, y 232, y 233, y 234, y 235, y 236, y 237, y 238, y 239, y 240, y 241, y 242, y 243, y 244, y 245, y 246, y 247, y 248, y 249, y 250, y 251, y 252, y 253, y 254, y 255, y 256, y 257, y 258, y 259, y 260, y 261, y 262, y 263, y 264, y 265, y 266, y 267, y 268, y 269, y 270, y 271, y 272, y 273, y 274, y 275, y 276, y 277, y 278, y 279, y 280, y 281, y 282, y 283, y 284, y 285, y 286, y 287, y 288, y 289, y 290, y 291, y 292, y 293, y 294, y 295, y 296, y 297, y 298, y 299, y 300, y 301, y 302, y 303, y 304, y 305, y 306, y 307, y 308, y 309, y 310, y 311, y 312, y 313, y 314, y 315, y 316, y 317, y 318, y 319, y 320, y 321, y 322, y 323, y 324, y 325, y 326, y 327, y 328, y 329, y 330, y 331, y 332, y 333, y 334, y 335, y 336, y 337, y 338, y 339, y 340, y 341, y 342, y 343, y 344, y 345, y 346, y 347, y 348, y 349, y 350, y 351, y 352, y 353, y 354, y 355, y 356, y 357, y 358, y 359, y 360, y 361, y 362, y 363, y 364, y 365, y 366, y 367, y 368, y 369, y 370, y 371, y 372, y 373, y 374, y 375, y 376, y 377, y 378, y 379, y 380, y 381, y 382, y 383, y 384, y 385, y 386, y 387, y 388, y 389, y 390, y 391, y 392, y 393, y 394, y 395, y 396, y 397, y 398, y 399, y 400, y 401, y 402, y 403, y 404, y 405, y 406, y 407, y 408, y 409, y 410, y 411, y 412, y 413, y 414, y 415, y 416, y 417, y 418, y 419, y 420, y 421, y 422, y 423, y 424, y 425, y 426, y 427, y 428, y 429, y 430, y 431, y 432, y 433, y 434, y 435, y 436, y 437, y 438, y 439, y 440, y 441, y 442, y 443, y 444, y 445, y 446, y 447, y 448, y 449, y 450, y 451, y 452, y 453, y 454, y 455, y 456, y 457, y 458, y 459, y 460, y 461, y 462, y 463, y 464, y 465, y 466, y 467, y 468, y 469, y 470, y 471, y 472, y 473, y 474, y 475, y 476, y 477, y 478, y 479, y 480, y 481, y 482, y 483, y 484, y 485, y 486, y 487, y 488, y 489, y 490, y 491, y 492, y 493, y 494, y 495, y 496, y 497, y 498, y 499, y 500, y 501, y 502, y 503, y 504, y 505, y 506, y 507, y 508, y 509, y 510, y 511, y 512, y 513, y 514, y 515, y 516, y 517, y 518, y 519, y 520, y 521, y 522, y 523, y 524, y 525, y 526, y 527, y 528, y 529, y 530, y 531, y 532, y 533, y 534, y 535, y 536, y 537, y 538, y 539, y 540, y 541, y 542, y 543, y 544, y 545, y 546, y 547, y 548, y 549, y 550, y 551, y 552, y 553, y 554, y 555, y 556, y 557, y 558, y 559, y 560, y 561, y 562, y 563, y 564, y 565, y 566, y 567, y 568, y 569, y 570, y 571, y 572, y 573, y 574, y 575, y 576, y 577, y 578, y 579, y 580, y 581, y 582, y 583, y 584, y 585], defers := [] } := by
  obtain ⟨tmps, defers⟩ := a
  have yd : defers = [] := hd
  subst yd
  obtain ⟨y, hy, hi⟩ := arr_586 tmps hs
  have e1 := (hi 1).trans h1
  have e8 := (hi 8).trans h8
  have e9 := (hi 9).trans h9
  have e10 := (hi 10).trans h10
  have e11 := (hi 11).trans h11
  have e12 := (hi 12).trans h12
  have e13 := (hi 13).trans h13
  have e14 := (hi 14).trans h14
  have e15 := (hi 15).trans h15
  have e21 := (hi 21).trans h21
  have e22 := (hi 22).trans h22
  have e31 := (hi 31).trans h31
  rw [e1, e8, e9, e10, e11, e12, e13, e14, e15, e21, e22, e31] at hy
  exact ⟨y, congrArg (fun t => (⟨t, []⟩ : Act)) hy⟩
set_option maxRecDepth 40000 in
theorem l5u {a : Act} {u1 u8 u9 u10 u11 u12 u13 u14 u15 u21 u22 u31 u35 : Value} (hs : a.tmps.size = 586) (hd : a.defers = []) (h1 : a.tmps.getD 1 undef = u1) (h8 : a.tmps.getD 8 undef = u8) (h9 : a.tmps.getD 9 undef = u9) (h10 : a.tmps.getD 10 undef = u10) (h11 : a.tmps.getD 11 undef = u11) (h12 : a.tmps.getD 12 undef = u12) (h13 : a.tmps.getD 13 undef = u13) (h14 : a.tmps.getD 14 undef = u14) (h15 : a.tmps.getD 15 undef = u15) (h21 : a.tmps.getD 21 undef = u21) (h22 : a.tmps.getD 22 undef = u22) (h31 : a.tmps.getD 31 undef = u31) (h35 : a.tmps.getD 35 undef = u35) : ∃ y : Nat → Value, a = { tmps := #[y 0, u1, y 2, y 3, y 4, y 5, y 6, y 7, u8, u9, u10, u11, u12, u13, u14, u15, y 16, y 17, y 18, y 19, y 20, u21, u22, y 23, y 24, y 25, y 26, y 27, y 28, y 29, y 30, u31, y 32, y 33, y 34, u35, y 36, y 37, y 38, y 39, y 40, y 41, y 42, y 43, y 44, y 45, y 46, y 47, y 48, y 49, y 50, y 51, y 52, y 53, y 54, y 55, y 56, y 57, y 58, y 59, y 60, y 61, y 62, y 63, y 64, y 65, y 66, y 67, y 68, y 69, y 70, y 71, y 72, y 73, y 74, y 75, y 76, y 77, y 78, y 79, y 80, y 81, y 82, y 83, y 84, y 85, y 86, y 87, y 88, y 89, y 90, y 91, y 92, y 93, y 94, y 95, y 96, y 97, y 98, y 99, y 100, y 101, y 102, y 103, y 104, y 105, y 106, y 107, y 108, y 109, y 110, y 111, y 112, y 113, y 114, y 115, y 116, y 117, y 118, y 119, y 120, y 121, y 122, y 123, y 124, y 125, y 126, y 127, y 128, y 129, y 130, y 131, y 132, y 133, y 134, y 135, y 136, y 137, y 138, y 139, y 140, y 141, y 142, y 143, y 144, y 145, y 146, y 147, y 148, y 149, y 150, y 151, y 152, y 153, y 154, y 155, y 156, y 157, y 158, y 159, y 160, y 161, y 162, y 163, y 164, y 165, y 166, y 167, y 168, y 169, y 170, y 171, y 172, y 173, y 174, y 175, y 176, y 177, y 178, y 179, y 180, y 181, y 182, y 183, y 184, y 185, y 186, y 187, y 188, y 189, y 190, y 191, y 192, y 193, y 194, y 195, y 196, y 197, y 198, y 199, y 200, y 201, y 202, y 203, y 204, y 205, y 206, y 207, y 208, y 209, y 210, y 211, y 212, y 213, y 214, y 215, y 216, y 217, y 218, y 219, y 220, y 221, y 222, y 223, y 224, y 225, y 226, y 227, y 228, y 229, y 230, y 231, y 232, y 233, y 234, y 235, y 236, y 237, y 238, y 239, y 240, y 241, y 242, y 243, y 244, y 245, y 246, y 247, y 248, y 249, y 250, y 251, y 252, y 253, y 254, y 255, y 256, y 257, y 258, y 259, y 260, y 261, y 262, y 263, y 264, y 265, y 266, y 267, y 268, y 269, y 270, y 271, y 272, y 273, y 274, y 275, y 276, y 277, y 278, y 279, y 280, y 281, y 282, y 283, y 284, y 285, y 286, y 287, y 288, y 289, y 290, y 291, y 292, y 293, y 294, y 295, y 296, y 297, y 298, y 299, y 300, y 301, y 302, y 303, y 304, y 305, y 306, y 307, y 308, y 309, y 310, y 311, y 312, y 313, y 314, y 315, y 316, y 317, y 318, y 319, y 320, y 321, y 322, y 323, y 324, y 325, y 326, y 327, y 328, y 329, y 330, y 331, y 332, y 333, y 334, y 335, y 336, y 337, y 338, y 339, y 340, y 341, y 342, y 343, y 344, y 345, y 346, y 347, y 348, y 349, y 350, y 351, y 352, y 353, y 354, y 355, y 356, y 357, y 358, y 359, y 360, y 361, y 362, y 363, y 364, y 365, y 366, y 367, y 368, y 369, y 370, y 371, y 372, y 373, y 374, y 375, y 376, y 377, y 378, y 379, y 380, y 381, y 382, y 383, y 384, y 385, y 386, y 387, y 388, y 389, y 390, y 391, y 392, y 393, y 394, y 395, y 396, y 397, y 398, y 399, y 400, y 401, y 402, y 403, y 404, y 405, y 406, y 407, y 408, y 409, y 410, y 411, y 412, y 413, y 414, y 415, y 416, y 417, y 418, y 419, y 420, y 421, y 422, y 423, y 424, y 425, y 426, y 427, y 428, y 429, y 430, y 431, y 432, y 433, y 434, y 435, y 436, y 437, y 438, y 439, y 440, y 441, y 442, y 443, y 444, y 445, y 446, y 447, y 448, y 449, y 450, y 451, y 452, y 453, y 454, y 455, y 456, y 457, y 458, y 459, y 460, y 461, y 462, y 463, y 464, y 465, y 466, y 467, y 468, y 469, y 470, y 471, y 472, y 473, y 474, y 475, y 476, y 477, y 478, y 479, y 480, y 481, y 482, y 483, y 484, y 485, y 486, y 487, y 488, y 489, y 490, y 491, y 492, y 493, y 494, y 495, y 496, y 497, y 498, y 499, y 500, y 501, y 502, y 503, y 504, y 505, y 506, y 507, y 508, y 509, y 510, y 511, y 512, y 513, y 514, y 515, y 516, y 517, y 518, y 519, y 520, y 521, y 522, y 523, y 524, y 525, y 526, y 527, y 528, y 529, y 530, y 531, y 532, y 533, y 534, y 535, y 536, y 537, y 538, y 539, y 540, y 541, y 542, y 543, y 544, y 545, y 546, y 547, y 548, y 549, y 550, y 551, y 552, y 553, y 554, y 555, y 556, y 557, y 558, y 559, y 560, y 561, y 562, y 563, y 564, y 565, y 566, y 567, y 568, y 569, y 570, y 571, y 572, y 573, y 574, y 575, y 576, y 577, y 578, y 579, y 580, y 581, y 582, y 583, y 584, y 585], defers := [] } := by
  obtain ⟨tmps, defers⟩ := a
  have yd : defers = [] := hd
  subst yd
  obtain ⟨y, hy, hi⟩ := arr_586 tmps hs
  have e1 := (hi 1).trans h1
  have e8 := (hi 8).trans h8
  have e9 := (hi 9).trans h9
  have e10 := (hi 10).trans h10
  have e11 := (hi 11).trans h11
  have e12 := (hi 12).trans h12
  have e13 := (hi 13).trans h13
  have e14 := (hi 14).trans h14
  have e15 := (hi 15).trans h15
  have e21 := (hi 21).trans h21
  have e22 := (hi 22).trans h22
  have e31 := (hi 31).trans h31
  have e35 := (hi 35).trans h35
  rw [e1, e8, e9, e10, e11, e12, e13, e14, e15, e21, e22, e31, e35] at hy
  exact ⟨y, congrArg (fun t => (⟨t, []⟩ : Act)) hy⟩

theorem cnt_up {p : Nat → Bool} {x : Nat} : ∀ {y : Nat}, x ≤ y → cnt p x ≤ cnt p y
  | 0, h => by
    obtain rfl : x = 0 := by omega
    exact Nat.le_refl _
  | y + 1, h => by
    by_cases e : x = y + 1
    · rw [e]; exact Nat.le_refl _
    · refine Nat.le_trans (cnt_up (y := y) (by omega)) ?_
      rw [cnt_succ]; omega
theorem cnt_sub {p q : Nat → Bool} (hq : ∀ e, q e = true → p e = true) {x y : Nat} (hx : x ≤ y) (h : cnt p x = cnt p y) : cnt q x = cnt q y := by
  have := cnt_more (p := q) (N := x) (y - x) (fun e h1 h2 => by
    cases hh : q e with
    | false => rfl
    | true =>
      exfalso
      have a1 := cnt_lt (p := p) (s := e) (s' := y) (by omega) (hq e hh)
      have a2 := cnt_up (p := p) h1
      omega)
  rw [show x + (y - x) = y by omega] at this
  exact this.symm
/-- The edges that leave slot f. -/
def pO (G : GR) (R : Nat → Nat → Bool) (nc : Nat) (cls : Nat → Nat) (P P2 : PS) (c f e : Nat) : Bool := pC G R nc cls P c e && (P2.fr e == (f : Int))
def posA (G : GR) (R : Nat → Nat → Bool) (nc : Nat) (cls : Nat → Nat) (P P2 : PS) (c x f : Nat) : Int := ((cnt (pO G R nc cls P P2 c f) x : Nat) : Int)
section
variable {wb : World} {gB gM gA : Nat} {V : Fam} {G : GR} {R : Nat → Nat → Bool} {nc : Nat} {cls : Nat → Nat} {P P2 : PS} {c D0 : Nat} {nu : Nat → Nat}
theorem posA_eq {x y : Nat} (h : cnt (pC G R nc cls P c) x = cnt (pC G R nc cls P c) y) : posA G R nc cls P P2 c x = posA G R nc cls P P2 c y := by
  funext f
  unfold posA
  have hq : ∀ e, pO G R nc cls P P2 c f e = true → pC G R nc cls P c e = true := fun e he => by
    unfold pO at he; rw [Bool.and_eq_true] at he; exact he.1
  rcases Nat.le_total x y with hx | hx
  · rw [cnt_sub hq hx h]
  · rw [cnt_sub hq hx h.symm]
theorem L3In.outl (h : L3In wb gB gM gA V G R nc cls P P2 c D0 nu) {k : Nat} (hk : k < P.mn c) : (∀ e, e < G.E → pC G R nc cls P c e = true → P2.fr e = ((P.ns k : Nat) : Int) → cnt (pO G R nc cls P P2 c (P.ns k)) e < P2.on (P.ns k) ∧ P2.out (P.ns k) (cnt (pO G R nc cls P P2 c (P.ns k)) e) = (e : Int)) ∧ cnt (pO G R nc cls P P2 c (P.ns k)) G.E = P2.on (P.ns k) := by
  have inE : ∀ e, InC P (P.mn c) (P.sl c) e → e < G.E := fun e hi => ((h.meet.binC h.c1 h.c2).1 hi).1
  have h1 : ∀ i, i < P2.on (P.ns k) → (P2.out (P.ns k) i).toNat < G.E ∧ pO G R nc cls P P2 c (P.ns k) (P2.out (P.ns k) i).toNat = true := by
    intro i hi
    obtain ⟨e, e1, e2, e3⟩ := h.sf.out1 k i hk hi
    rw [e1, Int.toNat_natCast]
    refine ⟨inE e e2, ?_⟩
    unfold pO
    rw [(h.pc (inE e e2)).2 e2, e3]; simp
  have h2 : ∀ e, e < G.E → pO G R nc cls P P2 c (P.ns k) e = true → ∃ i, i < P2.on (P.ns k) ∧ (P2.out (P.ns k) i).toNat = e := by
    intro e he hp
    unfold pO at hp
    rw [Bool.and_eq_true] at hp
    obtain ⟨j, j1, j2⟩ := h.sf.out2 k e hk ((h.pc he).1 hp.1) (by simpa using hp.2)
    exact ⟨j, j1, by rw [j2, Int.toNat_natCast]⟩
  have h3 : ∀ i i', i < i' → i' < P2.on (P.ns k) → (P2.out (P.ns k) i).toNat < (P2.out (P.ns k) i').toNat := by
    intro i i' hi hi'
    have := h.sf.out3 k i i' hk hi hi'
    obtain ⟨e, e1, _⟩ := h.sf.out1 k i hk (by omega)
    obtain ⟨e', e1', _⟩ := h.sf.out1 k i' hk hi'
    rw [e1, e1'] at this ⊢
    rw [Int.toNat_natCast, Int.toNat_natCast]; omega
  refine ⟨fun e he hp hf => ?_, cnt_list_all h1 h2 h3⟩
  have hp2 : pO G R nc cls P P2 c (P.ns k) e = true := by unfold pO; rw [hp, hf]; simp
  obtain ⟨a1, a2⟩ := cnt_list_at h1 h2 h3 he hp2
  refine ⟨a1, ?_⟩
  obtain ⟨e', e1', _⟩ := h.sf.out1 k _ hk a1
  rw [e1', Int.toNat_natCast] at a2
  rw [e1', a2]
theorem posA_step {e k : Nat} (hp : pC G R nc cls P c e = true) (hf : P2.fr e = ((P.ns k : Nat) : Int)) (f : Nat) : posA G R nc cls P P2 c (e + 1) f = upd (posA G R nc cls P P2 c e) (P.ns k) (posA G R nc cls P P2 c e (P.ns k) + 1) f := by
  by_cases ef : f = P.ns k
  · subst ef
    rw [upd_same]
    unfold posA
    rw [cnt_step]
    unfold pO
    rw [hp, hf]; simp
  · rw [upd_other _ _ ef]
    unfold posA
    rw [cnt_step]
    have : pO G R nc cls P P2 c f e = false := by
      unfold pO
      have : (P2.fr e == (f : Int)) = false := by rw [hf, beq_eq_false_iff_ne]; omega
      rw [this]; simp
    rw [this]; simp
end
def f5h (c : Code) : Code := bl (sL (tl 1 (lp (bl (tl 1 (sL (tl 35 c)))))))
set_option maxRecDepth 40000 in
set_option maxHeartbeats 8000000 in
/-- Regions 93 and 95. -/
theorem l3_6b (wb : World) (gB gM gA : Nat) (V : Fam) (G : GR) (R : Nat → Nat → Bool) (nc : Nat) (cls : Nat → Nat) (P P2 : PS) (c D0 : Nat) (nu : Nat → Nat) (mv : Nat → Nat) (b21 k21 b22 k22 g15 k15 : Nat) (hin : L3In wb gB gM gA V G R nc cls P P2 c D0 nu) (g25 g31 : Nat) (id : Nat → Bool) (j e k : Nat) (he : e < G.E) (hp : pC G R nc cls P c e = true) (hk : k < P.mn c) (hfr : P2.fr e = ((P.ns k : Nat) : Int)) (wr : World) (hT : T5d wb G R nc cls P P2 c mv g15 g25 g31 id (posA G R nc cls P P2 c e) wr) (a : Act) (hf : F5b gB gM gA c G.E P2.nS P2.nC D0 (cnt (pC G R nc cls P c) G.E) (P.mn c) b21 k21 b22 k22 g15 k15 a) (h25 : a.tmps.getD 25 undef = .slice (some ⟨g25, 0, none⟩) P2.nS P2.nS) (h31 : a.tmps.getD 31 undef = .slice (some ⟨g31, 0, none⟩) P2.nS P2.nS) (h32 : a.tmps.getD 32 undef = .int .i64 (j : Int)) (h33 : a.tmps.getD 33 undef = .int .i64 (e : Int)) (h34 : a.tmps.getD 34 undef = .int .i64 ((P.ns k : Nat) : Int)) (Q : Exit → Act → World → Prop)
    (hC : ∀ (a : Act) (w : World), F5b gB gM gA c G.E P2.nS P2.nC D0 (cnt (pC G R nc cls P c) G.E) (P.mn c) b21 k21 b22 k22 g15 k15 a → a.tmps.getD 25 undef = .slice (some ⟨g25, 0, none⟩) P2.nS P2.nS → a.tmps.getD 31 undef = .slice (some ⟨g31, 0, none⟩) P2.nS P2.nS → a.tmps.getD 32 undef = .int .i64 (j : Int) → T5d wb G R nc cls P P2 c mv g15 g25 g31 id (posA G R nc cls P P2 c (e + 1)) w → Q .normal a w) :
    Code.wp Try.prog (tl 3 (f5h (Try.f5.body.getD .skip))) Q a wr := by
  obtain ⟨y, rfl⟩ := l5s hf.sz hf.df hf.s1 hf.s8 hf.s9 hf.s10 hf.s11 hf.s12 hf.s13 hf.s14 hf.s15 hf.s21 hf.s22 h25 h31 h32 h33 h34
  obtain ⟨hE, hn, hS, hCC, hS2, hC2⟩ := hin.sm
  have HIN : Hid (L3In wb gB gM gA V G R nc cls P P2 c D0 nu) := hin
  have hlt := hin.sf.lt k hk
  obtain ⟨o1, o2⟩ := (hin.outl hk).1 e he hp hfr
  obtain ⟨D, d1, d2, d3, d4⟩ := hT
  have hG := d1.grew.to_nil
  obtain ⟨b4, k4, b4', l4, x1, x2, x3, x4, x5⟩ := hin.va.v4.at2 hG hlt o1
  rw [o2] at x5
  have z1 : wr.cell? ⟨g31, P.ns k, none⟩ = some (.int .i64 ((cnt (pO G R nc cls P P2 c (P.ns k)) e : Nat) : Int)) := d4.cell d1 rfl hlt
  have hcl := cnt_le (pO G R nc cls P P2 c (P.ns k)) e
  have HX : Hid (∀ q, (wr.drewN q).cell? ⟨g31, P.ns k, none⟩ = some (.int .i64 ((cnt (pO G R nc cls P P2 c (P.ns k)) e : Nat) : Int)) ∧ (wr.drewN q).frozen? ⟨g31, P.ns k, none⟩ = false) := fun q => ⟨d4.cell (d1.drewN q) rfl hlt, d4.frozen (d1.drewN q) _⟩
  have fin : Hid (∀ q, T5d wb G R nc cls P P2 c mv g15 g25 g31 id (posA G R nc cls P P2 c (e + 1)) ((wr.drewN q).setCell ⟨g31, P.ns k, none⟩ (.int .i64 (((cnt (pO G R nc cls P P2 c (P.ns k)) e : Nat) : Int) + 1)))) := fun q => ⟨_, (d1.drewN q).set d4.1 (P.ns k) _, d2.set_ne (by omega), d3.set_ne (by omega), (d4.set (P.ns k) _).congr (fun f _ => (posA_step hp hfr f).symm)⟩
  have HC : Hid (∀ (a : Act) (q : Nat), F5b gB gM gA c G.E P2.nS P2.nC D0 (cnt (pC G R nc cls P c) G.E) (P.mn c) b21 k21 b22 k22 g15 k15 a → a.tmps.getD 25 undef = .slice (some ⟨g25, 0, none⟩) P2.nS P2.nS → a.tmps.getD 31 undef = .slice (some ⟨g31, 0, none⟩) P2.nS P2.nS → a.tmps.getD 32 undef = .int .i64 (j : Int) → Q .normal a ((wr.drewN q).setCell ⟨g31, P.ns k, none⟩ (.int .i64 (((cnt (pO G R nc cls P P2 c (P.ns k)) e : Nat) : Int) + 1)))) := fun a q h1 h2 h3 h4 => hC a _ h1 h2 h3 h4 (fin.out q)
  clear hf hC hin h25 h31 h32 h33 h34 d1 d2 d3 d4 hG HIN fin hp hfr o2
  generalize cnt (pO G R nc cls P P2 c (P.ns k)) e = cq at *
  generalize P2.on (P.ns k) = on at *
  generalize P.ns k = s at *
  generalize (cnt (pC G R nc cls P c) G.E) = mm at *
  have f1 : (s : Int) < (P2.nS : Int) := by omega
  have f2 : (cq : Int) < (on : Int) := by omega
  have g1 : decide ((on : Int) ≤ (cq : Int)) = false := decide_eq_false (by omega)
  have g2 : decide (on ≤ cq) = false := decide_eq_false (by omega)
  show Code.wp Try.prog (Code.seq (Code.seq _ (Code.cond (.tmp 466) _ Code.skip)) _) Q _ wr
  refine wp_seq_k (fun K1 hK => ?_)
  have HK1 : Hid (∀ (a : Act) (w : World), _ → K1 a w) := hK
  clear hK
  refine wp_seq_k (fun K2 hK => ?_)
  have HK2 : Hid (∀ (a : Act) (w : World), _ → K2 a w) := hK
  clear hK
  go_quiet (fail)
  refine HK2.out _ _ (wp_cond_false (by kernel_rfl) (wp_skip ?_))
  refine HK1.out _ _ ?_
  clear HK1 K1 HK2 K2 x1 x2 x3 x4 x5 z1
  obtain ⟨z1, z2⟩ := HX.out nq
  have HCq : Hid (∀ (a : Act), F5b gB gM gA c G.E P2.nS P2.nC D0 mm (P.mn c) b21 k21 b22 k22 g15 k15 a → a.tmps.getD 25 undef = .slice (some ⟨g25, 0, none⟩) P2.nS P2.nS → a.tmps.getD 31 undef = .slice (some ⟨g31, 0, none⟩) P2.nS P2.nS → a.tmps.getD 32 undef = .int .i64 (j : Int) → Q .normal a ((wr.drewN nq).setCell ⟨g31, s, none⟩ (.int .i64 ((cq : Int) + 1)))) := fun a => HC.out a nq
  clear HX HC
  generalize wr.drewN nq = wq at *
  go_wp2
  exact HCq.out _ ⟨by kernel_rfl, by kernel_rfl, by kernel_rfl, by kernel_rfl, by kernel_rfl, by kernel_rfl, by kernel_rfl, by kernel_rfl, by kernel_rfl, by kernel_rfl, by kernel_rfl, by kernel_rfl, by kernel_rfl⟩ (by kernel_rfl) (by kernel_rfl) (by kernel_rfl)

def L5e (wb : World) (gB gM gA : Nat) (V : Fam) (G : GR) (R : Nat → Nat → Bool) (nc : Nat) (cls : Nat → Nat) (P P2 : PS) (c D0 : Nat) (nu : Nat → Nat) (mv : Nat → Nat) (b21 k21 b22 k22 g15 k15 : Nat) (g25 g31 : Nat) (id : Nat → Bool) (a : Act) (w : World) : Prop :=
  F5b gB gM gA c G.E P2.nS P2.nC D0 (cnt (pC G R nc cls P c) G.E) (P.mn c) b21 k21 b22 k22 g15 k15 a ∧ a.tmps.getD 25 undef = .slice (some ⟨g25, 0, none⟩) P2.nS P2.nS ∧ a.tmps.getD 31 undef = .slice (some ⟨g31, 0, none⟩) P2.nS P2.nS ∧ ∃ (j x : Nat), a.tmps.getD 32 undef = .int .i64 (j : Int) ∧ j ≤ (cnt (pC G R nc cls P c) G.E) ∧ cnt (pC G R nc cls P c) x = j ∧ T5d wb G R nc cls P P2 c mv g15 g25 g31 id (posA G R nc cls P P2 c x) w
set_option maxRecDepth 40000 in
set_option maxHeartbeats 8000000 in
/-- The edges are followed. -/
theorem l3_6 (wb : World) (gB gM gA : Nat) (V : Fam) (G : GR) (R : Nat → Nat → Bool) (nc : Nat) (cls : Nat → Nat) (P P2 : PS) (c D0 : Nat) (nu : Nat → Nat) (mv : Nat → Nat) (b21 k21 b22 k22 g15 k15 : Nat) (hin : L3In wb gB gM gA V G R nc cls P P2 c D0 nu) (hM : L3M wb G R nc cls P c mv b21 k21 b22 k22 g15 k15) (g25 g31 : Nat) (id : Nat → Bool) (hid : ∀ k, k < P.mn c → id (P.ns k) = true) (wr : World) (hT : T5d wb G R nc cls P P2 c mv g15 g25 g31 id (fun _ => 0) wr) (a : Act) (hf : F5b gB gM gA c G.E P2.nS P2.nC D0 (cnt (pC G R nc cls P c) G.E) (P.mn c) b21 k21 b22 k22 g15 k15 a) (h25 : a.tmps.getD 25 undef = .slice (some ⟨g25, 0, none⟩) P2.nS P2.nS) (h31 : a.tmps.getD 31 undef = .slice (some ⟨g31, 0, none⟩) P2.nS P2.nS) (Q : Exit → Act → World → Prop)
    (hC : ∀ (a : Act) (w : World), F5b gB gM gA c G.E P2.nS P2.nC D0 (cnt (pC G R nc cls P c) G.E) (P.mn c) b21 k21 b22 k22 g15 k15 a → a.tmps.getD 31 undef = .slice (some ⟨g31, 0, none⟩) P2.nS P2.nS → T5d wb G R nc cls P P2 c mv g15 g25 g31 id (posA G R nc cls P P2 c G.E) w → Q .normal a w) :
    Code.wp Try.prog (sL (tl 35 (Try.f5.body.getD .skip))) Q a wr := by
  obtain ⟨y, rfl⟩ := l5q hf.sz hf.df hf.s1 hf.s8 hf.s9 hf.s10 hf.s11 hf.s12 hf.s13 hf.s14 hf.s15 hf.s21 hf.s22 h25 h31
  obtain ⟨hE, hn, hS, hCC, hS2, hC2⟩ := hin.sm
  have HIN : Hid (L3In wb gB gM gA V G R nc cls P P2 c D0 nu) := hin
  obtain ⟨nE1, nE2⟩ := hin.nE
  have HM : Hid (L3M wb G R nc cls P c mv b21 k21 b22 k22 g15 k15) := hM
  have HT : Hid (T5d wb G R nc cls P P2 c mv g15 g25 g31 id (posA G R nc cls P P2 c 0) wr) := hT
  have HC : Hid (∀ (a : Act) (w : World), F5b gB gM gA c G.E P2.nS P2.nC D0 (cnt (pC G R nc cls P c) G.E) (P.mn c) b21 k21 b22 k22 g15 k15 a → a.tmps.getD 31 undef = .slice (some ⟨g31, 0, none⟩) P2.nS P2.nS → T5d wb G R nc cls P P2 c mv g15 g25 g31 id (posA G R nc cls P P2 c G.E) w → Q .normal a w) := hC
  have hmm := cnt_le (pC G R nc cls P c) G.E
  clear hf hC hin h25 h31 hT hM
  show Code.wp Try.prog (Code.seq _ (Code.block 8 (Code.loop (Code.seq (Code.seq _ (Code.cond (.tmp 413) Code.skip (Code.exit 8))) (Code.seq (Code.block 9 (f5h (Try.f5.body.getD .skip))) _))))) Q _ wr
  refine wp_seq_k (fun K1 hK => ?_)
  have HK1 : Hid (∀ (a : Act) (w : World), _ → K1 a w) := hK
  clear hK
  go_wp2
  refine HK1.out _ _ ?_
  clear HK1 K1
  refine wp_block ?_
  refine wp_loop (L5e wb gB gM gA V G R nc cls P P2 c D0 nu mv b21 k21 b22 k22 g15 k15 g25 g31 id) (fun a _ => mus 32 (cnt (pC G R nc cls P c) G.E) a) ⟨⟨by kernel_rfl, by kernel_rfl, by kernel_rfl, by kernel_rfl, by kernel_rfl, by kernel_rfl, by kernel_rfl, by kernel_rfl, by kernel_rfl, by kernel_rfl, by kernel_rfl, by kernel_rfl, by kernel_rfl⟩, by kernel_rfl, by kernel_rfl, 0, 0, by kernel_rfl, Nat.zero_le _, rfl, HT.out⟩ ?_
  clear HT y
  rintro a w' ⟨hf, h25, h31, j, x, h32, j1, hx, hT⟩
  have e32 : mus 32 (cnt (pC G R nc cls P c) G.E) a = (cnt (pC G R nc cls P c) G.E) - j := congrArg (fun v => (cnt (pC G R nc cls P c) G.E) - (intOf v).toNat) h32
  obtain ⟨y2, rfl⟩ := l5r hf.sz hf.df hf.s1 hf.s8 hf.s9 hf.s10 hf.s11 hf.s12 hf.s13 hf.s14 hf.s15 hf.s21 hf.s22 h25 h31 h32
  rw [e32]
  clear e32 hf h25 h31 h32
  refine wp_seq_k (fun K1 hK => ?_)
  have HK1 : Hid (∀ (a : Act) (w : World), _ → K1 a w) := hK
  clear hK
  refine wp_seq_k (fun K2 hK => ?_)
  have HK2 : Hid (∀ (a : Act) (w : World), _ → K2 a w) := hK
  clear hK
  by_cases hj : j < (cnt (pC G R nc cls P c) G.E)
  · have hjj : (j : Int) < (((cnt (pC G R nc cls P c) G.E) : Nat) : Int) := by omega
    obtain ⟨m1, m2, m3⟩ := HM.out.mv.a j hj
    rw [posA_eq (hx.trans m3.symm)] at hT
    have k3 := HM.out.k3
    obtain ⟨f, k, k2, hk, hk2, p1, p2, p3, q2, q3, q4, q5, q6, q7, q8, q9⟩ := HIN.out.ein m1 m2
    have HTT : Hid (T5d wb G R nc cls P P2 c mv g15 g25 g31 id (posA G R nc cls P P2 c (mv j)) w') := hT
    have HNX : Hid (cnt (pC G R nc cls P c) (mv j + 1) = j + 1) := by rw [cnt_succ, m2, m3]; rfl
    obtain ⟨D, d1, d2, d3, d4⟩ := hT
    have hG := d1.grew.to_nil
    have x1 : w'.cell? ⟨g15, j, none⟩ = some (.int .i64 ((mv j : Nat) : Int)) := d2.cell d1 rfl hj
    obtain ⟨b0, k0, z1, z2, z3⟩ := HIN.out.va.v0.at hG (j := mv j) (by omega)
    obtain ⟨b1, k1, u1, u2, u3⟩ := HIN.out.va.v1.at hG (j := mv j) (by omega)
    rw [nE2] at z1 z2 u1 u2
    rw [q2] at z3
    rw [q3] at u3
    have x2 : w'.cell? ⟨g25, P.ns k, none⟩ = some (.bool true) := by rw [d3.cell d1 rfl q4, hid k hk]
    have x3 : w'.cell? ⟨g25, P.ns k2, none⟩ = some (.bool true) := by rw [d3.cell d1 rfl q5, hid k2 hk2]
    have END : Hid (∀ (K : Act → World → Prop), (∀ (a : Act) (w : World), Code.wp Try.prog (tl 1 (tl 1 (lp (bl (tl 1 (sL (tl 35 (Try.f5.body.getD .skip)))))))) (fun ex a' w' => Exit.then (fun a' w' => L5e wb gB gM gA V G R nc cls P P2 c D0 nu mv b21 k21 b22 k22 g15 k15 g25 g31 id a' w' ∧ mus 32 (cnt (pC G R nc cls P c) G.E) a' < (cnt (pC G R nc cls P c) G.E) - j) (Exit.inBlock 8 Q) ex a' w') a w → K a w) → ∀ (a : Act) (w : World), F5b gB gM gA c G.E P2.nS P2.nC D0 (cnt (pC G R nc cls P c) G.E) (P.mn c) b21 k21 b22 k22 g15 k15 a → a.tmps.getD 25 undef = .slice (some ⟨g25, 0, none⟩) P2.nS P2.nS → a.tmps.getD 31 undef = .slice (some ⟨g31, 0, none⟩) P2.nS P2.nS → a.tmps.getD 32 undef = .int .i64 (j : Int) → T5d wb G R nc cls P P2 c mv g15 g25 g31 id (posA G R nc cls P P2 c (mv j + 1)) w → K a w) := by
      intro K hK a w hf h25 h31 h32 hT
      obtain ⟨y5, rfl⟩ := l5r hf.sz hf.df hf.s1 hf.s8 hf.s9 hf.s10 hf.s11 hf.s12 hf.s13 hf.s14 hf.s15 hf.s21 hf.s22 h25 h31 h32
      have HT2 : Hid (T5d wb G R nc cls P P2 c mv g15 g25 g31 id (posA G R nc cls P P2 c (mv j + 1)) w) := hT
      refine hK _ _ ?_
      clear hf h25 h31 h32 hK hT HTT HK1 HK2 x1 x2 x3 hG d1 d2 d3 d4 z1 z2 z3 u1 u2 u3
      simp only [tl, lp, bl, sL, Try.f5, Option.getD]
      go_wp2
      exact ⟨⟨⟨by kernel_rfl, by kernel_rfl, by kernel_rfl, by kernel_rfl, by kernel_rfl, by kernel_rfl, by kernel_rfl, by kernel_rfl, by kernel_rfl, by kernel_rfl, by kernel_rfl, by kernel_rfl, by kernel_rfl⟩, by kernel_rfl, by kernel_rfl, j + 1, _, by kernel_rfl, by omega, HNX.out, HT2.out⟩, Nat.lt_of_le_of_lt (Nat.le_of_eq (by kernel_rfl : _ = (cnt (pC G R nc cls P c) G.E) - (j + 1))) (by omega)⟩
    clear d1 d2 d3 d4 hG
    go_wp2
    refine HK2.out _ _ (wp_cond_true (by kernel_rfl) (wp_skip ?_))
    refine HK1.out _ _ ?_
    clear HK1 K1 HK2 K2
    refine wp_seq_k (fun K1 hK => ?_)
    have END1 : Hid (∀ (a : Act) (w : World), F5b gB gM gA c G.E P2.nS P2.nC D0 (cnt (pC G R nc cls P c) G.E) (P.mn c) b21 k21 b22 k22 g15 k15 a → a.tmps.getD 25 undef = .slice (some ⟨g25, 0, none⟩) P2.nS P2.nS → a.tmps.getD 31 undef = .slice (some ⟨g31, 0, none⟩) P2.nS P2.nS → a.tmps.getD 32 undef = .int .i64 (j : Int) → T5d wb G R nc cls P P2 c mv g15 g25 g31 id (posA G R nc cls P P2 c (mv j + 1)) w → K1 a w) := END.out K1 hK
    clear hK END
    refine wp_block ?_
    have HB : Hid (∀ (a : Act), F5b gB gM gA c G.E P2.nS P2.nC D0 (cnt (pC G R nc cls P c) G.E) (P.mn c) b21 k21 b22 k22 g15 k15 a → a.tmps.getD 25 undef = .slice (some ⟨g25, 0, none⟩) P2.nS P2.nS → a.tmps.getD 31 undef = .slice (some ⟨g31, 0, none⟩) P2.nS P2.nS → a.tmps.getD 32 undef = .int .i64 (j : Int) → a.tmps.getD 33 undef = .int .i64 ((mv j : Nat) : Int) → a.tmps.getD 34 undef = .int .i64 ((P.ns k : Nat) : Int) → Code.wp Try.prog (tl 3 (f5h (Try.f5.body.getD .skip))) (Exit.inBlock 9 (fun ex a' w' => Exit.then K1 (fun ex a' w' => Exit.then (fun a' w' => L5e wb gB gM gA V G R nc cls P P2 c D0 nu mv b21 k21 b22 k22 g15 k15 g25 g31 id a' w' ∧ mus 32 (cnt (pC G R nc cls P c) G.E) a' < (cnt (pC G R nc cls P c) G.E) - j) (Exit.inBlock 8 Q) ex a' w') ex a' w')) a w') := fun a hf h25 h31 h32 h33 h34 => l3_6b wb gB gM gA V G R nc cls P P2 c D0 nu mv b21 k21 b22 k22 g15 k15 HIN.out g25 g31 id j (mv j) k m1 m2 hk q2 w' HTT.out a hf h25 h31 h32 h33 h34 _ END1.out
    clear HIN HM HTT HNX q2 q3 q6 q7 q8 q9 m2 m3 p1 p2 p3 hx
    have f1 : ((P.ns k : Nat) : Int) < (P2.nS : Int) := by omega
    have f2 : ((P.ns k2 : Nat) : Int) < (P2.nS : Int) := by omega
    have f3 : ((mv j : Nat) : Int) < (G.E : Int) := by omega
    show Code.wp Try.prog (Code.seq _ (Code.seq _ (Code.seq (Code.seq _ (Code.cond (.tmp 440) _ Code.skip)) (tl 3 (f5h (Try.f5.body.getD .skip)))))) _ _ w'
    refine wp_seq_k (fun K2 hK => ?_)
    have HK2 : Hid (∀ (a : Act) (w : World), _ → K2 a w) := hK
    clear hK
    go_wp2
    refine HK2.out _ _ ?_
    clear HK2 K2 x1
    refine wp_seq_k (fun K2 hK => ?_)
    have HK2 : Hid (∀ (a : Act) (w : World), _ → K2 a w) := hK
    clear hK
    go_wp2
    refine HK2.out _ _ ?_
    clear HK2 K2 z1 z2 z3
    refine wp_seq_k (fun K2 hK => ?_)
    have HK2 : Hid (∀ (a : Act) (w : World), _ → K2 a w) := hK
    clear hK
    refine wp_seq_k (fun K3 hK => ?_)
    have HK3 : Hid (∀ (a : Act) (w : World), _ → K3 a w) := hK
    clear hK
    go_wp2
    refine HK3.out _ _ (wp_cond_false (by kernel_rfl) (wp_skip ?_))
    refine HK2.out _ _ ?_
    exact HB.out _ ⟨by kernel_rfl, by kernel_rfl, by kernel_rfl, by kernel_rfl, by kernel_rfl, by kernel_rfl, by kernel_rfl, by kernel_rfl, by kernel_rfl, by kernel_rfl, by kernel_rfl, by kernel_rfl, by kernel_rfl⟩ (by kernel_rfl) (by kernel_rfl) (by kernel_rfl) (by kernel_rfl) (by kernel_rfl)
  · have hjj : ¬ (j : Int) < (((cnt (pC G R nc cls P c) G.E) : Nat) : Int) := by omega
    rw [posA_eq (hx.trans (show j = (cnt (pC G R nc cls P c) G.E) by omega))] at hT
    have HT : Hid (T5d wb G R nc cls P P2 c mv g15 g25 g31 id (posA G R nc cls P P2 c G.E) w') := hT
    clear hT HIN HM hx
    go_wp2
    refine HK2.out _ _ (wp_cond_false (by kernel_rfl) (wp_exit ?_))
    exact HC.out _ _ ⟨by kernel_rfl, by kernel_rfl, by kernel_rfl, by kernel_rfl, by kernel_rfl, by kernel_rfl, by kernel_rfl, by kernel_rfl, by kernel_rfl, by kernel_rfl, by kernel_rfl, by kernel_rfl, by kernel_rfl⟩ (by kernel_rfl) HT.out

def L5f (wb : World) (gB gM gA : Nat) (V : Fam) (G : GR) (R : Nat → Nat → Bool) (nc : Nat) (cls : Nat → Nat) (P P2 : PS) (c D0 : Nat) (nu : Nat → Nat) (mv : Nat → Nat) (b21 k21 b22 k22 g15 k15 : Nat) (g25 g31 : Nat) (id : Nat → Bool) (a : Act) (w : World) : Prop :=
  F5b gB gM gA c G.E P2.nS P2.nC D0 (cnt (pC G R nc cls P c) G.E) (P.mn c) b21 k21 b22 k22 g15 k15 a ∧ a.tmps.getD 31 undef = .slice (some ⟨g31, 0, none⟩) P2.nS P2.nS ∧ ∃ (j : Nat), a.tmps.getD 35 undef = .int .i64 (j : Int) ∧ j ≤ P.mn c ∧ T5d wb G R nc cls P P2 c mv g15 g25 g31 id (posA G R nc cls P P2 c G.E) w
set_option maxRecDepth 40000 in
set_option maxHeartbeats 8000000 in
/-- The lists end there. -/
theorem l3_7 (wb : World) (gB gM gA : Nat) (V : Fam) (G : GR) (R : Nat → Nat → Bool) (nc : Nat) (cls : Nat → Nat) (P P2 : PS) (c D0 : Nat) (nu : Nat → Nat) (mv : Nat → Nat) (b21 k21 b22 k22 g15 k15 : Nat) (hin : L3In wb gB gM gA V G R nc cls P P2 c D0 nu) (hM : L3M wb G R nc cls P c mv b21 k21 b22 k22 g15 k15) (g25 g31 : Nat) (id : Nat → Bool) (wr : World) (hT : T5d wb G R nc cls P P2 c mv g15 g25 g31 id (posA G R nc cls P P2 c G.E) wr) (a : Act) (hf : F5b gB gM gA c G.E P2.nS P2.nC D0 (cnt (pC G R nc cls P c) G.E) (P.mn c) b21 k21 b22 k22 g15 k15 a) (h31 : a.tmps.getD 31 undef = .slice (some ⟨g31, 0, none⟩) P2.nS P2.nS) (Q : Exit → Act → World → Prop)
    (hC : ∀ (a : Act) (w : World), F5b gB gM gA c G.E P2.nS P2.nC D0 (cnt (pC G R nc cls P c) G.E) (P.mn c) b21 k21 b22 k22 g15 k15 a → Grew Fam.nil wb Fam.nil w → Q .normal a w) :
    Code.wp Try.prog (sL (tl 36 (Try.f5.body.getD .skip))) Q a wr := by
  obtain ⟨y, rfl⟩ := l5t hf.sz hf.df hf.s1 hf.s8 hf.s9 hf.s10 hf.s11 hf.s12 hf.s13 hf.s14 hf.s15 hf.s21 hf.s22 h31
  obtain ⟨hE, hn, hS, hCC, hS2, hC2⟩ := hin.sm
  have HIN : Hid (L3In wb gB gM gA V G R nc cls P P2 c D0 nu) := hin
  have HM : Hid (L3M wb G R nc cls P c mv b21 k21 b22 k22 g15 k15) := hM
  have HT : Hid (T5d wb G R nc cls P P2 c mv g15 g25 g31 id (posA G R nc cls P P2 c G.E) wr) := hT
  have HC : Hid (∀ (a : Act) (w : World), F5b gB gM gA c G.E P2.nS P2.nC D0 (cnt (pC G R nc cls P c) G.E) (P.mn c) b21 k21 b22 k22 g15 k15 a → Grew Fam.nil wb Fam.nil w → Q .normal a w) := hC
  have hmc := hin.mnb c hin.c1
  clear hf hC hin h31 hT hM
  show Code.wp Try.prog (Code.seq _ (Code.block 10 (Code.loop (Code.seq (Code.seq _ (Code.cond (.tmp 476) Code.skip (Code.exit 10))) (Code.seq (Code.block 11 (Code.seq _ (Code.cond (.tmp 495) _ Code.skip))) _))))) Q _ wr
  refine wp_seq_k (fun K1 hK => ?_)
  have HK1 : Hid (∀ (a : Act) (w : World), _ → K1 a w) := hK
  clear hK
  go_wp2
  refine HK1.out _ _ ?_
  clear HK1 K1
  refine wp_block ?_
  refine wp_loop (L5f wb gB gM gA V G R nc cls P P2 c D0 nu mv b21 k21 b22 k22 g15 k15 g25 g31 id) (fun a _ => mus 35 (P.mn c) a) ⟨⟨by kernel_rfl, by kernel_rfl, by kernel_rfl, by kernel_rfl, by kernel_rfl, by kernel_rfl, by kernel_rfl, by kernel_rfl, by kernel_rfl, by kernel_rfl, by kernel_rfl, by kernel_rfl, by kernel_rfl⟩, by kernel_rfl, 0, by kernel_rfl, Nat.zero_le _, HT.out⟩ ?_
  clear HT y
  rintro a w' ⟨hf, h31, j, h35, j1, hT⟩
  have e35 : mus 35 (P.mn c) a = P.mn c - j := congrArg (fun v => P.mn c - (intOf v).toNat) h35
  obtain ⟨y2, rfl⟩ := l5u hf.sz hf.df hf.s1 hf.s8 hf.s9 hf.s10 hf.s11 hf.s12 hf.s13 hf.s14 hf.s15 hf.s21 hf.s22 h31 h35
  rw [e35]
  clear e35 hf h31 h35
  obtain ⟨D, d1, d2, d3, d4⟩ := hT
  refine wp_seq_k (fun K1 hK => ?_)
  have HK1 : Hid (∀ (a : Act) (w : World), _ → K1 a w) := hK
  clear hK
  refine wp_seq_k (fun K2 hK => ?_)
  have HK2 : Hid (∀ (a : Act) (w : World), _ → K2 a w) := hK
  clear hK
  by_cases hj : j < P.mn c
  · have hjj : (j : Int) < ((P.mn c : Nat) : Int) := by omega
    have k1 := HM.out.k1
    have hlt := HIN.out.sf.lt j hj
    have hG := d1.grew.to_nil
    have x1 : w'.cell? ⟨b21, j, none⟩ = some (.int .i64 ((P.ns j : Nat) : Int)) := hG.cell (HM.out.c1 j hj)
    obtain ⟨b4, k4, o4, l4, z1, z2, z3⟩ := HIN.out.va.v4.at hG hlt
    have u1 : w'.cell? ⟨g31, P.ns j, none⟩ = some (.int .i64 ((P2.on (P.ns j) : Nat) : Int)) := by
      rw [← (HIN.out.outl hj).2]; exact d4.cell d1 rfl hlt
    have HT : Hid (∀ q, T5d wb G R nc cls P P2 c mv g15 g25 g31 id (posA G R nc cls P P2 c G.E) (w'.drewN q)) := fun q => ⟨D, d1.drewN q, d2, d3, d4⟩
    have f1 : ((P.ns j : Nat) : Int) < (P2.nS : Int) := by omega
    clear d1 d2 d3 d4 hG HIN HM
    generalize P2.on (P.ns j) = on at *
    generalize P.ns j = s at *
    go_wp2
    refine HK2.out _ _ (wp_cond_true (by kernel_rfl) (wp_skip ?_))
    refine HK1.out _ _ ?_
    clear HK1 K1 HK2 K2
    refine wp_seq_k (fun K1 hK => ?_)
    have HK1 : Hid (∀ (a : Act) (w : World), _ → K1 a w) := hK
    clear hK
    refine wp_block ?_
    refine wp_seq_k (fun K2 hK => ?_)
    have HK2 : Hid (∀ (a : Act) (w : World), _ → K2 a w) := hK
    clear hK
    go_quiet (fail)
    refine HK2.out _ _ (wp_cond_false (by kernel_rfl) (wp_skip ?_))
    refine HK1.out _ _ ?_
    clear HK1 K1 HK2 K2 x1 z1 z2 z3 u1
    have HTq : Hid (T5d wb G R nc cls P P2 c mv g15 g25 g31 id (posA G R nc cls P P2 c G.E) (w'.drewN nq)) := HT.out nq
    clear HT
    generalize w'.drewN nq = wq at *
    go_wp2
    exact ⟨⟨⟨by kernel_rfl, by kernel_rfl, by kernel_rfl, by kernel_rfl, by kernel_rfl, by kernel_rfl, by kernel_rfl, by kernel_rfl, by kernel_rfl, by kernel_rfl, by kernel_rfl, by kernel_rfl, by kernel_rfl⟩, by kernel_rfl, j + 1, by kernel_rfl, by omega, HTq.out⟩, Nat.lt_of_le_of_lt (Nat.le_of_eq (by kernel_rfl : _ = P.mn c - (j + 1))) (by omega)⟩
  · have hjj : ¬ (j : Int) < ((P.mn c : Nat) : Int) := by omega
    have HG : Hid (Grew Fam.nil wb Fam.nil w') := d1.grew.to_nil
    clear d1 d2 d3 d4 HIN HM
    go_wp2
    refine HK2.out _ _ (wp_cond_false (by kernel_rfl) (wp_exit ?_))
    exact HC.out _ _ ⟨by kernel_rfl, by kernel_rfl, by kernel_rfl, by kernel_rfl, by kernel_rfl, by kernel_rfl, by kernel_rfl, by kernel_rfl, by kernel_rfl, by kernel_rfl, by kernel_rfl, by kernel_rfl, by kernel_rfl⟩ HG.out
end Go.Proofs.Qxb6602148a
