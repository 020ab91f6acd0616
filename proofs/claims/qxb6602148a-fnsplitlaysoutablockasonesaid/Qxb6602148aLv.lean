/-
  The third law: its third loop.
-/
import Derived.Test.Qxb6602148aLu
attribute [local go_sem] Go.Proofs.Qxb6602148a.yTo Go.Proofs.Qxb6602148a.yUpon
namespace Go.Proofs.Qxb6602148a
open Go.RowKit
set_option linter.unusedVariables false
set_option linter.unusedSimpArgs false

set_option maxRecDepth 40000 in
theorem l5k {a : Act} {u1 u8 u9 u10 u11 u12 u13 u14 u15 u21 u22 u23 u25 : Value} (hs : a.tmps.size = 586) (hd : a.defers = []) (h1 : a.tmps.getD 1 undef = u1) (h8 : a.tmps.getD 8 undef = u8) (h9 : a.tmps.getD 9 undef = u9) (h10 : a.tmps.getD 10 undef = u10) (h11 : a.tmps.getD 11 undef = u11) (h12 : a.tmps.getD 12 undef = u12) (h13 : a.tmps.getD 13 undef = u13) (h14 : a.tmps.getD 14 undef = u14) (h15 : a.tmps.getD 15 undef = u15) (h21 : a.tmps.getD 21 undef = u21) (h22 : a.tmps.getD 22 undef = u22) (h23 : a.tmps.getD 23 undef = u23) (h25 : a.tmps.getD 25 undef = u25) : ∃ y : Nat → Value, a = { tmps := #[y 0, u1, y 2, y 3, y 4, y 5, y 6, y 7, u8, u9, u10, u11, u12, u13, u14, u15, y 16, y 17, y 18, y 19, y 20, u21, u22, u23, y 24, u25, y 26, y 27, y 28, y 29, y 30, y 31, y 32, y 33, y 34, y 35, y 36, y 37, y 38, y 39, y 40, y 41, y 42, y 43, y 44, y 45, y 46, y 47, y 48, y 49, y 50, y 51, y 52, y 53, y 54, y 55, y 56, y 57, y 58, y 59, y 60, y 61, y 62, y 63, y 64, y 65, y 66, y 67, y 68, y 69, y 70, y 71, y 72, y 73, y 74, y 75, y 76, y 77, y 78, y 79, y 80, y 81, y 82, y 83, y 84, y 85, y 86, y 87, y 88, y 89, y 90, y 91, y 92, y 93, y 94, y 95, y 96, y 97, y 98, y 99, y 100, y 101, y 102, y 103, y 104, y 105, y 106, y 107, y 108, y 109, y 110, y 111, y 112, y 113, y 114, y 115, y 116, y 117, y 118, y 119, y 120, y 121, y 122, y 123, y 124, y 125, y 126, y 127, y 128, y 129, y 130, y 131, y 132, y 133, y 134, y 135, y 136, y 137, y 138, y 139, y 140, y 141, y 142, y 143, y 144, y 145, y 146, y 147, y 148, y 149, y 150, y 151, y 152, y 153, y 154, y 155, y 156, y 157, y 158, y 159, y 160, y 161, y 162, y 163, y 164, y 165, y 166, y 167, y 168, y 169, y 170, y 171, y 172, y 173, y 174, y 175, y 176, y 177, y 178, y 179, y 180, y 181, y 182, y 183, y 184, y 185, y 186, y 187, y 188, y 189, y 190, y 191, y 192, y 193, y 194, y 195, y 196, y 197, y 198, y 199, y 200, y 201, y 202, y 203, y 204, y 205, y 206, y 207, y 208, y 209, y 210, y 211, y 212, y 213, y 214, y 215, y 216, y 217, y 218, y 219, y 220, y 221, y 222, y 223, y 224, y 225, y 226, y 227, y 228, y 229, y 230, y 231, y 232, y 233, y 234, y 235, y 236, y 237, y 238, y 239, y 240, y 241, y 242, y 243, y 244, y 245, y 246, y 247, y 248, y 249, y 250, y 251, y 252, y 253, y 254, y 255, y 256, y 257, y 258, y 259, y 260, y 261, y 262, y 263, y 264, y 265, y 266, y 267, y 268, y 269, y 270, y 271, y 272, y 273, y 274, y 275, y 276, y 277, y 278, y 279, y 280, y 281, y 282, y 283, y 284, y 285, y 286, y 287, y 288, y 289, y 290, y 291, y 292, y 293, y 294, y 295, y 296, y 297, y 298, y 299, y 300, y 301, y 302, y 303, y 304, y 305, y 306, y 307, y 308, y 309, y 310, y 311, y 312, y 313, y 314, y 315, y 316, y 317, y 318, y 319, y 320, y 321, y 322, y 323, y 324, y 325, y 326, y 327, y 328, y 329, y 330, y 331, y 332, y 333, y 334, y 335, y 336, y 337, y 338, y 339, y 340, y 341, y 342, y 343, y 344, y 345, y 346, y 347, y 348, y 349, y 350, y 351, y 352, y 353, y 354, y 355, y 356, y 357, y 358, y 359, y 360, y 361, y 362, y 363, y 364, y 365, y 366, y 367, y 368, y 369, y 370, y 371, y 372, y 373, y 374, y 375, y 376, y 377, y 378, y 379, y 380, y 381, y 382, y 383, y 384, y 385, y 386, y 387, y 388, y 389, y 390, y 391, y 392, y 393, y 394, y 395, y 396, y 397, y 398, y 399, y 400, y 401, y 402, y 403, y 404, y 405, y 406, y 407, y 408, y 409, y 410, y 411, y 412, y 413, y 414, y 415, y 416, y 417, y 418, y 419, y 420, y 421, y 422, y 423, y 424, y 425, y 426, y 427, y 428, y 429, y 430, y 431, y 432, y 433, y 434, y 435, y 436, y 437, y 438, y 439, y 440, y 441, y 442, y 443, y 444, y 445, y 446, y 447, y 448, y 449, y 450, y 451, y 452, y 453, y 454, y 455, y 456, y 457, y 458, y 459, y 460, y 461, y 462, y 463, y 464, y 465, y 466, y 467, y 468, y 469, y 470, y 471, y 472, y 473, y 474, y 475, y 476, y 477, y 478, y 479, y 480, y 481, y 482, y 483, y 484, y 485, y 486, y 487, y 488, y 489, y 490, y 491, y 492, y 493, y 494, y 495, y 496, y 497, y 498, y 499, y 500, y 501, y 502, y 503, y 504, y 505, y 506, y 507, y 508, y 509, y 510, y 511, y 512, y 513, y 514, y 515, y 516, y 517, y 518, y 519, y 520, y 521, y 522, y 523, y 524, y 525, y 526, y 527, y 528, y 529, y 530, y 531, y 532, y 533, y 534, y 535, y 536, y 537, y 538, y 539, y 540, y 541, y 542, y 543, y 544, y 545, y 546, y 547, y 548, y 549, y 550, y 551, y 552, y 553, y 554, y 555, y 556, y 557, y 558, y 559, y 560, y 561, y 562, y 563, y 564, y 565, y 566, y 567, y 568, y 569, y 570, y 571, y 572, y 573, y 574, y 575, y 576, y 577, y 578, y 579, y 580, y 581, y 582, y 583, y 584, y 585], defers := [] } := by
  obtain ⟨tmps, defers⟩ := a
  have yd : defers = [] := hd
  subst yd
  obtain ⟨y, hy, hi⟩ := arr_586 tmps hs
  have e1 := (hi 1).trans h1
  have e8 := (hi 8).trans h8
  have e9 := (hi 9).trans h9
  have e10 := (hi 10).trans h10
  have e11 := (hi 11).trans h11
  have e12 := (hi 12).trans h12
  have e13 := (hi 13).trans h13
  have e14 := (hi 14).trans h14
  have e15 := (hi 15).trans h15
  have e21 := (hi 21).trans h21
  have e22 := (hi 22).trans h22
  have e23 := (hi 23).trans h23
  have e25 := (hi 25).trans h25
  rw [e1, e8, e9, e10, e11, e12, e13, e14, e15, e21, e22, e23, e25] at hy
  exact ⟨y, congrArg (fun t => (⟨t, []⟩ : Act)) hy⟩
set_option maxRecDepth 40000 in
theorem l5l {a : Act} {u1 u8 u9 u10 u11 u12 u13 u14 u15 u21 u22 u23 u25 u26 : Value} (hs : a.tmps.size = 586) (hd : a.defers = []) (h1 : a.tmps.getD 1 undef = u1) (h8 : a.tmps.getD 8 undef = u8) (h9 : a.tmps.getD 9 undef = u9) (h10 : a.tmps.getD 10 undef = u10) (h11 : a.tmps.getD 11 undef = u11) (h12 : a.tmps.getD 12 undef = u12) (h13 : a.tmps.getD 13 undef = u13) (h14 : a.tmps.getD 14 undef = u14) (h15 : a.tmps.getD 15 undef = u15) (h21 : a.tmps.getD 21 undef = u21) (h22 : a.tmps.getD 22 undef = u22) (h23 : a.tmps.getD 23 undef = u23) (h25 : a.tmps.getD 25 undef = u25) (h26 : a.tmps.getD 26 undef = u26) : ∃ y : Nat → Value, a = { tmps := #[y 0, u1, y 2, y 3, y 4, y 5, y 6, y 7, u8, u9, u10, u11, u12, u13, u14, u15, y 16, y 17, y 18, y 19, y 20, u21, u22, u23, y 24, u25, u26, y 27, y 28, y 29, y 30, y 31, y 32, y 33, y 34, y 35, y 36, y 37, y 38, y 39, y 40, y 41, y 42, y 43, y 44, y 45, y 46, y 47, y 48, y 49, y 50, y 51, y 52, y 53, y 54, y 55, y 56, y 57, y 58, y 59, y 60, y 61, y 62, y 63, y 64, y 65, y 66, y 67, y 68, y 69, y 70, y 71, y 72, y 73, y 74, y 75, y 76, y 77, y 78, y 79, y 80, y 81, y 82, y 83, y 84, y 85, y 86, y 87, y 88, y 89, y 90, y 91, y 92, y 93, y 94, y 95, y 96, y 97, y 98, y 99, y 100, y 101, y 102, y 103, y 104, y 105, y 106, y 107, y 108, y 109, y 110, y 111, y 112, y 113, y 114, y 115, y 116, y 117, y 118, y 119, y 120, y 121, y 122, y 123, y 124, y 125, y 126, y 127, y 128, y 129, y 130, y 131, y 132, y 133, y 134, y 135, y 136, y 137, y 138, y 139, y 140, y 141, y 142, y 143, y 144, y 145, y 146, y 147, y 148, y 149, y 150, y 151, y 152, y 153, y 154, y 155, y 156, y 157, y 158, y 159, y 160, y 161, y 162, y 163, y 164, y 165, y 166, y 167, y 168, y 169, y 170, y 171, y 172, y 173, y 174, y 175, y 176, y 177, y 178, y 179, y 180, y 181, y 182, y 183, y 184, y 185, y 186, y 187, y 188, y 189, y 190, y 191, y 192, y 193, y 194, y 195, y 196, y 197, y 198, y 199, y 200, y 201, y 202, y 203, y 204, y 205, y 206, y 207, y 208, y 209, y 210, y 211, y 212, y 213, y 214, y 215, y 216, y 217, y 218, y 219, y 220, y 221, y 222, y 223, y 224, y 225, y 226, y 227, y 228, y 229, y 230, y 231, y 232, y 233, y 234, y 235, y 236, y 237, y 238, y 239, y 240, y 241, y 242, y 243, y 244, y 245, y 246, y 247, y 248, y 249, y 250, y 251, y 252, y 253, y 254, y 255, y 256, y 257, y 258, y 259, y 260, y 261, y 262, y 263, y 264, y 265, y 266, y 267, y 268, y 269, y 270, y 271, y 272, y 273, y 274, y 275, y 276, y 277, y 278, y 279, y 280, y 281, y 282, y 283, y 284, y 285, y 286, y 287, y 288, y 289, y 290, y 291, y 292, y 293, y 294, y 295, y 296, y 297, y 298, y 299, y 300, y 301, y 302, y 303, y 304, y 305, y 306, y 307, y 308, y 309, y 310, y 311, y 312, y 313, y 314, y 315, y 316, y 317, y 318, y 319, y 320, y 321, y 322, y 323, y 324, y 325, y 326, y 327, y 328, y 329, y 330, y 331, y 332, y 333, y 334, y 335, y 336, y 337, y 338, y 339, y 340, y 341, y 342, y 343, y 344, y 345, y 346, y 347, y 348, y 349, y 350, y 351, y 352, y 353, y 354, y 355, y 356, y 357, y 358, y 359, y 360, y 361, y 362, y 363, y 364, y 365, y 366, y 367, y 368, y 369, y 370, y 371, y 372, y 373, y 374, y 375, y 376, y 377, y 378, y 379, y 380, y 381, y 382, y 383, y 384, y 385, y 386, y 387, y 388, y 389, y 390, y 391, y 392, y 393, y 394, y 395, y 396, y 397, y 398, y 399, y 400, y 401, y 402, y 403, y 404, y 405, y 406, y 407, y 408, y 409, y 410, y 411, y 412, y 413, y 414, y 415, y 416, y 417, y 418, y 419, y 420, y 421, y 422, y 423, y 424, y 425, y 426, y 427, y 428, y 429, y 430, y 431, y 432, y 433, y 434, y 435, y 436, y 437, y 438, y 439, y 440, y 441, y 442, y 443, y 444, y 445, y 446, y 447, y 448, y 449, y 450, y 451, y 452, y 453, y 454, y 455, y 456, y 457, y 458, y 459, y 460, y 461, y 462, y 463, y 464, y 465, y 466, y 467, y 468, y 469, y 470, y 471, y 472, y 473, y 474, y 475, y 476, y 477, y 478, y 479, y 480, y 481, y 482, y 483, y 484, y 485, y 486, y 487, y 488, y 489, y 490, y 491, y 492, y 493, y 494, y 495, y 496, y 497, y 498, y 499, y 500, y 501, y 502, y 503, y 504, y 505, y 506, y 507, y 508, y 509, y 510, y 511, y 512, y 513, y 514, y 515, y 516, y 517, y 518, y 519, y 520, y 521, y 522, y 523, y 524, y 525, y 526, y 527, y 528, y 529, y 530, y 531, y 532, y 533, y 534, y 535, y 536, y 537, y 538, y 539, y 540, y 541, y 542, y 543, y 544, y 545, y 546, y 547, y 548, y 549, y 550, y 551, y 552, y 553, y 554, y 555, y 556, y 557, y 558, y 559, y 560, y 561, y 562, y 563, y 564, y 565, y 566, y 567, y 568, y 569, y 570, y 571, y 572, y 573, y 574, y 575, y 576, y 577, y 578, y 579, y 580, y 581, y 582, y 583, y 584, y 585], defers := [] } := by
  obtain ⟨tmps, defers⟩ := a
  have yd : defers = [] := hd
  subst yd
  obtain ⟨y, hy, hi⟩ := arr_586 tmps hs
  have e1 := (hi 1).trans h1
  have e8 := (hi 8).trans h8
  have e9 := (hi 9).trans h9
  have e10 := (hi 10).trans h10
  have e11 := (hi 11).trans h11
  have e12 := (hi 12).trans h12
  have e13 := (hi 13).trans h13
  have e14 := (hi 14).trans h14
  have e15 := (hi 15).trans h15
  have e21 := (hi 21).trans h21
  have e22 := (hi 22).trans h22
  have e23 := (hi 23).trans h23
  have e25 := (hi 25).trans h25
  have e26 := (hi 26).trans h26
  rw [e1, e8, e9, e10, e11, e12, e13, e14, e15, e21, e22, e23, e25, e26] at hy
  exact ⟨y, congrArg (fun t => (⟨t, []⟩ : Act)) hy⟩
set_option maxRecDepth 40000 in
theorem l5m {a : Act} {u1 u8 u9 u10 u11 u12 u13 u14 u15 u21 u22 u23 u25 u26 u27 : Value} (hs : a.tmps.size = 586) (hd : a.defers = []) (h1 : a.tmps.getD 1 undef = u1) (h8 : a.tmps.getD 8 undef = u8) (h9 : a.tmps.getD 9 undef = u9) (h10 : a.tmps.getD 10 undef = u10) (h11 : a.tmps.getD 11 undef = u11) (h12 : a.tmps.getD 12 undef = u12) (h13 : a.tmps.getD 13 undef = u13) (h14 : a.tmps.getD 14 undef = u14) (h15 : a.tmps.getD 15 undef = u15) (h21 : a.tmps.getD 21 undef = u21) (h22 : a.tmps.getD 22 undef = u22) (h23 : a.tmps.getD 23 undef = u23) (h25 : a.tmps.getD 25 undef = u25) (h26 : a.tmps.getD 26 undef = u26) (h27 : a.tmps.getD 27 undef = u27) : ∃ y : Nat → Value, a = { tmps := #[y 0, u1, y 2, y 3, y 4, y 5, y 6, y 7, u8, u9, u10, u11, u12, u13, u14, u15, y 16, y 17, y 18, y 19, y 20, u21, u22, u23, y 24, u25, u26, u27, y 28, y 29, y 30, y 31, y 32, y 33, y 34, y 35, y 36, y 37, y 38, y 39, y 40, y 41, y 42, y 43, y 44, y 45, y 46, y 47, y 48, y 49, y 50, y 51, y 52, y 53, y 54, y 55, y 56, y 57, y 58, y 59, y 60, y 61, y 62, y 63, y 64, y 65, y 66, y 67, y 68, y 69, y 70, y 71, y 72, y 73, y 74, y 75, y 76, y 77, y 78, y 79, y 80, y 81, y 82, y 83, y 84, y 85, y 86, y 87, y 88, y 89, y 90, y 91, y 92, y 93, y 94, y 95, y 96, y 97, y 98, y 99, y 100, y 101, y 102, y 103, y 104, y 105, y 106, y 107, y 108, y 109, y 110, y 111, y 112, y 113, y 114, y 115, y 116, y 117, y 118, y 119, y 120, y 121, y 122, y 123, y 124, y 125, y 126, y 127, y 128, y 129, y 130, y 131, y 132, y 133, y 134, y 135, y 136, y 137, y 138, y 139, y 140, y 141, y 142, y 143, y 144, y 145, y 146, y 147, y 148, y 149, y 150, y 151, y 152, y 153, y 154, y 155, y 156, y 157, y 158, y 159, y 160, y 161, y 162, y 163, y 164, y 165, y 166, y 167, y 168, y 169, y 170, y 171, y 172, y 173, y 174, y 175, y 176, y 177, y 178, y 179, y 180, y 181, y 182, y 183, y 184, y 185, y 186, y 187, y 188, y 189, y 190, y 191, y 192, y 193, y 194, y 195, y 196, y 197, y 198, y 199, y 200, y 201, y 202, y 203, y 204, y 205, y 206, y 207, y 208, y 209, y 210, y 211, y 212, y 213, y 214, y 215, y 216, y 217, y 218, y 219, y 220, y 221, y 222, y 223, y 224, y 225, y 226, y 227, y 228, y 229, y 230, y 231, y 232, y 233, y 234, y 235, y 236, y 237, y 238, y 239, y 240, y 241, y 242, y 243, y 244, y 245, y 246, y 247, y 248, y 249, y 250, y 251, y 252, y 253, y 254, y 255, y 256, y 257, y 258, y 259, y 260, y 261, y 262, y 263, y 264, y 265, y 266, y 267, y 268, y 269, y 270, y 271, y 272, y 273, y 274, y 275, y 276, y 277, y 278, y 279, y 280, y 281, y 282, y 283, y 284, y 285, y 286, y 287, y 288, y 289, y 290, y 291, y 292, y 293, y 294, y 295, y 296, y 297, y 298, y 299, y 300, y 301, y 302, y 303, y 304, y 305, y 306, y 307, y 308, y 309, y 310, y 311, y 312, y 313, y 314, y 315, y 316, y 317, y 318, y 319, y 320, y 321, y 322, y 323, y 324, y 325, y 326, y 327, y 328, y 329, y 330, y 331, y 332, y 333, y 334, y 335, y 336, y 337, y 338, y 339, y 340, y 341, y 342, y 343, y 344, y 345, y 346, y 347, y 348, y 349, y 350, y 351, y 352, y 353, y 354, y 355, y 356, y 357, y 358, y 359, y 360, y 361, y 362, y 363, y 364, y 365, y 366, y 367, y 368, y 369, y 370, y 371, y 372, y 373, y 374, y 375, y 376, y 377, y 378, y 379, y 380, y 381, y 382, y 383, y 384, y 385, y 386, y 387, y 388, y 389, y 390, y 391, y 392, y 393, y 394, y 395, y 396, y 397, y 398, y 399, y 400, y 401, y 402, y 403, y 404, y 405, y 406, y 407, y 408, y 409, y 410, y 411, y 412, y 413, y 414, y 415, y 416, y 417, y 418, y 419, y 420, y 421, y 422, y 423, y 424, y 425, y 426, y 427, y 428, y 429, y 430, y 431, y 432, y 433, y 434, y 435, y 436, y 437, y 438, y 439, y 440, y 441, y 442, y 443, y 444, y 445, y 446, y 447, y 448, y 449, y 450, y 451, y 452, y 453, y 454, y 455, y 456, y 457, y 458, y 459, y 460, y 461, y 462, y 463, y 464, y 465, y 466, y 467, y 468, y 469, y 470, y 471, y 472, y 473, y 474, y 475, y 476, y 477, y 478, y 479, y 480, y 481, y 482, y 483, y 484, y 485, y 486, y 487, y 488, y 489, y 490, y 491, y 492, y 493, y 494, y 495, y 496, y 497, y 498, y 499, y 500, y 501, y 502, y 503, y 504, y 505, y 506, y 507, y 508, y 509, y 510, y 511, y 512, y 513, y 514, y 515, y 516, y 517, y 518, y 519, y 520, y 521, y 522, y 523, y 524, y 525, y 526, y 527, y 528, y 529, y 530, y 531, y 532, y 533, y 534, y 535, y 536, y 537, y 538, y 539, y 540, y 541, y 542, y 543, y 544, y 545, y 546, y 547, y 548, y 549, y 550, y 551, y 552, y 553, y 554, y 555, y 556, y 557, y 558, y 559, y 560, y 561, y 562, y 563, y 564, y 565, y 566, y 567, y 568, y 569, y 570, y 571, y 572, y 573, y 574, y 575, y 576, y 577, y 578, y 579, y 580, y 581, y 582, y 583, y 584, y 585], defers := [] } := by
  obtain ⟨tmps, defers⟩ := a
  have yd : defers = [] := hd
  subst yd
  obtain ⟨y, hy, hi⟩ := arr_586 tmps hs
  have e1 := (hi 1).trans h1
  have e8 := (hi 8).trans h8
  have e9 := (hi 9).trans h9
  have e10 := (hi 10).trans h10
  have e11 := (hi 11).trans h11
  have e12 := (hi 12).trans h12
  have e13 := (hi 13).trans h13
  have e14 := (hi 14).trans h14
  have e15 := (hi 15).trans h15
  have e21 := (hi 21).trans h21
  have e22 := (hi 22).trans h22
  have e23 := (hi 23).trans h23
  have e25 := (hi 25).trans h25
  have e26 := (hi 26).trans h26
  have e27 := (hi 27).trans h27
  rw [e1, e8, e9, e10, e11, e12, e13, e14, e15, e21, e22, e23, e25, e26, e27] at hy
  exact ⟨y, congrArg (fun t => (⟨t, []⟩ : Act)) hy⟩

def T3d (wb : World) (G : GR) (R : Nat → Nat → Bool) (nc : Nat) (cls : Nat → Nat) (P P2 : PS) (c : Nat) (mv : Nat → Nat) (g15 g23 g25 : Nat) (mk : Nat → Int) (id : Nat → Bool) (w : World) : Prop := ∃ D, MM wb D w ∧ Roi D 2 g15 (cnt (pC G R nc cls P c) G.E) (fun j => ((mv j : Nat) : Int)) ∧ Roi D 3 g23 G.n mk ∧ Rob D 6 g25 P2.nS id
theorem T3d.keep {wb w w' : World} {G : GR} {R : Nat → Nat → Bool} {nc : Nat} {cls : Nat → Nat} {P P2 : PS} {c : Nat} {mv : Nat → Nat} {g15 g23 g25 : Nat} {mk : Nat → Int} {id : Nat → Bool} (h : T3d wb G R nc cls P P2 c mv g15 g23 g25 mk id w) {D' : Fam} (hg : Grew Fam.nil w D' w') : T3d wb G R nc cls P P2 c mv g15 g23 g25 mk id w' := by
  obtain ⟨D, h1, h2⟩ := h
  exact ⟨D, h1.keep hg, h2⟩
/-- The marks: the nodes still to come are 1; the slots that have come are in the component. -/
structure NM (P : PS) (c : Nat) (nu : Nat → Nat) (i : Nat) (mk : Nat → Int) (id : Nat → Bool) : Prop where
  a : ∀ k, i ≤ k → k < P.mn c → ∀ v : Nat, P.node (nu k) = (v : Int) → mk v = 1
  b : ∀ s, id s = true ↔ ∃ k, k < i ∧ P.ns k = s
section
variable {wb : World} {gB gM gA : Nat} {V : Fam} {G : GR} {R : Nat → Nat → Bool} {nc : Nat} {cls : Nat → Nat} {P P2 : PS} {c D0 : Nat} {nu : Nat → Nat}
/-- The slot that stands for k. -/
theorem L3In.nuv (h : L3In wb gB gM gA V G R nc cls P P2 c D0 nu) {k : Nat} (hk : k < P.mn c) : ∃ v : Nat, P.node (nu k) = (v : Int) ∧ v < G.n := by
  obtain ⟨j, j1, j2⟩ := h.sf.num k hk
  obtain ⟨_, _, _, v, v1, v2⟩ := h.meet.bmem h.c1 j1
  rw [j2] at v1
  exact ⟨v, v1, v2⟩
theorem L3In.nm0 (h : L3In wb gB gM gA V G R nc cls P P2 c D0 nu) {mk : Nat → Int} (hmk : ∀ j, j < P.mn c → mk (P.node (P.sl c j)).toNat = 1) : NM P c nu 0 mk (fun _ => false) := by
  refine ⟨fun k _ hk v hv => ?_, fun s => ⟨fun e => (by cases e), fun ⟨k, hk, _⟩ => absurd hk (Nat.not_lt_zero _)⟩⟩
  obtain ⟨j, j1, j2⟩ := h.sf.num k hk
  have := hmk j j1
  rw [j2, hv, Int.toNat_natCast] at this
  exact this
theorem L3In.nmf (h : L3In wb gB gM gA V G R nc cls P P2 c D0 nu) {mk : Nat → Int} {id : Nat → Bool} {i : Nat} (hn : NM P c nu i mk id) : id (P.ns i) = false := by
  cases e : id (P.ns i) with
  | false => rfl
  | true =>
    obtain ⟨k, k1, k2⟩ := (hn.b _).1 e
    have := h.calm.sp.ns_inj k2
    omega
theorem L3In.nmn (h : L3In wb gB gM gA V G R nc cls P P2 c D0 nu) {mk : Nat → Int} {id : Nat → Bool} {i v : Nat} (hn : NM P c nu i mk id) (hi : i < P.mn c) (hv : P.node (nu i) = (v : Int)) : NM P c nu (i + 1) (upd mk v 2) (upb id (P.ns i) true) := by
  refine ⟨fun k hk hk2 v' hv' => ?_, fun s => ?_⟩
  · have : v' ≠ v := fun e => by
      have e2 : nu k = nu i := h.meet.bslot h.c1 (h.sf.num k hk2) (h.sf.num i hi) (by rw [hv', hv, e])
      have := h.sf.nui k i hk2 hi e2
      omega
    rw [upd_other _ _ this]
    exact hn.a k (by omega) hk2 v' hv'
  · unfold upb
    by_cases e : s = P.ns i
    · rw [if_pos e]; exact ⟨fun _ => ⟨i, by omega, e.symm⟩, fun _ => rfl⟩
    · rw [if_neg e, hn.b s]
      constructor
      · rintro ⟨k, k1, k2⟩; exact ⟨k, by omega, k2⟩
      · rintro ⟨k, k1, k2⟩
        refine ⟨k, ?_, k2⟩
        have : k ≠ i := fun ee => e (by rw [← k2, ee])
        omega
end

set_option maxRecDepth 40000 in
set_option maxHeartbeats 8000000 in
/-- Region 65. -/
theorem l3_4m (wb : World) (gB gM gA : Nat) (V : Fam) (G : GR) (R : Nat → Nat → Bool) (nc : Nat) (cls : Nat → Nat) (P P2 : PS) (c D0 : Nat) (nu : Nat → Nat) (mv : Nat → Nat) (b21 k21 b22 k22 g15 k15 : Nat) (hin : L3In wb gB gM gA V G R nc cls P P2 c D0 nu) (g23 : Nat) (mk : Nat → Int) (wr : World) (hT : T2 wb G R nc cls P c mv g15 g23 mk wr) (a : Act) (hf : F5b gB gM gA c G.E P2.nS P2.nC D0 (cnt (pC G R nc cls P c) G.E) (P.mn c) b21 k21 b22 k22 g15 k15 a) (h23 : a.tmps.getD 23 undef = .slice (some ⟨g23, 0, none⟩) G.n G.n) (Q : Exit → Act → World → Prop)
    (hC : ∀ (a : Act) (w : World) (g25 : Nat), F5b gB gM gA c G.E P2.nS P2.nC D0 (cnt (pC G R nc cls P c) G.E) (P.mn c) b21 k21 b22 k22 g15 k15 a → a.tmps.getD 23 undef = .slice (some ⟨g23, 0, none⟩) G.n G.n → a.tmps.getD 25 undef = .slice (some ⟨g25, 0, none⟩) P2.nS P2.nS → T3d wb G R nc cls P P2 c mv g15 g23 g25 mk (fun _ => false) w → Q .normal a w) :
    Code.wp Try.prog (sL (tl 29 (Try.f5.body.getD .skip))) Q a wr := by
  obtain ⟨y, rfl⟩ := l5i hf.sz hf.df hf.s1 hf.s8 hf.s9 hf.s10 hf.s11 hf.s12 hf.s13 hf.s14 hf.s15 hf.s21 hf.s22 h23
  obtain ⟨hE, hn, hS, hCC, hS2, hC2⟩ := hin.sm
  obtain ⟨i4, hi4, hz40, hz41, hz42⟩ := info_parts Try.info4
  obtain ⟨mq, hmq, hfmq⟩ := make_fun (P := Try.prog) 27 4 i4 (.bool false) 1 1 (.bool false) Try.underlying27 hi4 hz40 hz41 hz42 rfl (by decide) zeroB P2.nS (by omega) (by omega)
  have fin : Hid (T3d wb G R nc cls P P2 c mv g15 g23 wr.heap.size mk (fun _ => false) (mq wr)) := by
    obtain ⟨D, d1, d2, d3⟩ := hT
    exact ⟨_, d1.fresh (r := 6) rfl (hfmq _), d2.put_ne (by omega), d3.put_ne (by omega), Rob.new _ 6 _ _ (fun _ => false)⟩
  have HC : Hid (∀ (a : Act), F5b gB gM gA c G.E P2.nS P2.nC D0 (cnt (pC G R nc cls P c) G.E) (P.mn c) b21 k21 b22 k22 g15 k15 a → a.tmps.getD 23 undef = .slice (some ⟨g23, 0, none⟩) G.n G.n → a.tmps.getD 25 undef = .slice (some ⟨wr.heap.size, 0, none⟩) P2.nS P2.nS → Q .normal a (mq wr)) := fun a h1 h2 h3 => hC a _ _ h1 h2 h3 fin.out
  clear hf hC hin h23 hT hfmq hi4 hz40 hz41 hz42 fin
  simp only [tl, sL, Try.f5, Option.getD]
  go_wp2
  exact HC.out _ ⟨by kernel_rfl, by kernel_rfl, by kernel_rfl, by kernel_rfl, by kernel_rfl, by kernel_rfl, by kernel_rfl, by kernel_rfl, by kernel_rfl, by kernel_rfl, by kernel_rfl, by kernel_rfl, by kernel_rfl⟩ (by kernel_rfl) (by kernel_rfl)

def f5g (c : Code) : Code := bl (sL (tl 1 (lp (bl (tl 1 (sL (tl 30 c)))))))
set_option maxRecDepth 40000 in
set_option maxHeartbeats 8000000 in
/-- Regions 72 to 76. -/
theorem l3_4b (wb : World) (gB gM gA : Nat) (V : Fam) (G : GR) (R : Nat → Nat → Bool) (nc : Nat) (cls : Nat → Nat) (P P2 : PS) (c D0 : Nat) (nu : Nat → Nat) (mv : Nat → Nat) (b21 k21 b22 k22 g15 k15 : Nat) (hin : L3In wb gB gM gA V G R nc cls P P2 c D0 nu) (g23 g25 : Nat) (mk : Nat → Int) (id : Nat → Bool) (j v : Nat) (hj : j < P.mn c) (hv : P.node (nu j) = (v : Int)) (hvn : v < G.n) (hmv : mk v = 1) (wr : World) (hT : T3d wb G R nc cls P P2 c mv g15 g23 g25 mk id wr) (a : Act) (hf : F5b gB gM gA c G.E P2.nS P2.nC D0 (cnt (pC G R nc cls P c) G.E) (P.mn c) b21 k21 b22 k22 g15 k15 a) (h23 : a.tmps.getD 23 undef = .slice (some ⟨g23, 0, none⟩) G.n G.n) (h25 : a.tmps.getD 25 undef = .slice (some ⟨g25, 0, none⟩) P2.nS P2.nS) (h26 : a.tmps.getD 26 undef = .int .i64 (j : Int)) (h27 : a.tmps.getD 27 undef = .int .i64 ((P.ns j : Nat) : Int)) (Q : Exit → Act → World → Prop)
    (hC : ∀ (a : Act) (w : World), F5b gB gM gA c G.E P2.nS P2.nC D0 (cnt (pC G R nc cls P c) G.E) (P.mn c) b21 k21 b22 k22 g15 k15 a → a.tmps.getD 23 undef = .slice (some ⟨g23, 0, none⟩) G.n G.n → a.tmps.getD 25 undef = .slice (some ⟨g25, 0, none⟩) P2.nS P2.nS → T3d wb G R nc cls P P2 c mv g15 g23 g25 (upd mk v 2) (upb id (P.ns j) true) w → a.tmps.getD 26 undef = .int .i64 (j : Int) → Q .normal a w) :
    Code.wp Try.prog (tl 2 (f5g (Try.f5.body.getD .skip))) Q a wr := by
  obtain ⟨y, rfl⟩ := l5m hf.sz hf.df hf.s1 hf.s8 hf.s9 hf.s10 hf.s11 hf.s12 hf.s13 hf.s14 hf.s15 hf.s21 hf.s22 h23 h25 h26 h27
  obtain ⟨hE, hn, hS, hCC, hS2, hC2⟩ := hin.sm
  have HIN : Hid (L3In wb gB gM gA V G R nc cls P P2 c D0 nu) := hin
  have hlt := hin.sf.lt j hj
  have hnode := hin.sf.node j hj
  rw [hv] at hnode
  obtain ⟨D, d1, d2, d3, d4⟩ := hT
  have x1 := d4.cell d1 rfl hlt
  have x2 := d4.frozen d1 (P.ns j)
  have e1 := d1.set d4.1 (P.ns j) (.bool true)
  have e3 : Roi (D.set 6 (P.ns j) (.bool true)) 3 g23 G.n mk := d3.set_ne (by omega)
  have HE : Hid (MM wb (D.set 6 (P.ns j) (.bool true)) (wr.setCell ⟨g25, P.ns j, none⟩ (.bool true))) := e1
  obtain ⟨b2, k2, z1, z2, z3⟩ := hin.va.v2.at e1.grew.to_nil hlt
  rw [hnode] at z3
  have y1 := e1.grew.to_nil.cell hin.m0
  have u1 := e3.cell e1 rfl hvn
  have u2 := e3.frozen e1 v
  rw [hmv] at u1
  have fin : Hid (T3d wb G R nc cls P P2 c mv g15 g23 g25 (upd mk v 2) (upb id (P.ns j) true) ((wr.setCell ⟨g25, P.ns j, none⟩ (.bool true)).setCell ⟨g23, v, none⟩ (.int .i64 2))) := ⟨_, e1.set e3.1 v _, (d2.set_ne (by omega)).set_ne (by omega), e3.set v 2, (d4.set (P.ns j) true).set_ne (by omega)⟩
  have HC : Hid (∀ (a : Act), F5b gB gM gA c G.E P2.nS P2.nC D0 (cnt (pC G R nc cls P c) G.E) (P.mn c) b21 k21 b22 k22 g15 k15 a → a.tmps.getD 23 undef = .slice (some ⟨g23, 0, none⟩) G.n G.n → a.tmps.getD 25 undef = .slice (some ⟨g25, 0, none⟩) P2.nS P2.nS → a.tmps.getD 26 undef = .int .i64 (j : Int) → Q .normal a ((wr.setCell ⟨g25, P.ns j, none⟩ (.bool true)).setCell ⟨g23, v, none⟩ (.int .i64 2))) := fun a h1 h2 h3 h4 => hC a _ h1 h2 h3 fin.out h4
  have f1 : ((P.ns j : Nat) : Int) < (P2.nS : Int) := by omega
  have f2 : (v : Int) < (G.n : Int) := by omega
  have g1 : decide ((v : Int) < 0) = false := decide_eq_false (by omega)
  have g2 : decide (G.n ≤ v) = false := decide_eq_false (by omega)
  have g3 : decide ((G.n : Int) ≤ (v : Int)) = false := decide_eq_false (by omega)
  clear hf hC hin h23 h25 h26 h27 d1 d2 d3 d4 e1 e3 HE HIN fin hnode hv hmv
  generalize P.ns j = s at *
  generalize id s = bs at *
  show Code.wp Try.prog (Code.seq _ (Code.seq _ (Code.seq (Code.seq _ (Code.cond (.tmp 386) _ Code.skip)) _))) Q _ wr
  refine wp_seq_k (fun K1 hK => ?_)
  have HK1 : Hid (∀ (a : Act) (w : World), _ → K1 a w) := hK
  clear hK
  go_wp2
  refine HK1.out _ _ ?_
  clear HK1 K1 x1 x2
  generalize wr.setCell ⟨g25, s, none⟩ (.bool true) = wv at *
  refine wp_seq_k (fun K1 hK => ?_)
  have HK1 : Hid (∀ (a : Act) (w : World), _ → K1 a w) := hK
  clear hK
  go_wp2
  refine HK1.out _ _ ?_
  clear HK1 K1 z1 z2 z3
  refine wp_seq_k (fun K1 hK => ?_)
  have HK1 : Hid (∀ (a : Act) (w : World), _ → K1 a w) := hK
  clear hK
  refine wp_seq_k (fun K2 hK => ?_)
  have HK2 : Hid (∀ (a : Act) (w : World), _ → K2 a w) := hK
  clear hK
  go_wp2
  refine HK2.out _ _ (wp_cond_false (by kernel_rfl) (wp_skip ?_))
  refine HK1.out _ _ ?_
  clear HK1 K1 HK2 K2
  go_wp2
  exact HC.out _ ⟨by kernel_rfl, by kernel_rfl, by kernel_rfl, by kernel_rfl, by kernel_rfl, by kernel_rfl, by kernel_rfl, by kernel_rfl, by kernel_rfl, by kernel_rfl, by kernel_rfl, by kernel_rfl, by kernel_rfl⟩ (by kernel_rfl) (by kernel_rfl) (by kernel_rfl)

def L5c (wb : World) (gB gM gA : Nat) (V : Fam) (G : GR) (R : Nat → Nat → Bool) (nc : Nat) (cls : Nat → Nat) (P P2 : PS) (c D0 : Nat) (nu : Nat → Nat) (mv : Nat → Nat) (b21 k21 b22 k22 g15 k15 : Nat) (g23 g25 : Nat) (a : Act) (w : World) : Prop :=
  F5b gB gM gA c G.E P2.nS P2.nC D0 (cnt (pC G R nc cls P c) G.E) (P.mn c) b21 k21 b22 k22 g15 k15 a ∧ a.tmps.getD 23 undef = .slice (some ⟨g23, 0, none⟩) G.n G.n ∧ a.tmps.getD 25 undef = .slice (some ⟨g25, 0, none⟩) P2.nS P2.nS ∧ ∃ (j : Nat) (mk : Nat → Int) (id : Nat → Bool), a.tmps.getD 26 undef = .int .i64 (j : Int) ∧ j ≤ P.mn c ∧ T3d wb G R nc cls P P2 c mv g15 g23 g25 mk id w ∧ NM P c nu j mk id
set_option maxRecDepth 40000 in
set_option maxHeartbeats 8000000 in
/-- The new component's members. -/
theorem l3_4 (wb : World) (gB gM gA : Nat) (V : Fam) (G : GR) (R : Nat → Nat → Bool) (nc : Nat) (cls : Nat → Nat) (P P2 : PS) (c D0 : Nat) (nu : Nat → Nat) (mv : Nat → Nat) (b21 k21 b22 k22 g15 k15 : Nat) (hin : L3In wb gB gM gA V G R nc cls P P2 c D0 nu) (hM : L3M wb G R nc cls P c mv b21 k21 b22 k22 g15 k15) (g23 g25 : Nat) (mk0 : Nat → Int) (wr : World) (hT : T3d wb G R nc cls P P2 c mv g15 g23 g25 mk0 (fun _ => false) wr) (hN : NM P c nu 0 mk0 (fun _ => false)) (a : Act) (hf : F5b gB gM gA c G.E P2.nS P2.nC D0 (cnt (pC G R nc cls P c) G.E) (P.mn c) b21 k21 b22 k22 g15 k15 a) (h23 : a.tmps.getD 23 undef = .slice (some ⟨g23, 0, none⟩) G.n G.n) (h25 : a.tmps.getD 25 undef = .slice (some ⟨g25, 0, none⟩) P2.nS P2.nS) (Q : Exit → Act → World → Prop)
    (hC : ∀ (a : Act) (w : World) (mk : Nat → Int) (id : Nat → Bool), F5b gB gM gA c G.E P2.nS P2.nC D0 (cnt (pC G R nc cls P c) G.E) (P.mn c) b21 k21 b22 k22 g15 k15 a → a.tmps.getD 25 undef = .slice (some ⟨g25, 0, none⟩) P2.nS P2.nS → T3d wb G R nc cls P P2 c mv g15 g23 g25 mk id w → NM P c nu (P.mn c) mk id → Q .normal a w) :
    Code.wp Try.prog (sL (tl 30 (Try.f5.body.getD .skip))) Q a wr := by
  obtain ⟨y, rfl⟩ := l5k hf.sz hf.df hf.s1 hf.s8 hf.s9 hf.s10 hf.s11 hf.s12 hf.s13 hf.s14 hf.s15 hf.s21 hf.s22 h23 h25
  obtain ⟨hE, hn, hS, hCC, hS2, hC2⟩ := hin.sm
  have HIN : Hid (L3In wb gB gM gA V G R nc cls P P2 c D0 nu) := hin
  have HM : Hid (L3M wb G R nc cls P c mv b21 k21 b22 k22 g15 k15) := hM
  have HT : Hid (T3d wb G R nc cls P P2 c mv g15 g23 g25 mk0 (fun _ => false) wr) := hT
  have HN : Hid (NM P c nu 0 mk0 (fun _ => false)) := hN
  have HC : Hid (∀ (a : Act) (w : World) (mk : Nat → Int) (id : Nat → Bool), F5b gB gM gA c G.E P2.nS P2.nC D0 (cnt (pC G R nc cls P c) G.E) (P.mn c) b21 k21 b22 k22 g15 k15 a → a.tmps.getD 25 undef = .slice (some ⟨g25, 0, none⟩) P2.nS P2.nS → T3d wb G R nc cls P P2 c mv g15 g23 g25 mk id w → NM P c nu (P.mn c) mk id → Q .normal a w) := hC
  have hmc := hin.mnb c hin.c1
  clear hf hC hin h23 h25 hT hM hN
  show Code.wp Try.prog (Code.seq _ (Code.block 4 (Code.loop (Code.seq (Code.seq _ (Code.cond (.tmp 330) Code.skip (Code.exit 4))) (Code.seq (Code.block 5 (f5g (Try.f5.body.getD .skip))) _))))) Q _ wr
  refine wp_seq_k (fun K1 hK => ?_)
  have HK1 : Hid (∀ (a : Act) (w : World), _ → K1 a w) := hK
  clear hK
  go_wp2
  refine HK1.out _ _ ?_
  clear HK1 K1
  refine wp_block ?_
  refine wp_loop (L5c wb gB gM gA V G R nc cls P P2 c D0 nu mv b21 k21 b22 k22 g15 k15 g23 g25) (fun a _ => mus 26 (P.mn c) a) ⟨⟨by kernel_rfl, by kernel_rfl, by kernel_rfl, by kernel_rfl, by kernel_rfl, by kernel_rfl, by kernel_rfl, by kernel_rfl, by kernel_rfl, by kernel_rfl, by kernel_rfl, by kernel_rfl, by kernel_rfl⟩, by kernel_rfl, by kernel_rfl, 0, _, _, by kernel_rfl, Nat.zero_le _, HT.out, HN.out⟩ ?_
  clear HT HN y
  rintro a w' ⟨hf, h23, h25, j, mk, id, h26, j1, hT, hN⟩
  have e26 : mus 26 (P.mn c) a = P.mn c - j := congrArg (fun v => P.mn c - (intOf v).toNat) h26
  obtain ⟨y2, rfl⟩ := l5l hf.sz hf.df hf.s1 hf.s8 hf.s9 hf.s10 hf.s11 hf.s12 hf.s13 hf.s14 hf.s15 hf.s21 hf.s22 h23 h25 h26
  rw [e26]
  clear e26 hf h23 h25 h26
  refine wp_seq_k (fun K1 hK => ?_)
  have HK1 : Hid (∀ (a : Act) (w : World), _ → K1 a w) := hK
  clear hK
  refine wp_seq_k (fun K2 hK => ?_)
  have HK2 : Hid (∀ (a : Act) (w : World), _ → K2 a w) := hK
  clear hK
  by_cases hj : j < P.mn c
  · have hjj : (j : Int) < ((P.mn c : Nat) : Int) := by omega
    obtain ⟨v, v1, v2⟩ := HIN.out.nuv hj
    have mv1 := hN.a j (Nat.le_refl _) hj v v1
    have idf := HIN.out.nmf hN
    have NX : Hid (NM P c nu (j + 1) (upd mk v 2) (upb id (P.ns j) true)) := HIN.out.nmn hN hj v1
    have HTT : Hid (T3d wb G R nc cls P P2 c mv g15 g23 g25 mk id w') := hT
    have hlt := HIN.out.sf.lt j hj
    have k1 := HM.out.k1
    have hG : Grew Fam.nil wb Fam.nil w' := by
      obtain ⟨D, d1, _⟩ := hT
      exact d1.grew.to_nil
    have x1 : w'.cell? ⟨b21, j, none⟩ = some (.int .i64 ((P.ns j : Nat) : Int)) := hG.cell (HM.out.c1 j hj)
    have x2 : w'.cell? ⟨g25, P.ns j, none⟩ = some (.bool false) := by
      obtain ⟨D, d1, d2, d3, d4⟩ := hT
      rw [d4.cell d1 rfl hlt, idf]
    have HGX : Hid (Grew Fam.nil wb Fam.nil w') := hG
    have d0 : w'.cell? ⟨gB, 0, none⟩ = some (V.val 0) := HIN.out.bcell HGX.out 0 _ rfl
    have d1 : w'.cell? ⟨gB, 1, none⟩ = some (V.val 1) := HIN.out.bcell HGX.out 1 _ rfl
    have d2 : w'.cell? ⟨gB, 2, none⟩ = some (V.val 2) := HIN.out.bcell HGX.out 2 _ rfl
    have d3 : w'.cell? ⟨gB, 3, none⟩ = some (V.val 3) := HIN.out.bcell HGX.out 3 _ rfl
    have d4 : w'.cell? ⟨gB, 4, none⟩ = some (V.val 4) := HIN.out.bcell HGX.out 4 _ rfl
    have d5 : w'.cell? ⟨gB, 5, none⟩ = some (V.val 5) := HIN.out.bcell HGX.out 5 _ rfl
    have d6 : w'.cell? ⟨gB, 6, none⟩ = some (V.val 6) := HIN.out.bcell HGX.out 6 _ rfl
    have HW : Hid (Calls Try.prog 22 #[.agg #[V.val 0, V.val 1, V.val 2, V.val 3, V.val 4, V.val 5, V.val 6], .int .i64 ((P.ns j : Nat) : Int)] w' fun e w'' => e = .returned (.bool false) ∧ Grew Fam.nil w' Fam.nil w'') := by
      refine (wasInUse_calls w' V P (P.ns j) (HIN.out.rvk hG (Grew.refl _ _)) HIN.out.vm hS (by omega)).mono ?_
      rintro e w'' ⟨b, rfl, hb, hg'⟩
      have : b = false := by
        cases b with
        | false => rfl
        | true => exact absurd (hb.1 rfl) (HIN.out.nwu hj)
      subst this
      exact ⟨rfl, hg'⟩
    have HVA : Hid (∀ w2, Grew Fam.nil w' Fam.nil w2 → ∃ b k, w2.cell? ⟨gA, 3, none⟩ = some (.slice (some ⟨b, 0, none⟩) P2.nS k) ∧ P2.nS ≤ k ∧ w2.cell? ⟨b, P.ns j, none⟩ = some (.int .i64 (D0 : Int))) := by
      intro w2 hg
      obtain ⟨b, k, q1, q2, q3⟩ := HIN.out.va.v3.at (hG.trans hg) hlt
      rw [HIN.out.sf.comp j hj] at q3
      exact ⟨b, k, q1, q2, q3⟩
    have END : Hid (∀ (K : Act → World → Prop), (∀ (a : Act) (w : World), Code.wp Try.prog (tl 1 (tl 1 (lp (bl (tl 1 (sL (tl 30 (Try.f5.body.getD .skip)))))))) (fun ex a' w' => Exit.then (fun a' w' => L5c wb gB gM gA V G R nc cls P P2 c D0 nu mv b21 k21 b22 k22 g15 k15 g23 g25 a' w' ∧ mus 26 (P.mn c) a' < P.mn c - j) (Exit.inBlock 4 Q) ex a' w') a w → K a w) → ∀ (a : Act) (w : World), F5b gB gM gA c G.E P2.nS P2.nC D0 (cnt (pC G R nc cls P c) G.E) (P.mn c) b21 k21 b22 k22 g15 k15 a → a.tmps.getD 23 undef = .slice (some ⟨g23, 0, none⟩) G.n G.n → a.tmps.getD 25 undef = .slice (some ⟨g25, 0, none⟩) P2.nS P2.nS → T3d wb G R nc cls P P2 c mv g15 g23 g25 (upd mk v 2) (upb id (P.ns j) true) w → a.tmps.getD 26 undef = .int .i64 (j : Int) → K a w) := by
      intro K hK a w hf h23 h25 hT h26
      obtain ⟨y5, rfl⟩ := l5l hf.sz hf.df hf.s1 hf.s8 hf.s9 hf.s10 hf.s11 hf.s12 hf.s13 hf.s14 hf.s15 hf.s21 hf.s22 h23 h25 h26
      have HT2 : Hid (T3d wb G R nc cls P P2 c mv g15 g23 g25 (upd mk v 2) (upb id (P.ns j) true) w) := hT
      refine hK _ _ ?_
      clear hf h23 h25 h26 hK hT HTT HK1 HK2 x1 x2 hG d0 d1 d2 d3 d4 d5 d6 hN
      simp only [tl, lp, bl, sL, Try.f5, Option.getD]
      go_wp2
      exact ⟨⟨⟨by kernel_rfl, by kernel_rfl, by kernel_rfl, by kernel_rfl, by kernel_rfl, by kernel_rfl, by kernel_rfl, by kernel_rfl, by kernel_rfl, by kernel_rfl, by kernel_rfl, by kernel_rfl, by kernel_rfl⟩, by kernel_rfl, by kernel_rfl, j + 1, _, _, by kernel_rfl, by omega, HT2.out, NX.out⟩, Nat.lt_of_le_of_lt (Nat.le_of_eq (by kernel_rfl : _ = P.mn c - (j + 1))) (by omega)⟩
    have f1 : ((P.ns j : Nat) : Int) < (P2.nS : Int) := by omega
    have g1 : decide (((P.ns j : Nat) : Int) < 0) = false := decide_eq_false (by omega)
    have g2 : decide (P2.nS ≤ P.ns j) = false := decide_eq_false (by omega)
    have g3 : decide ((P2.nS : Int) ≤ ((P.ns j : Nat) : Int)) = false := decide_eq_false (by omega)
    clear hT hN idf
    go_wp2
    refine HK2.out _ _ (wp_cond_true (by kernel_rfl) (wp_skip ?_))
    refine HK1.out _ _ ?_
    clear HK1 K1 HK2 K2
    refine wp_seq_k (fun K1 hK => ?_)
    have END1 : Hid (∀ (a : Act) (w : World), F5b gB gM gA c G.E P2.nS P2.nC D0 (cnt (pC G R nc cls P c) G.E) (P.mn c) b21 k21 b22 k22 g15 k15 a → a.tmps.getD 23 undef = .slice (some ⟨g23, 0, none⟩) G.n G.n → a.tmps.getD 25 undef = .slice (some ⟨g25, 0, none⟩) P2.nS P2.nS → T3d wb G R nc cls P P2 c mv g15 g23 g25 (upd mk v 2) (upb id (P.ns j) true) w → a.tmps.getD 26 undef = .int .i64 (j : Int) → K1 a w) := END.out K1 hK
    clear hK END
    refine wp_block ?_
    have HB : Hid (∀ (a : Act) (w2 : World), Grew Fam.nil w' Fam.nil w2 → F5b gB gM gA c G.E P2.nS P2.nC D0 (cnt (pC G R nc cls P c) G.E) (P.mn c) b21 k21 b22 k22 g15 k15 a → a.tmps.getD 23 undef = .slice (some ⟨g23, 0, none⟩) G.n G.n → a.tmps.getD 25 undef = .slice (some ⟨g25, 0, none⟩) P2.nS P2.nS → a.tmps.getD 26 undef = .int .i64 (j : Int) → a.tmps.getD 27 undef = .int .i64 ((P.ns j : Nat) : Int) → Code.wp Try.prog (tl 2 (f5g (Try.f5.body.getD .skip))) (Exit.inBlock 5 (fun ex a' w' => Exit.then K1 (fun ex a' w' => Exit.then (fun a' w' => L5c wb gB gM gA V G R nc cls P P2 c D0 nu mv b21 k21 b22 k22 g15 k15 g23 g25 a' w' ∧ mus 26 (P.mn c) a' < P.mn c - j) (Exit.inBlock 4 Q) ex a' w') ex a' w')) a w2) := fun a w2 hg hf h23 h25 h26 h27 => l3_4b wb gB gM gA V G R nc cls P P2 c D0 nu mv b21 k21 b22 k22 g15 k15 HIN.out g23 g25 mk id j v hj v1 v2 mv1 w2 (HTT.out.keep hg) a hf h23 h25 h26 h27 _ END1.out
    clear HIN HM HTT NX hG HGX v1 v2 mv1
    show Code.wp Try.prog (Code.seq _ (Code.seq (Code.seq _ (Code.cond (.tmp 363) _ Code.skip)) (tl 2 (f5g (Try.f5.body.getD .skip))))) _ _ w'
    refine wp_seq_k (fun K2 hK => ?_)
    have HK2 : Hid (∀ (a : Act) (w : World), _ → K2 a w) := hK
    clear hK
    go_wp2
    refine HK2.out _ _ ?_
    clear HK2 K2 x1
    refine wp_seq_k (fun K2 hK => ?_)
    have HK2 : Hid (∀ (a : Act) (w : World), _ → K2 a w) := hK
    clear hK
    refine wp_seq_k (fun K3 hK => ?_)
    have HK3 : Hid (∀ (a : Act) (w : World), _ → K3 a w) := hK
    clear hK
    go_wp2_with (go_at_call 22; refine HW.out.mono ?_; rintro e w2 ⟨rfl, hg⟩; have HG2 : Hid (Grew Fam.nil w' Fam.nil w2) := hg; clear hg; obtain ⟨b, k, q1, q2, q3⟩ := HVA.out w2 HG2.out)
    refine HK3.out _ _ (wp_cond_false (by kernel_rfl) (wp_skip ?_))
    refine HK2.out _ _ ?_
    exact HB.out _ _ HG2.out ⟨by kernel_rfl, by kernel_rfl, by kernel_rfl, by kernel_rfl, by kernel_rfl, by kernel_rfl, by kernel_rfl, by kernel_rfl, by kernel_rfl, by kernel_rfl, by kernel_rfl, by kernel_rfl, by kernel_rfl⟩ (by kernel_rfl) (by kernel_rfl) (by kernel_rfl) (by kernel_rfl)
  · have hjj : ¬ (j : Int) < ((P.mn c : Nat) : Int) := by omega
    obtain rfl : j = P.mn c := by omega
    have HT : Hid (T3d wb G R nc cls P P2 c mv g15 g23 g25 mk id w') := hT
    have HN : Hid (NM P c nu (P.mn c) mk id) := hN
    clear hT hN HIN HM
    go_wp2
    refine HK2.out _ _ (wp_cond_false (by kernel_rfl) (wp_exit ?_))
    exact HC.out _ _ mk id ⟨by kernel_rfl, by kernel_rfl, by kernel_rfl, by kernel_rfl, by kernel_rfl, by kernel_rfl, by kernel_rfl, by kernel_rfl, by kernel_rfl, by kernel_rfl, by kernel_rfl, by kernel_rfl, by kernel_rfl⟩ (by kernel_rfl) HT.out HN.out
end Go.Proofs.Qxb6602148a
