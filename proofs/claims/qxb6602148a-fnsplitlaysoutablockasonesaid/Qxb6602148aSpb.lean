import Derived.Test.Qxb6602148aSa
import Derived.Deep.RegionLawGrows
attribute [local go_sem] Go.Proofs.Qxb6602148a.yTo Go.Proofs.Qxb6602148a.yUpon
namespace Go.Proofs.Qxb6602148a
open Go.RowKit
set_option linter.unusedVariables false
set_option linter.unusedSimpArgs false

/-- The rows 24, 25, 18, 31, 19, 32. -/
def X7 (X : Fam) (N q24 q25 g18 q31 g19 q32 : Nat) : Fam := (((((X.put 24 (some q24) 1 1 fun _ => .int .i64 0).put 25 (some q25) 1 1 fun _ => .int .i64 0).put 18 (some g18) N N fun _ => .int .i64 0).put 31 (some q31) 1 1 fun _ => .slice (some ⟨g18, 0, none⟩) N N).put 19 (some g19) N N fun _ => .int .i64 0).put 32 (some q32) 1 1 (fun _ => .slice (some ⟨g19, 0, none⟩) N N)
structure FB1 (gq N kq q33 g16 g21 T q24 q25 q31 q32 : Nat) (a : Act) : Prop where
  fa : FA gq N kq q33 g16 g21 T a
  s20 : a.tmps.getD 20 undef = .pointer (some ⟨q24, 0, none⟩)
  s21 : a.tmps.getD 21 undef = .pointer (some ⟨q25, 0, none⟩)
  s22 : a.tmps.getD 22 undef = .pointer (some ⟨q31, 0, none⟩)
  s23 : a.tmps.getD 23 undef = .pointer (some ⟨q32, 0, none⟩)
  s24 : a.tmps.getD 24 undef = .func (.func 35) #[] #[.pointer (some ⟨q33, 0, none⟩), .pointer (some ⟨q31, 0, none⟩), .pointer (some ⟨q24, 0, none⟩), .pointer (some ⟨q25, 0, none⟩), .pointer (some ⟨q32, 0, none⟩)]
structure FB2 (gq N kq q33 g16 g21 T q24 q25 q31 q32 g20 g22 : Nat) (a : Act) : Prop where
  fb : FB1 gq N kq q33 g16 g21 T q24 q25 q31 q32 a
  s25 : a.tmps.getD 25 undef = .slice (some ⟨g20, 0, none⟩) N N
  s26 : a.tmps.getD 26 undef = .slice (some ⟨g22, 0, none⟩) N N
structure FB3 (gq N kq q33 g16 g21 T q24 q25 q31 q32 g20 g22 g27 : Nat) (a : Act) : Prop where
  fb : FB2 gq N kq q33 g16 g21 T q24 q25 q31 q32 g20 g22 a
  s27 : a.tmps.getD 27 undef = .slice (some ⟨g27, 0, none⟩) 1 1
  s28 : a.tmps.getD 28 undef = .int .i64 1
  s29 : a.tmps.getD 29 undef = .slice none 0 0

theorem make_fun {P : Program} (t e : TypeId) (i : TypeInfo) (z : Value) (size bytes : Nat) (v : Value) (h1 : P.underlying t = some (.slice e)) (h2 : P.info? e = some i) (h3 : i.zero = some z) (h4 : i.size = size) (h5 : i.bytes = bytes) (h6 : z.cells.size = size) (h7 : 0 < size) (h8 : ∀ j, j < size → z.cells[j]! = v)
    (n : Nat) (b2 : bytes * n ≤ 281474976710656) (b3 : n ≤ 9223372036854775807) : ∃ mk : World → World, (∀ W, Sem.run P (Instr.makeSlice t (.int .i64 (n : Int)) (.int .i64 (n : Int))) W = .ok (.slice (some ⟨W.heap.size, 0, none⟩) n n) (mk W)) ∧ ∀ W, Fresh W (mk W) e size W.heap.size n n (fun _ => v) := by
  subst h4 h5
  refine ⟨fun W => W.alloc (.cells (madeCells z.cells (n * i.size)) e), fun W => ?_, fun W => fresh_made W e i.size n z.cells v h6 h7 h8 (by simp only [maxLen]; omega)⟩
  have hr := run_make (P := P) W t e i z h1 h2 h3 .i64 .i64 n n (by omega) (Int.le_refl _) (by have h : ((i.bytes * n : Nat) : Int) ≤ 281474976710656 := by omega
                                                                                               rwa [Int.natCast_mul] at h) (by omega)
  simp only [Int.toNat_natCast] at hr
  exact hr
theorem sin46 {w wa wb wc : World} {M X : Fam} {p q33 N g20 g22 : Nat} {P2 : PS} (h : SIn w M p q33 wa X P2) (h1 : Fresh wa wb 3 1 g20 N N (fun _ => .int .i64 0)) (h2 : Fresh wb wc 3 1 g22 N N (fun _ => .int .i64 0)) : SIn w M p q33 wc ((X.put 20 (some g20) N N (fun _ => .int .i64 0)).put 22 (some g22) N N (fun _ => .int .i64 0)) P2 :=
  (h.fresh h1 (r := 20) rfl (by unfold Own; omega) (by unfold XA; omega) (by omega)).fresh h2 (r := 22) rfl (by unfold Own; omega) (by unfold XA; omega) (by omega)
theorem sin46' {w wa wb wc : World} {M X : Fam} {p q33 N g20 g22 : Nat} {P2 : PS} (h : SIn w M p q33 wa X P2) (h2 : Fresh wa wb 3 1 g22 N N (fun _ => .int .i64 0)) (h1 : Fresh wb wc 3 1 g20 N N (fun _ => .int .i64 0)) : SIn w M p q33 wc ((X.put 20 (some g20) N N (fun _ => .int .i64 0)).put 22 (some g22) N N (fun _ => .int .i64 0)) P2 := by
  have := (h.fresh h2 (r := 22) rfl (by unfold Own; omega) (by unfold XA; omega) (by omega)).fresh h1 (r := 20) rfl (by unfold Own; omega) (by unfold XA; omega) (by omega)
  rw [put_comm (by omega)] at this
  exact this

set_option maxRecDepth 40000 in
set_option maxHeartbeats 8000000 in
/-- Regions 41 to 45. -/
theorem split_B1 (w : World) (M : Fam) (p gq N kq q33 g16 g21 T : Nat) (wr : World) (X : Fam) (P2 : PS) (hS : SIn w M p q33 wr X P2) (hN : N ≤ 4096) (y : Nat → Value) (tail : Code) (Z : World → Prop)
    (hT : ∀ (a : Act) (w7 : World) (q24 q25 g18 q31 g19 q32 : Nat), FB1 gq N kq q33 g16 g21 T q24 q25 q31 q32 a → SIn w M p q33 w7 (X7 X N q24 q25 g18 q31 g19 q32) P2 → Code.wp Try.prog tail (bodyPost Try.prog Try.f29 fun e w' => e = .returned (.tuple #[]) ∧ Z w') a w7) :
    Code.wp Try.prog (rt 5 (tl 9 (Try.f29.body.getD .skip)) tail) (bodyPost Try.prog Try.f29 fun e w' => e = .returned (.tuple #[]) ∧ Z w') { tmps := #[y 0, .slice (some ⟨gq, 0, none⟩) N kq, .pointer (some ⟨q33, 0, none⟩), y 3, y 4, y 5, .slice (some ⟨g16, 0, none⟩) (N + 1) (N + 1), y 7, y 8, y 9, y 10, y 11, y 12, .slice (some ⟨g21, 0, none⟩) T T, y 14, y 15, y 16, y 17, y 18, y 19, y 20, y 21, y 22, y 23, y 24, y 25, y 26, y 27, y 28, y 29, y 30, y 31, y 32, y 33, y 34, y 35, y 36, y 37, y 38, y 39, y 40, y 41, y 42, y 43, y 44, y 45, y 46, y 47, y 48, y 49, y 50, y 51, y 52, y 53, y 54, y 55, y 56, y 57, y 58, y 59, y 60, y 61, y 62, y 63, y 64, y 65, y 66, y 67, y 68, y 69, y 70, y 71, y 72, y 73, y 74, y 75, y 76, y 77, y 78, y 79, y 80, y 81, y 82, y 83, y 84, y 85, y 86, y 87, y 88, y 89, y 90, y 91, y 92, y 93, y 94, y 95, y 96, y 97, y 98, y 99, y 100, y 101, y 102, y 103, y 104, y 105, y 106, y 107, y 108, y 109, y 110, y 111, y 112, y 113, y 114, y 115, y 116, y 117, y 118, y 119, y 120, y 121, y 122, y 123, y 124, y 125, y 126, y 127, y 128, y 129, y 130, y 131, y 132, y 133, y 134, y 135, y 136, y 137, y 138, y 139, y 140, y 141, y 142, y 143, y 144, y 145, y 146, y 147, y 148, y 149, y 150, y 151, y 152, y 153, y 154, y 155, y 156, y 157, y 158, y 159, y 160, y 161, y 162, y 163, y 164, y 165, y 166, y 167, y 168, y 169, y 170, y 171, y 172, y 173, y 174, y 175, y 176, y 177, y 178, y 179, y 180, y 181, y 182, y 183, y 184, y 185, y 186, y 187, y 188, y 189, y 190, y 191, y 192, y 193, y 194, y 195, y 196, y 197, y 198, y 199, y 200, y 201, y 202, y 203, y 204, y 205, y 206, y 207, y 208, y 209, y 210, y 211, y 212, y 213, y 214, y 215, y 216, y 217, y 218, y 219, y 220, y 221, y 222, y 223, y 224, y 225, y 226, y 227, y 228, y 229, y 230, y 231, y 232, y 233, y 234, y 235, y 236, y 237, y 238, y 239, y 240, y 241, y 242, y 243, y 244, y 245, y 246, y 247, y 248, y 249, y 250, y 251, y 252, y 253, y 254, y 255, y 256, y 257, y 258, y 259, y 260, y 261, y 262, y 263, y 264, y 265, y 266, y 267, y 268, y 269, y 270, y 271, y 272, y 273, y 274, y 275, y 276, y 277, y 278, y 279, y 280, y 281, y 282, y 283, y 284, y 285, y 286, y 287, y 288, y 289, y 290, y 291, y 292, y 293, y 294, y 295, y 296, y 297, y 298, y 299, y 300, y 301, y 302, y 303, y 304, y 305, y 306, y 307, y 308, y 309, y 310, y 311, y 312, y 313, y 314, y 315, y 316, y 317, y 318, y 319, y 320, y 321, y 322, y 323, y 324, y 325, y 326, y 327, y 328, y 329, y 330, y 331, y 332, y 333, y 334, y 335, y 336, y 337, y 338, y 339, y 340, y 341, y 342, y 343, y 344, y 345, y 346, y 347, y 348, y 349, y 350, y 351, y 352, y 353, y 354, y 355, y 356, y 357, y 358, y 359, y 360, y 361, y 362, y 363, y 364, y 365, y 366, y 367, y 368, y 369, y 370, y 371, y 372, y 373, y 374, y 375, y 376, y 377, y 378, y 379, y 380, y 381, y 382, y 383, y 384, y 385, y 386, y 387, y 388, y 389, y 390, y 391, y 392, y 393, y 394, y 395, y 396, y 397, y 398, y 399, y 400, y 401, y 402, y 403, y 404, y 405, y 406, y 407, y 408, y 409, y 410, y 411, y 412, y 413, y 414, y 415, y 416, y 417, y 418, y 419, y 420, y 421, y 422, y 423, y 424, y 425, y 426, y 427, y 428, y 429, y 430, y 431, y 432, y 433, y 434, y 435, y 436, y 437, y 438, y 439, y 440, y 441, y 442, y 443, y 444, y 445, y 446, y 447, y 448, y 449, y 450, y 451, y 452, y 453, y 454, y 455, y 456, y 457, y 458, y 459, y 460, y 461, y 462, y 463, y 464, y 465, y 466, y 467, y 468, y 469, y 470, y 471, y 472, y 473, y 474, y 475, y 476, y 477, y 478, y 479, y 480, y 481, y 482, y 483, y 484, y 485, y 486, y 487, y 488, y 489, y 490, y 491, y 492, y 493, y 494, y 495, y 496, y 497, y 498, y 499, y 500, y 501, y 502, y 503, y 504, y 505, y 506, y 507, y 508, y 509, y 510, y 511, y 512, y 513, y 514, y 515, y 516], defers := [] } wr := by
  have HSS : Hid (SIn w M p q33 wr X P2) := hS
  have HTL : Hid (∀ (a : Act) (w7 : World) (q24 q25 g18 q31 g19 q32 : Nat), FB1 gq N kq q33 g16 g21 T q24 q25 q31 q32 a → SIn w M p q33 w7 (X7 X N q24 q25 g18 q31 g19 q32) P2 → Code.wp Try.prog tail (bodyPost Try.prog Try.f29 fun e w' => e = .returned (.tuple #[]) ∧ Z w') a w7) := hT
  have E18 : Hid (((wr.alloc (.cells #[.int .i64 0] 3)).alloc (.cells #[.int .i64 0] 3)).heap.size = wr.heap.size + 1 + 1) := by simp [Hid]
  clear hS hT
  obtain ⟨i3, hi3, hz30, hz31, hz32⟩ := info_parts Try.info3
  simp only [tl, rt, Try.f29, Option.getD]
  go_wp2_with (first
    | (at_make; refine wpList_make_row rfl (.tmp 240) (.tmp 240) 26 rfl 3 i3 (.int .i64 0) 1 8 (.int .i64 0) Try.underlying26 hi3 hz30 hz31 hz32 rfl (by decide) zero1 N _ _ rfl rfl rfl rfl (by omega) (by omega) ?_
       intro w5 hF5
       rw [E18.out] at hF5
       have HS5 : Hid (SIn w M p q33 w5 _ P2) := ((HSS.out.fresh (fresh_boxg wr 3 (.int .i64 0) wr.heap.size rfl) (r := 24) rfl (by unfold Own; omega) (by unfold XA; omega) (by omega)).fresh (fresh_boxg _ 3 (.int .i64 0) (wr.heap.size + 1) (by simp)) (r := 25) rfl (by unfold Own; omega) (by unfold XA; omega) (by omega)).fresh hF5 (r := 18) rfl (by unfold Own; omega) (by unfold XA; omega) (by omega)
       have E19 : Hid ((w5.alloc (.cells #[.slice (some ⟨wr.heap.size + 1 + 1, 0, none⟩) N N] 26)).heap.size = w5.heap.size + 1) := by simp [Hid]
       clear hF5)
    | (at_make; refine wpList_make_row rfl (.tmp 243) (.tmp 243) 26 rfl 3 i3 (.int .i64 0) 1 8 (.int .i64 0) Try.underlying26 hi3 hz30 hz31 hz32 rfl (by decide) zero1 N _ _ rfl rfl rfl rfl (by omega) (by omega) ?_
       intro w6 hF6
       rw [E19.out] at hF6
       have HS6 : Hid (SIn w M p q33 w6 _ P2) := (HS5.out.fresh (fresh_boxg w5 26 (.slice (some ⟨wr.heap.size + 1 + 1, 0, none⟩) N N) w5.heap.size rfl) (r := 31) rfl (by unfold Own; omega) (by unfold XA; omega) (by omega)).fresh hF6 (r := 19) rfl (by unfold Own; omega) (by unfold XA; omega) (by omega)
       clear hF6))
  have HS7 := HS6.out.fresh (fresh_boxg w6 26 (.slice (some ⟨w5.heap.size + 1, 0, none⟩) N N) w6.heap.size rfl) (r := 32) rfl (by unfold Own; omega) (by unfold XA; omega) (by omega)
  exact HTL.out _ _ _ _ _ _ _ _ ⟨⟨by kernel_rfl, by kernel_rfl, by kernel_rfl, by kernel_rfl, by kernel_rfl, by kernel_rfl⟩, by kernel_rfl, by kernel_rfl, by kernel_rfl, by kernel_rfl, by kernel_rfl⟩ HS7

set_option maxRecDepth 40000 in
set_option maxHeartbeats 8000000 in
/-- Region 46. -/
theorem split_B2 (w : World) (M : Fam) (p gq N kq q33 g16 g21 T q24 q25 q31 q32 : Nat) (wr : World) (X : Fam) (P2 : PS) (hS : SIn w M p q33 wr X P2) (hN : N ≤ 4096) (y : Nat → Value) (tail : Code) (Z : World → Prop)
    (hT : ∀ (a : Act) (w7 : World) (g20 g22 : Nat), FB2 gq N kq q33 g16 g21 T q24 q25 q31 q32 g20 g22 a → SIn w M p q33 w7 ((X.put 20 (some g20) N N (fun _ => .int .i64 0)).put 22 (some g22) N N (fun _ => .int .i64 0)) P2 → Code.wp Try.prog tail (bodyPost Try.prog Try.f29 fun e w' => e = .returned (.tuple #[]) ∧ Z w') a w7) :
    Code.wp Try.prog (rt 1 (tl 14 (Try.f29.body.getD .skip)) tail) (bodyPost Try.prog Try.f29 fun e w' => e = .returned (.tuple #[]) ∧ Z w') { tmps := #[y 0, .slice (some ⟨gq, 0, none⟩) N kq, .pointer (some ⟨q33, 0, none⟩), y 3, y 4, y 5, .slice (some ⟨g16, 0, none⟩) (N + 1) (N + 1), y 7, y 8, y 9, y 10, y 11, y 12, .slice (some ⟨g21, 0, none⟩) T T, y 14, y 15, y 16, y 17, y 18, y 19, .pointer (some ⟨q24, 0, none⟩), .pointer (some ⟨q25, 0, none⟩), .pointer (some ⟨q31, 0, none⟩), .pointer (some ⟨q32, 0, none⟩), .func (.func 35) #[] #[.pointer (some ⟨q33, 0, none⟩), .pointer (some ⟨q31, 0, none⟩), .pointer (some ⟨q24, 0, none⟩), .pointer (some ⟨q25, 0, none⟩), .pointer (some ⟨q32, 0, none⟩)], y 25, y 26, y 27, y 28, y 29, y 30, y 31, y 32, y 33, y 34, y 35, y 36, y 37, y 38, y 39, y 40, y 41, y 42, y 43, y 44, y 45, y 46, y 47, y 48, y 49, y 50, y 51, y 52, y 53, y 54, y 55, y 56, y 57, y 58, y 59, y 60, y 61, y 62, y 63, y 64, y 65, y 66, y 67, y 68, y 69, y 70, y 71, y 72, y 73, y 74, y 75, y 76, y 77, y 78, y 79, y 80, y 81, y 82, y 83, y 84, y 85, y 86, y 87, y 88, y 89, y 90, y 91, y 92, y 93, y 94, y 95, y 96, y 97, y 98, y 99, y 100, y 101, y 102, y 103, y 104, y 105, y 106, y 107, y 108, y 109, y 110, y 111, y 112, y 113, y 114, y 115, y 116, y 117, y 118, y 119, y 120, y 121, y 122, y 123, y 124, y 125, y 126, y 127, y 128, y 129, y 130, y 131, y 132, y 133, y 134, y 135, y 136, y 137, y 138, y 139, y 140, y 141, y 142, y 143, y 144, y 145, y 146, y 147, y 148, y 149, y 150, y 151, y 152, y 153, y 154, y 155, y 156, y 157, y 158, y 159, y 160, y 161, y 162, y 163, y 164, y 165, y 166, y 167, y 168, y 169, y 170, y 171, y 172, y 173, y 174, y 175, y 176, y 177, y 178, y 179, y 180, y 181, y 182, y 183, y 184, y 185, y 186, y 187, y 188, y 189, y 190, y 191, y 192, y 193, y 194, y 195, y 196, y 197, y 198, y 199, y 200, y 201, y 202, y 203, y 204, y 205, y 206, y 207, y 208, y 209, y 210, y 211, y 212, y 213, y 214, y 215, y 216, y 217, y 218, y 219, y 220, y 221, y 222, y 223, y 224, y 225, y 226, y 227, y 228, y 229, y 230, y 231, y 232, y 233, y 234, y 235, y 236, y 237, y 238, y 239, y 240, y 241, y 242, y 243, y 244, y 245, y 246, y 247, y 248, y 249, y 250, y 251, y 252, y 253, y 254, y 255, y 256, y 257, y 258, y 259, y 260, y 261, y 262, y 263, y 264, y 265, y 266, y 267, y 268, y 269, y 270, y 271, y 272, y 273, y 274, y 275, y 276, y 277, y 278, y 279, y 280, y 281, y 282, y 283, y 284, y 285, y 286, y 287, y 288, y 289, y 290, y 291, y 292, y 293, y 294, y 295, y 296, y 297, y 298, y 299, y 300, y 301, y 302, y 303, y 304, y 305, y 306, y 307, y 308, y 309, y 310, y 311, y 312, y 313, y 314, y 315, y 316, y 317, y 318, y 319, y 320, y 321, y 322, y 323, y 324, y 325, y 326, y 327, y 328, y 329, y 330, y 331, y 332, y 333, y 334, y 335, y 336, y 337, y 338, y 339, y 340, y 341, y 342, y 343, y 344, y 345, y 346, y 347, y 348, y 349, y 350, y 351, y 352, y 353, y 354, y 355, y 356, y 357, y 358, y 359, y 360, y 361, y 362, y 363, y 364, y 365, y 366, y 367, y 368, y 369, y 370, y 371, y 372, y 373, y 374, y 375, y 376, y 377, y 378, y 379, y 380, y 381, y 382, y 383, y 384, y 385, y 386, y 387, y 388, y 389, y 390, y 391, y 392, y 393, y 394, y 395, y 396, y 397, y 398, y 399, y 400, y 401, y 402, y 403, y 404, y 405, y 406, y 407, y 408, y 409, y 410, y 411, y 412, y 413, y 414, y 415, y 416, y 417, y 418, y 419, y 420, y 421, y 422, y 423, y 424, y 425, y 426, y 427, y 428, y 429, y 430, y 431, y 432, y 433, y 434, y 435, y 436, y 437, y 438, y 439, y 440, y 441, y 442, y 443, y 444, y 445, y 446, y 447, y 448, y 449, y 450, y 451, y 452, y 453, y 454, y 455, y 456, y 457, y 458, y 459, y 460, y 461, y 462, y 463, y 464, y 465, y 466, y 467, y 468, y 469, y 470, y 471, y 472, y 473, y 474, y 475, y 476, y 477, y 478, y 479, y 480, y 481, y 482, y 483, y 484, y 485, y 486, y 487, y 488, y 489, y 490, y 491, y 492, y 493, y 494, y 495, y 496, y 497, y 498, y 499, y 500, y 501, y 502, y 503, y 504, y 505, y 506, y 507, y 508, y 509, y 510, y 511, y 512, y 513, y 514, y 515, y 516], defers := [] } wr := by
  have HSS : Hid (SIn w M p q33 wr.drew X P2) := hS.drew
  have HTL : Hid (∀ (a : Act) (w7 : World) (g20 g22 : Nat), FB2 gq N kq q33 g16 g21 T q24 q25 q31 q32 g20 g22 a → SIn w M p q33 w7 ((X.put 20 (some g20) N N (fun _ => .int .i64 0)).put 22 (some g22) N N (fun _ => .int .i64 0)) P2 → Code.wp Try.prog tail (bodyPost Try.prog Try.f29 fun e w' => e = .returned (.tuple #[]) ∧ Z w') a w7) := hT
  clear hS hT
  obtain ⟨i3, hi3, hz30, hz31, hz32⟩ := info_parts Try.info3
  simp only [tl, rt, Try.f29, Option.getD]
  obtain ⟨mk, hmk, hfr⟩ := make_fun (P := Try.prog) 26 3 i3 (.int .i64 0) 1 8 (.int .i64 0) Try.underlying26 hi3 hz30 hz31 hz32 rfl (by decide) zero1 N (by omega) (by omega)
  have HF : Hid (∀ W, Fresh W (mk W) 3 1 W.heap.size N N (fun _ => .int .i64 0)) := hfr
  clear hfr hi3 hz30 hz31 hz32
  go_wp2
  go_region
  all_goals go_wp2
  · exact HTL.out _ _ _ _ ⟨⟨⟨by kernel_rfl, by kernel_rfl, by kernel_rfl, by kernel_rfl, by kernel_rfl, by kernel_rfl⟩, by kernel_rfl, by kernel_rfl, by kernel_rfl, by kernel_rfl, by kernel_rfl⟩, by kernel_rfl, by kernel_rfl⟩ (sin46 HSS.out (HF.out _) (HF.out _))
  · exact HTL.out _ _ _ _ ⟨⟨⟨by kernel_rfl, by kernel_rfl, by kernel_rfl, by kernel_rfl, by kernel_rfl, by kernel_rfl⟩, by kernel_rfl, by kernel_rfl, by kernel_rfl, by kernel_rfl, by kernel_rfl⟩, by kernel_rfl, by kernel_rfl⟩ (sin46' HSS.out (HF.out _) (HF.out _))

end Go.Proofs.Qxb6602148a
