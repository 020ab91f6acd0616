import Derived.Test.Qxb6602148aSpb
attribute [local go_sem] Go.Proofs.Qxb6602148a.yTo Go.Proofs.Qxb6602148a.yUpon
namespace Go.Proofs.Qxb6602148a
open Go.RowKit
set_option linter.unusedVariables false
set_option linter.unusedSimpArgs false

/-- The root's call. -/
def c27 (z : Int) : Nat → Value := fun j => if j = 0 then .int .i64 0 else if j = 1 then .int .i64 (-1) else .int .i64 z
def Y3 (X : Fam) (g27 : Nat) (z : Int) : Fam := (((X.set 20 0 (.int .i64 1)).set 22 0 (.int .i64 1)).put 27 (some g27) 1 1 (c27 z)).put 23 none 0 0 (fun _ => undef)

set_option maxRecDepth 40000 in
set_option maxHeartbeats 8000000 in
/-- Regions 47 to 50. -/
theorem split_B3 (w : World) (M : Fam) (p gq N kq q33 g16 g21 T q24 q25 q31 q32 g20 g22 : Nat) (wr : World) (X : Fam) (P2 : PS) (z : Int) (hS : SIn w M p q33 wr X P2) (hN : 0 < N) (c16 : wr.cell? ⟨g16, 0, none⟩ = some (.int .i64 z)) (b20 : X.b 20 = some g20) (b22 : X.b 22 = some g22) (c20 : wr.cell? ⟨g20, 0, none⟩ = some (.int .i64 0)) (c22 : wr.cell? ⟨g22, 0, none⟩ = some (.int .i64 0)) (y : Nat → Value) (tail : Code) (Z : World → Prop)
    (hT : ∀ (a : Act) (w7 : World) (g27 : Nat), FB3 gq N kq q33 g16 g21 T q24 q25 q31 q32 g20 g22 g27 a → SIn w M p q33 w7 (Y3 X g27 z) P2 → Code.wp Try.prog tail (bodyPost Try.prog Try.f29 fun e w' => e = .returned (.tuple #[]) ∧ Z w') a w7) :
    Code.wp Try.prog (rt 4 (tl 15 (Try.f29.body.getD .skip)) tail) (bodyPost Try.prog Try.f29 fun e w' => e = .returned (.tuple #[]) ∧ Z w') { tmps := #[y 0, .slice (some ⟨gq, 0, none⟩) N kq, .pointer (some ⟨q33, 0, none⟩), y 3, y 4, y 5, .slice (some ⟨g16, 0, none⟩) (N + 1) (N + 1), y 7, y 8, y 9, y 10, y 11, y 12, .slice (some ⟨g21, 0, none⟩) T T, y 14, y 15, y 16, y 17, y 18, y 19, .pointer (some ⟨q24, 0, none⟩), .pointer (some ⟨q25, 0, none⟩), .pointer (some ⟨q31, 0, none⟩), .pointer (some ⟨q32, 0, none⟩), .func (.func 35) #[] #[.pointer (some ⟨q33, 0, none⟩), .pointer (some ⟨q31, 0, none⟩), .pointer (some ⟨q24, 0, none⟩), .pointer (some ⟨q25, 0, none⟩), .pointer (some ⟨q32, 0, none⟩)], .slice (some ⟨g20, 0, none⟩) N N, .slice (some ⟨g22, 0, none⟩) N N, y 27, y 28, y 29, y 30, y 31, y 32, y 33, y 34, y 35, y 36, y 37, y 38, y 39, y 40, y 41, y 42, y 43, y 44, y 45, y 46, y 47, y 48, y 49, y 50, y 51, y 52, y 53, y 54, y 55, y 56, y 57, y 58, y 59, y 60, y 61, y 62, y 63, y 64, y 65, y 66, y 67, y 68, y 69, y 70, y 71, y 72, y 73, y 74, y 75, y 76, y 77, y 78, y 79, y 80, y 81, y 82, y 83, y 84, y 85, y 86, y 87, y 88, y 89, y 90, y 91, y 92, y 93, y 94, y 95, y 96, y 97, y 98, y 99, y 100, y 101, y 102, y 103, y 104, y 105, y 106, y 107, y 108, y 109, y 110, y 111, y 112, y 113, y 114, y 115, y 116, y 117, y 118, y 119, y 120, y 121, y 122, y 123, y 124, y 125, y 126, y 127, y 128, y 129, y 130, y 131, y 132, y 133, y 134, y 135, y 136, y 137, y 138, y 139, y 140, y 141, y 142, y 143, y 144, y 145, y 146, y 147, y 148, y 149, y 150, y 151, y 152, y 153, y 154, y 155, y 156, y 157, y 158, y 159, y 160, y 161, y 162, y 163, y 164, y 165, y 166, y 167, y 168, y 169, y 170, y 171, y 172, y 173, y 174, y 175, y 176, y 177, y 178, y 179, y 180, y 181, y 182, y 183, y 184, y 185, y 186, y 187, y 188, y 189, y 190, y 191, y 192, y 193, y 194, y 195, y 196, y 197, y 198, y 199, y 200, y 201, y 202, y 203, y 204, y 205, y 206, y 207, y 208, y 209, y 210, y 211, y 212, y 213, y 214, y 215, y 216, y 217, y 218, y 219, y 220, y 221, y 222, y 223, y 224, y 225, y 226, y 227, y 228, y 229, y 230, y 231, y 232, y 233, y 234, y 235, y 236, y 237, y 238, y 239, y 240, y 241, y 242, y 243, y 244, y 245, y 246, y 247, y 248, y 249, y 250, y 251, y 252, y 253, y 254, y 255, y 256, y 257, y 258, y 259, y 260, y 261, y 262, y 263, y 264, y 265, y 266, y 267, y 268, y 269, y 270, y 271, y 272, y 273, y 274, y 275, y 276, y 277, y 278, y 279, y 280, y 281, y 282, y 283, y 284, y 285, y 286, y 287, y 288, y 289, y 290, y 291, y 292, y 293, y 294, y 295, y 296, y 297, y 298, y 299, y 300, y 301, y 302, y 303, y 304, y 305, y 306, y 307, y 308, y 309, y 310, y 311, y 312, y 313, y 314, y 315, y 316, y 317, y 318, y 319, y 320, y 321, y 322, y 323, y 324, y 325, y 326, y 327, y 328, y 329, y 330, y 331, y 332, y 333, y 334, y 335, y 336, y 337, y 338, y 339, y 340, y 341, y 342, y 343, y 344, y 345, y 346, y 347, y 348, y 349, y 350, y 351, y 352, y 353, y 354, y 355, y 356, y 357, y 358, y 359, y 360, y 361, y 362, y 363, y 364, y 365, y 366, y 367, y 368, y 369, y 370, y 371, y 372, y 373, y 374, y 375, y 376, y 377, y 378, y 379, y 380, y 381, y 382, y 383, y 384, y 385, y 386, y 387, y 388, y 389, y 390, y 391, y 392, y 393, y 394, y 395, y 396, y 397, y 398, y 399, y 400, y 401, y 402, y 403, y 404, y 405, y 406, y 407, y 408, y 409, y 410, y 411, y 412, y 413, y 414, y 415, y 416, y 417, y 418, y 419, y 420, y 421, y 422, y 423, y 424, y 425, y 426, y 427, y 428, y 429, y 430, y 431, y 432, y 433, y 434, y 435, y 436, y 437, y 438, y 439, y 440, y 441, y 442, y 443, y 444, y 445, y 446, y 447, y 448, y 449, y 450, y 451, y 452, y 453, y 454, y 455, y 456, y 457, y 458, y 459, y 460, y 461, y 462, y 463, y 464, y 465, y 466, y 467, y 468, y 469, y 470, y 471, y 472, y 473, y 474, y 475, y 476, y 477, y 478, y 479, y 480, y 481, y 482, y 483, y 484, y 485, y 486, y 487, y 488, y 489, y 490, y 491, y 492, y 493, y 494, y 495, y 496, y 497, y 498, y 499, y 500, y 501, y 502, y 503, y 504, y 505, y 506, y 507, y 508, y 509, y 510, y 511, y 512, y 513, y 514, y 515, y 516], defers := [] } wr := by
  have ne : g20 ≠ g22 := hS.ne b20 b22 (by omega)
  have ne' : g22 ≠ g20 := fun e => ne e.symm
  have lt20 : g20 < wr.heap.size := hS.rep.lt b20
  have lt22 : g22 < wr.heap.size := hS.rep.lt b22
  have HSS : Hid (SIn w M p q33 wr X P2) := hS
  have HB0 : Hid (X.b 20 = some g20) := b20
  have HB2 : Hid (X.b 22 = some g22) := b22
  have f20 : wr.frozen? ⟨g20, 0, none⟩ = false := hS.rep.frozen b20 0
  have f22 : wr.frozen? ⟨g22, 0, none⟩ = false := hS.rep.frozen b22 0
  have HTL : Hid (∀ (a : Act) (w7 : World) (g27 : Nat), FB3 gq N kq q33 g16 g21 T q24 q25 q31 q32 g20 g22 g27 a → SIn w M p q33 w7 (Y3 X g27 z) P2 → Code.wp Try.prog tail (bodyPost Try.prog Try.f29 fun e w' => e = .returned (.tuple #[]) ∧ Z w') a w7) := hT
  clear hS hT b20 b22
  simp only [tl, rt, Try.f29, Option.getD]
  go_wp2
  have s1 := HSS.out.setloc (r := 20) (g := g20) (j := 0) (v := .int .i64 1) HB0.out (by unfold Own; omega) (by unfold XA; omega) (by omega)
  have s2 := s1.setloc (r := 22) (g := g22) (j := 0) (v := .int .i64 1) HB2.out (by unfold Own; omega) (by unfold XA; omega) (by omega)
  have fr := fresh_alloc ((wr.setCell ⟨g20, 0, none⟩ (.int .i64 1)).setCell ⟨g22, 0, none⟩ (.int .i64 1)) 65 3 1 #[.int .i64 0, .int .i64 (-1), .int .i64 z] (c27 z) rfl (by simp [maxLen]) (fun j hj => by
    have : j = 0 ∨ j = 1 ∨ j = 2 := by omega
    rcases this with rfl | rfl | rfl <;> rfl)
  have hsz : ((wr.setCell ⟨g20, 0, none⟩ (.int .i64 1)).setCell ⟨g22, 0, none⟩ (.int .i64 1)).heap.size = wr.heap.size := by simp [World.setCell]
  rw [hsz] at fr
  have s3 := s2.fresh fr (r := 27) rfl (by unfold Own; omega) (by unfold XA; omega) (by omega)
  have s4 := s3.dropl (r := 23) (by unfold Own; omega) (by unfold XA; omega) (by omega) (fun _ => undef)
  exact HTL.out _ _ _ ⟨⟨⟨⟨by kernel_rfl, by kernel_rfl, by kernel_rfl, by kernel_rfl, by kernel_rfl, by kernel_rfl⟩, by kernel_rfl, by kernel_rfl, by kernel_rfl, by kernel_rfl, by kernel_rfl⟩, by kernel_rfl, by kernel_rfl⟩, by kernel_rfl, by kernel_rfl, by kernel_rfl⟩ s4

end Go.Proofs.Qxb6602148a
