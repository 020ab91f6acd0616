/-
  A frame of 517 slots, whatever they hold; the search's loop over it.
-/
import Derived.Test.Qxb6602148aSu
attribute [local go_sem] Go.Proofs.Qxb6602148a.yTo Go.Proofs.Qxb6602148a.yUpon
namespace Go.Proofs.Qxb6602148a
open Go.RowKit
set_option linter.unusedVariables false
set_option linter.unusedSimpArgs false

def bl : Code → Code
  | .block _ c => c
  | c => c
def lp : Code → Code
  | .loop c => c
  | c => c
def cT : Code → Code
  | .cond _ a _ => a
  | c => c
def cF : Code → Code
  | .cond _ _ b => b
  | c => c
/-- The parts of the search's round. -/
def D13 (c : Code) : Code := bl (tl 1 (lp (bl (sL (tl 19 c)))))
def B14 (c : Code) : Code := bl (sL (tl 2 (cT (tl 1 (sL (tl 2 (D13 c)))))))
def N58 (c : Code) : Code := cF (tl 1 (B14 c))
def DN (c : Code) : Code := cT (tl 1 (N58 c))
def N63 (c : Code) : Code := cF (tl 1 (N58 c))
def BK (c : Code) : Code := cT (tl 1 (N63 c))

theorem arr_map (arr : Array Value) (n : Nat) (h : arr.size = n) (u : Value) : arr = ((List.range n).map (fun i => arr.getD i u)).toArray := by
  apply Array.ext
  · simp [h]
  · intro i h1 h2
    simp [h1]
set_option maxRecDepth 40000 in
theorem arr_517 (arr : Array Value) (h : arr.size = 517) : ∃ y : Nat → Value, arr = #[y 0, y 1, y 2, y 3, y 4, y 5, y 6, y 7, y 8, y 9, y 10, y 11, y 12, y 13, y 14, y 15, y 16, y 17, y 18, y 19, y 20, y 21, y 22, y 23, y 24, y 25, y 26, y 27, y 28, y 29, y 30, y 31, y 32, y 33, y 34, y 35, y 36, y 37, y 38, y 39, y 40, y 41, y 42, y 43, y 44, y 45, y 46, y 47, y 48, y 49, y 50, y 51, y 52, y 53, y 54, y 55, y 56, y 57, y 58, y 59, y 60, y 61, y 62, y 63, y 64, y 65, y 66, y 67, y 68, y 69, y 70, y 71, y 72, y 73, y 74, y 75, y 76, y 77, y 78, y 79, y 80, y 81, y 82, y 83, y 84, y 85, y 86, y 87, y 88, y 89, y 90, y 91, y 92, y 93, y 94, y 95, y 96, y 97, y 98, y 99, y 100, y 101, y 102, y 103, y 104, y 105, y 106, y 107, y 108, y 109, y 110, y 111, y 112, y 113, y 114, y 115, y 116, y 117, y 118, y 119, y 120, y 121, y 122, y 123, y 124, y 125, y 126, y 127, y 128, y 129, y 130, y 131, y 132, y 133, y 134, y 135, y 136, y 137, y 138, y 139, y 140, y 141, y 142, y 143, y 144, y 145, y 146, y 147, y 148, y 149, y 150, y 151, y 152, y 153, y 154, y 155, y 156, y 157, y 158, y 159, y 160, y 161, y 162, y 163, y 164, y 165, y 166, y 167, y 168, y 169, y 170, y 171, y 172, y 173, y 174, y 175, y 176, y 177, y 178, y 179, y 180, y 181, y 182, y 183, y 184, y 185, y 186, y 187, y 188, y 189, y 190, y 191, y 192, y 193, y 194, y 195, y 196, y 197, y 198, y 199, y 200, y 201, y 202, y 203, y 204, y 205, y 206, y 207, y 208, y 209, y 210, y 211, y 212, y 213, y 214, y 215, y 216, y 217, y 218, y 219, y 220, y 221, y 222, y 223, y 224, y 225, y 226, y 227, y 228, y 229, y 230, y 231, y 232, y 233, y 234, y 235, y 236, y 237, y 238, y 239, y 240, y 241, y 242, y 243, y 244, y 245, y 246, y 247, y 248, y 249, y 250, y 251, y 252, y 253, y 254, y 255, y 256, y 257, y 258, y 259, y 260, y 261, y 262, y 263, y 264, y 265, y 266, y 267, y 268, y 269, y 270, y 271, y 272, y 273, y 274, y 275, y 276, y 277, y 278, y 279, y 280, y 281, y 282, y 283, y 284, y 285, y 286, y 287, y 288, y 289, y 290, y 291, y 292, y 293, y 294, y 295, y 296, y 297, y 298, y 299, y 300, y 301, y 302, y 303, y 304, y 305, y 306, y 307, y 308, y 309, y 310, y 311, y 312, y 313, y 314, y 315, y 316, y 317, y 318, y 319, y 320, y 321, y 322, y 323, y 324, y 325, y 326, y 327, y 328, y 329, y 330, y 331, y 332, y 333, y 334, y 335, y 336, y 337, y 338, y 339, y 340, y 341, y 342, y 343, y 344, y 345, y 346, y 347, y 348, y 349, y 350, y 351, y 352, y 353, y 354, y 355, y 356, y 357, y 358, y 359, y 360, y 361, y 362, y 363, y 364, y 365, y 366, y 367, y 368, y 369, y 370, y 371, y 372, y 373, y 374, y 375, y 376, y 377, y 378, y 379, y 380, y 381, y 382, y 383, y 384, y 385, y 386, y 387, y 388, y 389, y 390, y 391, y 392, y 393, y 394, y 395, y 396, y 397, y 398, y 399, y 400, y 401, y 402, y 403, y 404, y 405, y 406, y 407, y 408, y 409, y 410, y 411, y 412, y 413, y 414, y 415, y 416, y 417, y 418, y 419, y 420, y 421, y 422, y 423, y 424, y 425, y 426, y 427, y 428, y 429, y 430, y 431, y 432, y 433, y 434, y 435, y 436, y 437, y 438, y 439, y 440, y 441, y 442, y 443, y 444, y 445, y 446, y 447, y 448, y 449, y 450, y 451, y 452, y 453, y 454, y 455, y 456, y 457, y 458, y 459, y 460, y 461, y 462, y 463, y 464, y 465, y 466, y 467, y 468, y 469, y 470, y 471, y 472, y 473, y 474, y 475, y 476, y 477, y 478, y 479, y 480, y 481, y 482, y 483, y 484, y 485, y 486, y 487, y 488, y 489, y 490, y 491, y 492, y 493, y 494, y 495, y 496, y 497, y 498, y 499, y 500, y 501, y 502, y 503, y 504, y 505, y 506, y 507, y 508, y 509, y 510, y 511, y 512, y 513, y 514, y 515, y 516] ∧ ∀ i, y i = arr.getD i undef := by
  refine ⟨fun i => arr.getD i undef, ?_, fun _ => rfl⟩
  exact (arr_map arr 517 h undef).trans (by kernel_rfl)

/-- The slots that the search reads and does not write. -/
structure FIC (x : SC0) (gq kq : Nat) (a : Act) : Prop where
  sz : a.tmps.size = 517
  df : a.defers = []
  s1 : a.tmps.getD 1 undef = .slice (some ⟨gq, 0, none⟩) x.d.N kq
  s2 : a.tmps.getD 2 undef = .pointer (some ⟨x.q33, 0, none⟩)
  s6 : a.tmps.getD 6 undef = .slice (some ⟨x.d.g16, 0, none⟩) (x.d.N + 1) (x.d.N + 1)
  s13 : a.tmps.getD 13 undef = .slice (some ⟨x.d.g21, 0, none⟩) x.d.T x.d.T
  s20 : a.tmps.getD 20 undef = .pointer (some ⟨x.d.q24, 0, none⟩)
  s21 : a.tmps.getD 21 undef = .pointer (some ⟨x.d.q25, 0, none⟩)
  s22 : a.tmps.getD 22 undef = .pointer (some ⟨x.d.q31, 0, none⟩)
  s23 : a.tmps.getD 23 undef = .pointer (some ⟨x.d.q32, 0, none⟩)
  s24 : a.tmps.getD 24 undef = .func (.func 35) #[] #[.pointer (some ⟨x.q33, 0, none⟩), .pointer (some ⟨x.d.q31, 0, none⟩), .pointer (some ⟨x.d.q24, 0, none⟩), .pointer (some ⟨x.d.q25, 0, none⟩), .pointer (some ⟨x.d.q32, 0, none⟩)]
  s25 : a.tmps.getD 25 undef = .slice (some ⟨x.d.g20, 0, none⟩) x.d.N x.d.N
  s26 : a.tmps.getD 26 undef = .slice (some ⟨x.d.g22, 0, none⟩) x.d.N x.d.N
def IC (x : SC0) (gq kq : Nat) (a : Act) (w : World) : Prop := FIC x gq kq a ∧ ∃ n, SRel x n (a.tmps.getD 27 undef) (a.tmps.getD 28 undef) (a.tmps.getD 29 undef) w
theorem IC_end {x : SC0} {gq kq : Nat} {mz : Value → Value → Value → World → Nat} {a : Act} {w : World} {N0 n : Nat} {v27 v28 v29 : Value} (hf : FIC x gq kq a) (e27 : a.tmps.getD 27 undef = v27) (e28 : a.tmps.getD 28 undef = v28) (e29 : a.tmps.getD 29 undef = v29) (hr : SRel x n v27 v28 v29 w) (hm : mz v27 v28 v29 w < N0) :
    IC x gq kq a w ∧ mz (a.tmps.getD 27 undef) (a.tmps.getD 28 undef) (a.tmps.getD 29 undef) w < N0 := by
  subst e27 e28 e29
  exact ⟨⟨hf, n, hr⟩, hm⟩
/-- Behind the search. -/
structure FB (x : SC0) (gq kq : Nat) (a : Act) : Prop where
  sz : a.tmps.size = 517
  df : a.defers = []
  s1 : a.tmps.getD 1 undef = .slice (some ⟨gq, 0, none⟩) x.d.N kq
  s2 : a.tmps.getD 2 undef = .pointer (some ⟨x.q33, 0, none⟩)
end Go.Proofs.Qxb6602148a
