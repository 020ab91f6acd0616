/-
  'zzBuildModel': the edges' ends.
-/
import Derived.Test.Qxb6602148aMdb
attribute [local go_sem] Go.Proofs.Qxb6602148a.yTo Go.Proofs.Qxb6602148a.yUpon
namespace Go.Proofs.Qxb6602148a
open Go.RowKit
set_option linter.unusedVariables false
set_option linter.unusedSimpArgs false

/-- The ends of edge e. -/
def GR.srn (G : GR) : Nat → Nat → Nat
  | 0, _ => 0
  | v + 1, e => if e < G.fst v then G.srn v e else v
def GR.sr (G : GR) (e : Nat) : Nat := G.srn G.n e
def GR.ds (G : GR) (e : Nat) : Nat := G.t (G.sr e) (e - G.fst (G.sr e))
theorem GR.srn_at (G : GR) {v k : Nat} (hk : k < G.d v) : ∀ n, v < n → G.srn n (G.fst v + k) = v
  | 0, h => absurd h (Nat.not_lt_zero _)
  | n + 1, h => by
    show (if G.fst v + k < G.fst n then G.srn n (G.fst v + k) else n) = v
    have h2 : G.fst (v + 1) = G.fst v + G.d v := rfl
    rcases Nat.lt_or_ge v n with hv | hv
    · have h1 : G.fst (v + 1) ≤ G.fst n := G.fst_mono hv
      rw [if_pos (by omega)]
      exact G.srn_at hk n hv
    · obtain rfl : v = n := by omega
      rw [if_neg (by omega)]
theorem GR.sr_at (G : GR) {v k : Nat} (hv : v < G.n) (hk : k < G.d v) : G.sr (G.fst v + k) = v := G.srn_at hk G.n hv
theorem GR.ds_at (G : GR) {v k : Nat} (hv : v < G.n) (hk : k < G.d v) : G.ds (G.fst v + k) = G.t v k := by
  unfold GR.ds
  rw [G.sr_at hv hk, Nat.add_sub_cancel_left]
theorem GR.sr_lt (G : GR) {e : Nat} (h : e < G.E) : G.sr e < G.n := by
  obtain ⟨v, k, hv, hk, rfl⟩ := G.at h
  rw [G.sr_at hv hk]; exact hv
theorem GR.ds_lt (G : GR) (ok : G.Ok) {e : Nat} (h : e < G.E) : G.ds e < G.n := by
  obtain ⟨v, k, hv, hk, rfl⟩ := G.at h
  rw [G.ds_at hv hk]; exact ok.t v k hv hk

structure FE (a0 : Option Addr) (n k0 ga gm E : Nat) (a : Act) : Prop where
  fm : FM a0 n k0 ga gm a
  s5 : a.tmps.getD 5 undef = .int .i64 (E : Int)
set_option maxRecDepth 40000 in
theorem litm57 {a : Act} {u0 u2 u3 u4 u5 u7 : Value} (hs : a.tmps.size = 451) (hd : a.defers = []) (h0 : a.tmps.getD 0 undef = u0) (h2 : a.tmps.getD 2 undef = u2) (h3 : a.tmps.getD 3 undef = u3) (h4 : a.tmps.getD 4 undef = u4) (h5 : a.tmps.getD 5 undef = u5) (h7 : a.tmps.getD 7 undef = u7) : ∃ y : Nat → Value, a = { tmps := #[u0, y 1, u2, u3, u4, u5, y 6, u7, y 8, y 9, y 10, y 11, y 12, y 13, y 14, y 15, y 16, y 17, y 18, y 19, y 20, y 21, y 22, y 23, y 24, y 25, y 26, y 27, y 28, y 29, y 30, y 31, y 32, y 33, y 34, y 35, y 36, y 37, y 38, y 39, y 40, y 41, y 42, y 43, y 44, y 45, y 46, y 47, y 48, y 49, y 50, y 51, y 52, y 53, y 54, y 55, y 56, y 57, y 58, y 59, y 60, y 61, y 62, y 63, y 64, y 65, y 66, y 67, y 68, y 69, y 70, y 71, y 72, y 73, y 74, y 75, y 76, y 77, y 78, y 79, y 80, y 81, y 82, y 83, y 84, y 85, y 86, y 87, y 88, y 89, y 90, y 91, y 92, y 93, y 94, y 95, y 96, y 97, y 98, y 99, y 100, y 101, y 102, y 103, y 104, y 105, y 106, y 107, y 108, y 109, y 110, y 111, y 112, y 113, y 114, y 115, y 116, y 117, y 118, y 119, y 120, y 121, y 122, y 123, y 124, y 125, y 126, y 127, y 128, y 129, y 130, y 131, y 132, y 133, y 134, y 135, y 136, y 137, y 138, y 139, y 140, y 141, y 142, y 143, y 144, y 145, y 146, y 147, y 148, y 149, y 150, y 151, y 152, y 153, y 154, y 155, y 156, y 157, y 158, y 159, y 160, y 161, y 162, y 163, y 164, y 165, y 166, y 167, y 168, y 169, y 170, y 171, y 172, y 173, y 174, y 175, y 176, y 177, y 178, y 179, y 180, y 181, y 182, y 183, y 184, y 185, y 186, y 187, y 188, y 189, y 190, y 191, y 192, y 193, y 194, y 195, y 196, y 197, y 198, y 199, y 200, y 201, y 202, y 203, y 204, y 205, y 206, y 207, y 208, y 209, y 210, y 211, y 212, y 213, y 214, y 215, y 216, y 217, y 218, y 219, y 220, y 221, y 222, y 223, y 224, y 225, y 226, y 227, y 228, y 229, y 230, y 231, y 232, y 233, y 234, y 235, y 236, y 237, y 238, y 239, y 240, y 241, y 242, y 243, y 244, y 245, y 246, y 247, y 248, y 249, y 250, y 251, y 252, y 253, y 254, y 255, y 256, y 257, y 258, y 259, y 260, y 261, y 262, y 263, y 264, y 265, y 266, y 267, y 268, y 269, y 270, y 271, y 272, y 273, y 274, y 275, y 276, y 277, y 278, y 279, y 280, y 281, y 282, y 283, y 284, y 285, y 286, y 287, y 288, y 289, y 290, y 291, y 292, y 293, y 294, y 295, y 296, y 297, y 298, y 299, y 300, y 301, y 302, y 303, y 304, y 305, y 306, y 307, y 308, y 309, y 310, y 311, y 312, y 313, y 314, y 315, y 316, y 317, y 318, y 319, y 320, y 321, y 322, y 323, y 324, y 325, y 326, y 327, y 328, y 329, y 330, y 331, y 332, y 333, y 334, y 335, y 336, y 337, y 338, y 339, y 340, y 341, y 342, y 343, y 344, y 345, y 346, y 347, y 348, y 349, y 350, y 351, y 352, y 353, y 354, y 355, y 356, y 357, y 358, y 359, y 360, y 361, y 362, y 363, y 364, y 365, y 366, y 367, y 368, y 369, y 370, y 371, y 372, y 373, y 374, y 375, y 376, y 377, y 378, y 379, y 380, y 381, y 382, y 383, y 384, y 385, y 386, y 387, y 388, y 389, y 390, y 391, y 392, y 393, y 394, y 395, y 396, y 397, y 398, y 399, y 400, y 401, y 402, y 403, y 404, y 405, y 406, y 407, y 408, y 409, y 410, y 411, y 412, y 413, y 414, y 415, y 416, y 417, y 418, y 419, y 420, y 421, y 422, y 423, y 424, y 425, y 426, y 427, y 428, y 429, y 430, y 431, y 432, y 433, y 434, y 435, y 436, y 437, y 438, y 439, y 440, y 441, y 442, y 443, y 444, y 445, y 446, y 447, y 448, y 449, y 450], defers := [] } := by
  obtain ⟨tmps, defers⟩ := a
  have yd : defers = [] := hd
  subst yd
  obtain ⟨y, hy, hi⟩ := arr_451 tmps hs
  have e0 := (hi 0).trans h0
  have e2 := (hi 2).trans h2
  have e3 := (hi 3).trans h3
  have e4 := (hi 4).trans h4
  have e5 := (hi 5).trans h5
  have e7 := (hi 7).trans h7
  rw [e0, e2, e3, e4, e5, e7] at hy
  exact ⟨y, congrArg (fun t => (⟨t, []⟩ : Act)) hy⟩
set_option maxRecDepth 40000 in
theorem litm578 {a : Act} {u0 u2 u3 u4 u5 u7 u8 : Value} (hs : a.tmps.size = 451) (hd : a.defers = []) (h0 : a.tmps.getD 0 undef = u0) (h2 : a.tmps.getD 2 undef = u2) (h3 : a.tmps.getD 3 undef = u3) (h4 : a.tmps.getD 4 undef = u4) (h5 : a.tmps.getD 5 undef = u5) (h7 : a.tmps.getD 7 undef = u7) (h8 : a.tmps.getD 8 undef = u8) : ∃ y : Nat → Value, a = { tmps := #[u0, y 1, u2, u3, u4, u5, y 6, u7, u8, y 9, y 10, y 11, y 12, y 13, y 14, y 15, y 16, y 17, y 18, y 19, y 20, y 21, y 22, y 23, y 24, y 25, y 26, y 27, y 28, y 29, y 30, y 31, y 32, y 33, y 34, y 35, y 36, y 37, y 38, y 39, y 40, y 41, y 42, y 43, y 44, y 45, y 46, y 47, y 48, y 49, y 50, y 51, y 52, y 53, y 54, y 55, y 56, y 57, y 58, y 59, y 60, y 61, y 62, y 63, y 64, y 65, y 66, y 67, y 68, y 69, y 70, y 71, y 72, y 73, y 74, y 75, y 76, y 77, y 78, y 79, y 80, y 81, y 82, y 83, y 84, y 85, y 86, y 87, y 88, y 89, y 90, y 91, y 92, y 93, y 94, y 95, y 96, y 97, y 98, y 99, y 100, y 101, y 102, y 103, y 104, y 105, y 106, y 107, y 108, y 109, y 110, y 111, y 112, y 113, y 114, y 115, y 116, y 117, y 118, y 119, y 120, y 121, y 122, y 123, y 124, y 125, y 126, y 127, y 128, y 129, y 130, y 131, y 132, y 133, y 134, y 135, y 136, y 137, y 138, y 139, y 140, y 141, y 142, y 143, y 144, y 145, y 146, y 147, y 148, y 149, y 150, y 151, y 152, y 153, y 154, y 155, y 156, y 157, y 158, y 159, y 160, y 161, y 162, y 163, y 164, y 165, y 166, y 167, y 168, y 169, y 170, y 171, y 172, y 173, y 174, y 175, y 176, y 177, y 178, y 179, y 180, y 181, y 182, y 183, y 184, y 185, y 186, y 187, y 188, y 189, y 190, y 191, y 192, y 193, y 194, y 195, y 196, y 197, y 198, y 199, y 200, y 201, y 202, y 203, y 204, y 205, y 206, y 207, y 208, y 209, y 210, y 211, y 212, y 213, y 214, y 215, y 216, y 217, y 218, y 219, y 220, y 221, y 222, y 223, y 224, y 225, y 226, y 227, y 228, y 229, y 230, y 231, y 232, y 233, y 234, y 235, y 236, y 237, y 238, y 239, y 240, y 241, y 242, y 243, y 244, y 245, y 246, y 247, y 248, y 249, y 250, y 251, y 252, y 253, y 254, y 255, y 256, y 257, y 258, y 259, y 260, y 261, y 262, y 263, y 264, y 265, y 266, y 267, y 268, y 269, y 270, y 271, y 272, y 273, y 274, y 275, y 276, y 277, y 278, y 279, y 280, y 281, y 282, y 283, y 284, y 285, y 286, y 287, y 288, y 289, y 290, y 291, y 292, y 293, y 294, y 295, y 296, y 297, y 298, y 299, y 300, y 301, y 302, y 303, y 304, y 305, y 306, y 307, y 308, y 309, y 310, y 311, y 312, y 313, y 314, y 315, y 316, y 317, y 318, y 319, y 320, y 321, y 322, y 323, y 324, y 325, y 326, y 327, y 328, y 329, y 330, y 331, y 332, y 333, y 334, y 335, y 336, y 337, y 338, y 339, y 340, y 341, y 342, y 343, y 344, y 345, y 346, y 347, y 348, y 349, y 350, y 351, y 352, y 353, y 354, y 355, y 356, y 357, y 358, y 359, y 360, y 361, y 362, y 363, y 364, y 365, y 366, y 367, y 368, y 369, y 370, y 371, y 372, y 373, y 374, y 375, y 376, y 377, y 378, y 379, y 380, y 381, y 382, y 383, y 384, y 385, y 386, y 387, y 388, y 389, y 390, y 391, y 392, y 393, y 394, y 395, y 396, y 397, y 398, y 399, y 400, y 401, y 402, y 403, y 404, y 405, y 406, y 407, y 408, y 409, y 410, y 411, y 412, y 413, y 414, y 415, y 416, y 417, y 418, y 419, y 420, y 421, y 422, y 423, y 424, y 425, y 426, y 427, y 428, y 429, y 430, y 431, y 432, y 433, y 434, y 435, y 436, y 437, y 438, y 439, y 440, y 441, y 442, y 443, y 444, y 445, y 446, y 447, y 448, y 449, y 450], defers := [] } := by
  obtain ⟨tmps, defers⟩ := a
  have yd : defers = [] := hd
  subst yd
  obtain ⟨y, hy, hi⟩ := arr_451 tmps hs
  have e0 := (hi 0).trans h0
  have e2 := (hi 2).trans h2
  have e3 := (hi 3).trans h3
  have e4 := (hi 4).trans h4
  have e5 := (hi 5).trans h5
  have e7 := (hi 7).trans h7
  have e8 := (hi 8).trans h8
  rw [e0, e2, e3, e4, e5, e7, e8] at hy
  exact ⟨y, congrArg (fun t => (⟨t, []⟩ : Act)) hy⟩
set_option maxRecDepth 40000 in
theorem litm5789 {a : Act} {u0 u2 u3 u4 u5 u7 u8 u9 : Value} (hs : a.tmps.size = 451) (hd : a.defers = []) (h0 : a.tmps.getD 0 undef = u0) (h2 : a.tmps.getD 2 undef = u2) (h3 : a.tmps.getD 3 undef = u3) (h4 : a.tmps.getD 4 undef = u4) (h5 : a.tmps.getD 5 undef = u5) (h7 : a.tmps.getD 7 undef = u7) (h8 : a.tmps.getD 8 undef = u8) (h9 : a.tmps.getD 9 undef = u9) : ∃ y : Nat → Value, a = { tmps := #[u0, y 1, u2, u3, u4, u5, y 6, u7, u8, u9, y 10, y 11, y 12, y 13, y 14, y 15, y 16, y 17, y 18, y 19, y 20, y 21, y 22, y 23, y 24, y 25, y 26, y 27, y 28, y 29, y 30, y 31, y 32, y 33, y 34, y 35, y 36, y 37, y 38, y 39, y 40, y 41, y 42, y 43, y 44, y 45, y 46, y 47, y 48, y 49, y 50, y 51, y 52, y 53, y 54, y 55, y 56, y 57, y 58, y 59, y 60, y 61, y 62, y 63, y 64, y 65, y 66, y 67, y 68, y 69, y 70, y 71, y 72, y 73, y 74, y 75, y 76, y 77, y 78, y 79, y 80, y 81, y 82, y 83, y 84, y 85, y 86, y 87, y 88, y 89, y 90, y 91, y 92, y 93, y 94, y 95, y 96, y 97, y 98, y 99, y 100, y 101, y 102, y 103, y 104, y 105, y 106, y 107, y 108, y 109, y 110, y 111, y 112, y 113, y 114, y 115, y 116, y 117, y 118, y 119, y 120, y 121, y 122, y 123, y 124, y 125, y 126, y 127, y 128, y 129, y 130, y 131, y 132, y 133, y 134, y 135, y 136, y 137, y 138, y 139, y 140, y 141, y 142, y 143, y 144, y 145, y 146, y 147, y 148, y 149, y 150, y 151, y 152, y 153, y 154, y 155, y 156, y 157, y 158, y 159, y 160, y 161, y 162, y 163, y 164, y 165, y 166, y 167, y 168, y 169, y 170, y 171, y 172, y 173, y 174, y 175, y 176, y 177, y 178, y 179, y 180, y 181, y 182, y 183, y 184, y 185, y 186, y 187, y 188, y 189, y 190, y 191, y 192, y 193, y 194, y 195, y 196, y 197, y 198, y 199, y 200, y 201, y 202, y 203, y 204, y 205, y 206, y 207, y 208, y 209, y 210, y 211, y 212, y 213, y 214, y 215, y 216, y 217, y 218, y 219, y 220, y 221, y 222, y 223, y 224, y 225, y 226, y 227, y 228, y 229, y 230, y 231, y 232, y 233, y 234, y 235, y 236, y 237, y 238, y 239, y 240, y 241, y 242, y 243, y 244, y 245, y 246, y 247, y 248, y 249, y 250, y 251, y 252, y 253, y 254, y 255, y 256, y 257, y 258, y 259, y 260, y 261, y 262, y 263, y 264, y 265, y 266, y 267, y 268, y 269, y 270, y 271, y 272, y 273, y 274, y 275, y 276, y 277, y 278, y 279, y 280, y 281, y 282, y 283, y 284, y 285, y 286, y 287, y 288, y 289, y 290, y 291, y 292, y 293, y 294, y 295, y 296, y 297, y 298, y 299, y 300, y 301, y 302, y 303, y 304, y 305, y 306, y 307, y 308, y 309, y 310, y 311, y 312, y 313, y 314, y 315, y 316, y 317, y 318, y 319, y 320, y 321, y 322, y 323, y 324, y 325, y 326, y 327, y 328, y 329, y 330, y 331, y 332, y 333, y 334, y 335, y 336, y 337, y 338, y 339, y 340, y 341, y 342, y 343, y 344, y 345, y 346, y 347, y 348, y 349, y 350, y 351, y 352, y 353, y 354, y 355, y 356, y 357, y 358, y 359, y 360, y 361, y 362, y 363, y 364, y 365, y 366, y 367, y 368, y 369, y 370, y 371, y 372, y 373, y 374, y 375, y 376, y 377, y 378, y 379, y 380, y 381, y 382, y 383, y 384, y 385, y 386, y 387, y 388, y 389, y 390, y 391, y 392, y 393, y 394, y 395, y 396, y 397, y 398, y 399, y 400, y 401, y 402, y 403, y 404, y 405, y 406, y 407, y 408, y 409, y 410, y 411, y 412, y 413, y 414, y 415, y 416, y 417, y 418, y 419, y 420, y 421, y 422, y 423, y 424, y 425, y 426, y 427, y 428, y 429, y 430, y 431, y 432, y 433, y 434, y 435, y 436, y 437, y 438, y 439, y 440, y 441, y 442, y 443, y 444, y 445, y 446, y 447, y 448, y 449, y 450], defers := [] } := by
  obtain ⟨tmps, defers⟩ := a
  have yd : defers = [] := hd
  subst yd
  obtain ⟨y, hy, hi⟩ := arr_451 tmps hs
  have e0 := (hi 0).trans h0
  have e2 := (hi 2).trans h2
  have e3 := (hi 3).trans h3
  have e4 := (hi 4).trans h4
  have e5 := (hi 5).trans h5
  have e7 := (hi 7).trans h7
  have e8 := (hi 8).trans h8
  have e9 := (hi 9).trans h9
  rw [e0, e2, e3, e4, e5, e7, e8, e9] at hy
  exact ⟨y, congrArg (fun t => (⟨t, []⟩ : Act)) hy⟩

def mus (s n : Nat) (a : Act) : Nat := n - (intOf (a.tmps.getD s undef)).toNat
theorem GM.hb {w : World} {N : Fam} {G : GR} {g cap : Nat} (h : GM w N G (some ⟨g, 0, none⟩) cap) : N.b 0 = some g := by
  have h1 := h.hd
  unfold Fam.val at h1
  cases e : N.b 0 with
  | none => rw [e] at h1; simp at h1
  | some g' => rw [e] at h1; simp at h1; rw [h1.1]
theorem DS.new {w0 wr : World} {n E ga gm g0 g1 g2 g3 : Nat} {src dst cls : Nat → Int} {onc : Nat → Bool} {D : Fam} (h : DS w0 n E ga gm g0 g1 g2 g3 src dst cls onc D wr) {r g : Nat} (hb : D.b r = some g) : w0.heap.size ≤ g := by
  rcases h.grew.own r g hb with ⟨j, hj⟩ | h1
  · cases hj
  · exact h1
/-- Edges before e have been written down. -/
def EDI (w0 : World) (G : GR) (ga gm g0 g1 g2 g3 e : Nat) (w : World) : Prop :=
  ∃ src dst D, DS w0 G.n G.E ga gm g0 g1 g2 g3 src dst (fun _ => 0) (fun _ => false) D w ∧ (∀ r, 4 ≤ r → r ≠ 14 → r ≠ 15 → D.b r = none) ∧ ∀ j, j < e → src j = ((G.sr j : Nat) : Int) ∧ dst j = ((G.ds j : Nat) : Int)
theorem EDI.step {w0 w : World} {G : GR} {ga gm g0 g1 g2 g3 v k : Nat} (hv : v < G.n) (hk : k < G.d v) (h : EDI w0 G ga gm g0 g1 g2 g3 (G.fst v + k) w) : EDI w0 G ga gm g0 g1 g2 g3 (G.fst v + k + 1) ((w.setCell ⟨g0, G.fst v + k, none⟩ (.int .i64 (v : Int))).drew.setCell ⟨g1, G.fst v + k, none⟩ (.int .i64 ((G.t v k : Nat) : Int))) := by
  obtain ⟨src, dst, D, hD, hN, hj⟩ := h
  refine ⟨_, _, _, ((hD.set0 (G.fst v + k) (v : Int)).drew.set1 (G.fst v + k) ((G.t v k : Nat) : Int)), hN, fun j hjl => ?_⟩
  by_cases e : j = G.fst v + k
  · subst e
    rw [upd_same, upd_same, G.sr_at hv hk, G.ds_at hv hk]
    exact ⟨rfl, rfl⟩
  · rw [upd_other _ _ e, upd_other _ _ e]
    exact hj j (by omega)
def M3I (w0 : World) (G : GR) (a0 : Option Addr) (k0 ga gm g0 g1 g2 g3 : Nat) (a : Act) (w : World) : Prop :=
  FE a0 G.n k0 ga gm G.E a ∧ ∃ i : Nat, a.tmps.getD 8 undef = .int .i64 (i : Int) ∧ i ≤ G.n ∧ a.tmps.getD 7 undef = .int .i64 ((G.fst i : Nat) : Int) ∧ EDI w0 G ga gm g0 g1 g2 g3 (G.fst i) w
def M4I (w0 : World) (G : GR) (a0 : Option Addr) (k0 ga gm g0 g1 g2 g3 i : Nat) (a : Act) (w : World) : Prop :=
  FE a0 G.n k0 ga gm G.E a ∧ a.tmps.getD 8 undef = .int .i64 (i : Int) ∧ ∃ k : Nat, a.tmps.getD 9 undef = .int .i64 (k : Int) ∧ k ≤ G.d i ∧ a.tmps.getD 7 undef = .int .i64 ((G.fst i + k : Nat) : Int) ∧ EDI w0 G ga gm g0 g1 g2 g3 (G.fst i + k) w

set_option maxRecDepth 40000 in
set_option maxHeartbeats 8000000 in
/-- The edges' ends. -/
theorem md_4 (w0 : World) (N : Fam) (G : GR) (a0 : Option Addr) (k0 ga gm g0 g1 g2 g3 : Nat) (ok : G.Ok) (hG : GM w0 N G a0 k0) (wr : World) (hI : EDI w0 G ga gm g0 g1 g2 g3 0 wr) (a : Act) (hf : FE a0 G.n k0 ga gm G.E a) (h7 : a.tmps.getD 7 undef = .int .i64 0) (Q : Exit → Act → World → Prop)
    (hC : ∀ (a : Act) (w : World), FE a0 G.n k0 ga gm G.E a → EDI w0 G ga gm g0 g1 g2 g3 G.E w → Q .normal a w) :
    Code.wp Try.prog (sL (tl 11 (Try.f10.body.getD .skip))) Q a wr := by
  obtain ⟨y, rfl⟩ := litm57 hf.fm.sz hf.fm.df hf.fm.s0 hf.fm.s2 hf.fm.s3 hf.fm.s4 hf.s5 h7
  have HG : Hid (GM w0 N G a0 k0) := hG
  have HO : Hid G.Ok := ok
  have HI : Hid (EDI w0 G ga gm g0 g1 g2 g3 0 wr) := hI
  have hn := ok.n
  have hE := ok.E
  have HC : Hid (∀ (a : Act) (w : World), FE a0 G.n k0 ga gm G.E a → EDI w0 G ga gm g0 g1 g2 g3 G.E w → Q .normal a w) := hC
  clear hf h7 hG ok hC hI
  show Code.wp Try.prog (Code.seq _ (Code.block 2 (Code.loop (Code.seq (Code.seq _ (Code.cond (.tmp 70) Code.skip (Code.exit 2))) (Code.seq (Code.block 3 (Code.seq _ (Code.block 4 (Code.loop (Code.seq (Code.seq _ (Code.cond (.tmp 79) Code.skip (Code.exit 4))) (Code.seq (Code.block 5 (Code.seq _ (Code.seq _ _))) _)))))) _))))) Q _ wr
  refine wp_seq_k (fun K1 hK => ?_)
  have HK : Hid (∀ (a : Act) (w : World), _ → K1 a w) := hK
  clear hK
  go_wp2
  refine HK.out _ _ ?_
  clear HK K1
  refine wp_block ?_
  refine wp_loop (M3I w0 G a0 k0 ga gm g0 g1 g2 g3) (fun a _ => mus 8 G.n a) ⟨⟨⟨by kernel_rfl, by kernel_rfl, by kernel_rfl, by kernel_rfl, by kernel_rfl, by kernel_rfl⟩, by kernel_rfl⟩, 0, by kernel_rfl, Nat.zero_le _, by kernel_rfl, HI.out⟩ ?_
  clear HI
  rintro a w' ⟨hf, i, h8, i1, h7, hI⟩
  have HI : Hid (EDI w0 G ga gm g0 g1 g2 g3 (G.fst i) w') := hI
  have e8 : mus 8 G.n a = G.n - i := congrArg (fun v => G.n - (intOf v).toNat) h8
  obtain ⟨y2, rfl⟩ := litm578 hf.fm.sz hf.fm.df hf.fm.s0 hf.fm.s2 hf.fm.s3 hf.fm.s4 hf.s5 h7 h8
  rw [e8]
  clear e8 hf h7 h8 hI
  refine wp_seq_k (fun K1 hK => ?_)
  have HK : Hid (∀ (a : Act) (w : World), _ → K1 a w) := hK
  clear hK
  refine wp_seq_k (fun K2 hK => ?_)
  have HK2 : Hid (∀ (a : Act) (w : World), _ → K2 a w) := hK
  clear hK
  by_cases hi : i < G.n
  · have hii : (i : Int) < (G.n : Int) := by omega
    go_wp2
    refine HK2.out _ _ (wp_cond_true (by kernel_rfl) (wp_skip ?_))
    refine HK.out _ _ ?_
    clear HK K1 HK2 K2
    refine wp_seq_k (fun K1 hK => ?_)
    have HK : Hid (∀ (a : Act) (w : World), _ → K1 a w) := hK
    clear hK
    refine wp_block ?_
    refine wp_seq_k (fun K2 hK => ?_)
    have HK2 : Hid (∀ (a : Act) (w : World), _ → K2 a w) := hK
    clear hK
    go_wp2
    refine HK2.out _ _ ?_
    clear HK2 K2
    refine wp_block ?_
    refine wp_loop (M4I w0 G a0 k0 ga gm g0 g1 g2 g3 i) (fun a _ => mus 9 (G.d i) a) ⟨⟨⟨by kernel_rfl, by kernel_rfl, by kernel_rfl, by kernel_rfl, by kernel_rfl, by kernel_rfl⟩, by kernel_rfl⟩, by kernel_rfl, 0, by kernel_rfl, Nat.zero_le _, by kernel_rfl, (by rw [Nat.add_zero]; exact HI.out)⟩ ?_
    clear HI
    rintro a w' ⟨hf, h8, k, h9, k1, h7, hI⟩
    have FS : Hid (G.fst (i + 1) = G.fst i + G.d i) := rfl
    have e9 : mus 9 (G.d i) a = G.d i - k := congrArg (fun v => G.d i - (intOf v).toNat) h9
    obtain ⟨y3, rfl⟩ := litm5789 hf.fm.sz hf.fm.df hf.fm.s0 hf.fm.s2 hf.fm.s3 hf.fm.s4 hf.s5 h7 h8 h9
    rw [e9]
    clear e9 hf h7 h8 h9
    refine wp_seq_k (fun K2 hK => ?_)
    have HK2 : Hid (∀ (a : Act) (w : World), _ → K2 a w) := hK
    clear hK
    refine wp_seq_k (fun K3 hK => ?_)
    have HK3 : Hid (∀ (a : Act) (w : World), _ → K3 a w) := hK
    clear hK
    have HI : Hid (EDI w0 G ga gm g0 g1 g2 g3 (G.fst i + k) w') := hI
    obtain ⟨src, dst, D, hD, _, _⟩ := hI
    have hGw := HG.out.kept hD.grew
    obtain ⟨g, ha, lc, xh⟩ := hGw.cell hi
    subst ha
    by_cases hk : k < G.d i
    · have hkk : (k : Int) < ((G.d i : Nat) : Int) := by omega
      obtain ⟨gr, har, hkr, xr⟩ := hGw.entry hi hk
      rw [har] at xh
      simp only [Option.map_some] at xh
      have hlt := G.fst_lt hi hk
      have tl1 := HO.out.t i k hi hk
      have hkb : k < 4096 := by omega
      have x1 : w'.cell? ⟨gm, 1, none⟩ = some (.slice (some ⟨g0, 0, none⟩) G.E G.E) := hD.hd (f := 1) (by decide)
      have x2 : w'.cell? ⟨gm, 2, none⟩ = some (.slice (some ⟨g1, 0, none⟩) G.E G.E) := hD.hd (f := 2) (by decide)
      have x3 := hD.i0.cell' hD.rep hD.b0 rfl hlt
      have x4 := hD.i1.cell' hD.rep hD.b1 rfl hlt
      have f3 := hD.rep.frozen hD.b0 (G.fst i + k)
      have f4 : (w'.setCell ⟨g0, G.fst i + k, none⟩ (.int .i64 (i : Int))).frozen? ⟨g1, G.fst i + k, none⟩ = false := (hD.set0 (G.fst i + k) (i : Int)).rep.frozen (i := 1) hD.b1 (G.fst i + k)
      have n1 : gm ≠ g0 := fun e => absurd (hD.rep.inj 14 0 gm hD.b14 (by rw [e]; exact hD.b0)) (by decide)
      have n2 : g1 ≠ g0 := fun e => absurd (hD.rep.inj 1 0 g1 hD.b1 (by rw [e]; exact hD.b0)) (by decide)
      have n3 : g ≠ g0 := Nat.ne_of_lt (Nat.lt_of_lt_of_le (HG.out.rep.lt HG.out.hb) (hD.new hD.b0))
      have n4 : gr ≠ g0 := Nat.ne_of_lt (Nat.lt_of_lt_of_le (HG.out.rep.lt har) (hD.new hD.b0))
      have fin : Hid (EDI w0 G ga gm g0 g1 g2 g3 (G.fst i + (k + 1)) ((w'.setCell ⟨g0, G.fst i + k, none⟩ (.int .i64 (i : Int))).drew.setCell ⟨g1, G.fst i + k, none⟩ (.int .i64 ((G.t i k : Nat) : Int)))) := HI.out.step hi hk
      clear HI hD hGw har
      have EH : Hid (∀ a : Act, a.tmps.getD 7 undef = .int .i64 (((G.fst i + k : Nat) : Int) + 1) → a.tmps.getD 7 undef = .int .i64 ((G.fst i + (k + 1) : Nat) : Int)) := fun a h => by rw [h]; rfl
      generalize G.fst i + k = e at *
      have hee : (e : Int) < (G.E : Int) := by omega
      generalize N.cap (1 + i) = kr at *
      generalize src e = s0 at *
      generalize dst e = d0 at *
      go_wp2
      refine HK3.out _ _ (wp_cond_true (by kernel_rfl) (wp_skip ?_))
      refine HK2.out _ _ ?_
      clear HK2 K2 HK3 K3
      refine wp_seq_k (fun K2 hK => ?_)
      have HK2 : Hid (∀ (a : Act) (w : World), _ → K2 a w) := hK
      clear hK
      refine wp_block ?_
      refine wp_seq_k (fun K3 hK => ?_)
      have HK3 : Hid (∀ (a : Act) (w : World), _ → K3 a w) := hK
      clear hK
      go_wp2
      refine HK3.out _ _ ?_
      clear HK3 K3
      refine wp_seq_k (fun K3 hK => ?_)
      have HK3 : Hid (∀ (a : Act) (w : World), _ → K3 a w) := hK
      clear hK
      have y1 : (w'.setCell ⟨g0, e, none⟩ (.int .i64 (i : Int))).drew.cell? ⟨gm, 2, none⟩ = some (.slice (some ⟨g1, 0, none⟩) G.E G.E) := (cell_ne n1).trans x2
      have y2 : (w'.setCell ⟨g0, e, none⟩ (.int .i64 (i : Int))).drew.cell? ⟨g, i, none⟩ = some (.slice (some ⟨gr, 0, none⟩) (G.d i) kr) := (cell_ne n3).trans xh
      have y3 : (w'.setCell ⟨g0, e, none⟩ (.int .i64 (i : Int))).drew.cell? ⟨gr, k, none⟩ = some (.int .i64 ((G.t i k : Nat) : Int)) := (cell_ne n4).trans xr
      have y4 : (w'.setCell ⟨g0, e, none⟩ (.int .i64 (i : Int))).drew.cell? ⟨g1, e, none⟩ = some (.int .i64 d0) := (cell_ne n2).trans x4
      have y5 : (w'.setCell ⟨g0, e, none⟩ (.int .i64 (i : Int))).drew.frozen? ⟨g1, e, none⟩ = false := f4
      clear x1 x2 x3 x4 f3 f4 xh xr n1 n2 n3 n4
      generalize hW : (w'.setCell ⟨g0, e, none⟩ (.int .i64 (i : Int))) = wv at *
      clear hW
      have FK : Hid (∀ kk w'', kk ≤ 0 → C1 wv.drew (wv.drew.setCell ⟨g1, e, none⟩ (.int .i64 ((G.t i k : Nat) : Int))) kk w'' → w'' = wv.drew) := by
        intro kk w'' hk hw
        have hk : kk = 0 := by omega
        subst hk
        exact hw
      refine wp_region_stage (C1 wv.drew (wv.drew.setCell ⟨g1, e, none⟩ (.int .i64 ((G.t i k : Nat) : Int)))) [11] (fun i => 0) (by kernel_rfl) (by kernel_rfl) (rfl) ?_
      refine wpStage_read rfl rfl ?_
      apply Exists.intro
      refine ⟨fun kk w'' hk hw => ?_, ?_⟩
      · go_simp
        first | rfl | exact ⟨rfl, hw⟩
      go_simp
      refine wpStage_read rfl rfl ?_
      apply Exists.intro
      refine ⟨fun kk w'' hk hw => ?_, ?_⟩
      · have hw0 := FK.out kk w'' hk hw
        subst hw0
        go_simp
        first | rfl | exact ⟨rfl, hw⟩
      go_simp
      refine wpStage_read rfl rfl ?_
      apply Exists.intro
      refine ⟨fun kk w'' hk hw => ?_, ?_⟩
      · go_simp
        first | rfl | exact ⟨rfl, hw⟩
      go_simp
      refine wpStage_read rfl rfl ?_
      apply Exists.intro
      refine ⟨fun kk w'' hk hw => ?_, ?_⟩
      · go_simp
        first | rfl | exact ⟨rfl, hw⟩
      go_simp
      refine wpStage_read rfl rfl ?_
      apply Exists.intro
      refine ⟨fun kk w'' hk hw => ?_, ?_⟩
      · go_simp
        first | rfl | exact ⟨rfl, hw⟩
      go_simp
      refine wpStage_read rfl rfl ?_
      apply Exists.intro
      refine ⟨fun kk w'' hk hw => ?_, ?_⟩
      · go_simp
        first | rfl | exact ⟨rfl, hw⟩
      go_simp
      refine wpStage_read rfl rfl ?_
      apply Exists.intro
      refine ⟨fun kk w'' hk hw => ?_, ?_⟩
      · have hw0 := FK.out kk w'' hk hw
        subst hw0
        go_simp
        first | rfl | exact ⟨rfl, hw⟩
      go_simp
      refine wpStage_read rfl rfl ?_
      apply Exists.intro
      refine ⟨fun kk w'' hk hw => ?_, ?_⟩
      · go_simp
        first | rfl | exact ⟨rfl, hw⟩
      go_simp
      refine wpStage_read rfl rfl ?_
      apply Exists.intro
      refine ⟨fun kk w'' hk hw => ?_, ?_⟩
      · go_simp
        first | rfl | exact ⟨rfl, hw⟩
      go_simp
      refine wpStage_read rfl rfl ?_
      apply Exists.intro
      refine ⟨fun kk w'' hk hw => ?_, ?_⟩
      · have hw0 := FK.out kk w'' hk hw
        subst hw0
        go_simp
        first | rfl | exact ⟨rfl, hw⟩
      go_simp
      refine wpStage_read rfl rfl ?_
      apply Exists.intro
      refine ⟨fun kk w'' hk hw => ?_, ?_⟩
      · go_simp
        first | rfl | exact ⟨rfl, hw⟩
      go_simp
      refine wpStage_move rfl rfl ?_
      apply Exists.intro
      refine ⟨fun w'' hw => ?_, ?_⟩
      · have hw : w'' = wv.drew := hw
        subst hw
        go_simp
        first | rfl | exact ⟨rfl, rfl⟩
      go_simp
      intro we hw0
      have hw : we = (wv.drew.setCell ⟨g1, e, none⟩ (.int .i64 ((G.t i k : Nat) : Int))) := hw0
      clear hw0
      rw [← hw] at fin
      clear hw FK
      refine HK3.out _ _ ?_
      clear HK3 K3 y1 y2 y3 y4 y5
      go_wp2
      refine HK2.out _ _ ?_
      clear HK2 K2
      go_wp2
      exact ⟨⟨⟨⟨by kernel_rfl, by kernel_rfl, by kernel_rfl, by kernel_rfl, by kernel_rfl, by kernel_rfl⟩, by kernel_rfl⟩, by kernel_rfl, k + 1, by kernel_rfl, by omega, EH.out _ (by kernel_rfl), fin.out⟩, Nat.lt_of_le_of_lt (Nat.le_of_eq (by kernel_rfl : _ = G.d i - (k + 1))) (by omega)⟩
    · have hkk : ¬ (k : Int) < ((G.d i : Nat) : Int) := by omega
      obtain rfl : k = G.d i := by omega
      clear hD hGw
      generalize Option.map (fun g => (⟨g, 0, none⟩ : Addr)) (N.b (1 + i)) = ar at *
      generalize N.cap (1 + i) = kr at *
      go_wp2
      refine HK3.out _ _ (wp_cond_false (by kernel_rfl) (wp_exit ?_))
      refine HK.out _ _ ?_
      clear HK K1 HK2 K2 HK3 K3
      go_wp2
      have FS2 : Hid (∀ a : Act, a.tmps.getD 7 undef = .int .i64 ((G.fst i + G.d i : Nat) : Int) → a.tmps.getD 7 undef = .int .i64 ((G.fst (i + 1) : Nat) : Int)) := fun a h => by rw [h, FS.out]
      have HI2 : EDI w0 G ga gm g0 g1 g2 g3 (G.fst (i + 1)) w' := by rw [FS.out]; exact HI.out
      exact ⟨⟨⟨⟨by kernel_rfl, by kernel_rfl, by kernel_rfl, by kernel_rfl, by kernel_rfl, by kernel_rfl⟩, by kernel_rfl⟩, i + 1, by kernel_rfl, by omega, FS2.out _ (by kernel_rfl), HI2⟩, Nat.lt_of_le_of_lt (Nat.le_of_eq (by kernel_rfl : _ = G.n - (i + 1))) (by omega)⟩
  · have hii : ¬ (i : Int) < (G.n : Int) := by omega
    obtain rfl : i = G.n := by omega
    go_wp2
    refine HK2.out _ _ (wp_cond_false (by kernel_rfl) (wp_exit ?_))
    exact HC.out _ _ ⟨⟨by kernel_rfl, by kernel_rfl, by kernel_rfl, by kernel_rfl, by kernel_rfl, by kernel_rfl⟩, by kernel_rfl⟩ HI.out
end Go.Proofs.Qxb6602148a
