/-
  'zzBuildModel': the pieces without node x.
-/
import Derived.Test.Qxb6602148aMdi
attribute [local go_sem] Go.Proofs.Qxb6602148a.yTo Go.Proofs.Qxb6602148a.yUpon
namespace Go.Proofs.Qxb6602148a
open Go.RowKit
set_option linter.unusedVariables false
set_option linter.unusedSimpArgs false

structure FXv (a0 : Option Addr) (n k0 ga gm E g8 g9 g10 : Nat) (v20 : Value) (rd x : Nat) (a : Act) : Prop where
  fx : FX a0 n k0 ga gm E g8 g9 g10 a
  s20 : a.tmps.getD 20 undef = v20
  s28 : a.tmps.getD 28 undef = .int .i64 (rd : Int)
  s29 : a.tmps.getD 29 undef = .int .i64 (x : Int)
def f10x (c : Code) : Code := bl (sL (tl 1 (lp (bl (tl 1 (sL (tl 24 c)))))))
section
variable {w0 w : World} {G : GR} {ga gm g0 g1 g2 g3 : Nat} {R : Nat → Nat → Bool} {g8 g9 g10 : Nat} {par st wh : Nat → Nat} {v20 : Value} {B nc : Nat} {cn : Nat → Nat} {cl : Nat → Nat → Nat} {D : Fam}
theorem XAl.setp (h : XAl w0 G ga gm g0 g1 g2 g3 R g8 g9 g10 par st wh v20 B nc cn cl D w) (j x : Nat) : XAl w0 G ga gm g0 g1 g2 g3 R g8 g9 g10 (up par j x) st wh v20 B nc cn cl (D.set 8 j (.int .i64 (x : Int))) (w.setCell ⟨g8, j, none⟩ (.int .i64 (x : Int))) := by
  have h8 := h.xb.i8.set (j := j) (x := ((x : Nat) : Int))
  rw [upd_cast] at h8
  exact ⟨⟨DS.setA h.xb.ds ⟨by omega, by omega, by omega⟩ h.xb.b8 j _, h.xb.b8, h.xb.c8, h8, h.xb.b9, h.xb.i9.set_ne (by omega), h.xb.b10, h.xb.i10.set_ne (by omega)⟩, h.v7, h.l7.set_ne (by omega) (by omega)⟩
theorem XAl.parc {par' : Nat → Nat} (h : XAl w0 G ga gm g0 g1 g2 g3 R g8 g9 g10 par st wh v20 B nc cn cl D w) (e : ∀ j, j < G.n → par j = par' j) : XAl w0 G ga gm g0 g1 g2 g3 R g8 g9 g10 par' st wh v20 B nc cn cl D w :=
  ⟨⟨h.xb.ds, h.xb.b8, h.xb.c8, h.xb.i8.congr (fun j hj => by rw [e j hj]), h.xb.b9, h.xb.i9, h.xb.b10, h.xb.i10⟩, h.v7, h.l7⟩
theorem XAl.drew (h : XAl w0 G ga gm g0 g1 g2 g3 R g8 g9 g10 par st wh v20 B nc cn cl D w) : XAl w0 G ga gm g0 g1 g2 g3 R g8 g9 g10 par st wh v20 B nc cn cl D w.drew := ⟨⟨DS.drew h.xb.ds, h.xb.b8, h.xb.c8, h.xb.i8, h.xb.b9, h.xb.i9, h.xb.b10, h.xb.i10⟩, h.v7, h.l7⟩
theorem XAl.ufin {rt dp : Nat → Nat} (h : XAl w0 G ga gm g0 g1 g2 g3 R g8 g9 g10 par st wh v20 B nc cn cl D w) (hU : UF G.n par rt dp) : UFin KD Fam.nil w0 D 8 G.n rt dp w := ⟨D, par, h.xb.ds.rep, But.refl _ _, h.xb.i8, hU, h.xb.ds.grew⟩
theorem XAl.of {rt dp : Nat → Nat} {w' : World} (h : XAl w0 G ga gm g0 g1 g2 g3 R g8 g9 g10 par st wh v20 B nc cn cl D w) (hU : UFin KD Fam.nil w0 D 8 G.n rt dp w') : ∃ D' par', XAl w0 G ga gm g0 g1 g2 g3 R g8 g9 g10 par' st wh v20 B nc cn cl D' w' ∧ UF G.n par' rt dp := by
  obtain ⟨D', par', hR, hB, hI, hU, hG⟩ := hU
  refine ⟨D', par', ⟨⟨DS.butA h.xb.ds (r := 8) ⟨by omega, by omega, by omega⟩ hR hB hG, by rw [hB.b]; exact h.xb.b8, by rw [hB.cap]; exact h.xb.c8, hI, by rw [hB.b]; exact h.xb.b9, hB.ints (by omega) h.xb.i9, by rw [hB.b]; exact h.xb.b10, hB.ints (by omega) h.xb.i10⟩, by rw [hB.val]; exact h.v7, h.l7.but hB (by omega) (by omega)⟩, hU⟩
end
set_option maxRecDepth 40000 in
theorem litx {a : Act} {u0 u2 u3 u4 u5 u20 u25 u26 u27 u28 u29 : Value} (hs : a.tmps.size = 451) (hd : a.defers = []) (h0 : a.tmps.getD 0 undef = u0) (h2 : a.tmps.getD 2 undef = u2) (h3 : a.tmps.getD 3 undef = u3) (h4 : a.tmps.getD 4 undef = u4) (h5 : a.tmps.getD 5 undef = u5) (h20 : a.tmps.getD 20 undef = u20) (h25 : a.tmps.getD 25 undef = u25) (h26 : a.tmps.getD 26 undef = u26) (h27 : a.tmps.getD 27 undef = u27) (h28 : a.tmps.getD 28 undef = u28) (h29 : a.tmps.getD 29 undef = u29) : ∃ y : Nat → Value, a = { tmps := #[u0, y 1, u2, u3, u4, u5, y 6, y 7, y 8, y 9, y 10, y 11, y 12, y 13, y 14, y 15, y 16, y 17, y 18, y 19, u20, y 21, y 22, y 23, y 24, u25, u26, u27, u28, u29, y 30, y 31, y 32, y 33, y 34, y 35, y 36, y 37, y 38, y 39, y 40, y 41, y 42, y 43, y 44, y 45, y 46, y 47, y 48, y 49, y 50, y 51, y 52, y 53, y 54, y 55, y 56, y 57, y 58, y 59, y 60, y 61, y 62, y 63, y 64, y 65, y 66, y 67, y 68, y 69, y 70, y 71, y 72, y 73, y 74, y 75, y 76, y 77, y 78, y 79, y 80, y 81, y 82, y 83, y 84, y 85, y 86, y 87, y 88, y 89, y 90, y 91, y 92, y 93, y 94, y 95, y 96, y 97, y 98, y 99, y 100, y 101, y 102, y 103, y 104, y 105, y 106, y 107, y 108, y 109, y 110, y 111, y 112, y 113, y 114, y 115, y 116, y 117, y 118, y 119, y 120, y 121, y 122, y 123, y 124, y 125, y 126, y 127, y 128, y 129, y 130, y 131, y 132, y 133, y 134, y 135, y 136, y 137, y 138, y 139, y 140, y 141, y 142, y 143, y 144, y 145, y 146, y 147, y 148, y 149, y 150, y 151, y 152, y 153, y 154, y 155, y 156, y 157, y 158, y 159, y 160, y 161, y 162, y 163, y 164, y 165, y 166, y 167, y 168, y 169, y 170, y 171, y 172, y 173, y 174, y 175, y 176, y 177, y 178, y 179, y 180, y 181, y 182, y 183, y 184, y 185, y 186, y 187, y 188, y 189, y 190, y 191, y 192, y 193, y 194, y 195, y 196, y 197, y 198, y 199, y 200, y 201, y 202, y 203, y 204, y 205, y 206, y 207, y 208, y 209, y 210, y 211, y 212, y 213, y 214, y 215, y 216, y 217, y 218, y 219, y 220, y 221, y 222, y 223, y 224, y 225, y 226, y 227, y 228, y 229, y 230, y 231, y 232, y 233, y 234, y 235, y 236, y 237, y 238, y 239, y 240, y 241, y 242, y 243, y 244, y 245, y 246, y 247, y 248, y 249, y 250, y 251, y 252, y 253, y 254, y 255, y 256, y 257, y 258, y 259, y 260, y 261, y 262, y 263, y 264, y 265, y 266, y 267, y 268, y 269, y 270, y 271, y 272, y 273, y 274, y 275, y 276, y 277, y 278, y 279, y 280, y 281, y 282, y 283, y 284, y 285, y 286, y 287, y 288, y 289, y 290, y 291, y 292, y 293, y 294, y 295, y 296, y 297, y 298, y 299, y 300, y 301, y 302, y 303, y 304, y 305, y 306, y 307, y 308, y 309, y 310, y 311, y 312, y 313, y 314, y 315, y 316, y 317, y 318, y 319, y 320, y 321, y 322, y 323, y 324, y 325, y 326, y 327, y 328, y 329, y 330, y 331, y 332, y 333, y 334, y 335, y 336, y 337, y 338, y 339, y 340, y 341, y 342, y 343, y 344, y 345, y 346, y 347, y 348, y 349, y 350, y 351, y 352, y 353, y 354, y 355, y 356, y 357, y 358, y 359, y 360, y 361, y 362, y 363, y 364, y 365, y 366, y 367, y 368, y 369, y 370, y 371, y 372, y 373, y 374, y 375, y 376, y 377, y 378, y 379, y 380, y 381, y 382, y 383, y 384, y 385, y 386, y 387, y 388, y 389, y 390, y 391, y 392, y 393, y 394, y 395, y 396, y 397, y 398, y 399, y 400, y 401, y 402, y 403, y 404, y 405, y 406, y 407, y 408, y 409, y 410, y 411, y 412, y 413, y 414, y 415, y 416, y 417, y 418, y 419, y 420, y 421, y 422, y 423, y 424, y 425, y 426, y 427, y 428, y 429, y 430, y 431, y 432, y 433, y 434, y 435, y 436, y 437, y 438, y 439, y 440, y 441, y 442, y 443, y 444, y 445, y 446, y 447, y 448, y 449, y 450], defers := [] } := by
  obtain ⟨tmps, defers⟩ := a
  have yd : defers = [] := hd
  subst yd
  obtain ⟨y, hy, hi⟩ := arr_451 tmps hs
  have e0 := (hi 0).trans h0
  have e2 := (hi 2).trans h2
  have e3 := (hi 3).trans h3
  have e4 := (hi 4).trans h4
  have e5 := (hi 5).trans h5
  have e20 := (hi 20).trans h20
  have e25 := (hi 25).trans h25
  have e26 := (hi 26).trans h26
  have e27 := (hi 27).trans h27
  have e28 := (hi 28).trans h28
  have e29 := (hi 29).trans h29
  rw [e0, e2, e3, e4, e5, e20, e25, e26, e27, e28, e29] at hy
  exact ⟨y, congrArg (fun t => (⟨t, []⟩ : Act)) hy⟩
set_option maxRecDepth 40000 in
theorem litx30 {a : Act} {u0 u2 u3 u4 u5 u20 u25 u26 u27 u28 u29 u30 : Value} (hs : a.tmps.size = 451) (hd : a.defers = []) (h0 : a.tmps.getD 0 undef = u0) (h2 : a.tmps.getD 2 undef = u2) (h3 : a.tmps.getD 3 undef = u3) (h4 : a.tmps.getD 4 undef = u4) (h5 : a.tmps.getD 5 undef = u5) (h20 : a.tmps.getD 20 undef = u20) (h25 : a.tmps.getD 25 undef = u25) (h26 : a.tmps.getD 26 undef = u26) (h27 : a.tmps.getD 27 undef = u27) (h28 : a.tmps.getD 28 undef = u28) (h29 : a.tmps.getD 29 undef = u29) (h30 : a.tmps.getD 30 undef = u30) : ∃ y : Nat → Value, a = { tmps := #[u0, y 1, u2, u3, u4, u5, y 6, y 7, y 8, y 9, y 10, y 11, y 12, y 13, y 14, y 15, y 16, y 17, y 18, y 19, u20, y 21, y 22, y 23, y 24, u25, u26, u27, u28, u29, u30, y 31, y 32, y 33, y 34, y 35, y 36, y 37, y 38, y 39, y 40, y 41, y 42, y 43, y 44, y 45, y 46, y 47, y 48, y 49, y 50, y 51, y 52, y 53, y 54, y 55, y 56, y 57, y 58, y 59, y 60, y 61, y 62, y 63, y 64, y 65, y 66, y 67, y 68, y 69, y 70, y 71, y 72, y 73, y 74, y 75, y 76, y 77, y 78, y 79, y 80, y 81, y 82, y 83, y 84, y 85, y 86, y 87, y 88, y 89, y 90, y 91, y 92, y 93, y 94, y 95, y 96, y 97, y 98, y 99, y 100, y 101, y 102, y 103, y 104, y 105, y 106, y 107, y 108, y 109, y 110, y 111, y 112, y 113, y 114, y 115, y 116, y 117, y 118, y 119, y 120, y 121, y 122, y 123, y 124, y 125, y 126, y 127, y 128, y 129, y 130, y 131, y 132, y 133, y 134, y 135, y 136, y 137, y 138, y 139, y 140, y 141, y 142, y 143, y 144, y 145, y 146, y 147, y 148, y 149, y 150, y 151, y 152, y 153, y 154, y 155, y 156, y 157, y 158, y 159, y 160, y 161, y 162, y 163, y 164, y 165, y 166, y 167, y 168, y 169, y 170, y 171, y 172, y 173, y 174, y 175, y 176, y 177, y 178, y 179, y 180, y 181, y 182, y 183, y 184, y 185, y 186, y 187, y 188, y 189, y 190, y 191, y 192, y 193, y 194, y 195, y 196, y 197, y 198, y 199, y 200, y 201, y 202, y 203, y 204, y 205, y 206, y 207, y 208, y 209, y 210, y 211, y 212, y 213, y 214, y 215, y 216, y 217, y 218, y 219, y 220, y 221, y 222, y 223, y 224, y 225, y 226, y 227, y 228, y 229, y 230, y 231, y 232, y 233, y 234, y 235, y 236, y 237, y 238, y 239, y 240, y 241, y 242, y 243, y 244, y 245, y 246, y 247, y 248, y 249, y 250, y 251, y 252, y 253, y 254, y 255, y 256, y 257, y 258, y 259, y 260, y 261, y 262, y 263, y 264, y 265, y 266, y 267, y 268, y 269, y 270, y 271, y 272, y 273, y 274, y 275, y 276, y 277, y 278, y 279, y 280, y 281, y 282, y 283, y 284, y 285, y 286, y 287, y 288, y 289, y 290, y 291, y 292, y 293, y 294, y 295, y 296, y 297, y 298, y 299, y 300, y 301, y 302, y 303, y 304, y 305, y 306, y 307, y 308, y 309, y 310, y 311, y 312, y 313, y 314, y 315, y 316, y 317, y 318, y 319, y 320, y 321, y 322, y 323, y 324, y 325, y 326, y 327, y 328, y 329, y 330, y 331, y 332, y 333, y 334, y 335, y 336, y 337, y 338, y 339, y 340, y 341, y 342, y 343, y 344, y 345, y 346, y 347, y 348, y 349, y 350, y 351, y 352, y 353, y 354, y 355, y 356, y 357, y 358, y 359, y 360, y 361, y 362, y 363, y 364, y 365, y 366, y 367, y 368, y 369, y 370, y 371, y 372, y 373, y 374, y 375, y 376, y 377, y 378, y 379, y 380, y 381, y 382, y 383, y 384, y 385, y 386, y 387, y 388, y 389, y 390, y 391, y 392, y 393, y 394, y 395, y 396, y 397, y 398, y 399, y 400, y 401, y 402, y 403, y 404, y 405, y 406, y 407, y 408, y 409, y 410, y 411, y 412, y 413, y 414, y 415, y 416, y 417, y 418, y 419, y 420, y 421, y 422, y 423, y 424, y 425, y 426, y 427, y 428, y 429, y 430, y 431, y 432, y 433, y 434, y 435, y 436, y 437, y 438, y 439, y 440, y 441, y 442, y 443, y 444, y 445, y 446, y 447, y 448, y 449, y 450], defers := [] } := by
  obtain ⟨tmps, defers⟩ := a
  have yd : defers = [] := hd
  subst yd
  obtain ⟨y, hy, hi⟩ := arr_451 tmps hs
  have e0 := (hi 0).trans h0
  have e2 := (hi 2).trans h2
  have e3 := (hi 3).trans h3
  have e4 := (hi 4).trans h4
  have e5 := (hi 5).trans h5
  have e20 := (hi 20).trans h20
  have e25 := (hi 25).trans h25
  have e26 := (hi 26).trans h26
  have e27 := (hi 27).trans h27
  have e28 := (hi 28).trans h28
  have e29 := (hi 29).trans h29
  have e30 := (hi 30).trans h30
  rw [e0, e2, e3, e4, e5, e20, e25, e26, e27, e28, e29, e30] at hy
  exact ⟨y, congrArg (fun t => (⟨t, []⟩ : Act)) hy⟩
set_option maxRecDepth 40000 in
theorem litx7 {a : Act} {u0 u2 u3 u4 u5 u7 u20 u25 u26 u27 u28 u29 : Value} (hs : a.tmps.size = 451) (hd : a.defers = []) (h0 : a.tmps.getD 0 undef = u0) (h2 : a.tmps.getD 2 undef = u2) (h3 : a.tmps.getD 3 undef = u3) (h4 : a.tmps.getD 4 undef = u4) (h5 : a.tmps.getD 5 undef = u5) (h7 : a.tmps.getD 7 undef = u7) (h20 : a.tmps.getD 20 undef = u20) (h25 : a.tmps.getD 25 undef = u25) (h26 : a.tmps.getD 26 undef = u26) (h27 : a.tmps.getD 27 undef = u27) (h28 : a.tmps.getD 28 undef = u28) (h29 : a.tmps.getD 29 undef = u29) : ∃ y : Nat → Value, a = { tmps := #[u0, y 1, u2, u3, u4, u5, y 6, u7, y 8, y 9, y 10, y 11, y 12, y 13, y 14, y 15, y 16, y 17, y 18, y 19, u20, y 21, y 22, y 23, y 24, u25, u26, u27, u28, u29, y 30, y 31, y 32, y 33, y 34, y 35, y 36, y 37, y 38, y 39, y 40, y 41, y 42, y 43, y 44, y 45, y 46, y 47, y 48, y 49, y 50, y 51, y 52, y 53, y 54, y 55, y 56, y 57, y 58, y 59, y 60, y 61, y 62, y 63, y 64, y 65, y 66, y 67, y 68, y 69, y 70, y 71, y 72, y 73, y 74, y 75, y 76, y 77, y 78, y 79, y 80, y 81, y 82, y 83, y 84, y 85, y 86, y 87, y 88, y 89, y 90, y 91, y 92, y 93, y 94, y 95, y 96, y 97, y 98, y 99, y 100, y 101, y 102, y 103, y 104, y 105, y 106, y 107, y 108, y 109, y 110, y 111, y 112, y 113, y 114, y 115, y 116, y 117, y 118, y 119, y 120, y 121, y 122, y 123, y 124, y 125, y 126, y 127, y 128, y 129, y 130, y 131, y 132, y 133, y 134, y 135, y 136, y 137, y 138, y 139, y 140, y 141, y 142, y 143, y 144, y 145, y 146, y 147, y 148, y 149, y 150, y 151, y 152, y 153, y 154, y 155, y 156, y 157, y 158, y 159, y 160, y 161, y 162, y 163, y 164, y 165, y 166, y 167, y 168, y 169, y 170, y 171, y 172, y 173, y 174, y 175, y 176, y 177, y 178, y 179, y 180, y 181, y 182, y 183, y 184, y 185, y 186, y 187, y 188, y 189, y 190, y 191, y 192, y 193, y 194, y 195, y 196, y 197, y 198, y 199, y 200, y 201, y 202, y 203, y 204, y 205, y 206, y 207, y 208, y 209, y 210, y 211, y 212, y 213, y 214, y 215, y 216, y 217, y 218, y 219, y 220, y 221, y 222, y 223, y 224, y 225, y 226, y 227, y 228, y 229, y 230, y 231, y 232, y 233, y 234, y 235, y 236, y 237, y 238, y 239, y 240, y 241, y 242, y 243, y 244, y 245, y 246, y 247, y 248, y 249, y 250, y 251, y 252, y 253, y 254, y 255, y 256, y 257, y 258, y 259, y 260, y 261, y 262, y 263, y 264, y 265, y 266, y 267, y 268, y 269, y 270, y 271, y 272, y 273, y 274, y 275, y 276, y 277, y 278, y 279, y 280, y 281, y 282, y 283, y 284, y 285, y 286, y 287, y 288, y 289, y 290, y 291, y 292, y 293, y 294, y 295, y 296, y 297, y 298, y 299, y 300, y 301, y 302, y 303, y 304, y 305, y 306, y 307, y 308, y 309, y 310, y 311, y 312, y 313, y 314, y 315, y 316, y 317, y 318, y 319, y 320, y 321, y 322, y 323, y 324, y 325, y 326, y 327, y 328, y 329, y 330, y 331, y 332, y 333, y 334, y 335, y 336, y 337, y 338, y 339, y 340, y 341, y 342, y 343, y 344, y 345, y 346, y 347, y 348, y 349, y 350, y 351, y 352, y 353, y 354, y 355, y 356, y 357, y 358, y 359, y 360, y 361, y 362, y 363, y 364, y 365, y 366, y 367, y 368, y 369, y 370, y 371, y 372, y 373, y 374, y 375, y 376, y 377, y 378, y 379, y 380, y 381, y 382, y 383, y 384, y 385, y 386, y 387, y 388, y 389, y 390, y 391, y 392, y 393, y 394, y 395, y 396, y 397, y 398, y 399, y 400, y 401, y 402, y 403, y 404, y 405, y 406, y 407, y 408, y 409, y 410, y 411, y 412, y 413, y 414, y 415, y 416, y 417, y 418, y 419, y 420, y 421, y 422, y 423, y 424, y 425, y 426, y 427, y 428, y 429, y 430, y 431, y 432, y 433, y 434, y 435, y 436, y 437, y 438, y 439, y 440, y 441, y 442, y 443, y 444, y 445, y 446, y 447, y 448, y 449, y 450], defers := [] } := by
  obtain ⟨tmps, defers⟩ := a
  have yd : defers = [] := hd
  subst yd
  obtain ⟨y, hy, hi⟩ := arr_451 tmps hs
  have e0 := (hi 0).trans h0
  have e2 := (hi 2).trans h2
  have e3 := (hi 3).trans h3
  have e4 := (hi 4).trans h4
  have e5 := (hi 5).trans h5
  have e7 := (hi 7).trans h7
  have e20 := (hi 20).trans h20
  have e25 := (hi 25).trans h25
  have e26 := (hi 26).trans h26
  have e27 := (hi 27).trans h27
  have e28 := (hi 28).trans h28
  have e29 := (hi 29).trans h29
  rw [e0, e2, e3, e4, e5, e7, e20, e25, e26, e27, e28, e29] at hy
  exact ⟨y, congrArg (fun t => (⟨t, []⟩ : Act)) hy⟩

def PIx (w0 : World) (G : GR) (a0 : Option Addr) (k0 ga gm g0 g1 g2 g3 : Nat) (R : Nat → Nat → Bool) (g8 g9 g10 : Nat) (v20 : Value) (rd x : Nat) (st wh : Nat → Nat) (B nc : Nat) (cn : Nat → Nat) (cl : Nat → Nat → Nat) (a : Act) (w : World) : Prop :=
  FXv a0 G.n k0 ga gm G.E g8 g9 g10 v20 rd x a ∧ ∃ v : Nat, a.tmps.getD 30 undef = .int .i64 (v : Int) ∧ v ≤ G.n ∧ ∃ par D, XAl w0 G ga gm g0 g1 g2 g3 R g8 g9 g10 par st wh v20 B nc cn cl D w ∧ ∀ j, j < v → par j = j

set_option maxRecDepth 40000 in
set_option maxHeartbeats 4000000 in
/-- 'parent' is laid out. -/
theorem md_13a (w0 : World) (G : GR) (a0 : Option Addr) (k0 ga gm g0 g1 g2 g3 : Nat) (R : Nat → Nat → Bool) (g8 g9 g10 : Nat) (v20 : Value) (rd x : Nat) (st wh : Nat → Nat) (B nc : Nat) (cn : Nat → Nat) (cl : Nat → Nat → Nat) (ok : G.Ok) (par : Nat → Nat) (D : Fam) (wr : World) (hX : XAl w0 G ga gm g0 g1 g2 g3 R g8 g9 g10 par st wh v20 B nc cn cl D wr) (a : Act) (hf : FXv a0 G.n k0 ga gm G.E g8 g9 g10 v20 rd x a) (Q : Exit → Act → World → Prop)
    (hC : ∀ (a : Act) (w : World) (D : Fam), FXv a0 G.n k0 ga gm G.E g8 g9 g10 v20 rd x a → XAl w0 G ga gm g0 g1 g2 g3 R g8 g9 g10 (fun v => v) st wh v20 B nc cn cl D w → Q .normal a w) :
    Code.wp Try.prog (sL (f10x (Try.f10.body.getD .skip))) Q a wr := by
  obtain ⟨y, rfl⟩ := litx hf.fx.fe.fm.sz hf.fx.fe.fm.df hf.fx.fe.fm.s0 hf.fx.fe.fm.s2 hf.fx.fe.fm.s3 hf.fx.fe.fm.s4 hf.fx.fe.s5 hf.s20 hf.fx.s25 hf.fx.s26 hf.fx.s27 hf.s28 hf.s29
  have hn := ok.n
  have HX : Hid (XAl w0 G ga gm g0 g1 g2 g3 R g8 g9 g10 par st wh v20 B nc cn cl D wr) := hX
  have HC : Hid (∀ (a : Act) (w : World) (D : Fam), FXv a0 G.n k0 ga gm G.E g8 g9 g10 v20 rd x a → XAl w0 G ga gm g0 g1 g2 g3 R g8 g9 g10 (fun v => v) st wh v20 B nc cn cl D w → Q .normal a w) := hC
  clear hf hC hX ok
  show Code.wp Try.prog (Code.seq _ (Code.block 22 (Code.loop (Code.seq (Code.seq _ (Code.cond (.tmp 301) Code.skip (Code.exit 22))) (Code.seq (Code.block 23 _) _))))) Q _ wr
  refine wp_seq_k (fun K1 hK => ?_)
  have HK1 : Hid (∀ (a : Act) (w : World), _ → K1 a w) := hK
  clear hK
  go_wp2
  refine HK1.out _ _ ?_
  clear HK1 K1
  refine wp_block ?_
  refine wp_loop (PIx w0 G a0 k0 ga gm g0 g1 g2 g3 R g8 g9 g10 v20 rd x st wh B nc cn cl) (fun a _ => mus 30 G.n a) ⟨⟨⟨⟨⟨by kernel_rfl, by kernel_rfl, by kernel_rfl, by kernel_rfl, by kernel_rfl, by kernel_rfl⟩, by kernel_rfl⟩, by kernel_rfl, by kernel_rfl, by kernel_rfl⟩, by kernel_rfl, by kernel_rfl, by kernel_rfl⟩, 0, by kernel_rfl, Nat.zero_le _, par, D, HX.out, fun j h => absurd h (Nat.not_lt_zero _)⟩ ?_
  clear HX
  rintro a w' ⟨hf, v, h30, v1, par, D, hX, hj⟩
  have e30 : mus 30 G.n a = G.n - v := congrArg (fun v => G.n - (intOf v).toNat) h30
  obtain ⟨y2, rfl⟩ := litx30 hf.fx.fe.fm.sz hf.fx.fe.fm.df hf.fx.fe.fm.s0 hf.fx.fe.fm.s2 hf.fx.fe.fm.s3 hf.fx.fe.fm.s4 hf.fx.fe.s5 hf.s20 hf.fx.s25 hf.fx.s26 hf.fx.s27 hf.s28 hf.s29 h30
  rw [e30]
  clear e30 hf h30
  refine wp_seq_k (fun K1 hK => ?_)
  have HK1 : Hid (∀ (a : Act) (w : World), _ → K1 a w) := hK
  clear hK
  refine wp_seq_k (fun K2 hK => ?_)
  have HK2 : Hid (∀ (a : Act) (w : World), _ → K2 a w) := hK
  clear hK
  by_cases hv : v < G.n
  · have hvv : (v : Int) < (G.n : Int) := by omega
    have x1 := hX.xb.i8.cell' hX.xb.ds.rep hX.xb.b8 rfl hv
    have f1 := hX.xb.ds.rep.frozen hX.xb.b8 v
    have fin : Hid (∃ par D, XAl w0 G ga gm g0 g1 g2 g3 R g8 g9 g10 par st wh v20 B nc cn cl D (w'.setCell ⟨g8, v, none⟩ (.int .i64 (v : Int))) ∧ ∀ j, j < v + 1 → par j = j) := by
      refine ⟨_, _, hX.setp v v, fun j hjl => ?_⟩
      by_cases e : j = v
      · subst e; rw [up_same]
      · rw [up_other _ _ e]; exact hj j (by omega)
    clear hX hj
    generalize par v = c0 at *
    go_wp2
    refine HK2.out _ _ (wp_cond_true (by kernel_rfl) (wp_skip ?_))
    refine HK1.out _ _ ?_
    clear HK1 K1 HK2 K2
    refine wp_seq_k (fun K1 hK => ?_)
    have HK1 : Hid (∀ (a : Act) (w : World), _ → K1 a w) := hK
    clear hK
    refine wp_block ?_
    go_wp2
    refine HK1.out _ _ ?_
    clear HK1 K1 x1 f1
    generalize w'.setCell ⟨g8, v, none⟩ (.int .i64 (v : Int)) = wv at *
    go_wp2
    exact ⟨⟨⟨⟨⟨⟨by kernel_rfl, by kernel_rfl, by kernel_rfl, by kernel_rfl, by kernel_rfl, by kernel_rfl⟩, by kernel_rfl⟩, by kernel_rfl, by kernel_rfl, by kernel_rfl⟩, by kernel_rfl, by kernel_rfl, by kernel_rfl⟩, v + 1, by kernel_rfl, by omega, fin.out⟩, Nat.lt_of_le_of_lt (Nat.le_of_eq (by kernel_rfl : _ = G.n - (v + 1))) (by omega)⟩
  · have hvv : ¬ (v : Int) < (G.n : Int) := by omega
    obtain rfl : v = G.n := by omega
    have fin : Hid (XAl w0 G ga gm g0 g1 g2 g3 R g8 g9 g10 (fun v => v) st wh v20 B nc cn cl D w') := hX.parc hj
    clear hX hj
    go_wp2
    refine HK2.out _ _ (wp_cond_false (by kernel_rfl) (wp_exit ?_))
    exact HC.out _ _ D ⟨⟨⟨⟨by kernel_rfl, by kernel_rfl, by kernel_rfl, by kernel_rfl, by kernel_rfl, by kernel_rfl⟩, by kernel_rfl⟩, by kernel_rfl, by kernel_rfl, by kernel_rfl⟩, by kernel_rfl, by kernel_rfl, by kernel_rfl⟩ fin.out

/-- The roots, with the edges before e. -/
def UXI (w0 : World) (G : GR) (ga gm g0 g1 g2 g3 : Nat) (R : Nat → Nat → Bool) (g8 g9 g10 : Nat) (v20 : Value) (x : Nat) (st wh : Nat → Nat) (B nc : Nat) (cn : Nat → Nat) (cl : Nat → Nat → Nat) (e : Nat) (w : World) : Prop :=
  ∃ par rt dp D, XAl w0 G ga gm g0 g1 g2 g3 R g8 g9 g10 par st wh v20 B nc cn cl D w ∧ UF G.n par rt dp ∧ RtI G R x e rt
def UIx (w0 : World) (G : GR) (a0 : Option Addr) (k0 ga gm g0 g1 g2 g3 : Nat) (R : Nat → Nat → Bool) (g8 g9 g10 : Nat) (v20 : Value) (rd x : Nat) (st wh : Nat → Nat) (B nc : Nat) (cn : Nat → Nat) (cl : Nat → Nat → Nat) (a : Act) (w : World) : Prop :=
  FXv a0 G.n k0 ga gm G.E g8 g9 g10 v20 rd x a ∧ ∃ e : Nat, a.tmps.getD 7 undef = .int .i64 (e : Int) ∧ e ≤ G.E ∧ UXI w0 G ga gm g0 g1 g2 g3 R g8 g9 g10 v20 x st wh B nc cn cl e w
/-- A world, then worlds of a kind. -/
def CP (w0 : World) (P : World → Prop) : Nat → World → Prop
  | 0, w => w = w0
  | 1, w => P w
  | _, _ => False

set_option maxRecDepth 40000 in
set_option maxHeartbeats 8000000 in
/-- The pieces. -/
theorem md_13b (w0 : World) (G : GR) (a0 : Option Addr) (k0 ga gm g0 g1 g2 g3 : Nat) (R : Nat → Nat → Bool) (g8 g9 g10 : Nat) (v20 : Value) (rd x : Nat) (st wh : Nat → Nat) (B nc : Nat) (cn : Nat → Nat) (cl : Nat → Nat → Nat) (ok : G.Ok) (wr : World) (hI : UXI w0 G ga gm g0 g1 g2 g3 R g8 g9 g10 v20 x st wh B nc cn cl 0 wr) (a : Act) (hf : FXv a0 G.n k0 ga gm G.E g8 g9 g10 v20 rd x a) (Q : Exit → Act → World → Prop)
    (hC : ∀ (a : Act) (w : World), FXv a0 G.n k0 ga gm G.E g8 g9 g10 v20 rd x a → UXI w0 G ga gm g0 g1 g2 g3 R g8 g9 g10 v20 x st wh B nc cn cl G.E w → Q .normal a w) :
    Code.wp Try.prog (sL (tl 1 (f10x (Try.f10.body.getD .skip)))) Q a wr := by
  obtain ⟨y, rfl⟩ := litx hf.fx.fe.fm.sz hf.fx.fe.fm.df hf.fx.fe.fm.s0 hf.fx.fe.fm.s2 hf.fx.fe.fm.s3 hf.fx.fe.fm.s4 hf.fx.fe.s5 hf.s20 hf.fx.s25 hf.fx.s26 hf.fx.s27 hf.s28 hf.s29
  have hn := ok.n
  have hE := ok.E
  have HO : Hid G.Ok := ok
  have HI : Hid (UXI w0 G ga gm g0 g1 g2 g3 R g8 g9 g10 v20 x st wh B nc cn cl 0 wr) := hI
  have HC : Hid (∀ (a : Act) (w : World), FXv a0 G.n k0 ga gm G.E g8 g9 g10 v20 rd x a → UXI w0 G ga gm g0 g1 g2 g3 R g8 g9 g10 v20 x st wh B nc cn cl G.E w → Q .normal a w) := hC
  clear hf hC hI ok
  show Code.wp Try.prog (Code.seq _ (Code.block 24 (Code.loop (Code.seq (Code.seq _ (Code.cond (.tmp 310) Code.skip (Code.exit 24))) (Code.seq (Code.block 25 (Code.seq _ (Code.cond (.tmp 335) _ Code.skip))) _))))) Q _ wr
  refine wp_seq_k (fun K1 hK => ?_)
  have HK1 : Hid (∀ (a : Act) (w : World), _ → K1 a w) := hK
  clear hK
  go_wp2
  refine HK1.out _ _ ?_
  clear HK1 K1
  refine wp_block ?_
  refine wp_loop (UIx w0 G a0 k0 ga gm g0 g1 g2 g3 R g8 g9 g10 v20 rd x st wh B nc cn cl) (fun a _ => mus 7 G.E a) ⟨⟨⟨⟨⟨by kernel_rfl, by kernel_rfl, by kernel_rfl, by kernel_rfl, by kernel_rfl, by kernel_rfl⟩, by kernel_rfl⟩, by kernel_rfl, by kernel_rfl, by kernel_rfl⟩, by kernel_rfl, by kernel_rfl, by kernel_rfl⟩, 0, by kernel_rfl, Nat.zero_le _, HI.out⟩ ?_
  clear HI
  rintro a w' ⟨hf, e, h7, e1, hI⟩
  have HI : Hid (UXI w0 G ga gm g0 g1 g2 g3 R g8 g9 g10 v20 x st wh B nc cn cl e w') := hI
  have e7 : mus 7 G.E a = G.E - e := congrArg (fun v => G.E - (intOf v).toNat) h7
  obtain ⟨y2, rfl⟩ := litx7 hf.fx.fe.fm.sz hf.fx.fe.fm.df hf.fx.fe.fm.s0 hf.fx.fe.fm.s2 hf.fx.fe.fm.s3 hf.fx.fe.fm.s4 hf.fx.fe.s5 h7 hf.s20 hf.fx.s25 hf.fx.s26 hf.fx.s27 hf.s28 hf.s29
  rw [e7]
  clear e7 hf h7 hI
  refine wp_seq_k (fun K1 hK => ?_)
  have HK1 : Hid (∀ (a : Act) (w : World), _ → K1 a w) := hK
  clear hK
  refine wp_seq_k (fun K2 hK => ?_)
  have HK2 : Hid (∀ (a : Act) (w : World), _ → K2 a w) := hK
  clear hK
  by_cases he : e < G.E
  · have hee : (e : Int) < (G.E : Int) := by omega
    go_wp2
    refine HK2.out _ _ (wp_cond_true (by kernel_rfl) (wp_skip ?_))
    refine HK1.out _ _ ?_
    clear HK1 K1 HK2 K2
    refine wp_seq_k (fun K1 hK => ?_)
    have HK1 : Hid (∀ (a : Act) (w : World), _ → K1 a w) := hK
    clear hK
    have END : Hid (∀ (a : Act) (w : World), FXv a0 G.n k0 ga gm G.E g8 g9 g10 v20 rd x a → a.tmps.getD 7 undef = .int .i64 (e : Int) → UXI w0 G ga gm g0 g1 g2 g3 R g8 g9 g10 v20 x st wh B nc cn cl (e + 1) w → K1 a w) := by
      intro a w hf h7 hI
      obtain ⟨y5, rfl⟩ := litx7 hf.fx.fe.fm.sz hf.fx.fe.fm.df hf.fx.fe.fm.s0 hf.fx.fe.fm.s2 hf.fx.fe.fm.s3 hf.fx.fe.fm.s4 hf.fx.fe.s5 h7 hf.s20 hf.fx.s25 hf.fx.s26 hf.fx.s27 hf.s28 hf.s29
      refine HK1.out _ _ ?_
      have HI : Hid (UXI w0 G ga gm g0 g1 g2 g3 R g8 g9 g10 v20 x st wh B nc cn cl (e + 1) w) := hI
      clear hf h7 hI HK1
      go_wp2
      exact ⟨⟨⟨⟨⟨⟨by kernel_rfl, by kernel_rfl, by kernel_rfl, by kernel_rfl, by kernel_rfl, by kernel_rfl⟩, by kernel_rfl⟩, by kernel_rfl, by kernel_rfl, by kernel_rfl⟩, by kernel_rfl, by kernel_rfl, by kernel_rfl⟩, e + 1, by kernel_rfl, by omega, HI.out⟩, Nat.lt_of_le_of_lt (Nat.le_of_eq (by kernel_rfl : _ = G.E - (e + 1))) (by omega)⟩
    clear HK1
    refine wp_block ?_
    obtain ⟨par, rt, dp, D, hX, hU, hR⟩ := HI.out
    clear HI
    have z1 : w'.cell? ⟨gm, 1, none⟩ = some (.slice (some ⟨g0, 0, none⟩) G.E G.E) := DS.hd hX.xb.ds (f := 1) (by decide)
    have z2 : w'.cell? ⟨gm, 2, none⟩ = some (.slice (some ⟨g1, 0, none⟩) G.E G.E) := DS.hd hX.xb.ds (f := 2) (by decide)
    have z3 : w'.cell? ⟨gm, 3, none⟩ = some (.slice (some ⟨g2, 0, none⟩) G.E G.E) := DS.hd hX.xb.ds (f := 3) (by decide)
    have z4 := hX.xb.ds.i2.cell hX.xb.ds.rep hX.xb.ds.b2 rfl he
    have z5 := hX.xb.ds.i0.cell' hX.xb.ds.rep hX.xb.ds.b0 rfl he
    have z6 := hX.xb.ds.i1.cell' hX.xb.ds.rep hX.xb.ds.b1 rfl he
    have ls := G.sr_lt he
    have ld := G.ds_lt HO.out he
    refine wp_seq_k (fun K2 hK => ?_)
    have HK2 : Hid (∀ (a : Act) (w : World), _ → K2 a w) := hK
    clear hK
    by_cases ho : G.ocb R e = true
    · rw [ho] at z4
      by_cases hs : G.sr e = x
      · have hsb : (((G.sr e : Nat) : Int) != (x : Int)) = false := by rw [hs]; simp
        have fin : Hid (UXI w0 G ga gm g0 g1 g2 g3 R g8 g9 g10 v20 x st wh B nc cn cl (e + 1) w') := ⟨par, rt, dp, D, hX, hU, hR.skip (fun h => h.2.1 hs)⟩
        clear hX hU hR ho hs
        generalize G.sr e = s at *
        generalize G.ds e = d at *
        go_wp2
        refine HK2.out _ _ (wp_cond_false (by kernel_rfl) (wp_skip ?_))
        exact END.out _ _ ⟨⟨⟨⟨by kernel_rfl, by kernel_rfl, by kernel_rfl, by kernel_rfl, by kernel_rfl, by kernel_rfl⟩, by kernel_rfl⟩, by kernel_rfl, by kernel_rfl, by kernel_rfl⟩, by kernel_rfl, by kernel_rfl, by kernel_rfl⟩ (by kernel_rfl) fin.out
      · have hsb : (((G.sr e : Nat) : Int) != (x : Int)) = true := by
          have : ((G.sr e : Nat) : Int) ≠ (x : Int) := by omega
          simpa using this
        by_cases hd : G.ds e = x
        · have hdb : (((G.ds e : Nat) : Int) != (x : Int)) = false := by rw [hd]; simp
          have fin : Hid (UXI w0 G ga gm g0 g1 g2 g3 R g8 g9 g10 v20 x st wh B nc cn cl (e + 1) w') := ⟨par, rt, dp, D, hX, hU, hR.skip (fun h => h.2.2 hd)⟩
          clear hX hU hR ho hs hd
          generalize G.sr e = s at *
          generalize G.ds e = d at *
          go_wp2
          refine HK2.out _ _ (wp_cond_false (by kernel_rfl) (wp_skip ?_))
          exact END.out _ _ ⟨⟨⟨⟨by kernel_rfl, by kernel_rfl, by kernel_rfl, by kernel_rfl, by kernel_rfl, by kernel_rfl⟩, by kernel_rfl⟩, by kernel_rfl, by kernel_rfl, by kernel_rfl⟩, by kernel_rfl, by kernel_rfl, by kernel_rfl⟩ (by kernel_rfl) fin.out
        · have hdb : (((G.ds e : Nat) : Int) != (x : Int)) = true := by
            have : ((G.ds e : Nat) : Int) ≠ (x : Int) := by omega
            simpa using this
          have hcall := unite_calls KD Fam.nil w0 w'.drew D 8 G.n (G.sr e) (G.ds e) g8 rt dp rfl hX.xb.b8 ls ld (by omega) (hX.drew.ufin hU)
          rw [hX.xb.c8] at hcall
          have HU : Hid (Calls Try.prog 24 #[.slice (some ⟨g8, 0, none⟩) G.n G.n, .int .i64 ((G.sr e : Nat) : Int), .int .i64 ((G.ds e : Nat) : Int)] w'.drew fun v w2 => v = .returned (.tuple #[]) ∧ UXI w0 G ga gm g0 g1 g2 g3 R g8 g9 g10 v20 x st wh B nc cn cl (e + 1) w2) := by
            refine hcall.mono ?_
            rintro v w2 ⟨rfl, dp', hF⟩
            obtain ⟨D', par', h1, h2⟩ := hX.of hF
            exact ⟨rfl, par', _, dp', D', h1, h2, hR.join HO.out he ho hs hd⟩
          clear hX hU hR ho hs hd hcall
          generalize G.sr e = s at *
          generalize G.ds e = d at *
          go_wp2
          refine HK2.out _ _ (wp_cond_true (by kernel_rfl) ?_)
          clear HK2 K2
          have FK : Hid (∀ kk w'', kk ≤ 0 → CP w'.drew (UXI w0 G ga gm g0 g1 g2 g3 R g8 g9 g10 v20 x st wh B nc cn cl (e + 1)) kk w'' → w'' = w'.drew) := by
            intro kk w'' hk hw
            have hk : kk = 0 := by omega
            subst hk
            exact hw
          have z1' : w'.drew.cell? ⟨gm, 1, none⟩ = some (.slice (some ⟨g0, 0, none⟩) G.E G.E) := z1
          have z2' : w'.drew.cell? ⟨gm, 2, none⟩ = some (.slice (some ⟨g1, 0, none⟩) G.E G.E) := z2
          have z5' : w'.drew.cell? ⟨g0, e, none⟩ = some (.int .i64 (s : Int)) := z5
          have z6' : w'.drew.cell? ⟨g1, e, none⟩ = some (.int .i64 (d : Int)) := z6
          refine wp_region_stage (CP w'.drew (UXI w0 G ga gm g0 g1 g2 g3 R g8 g9 g10 v20 x st wh B nc cn cl (e + 1))) [11] (fun i => 0) (by kernel_rfl) (by kernel_rfl) (rfl) ?_
          refine wpStage_read rfl rfl ?_
          apply Exists.intro
          refine ⟨fun kk w'' hk hw => ?_, ?_⟩
          · go_simp
            first | rfl | exact ⟨rfl, hw⟩
          go_simp
          refine wpStage_read rfl rfl ?_
          apply Exists.intro
          refine ⟨fun kk w'' hk hw => ?_, ?_⟩
          · go_simp
            first | rfl | exact ⟨rfl, hw⟩
          go_simp
          refine wpStage_read rfl rfl ?_
          apply Exists.intro
          refine ⟨fun kk w'' hk hw => ?_, ?_⟩
          · have hw0 := FK.out kk w'' hk hw
            subst hw0
            go_simp
            first | rfl | exact ⟨rfl, hw⟩
          go_simp
          refine wpStage_read rfl rfl ?_
          apply Exists.intro
          refine ⟨fun kk w'' hk hw => ?_, ?_⟩
          · go_simp
            first | rfl | exact ⟨rfl, hw⟩
          go_simp
          refine wpStage_read rfl rfl ?_
          apply Exists.intro
          refine ⟨fun kk w'' hk hw => ?_, ?_⟩
          · go_simp
            first | rfl | exact ⟨rfl, hw⟩
          go_simp
          refine wpStage_read rfl rfl ?_
          apply Exists.intro
          refine ⟨fun kk w'' hk hw => ?_, ?_⟩
          · have hw0 := FK.out kk w'' hk hw
            subst hw0
            go_simp
            first | rfl | exact ⟨rfl, hw⟩
          go_simp
          refine wpStage_read rfl rfl ?_
          apply Exists.intro
          refine ⟨fun kk w'' hk hw => ?_, ?_⟩
          · go_simp
            first | rfl | exact ⟨rfl, hw⟩
          go_simp
          refine wpStage_read rfl rfl ?_
          apply Exists.intro
          refine ⟨fun kk w'' hk hw => ?_, ?_⟩
          · have hw0 := FK.out kk w'' hk hw
            subst hw0
            go_simp
            first | rfl | exact ⟨rfl, hw⟩
          go_simp
          refine wpStage_read rfl rfl ?_
          apply Exists.intro
          refine ⟨fun kk w'' hk hw => ?_, ?_⟩
          · go_simp
            first | rfl | exact ⟨rfl, hw⟩
          go_simp
          refine wpStage_read rfl rfl ?_
          apply Exists.intro
          refine ⟨fun kk w'' hk hw => ?_, ?_⟩
          · go_simp
            first | rfl | exact ⟨rfl, hw⟩
          go_simp
          refine wpStage_read rfl rfl ?_
          apply Exists.intro
          refine ⟨fun kk w'' hk hw => ?_, ?_⟩
          · have hw0 := FK.out kk w'' hk hw
            subst hw0
            go_simp
            first | rfl | exact ⟨rfl, hw⟩
          go_simp
          refine wpStage_move rfl rfl ?_
          apply Exists.intro
          refine ⟨fun w'' hw => ?_, ?_⟩
          · have hw : w'' = w'.drew := hw
            subst hw
            go_simp
            exact HU.out
          go_simp
          intro we hw0
          have hw : UXI w0 G ga gm g0 g1 g2 g3 R g8 g9 g10 v20 x st wh B nc cn cl (e + 1) we := hw0
          exact END.out _ _ ⟨⟨⟨⟨by kernel_rfl, by kernel_rfl, by kernel_rfl, by kernel_rfl, by kernel_rfl, by kernel_rfl⟩, by kernel_rfl⟩, by kernel_rfl, by kernel_rfl, by kernel_rfl⟩, by kernel_rfl, by kernel_rfl, by kernel_rfl⟩ (by kernel_rfl) hw
    · have ho : G.ocb R e = false := by simpa using ho
      rw [ho] at z4
      have fin : Hid (UXI w0 G ga gm g0 g1 g2 g3 R g8 g9 g10 v20 x st wh B nc cn cl (e + 1) w') := ⟨par, rt, dp, D, hX, hU, hR.skip (fun h => by rw [ho] at h; exact absurd h.1 (by decide))⟩
      clear hX hU hR ho
      go_wp2
      refine HK2.out _ _ (wp_cond_false (by kernel_rfl) (wp_skip ?_))
      exact END.out _ _ ⟨⟨⟨⟨by kernel_rfl, by kernel_rfl, by kernel_rfl, by kernel_rfl, by kernel_rfl, by kernel_rfl⟩, by kernel_rfl⟩, by kernel_rfl, by kernel_rfl, by kernel_rfl⟩, by kernel_rfl, by kernel_rfl, by kernel_rfl⟩ (by kernel_rfl) fin.out
  · have hee : ¬ (e : Int) < (G.E : Int) := by omega
    obtain rfl : e = G.E := by omega
    go_wp2
    refine HK2.out _ _ (wp_cond_false (by kernel_rfl) (wp_exit ?_))
    exact HC.out _ _ ⟨⟨⟨⟨by kernel_rfl, by kernel_rfl, by kernel_rfl, by kernel_rfl, by kernel_rfl, by kernel_rfl⟩, by kernel_rfl⟩, by kernel_rfl, by kernel_rfl, by kernel_rfl⟩, by kernel_rfl, by kernel_rfl, by kernel_rfl⟩ HI.out
end Go.Proofs.Qxb6602148a
