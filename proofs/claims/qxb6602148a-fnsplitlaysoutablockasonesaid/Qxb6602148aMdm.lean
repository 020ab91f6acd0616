/-
  'zzBuildModel': one edge of a list.
-/
import Derived.Test.Qxb6602148aMdl
attribute [local go_sem] Go.Proofs.Qxb6602148a.yTo Go.Proofs.Qxb6602148a.yUpon
namespace Go.Proofs.Qxb6602148a
open Go.RowKit
set_option linter.unusedVariables false
set_option linter.unusedSimpArgs false

structure FXs (a0 : Option Addr) (n k0 ga gm E g8 g9 g10 : Nat) (v20 : Value) (rd x : Nat) (v31 : Value) (i j : Nat) (a : Act) : Prop where
  fv : FXv a0 n k0 ga gm E g8 g9 g10 v20 rd x a
  s31 : a.tmps.getD 31 undef = v31
  s32 : a.tmps.getD 32 undef = .int .i64 (i : Int)
  s33 : a.tmps.getD 33 undef = .int .i64 (j : Int)
theorem FXr.fs {a0 : Option Addr} {n k0 ga gm E g8 g9 g10 : Nat} {v20 : Value} {rd x : Nat} {v31 : Value} {i j f : Nat} {a : Act} (h : FXr a0 n k0 ga gm E g8 g9 g10 v20 rd x v31 i j f a) : FXs a0 n k0 ga gm E g8 g9 g10 v20 rd x v31 i j a := ⟨h.fv, h.s31, h.s32, h.s33⟩
/-- List i is gone through up to j. -/
def RJ (w0 : World) (G : GR) (ga gm g0 g1 g2 g3 : Nat) (R : Nat → Nat → Bool) (g8 g9 g10 : Nat) (v20 : Value) (rd x : Nat) (rt : Nat → Nat) (B nc : Nat) (cn : Nat → Nat) (cl : Nat → Nat → Nat) (i j : Nat) (v31 : Value) (w : World) : Prop :=
  ∃ par dp st wh nr rn rl D, XR w0 G ga gm g0 g1 g2 g3 R g8 g9 g10 par st wh v20 B nc cn cl v31 nr rn rl D w ∧ UF G.n par rt dp ∧ RP G R x rt nc cn cl i j st wh rd nr rn rl
theorem XR.of {w0 w w' : World} {G : GR} {ga gm g0 g1 g2 g3 : Nat} {R : Nat → Nat → Bool} {g8 g9 g10 : Nat} {par st wh : Nat → Nat} {v20 v31 : Value} {B nc nr : Nat} {cn rn : Nat → Nat} {cl rl : Nat → Nat → Nat} {D : Fam} {rt dp : Nat → Nat} (h : XR w0 G ga gm g0 g1 g2 g3 R g8 g9 g10 par st wh v20 B nc cn cl v31 nr rn rl D w) (hU : UFin KD Fam.nil w0 D 8 G.n rt dp w') : ∃ D' par', XR w0 G ga gm g0 g1 g2 g3 R g8 g9 g10 par' st wh v20 B nc cn cl v31 nr rn rl D' w' ∧ UF G.n par' rt dp := by
  obtain ⟨D', par', hR, hB, hI, hU, hG⟩ := hU
  have b := h.xa.xb
  exact ⟨D', par', ⟨⟨⟨DS.butA b.ds (r := 8) ⟨by omega, by omega, by omega⟩ hR hB hG, by rw [hB.b]; exact b.b8, by rw [hB.cap]; exact b.c8, hI, by rw [hB.b]; exact b.b9, hB.ints (by omega) b.i9, by rw [hB.b]; exact b.b10, hB.ints (by omega) b.i10⟩, by rw [hB.val]; exact h.xa.v7, h.xa.l7.but hB (by omega) (by omega)⟩, by rw [hB.val]; exact h.v11, h.l11.but hB (by omega) (by omega)⟩, hU⟩
theorem GR.en_eq {G : GR} {x f : Nat} (h : G.sr f = x) : G.en x f = G.ds f := if_pos h
theorem GR.en_ne {G : GR} {x f : Nat} (h : G.sr f ≠ x) : G.en x f = G.sr f := if_neg h
set_option maxRecDepth 40000 in
theorem litt {a : Act} {u0 u2 u3 u4 u5 u20 u25 u26 u27 u28 u29 u31 u32 u33 : Value} (hs : a.tmps.size = 451) (hd : a.defers = []) (h0 : a.tmps.getD 0 undef = u0) (h2 : a.tmps.getD 2 undef = u2) (h3 : a.tmps.getD 3 undef = u3) (h4 : a.tmps.getD 4 undef = u4) (h5 : a.tmps.getD 5 undef = u5) (h20 : a.tmps.getD 20 undef = u20) (h25 : a.tmps.getD 25 undef = u25) (h26 : a.tmps.getD 26 undef = u26) (h27 : a.tmps.getD 27 undef = u27) (h28 : a.tmps.getD 28 undef = u28) (h29 : a.tmps.getD 29 undef = u29) (h31 : a.tmps.getD 31 undef = u31) (h32 : a.tmps.getD 32 undef = u32) (h33 : a.tmps.getD 33 undef = u33) : ∃ y : Nat → Value, a = { tmps := #[u0, y 1, u2, u3, u4, u5, y 6, y 7, y 8, y 9, y 10, y 11, y 12, y 13, y 14, y 15, y 16, y 17, y 18, y 19, u20, y 21, y 22, y 23, y 24, u25, u26, u27, u28, u29, y 30, u31, u32, u33, y 34, y 35, y 36, y 37, y 38, y 39, y 40, y 41, y 42, y 43, y 44, y 45, y 46, y 47, y 48, y 49, y 50, y 51, y 52, y 53, y 54, y 55, y 56, y 57, y 58, y 59, y 60, y 61, y 62, y 63, y 64, y 65, y 66, y 67, y 68, y 69, y 70, y 71, y 72, y 73, y 74, y 75, y 76, y 77, y 78, y 79, y 80, y 81, y 82, y 83, y 84, y 85, y 86, y 87, y 88, y 89, y 90, y 91, y 92, y 93, y 94, y 95, y 96, y 97, y 98, y 99, y 100, y 101, y 102, y 103, y 104, y 105, y 106, y 107, y 108, y 109, y 110, y 111, y 112, y 113, y 114, y 115, y 116, y 117, y 118, y 119, y 120, y 121, y 122, y 123, y 124, y 125, y 126, y 127, y 128, y 129, y 130, y 131, y 132, y 133, y 134, y 135, y 136, y 137, y 138, y 139, y 140, y 141, y 142, y 143, y 144, y 145, y 146, y 147, y 148, y 149, y 150, y 151, y 152, y 153, y 154, y 155, y 156, y 157, y 158, y 159, y 160, y 161, y 162, y 163, y 164, y 165, y 166, y 167, y 168, y 169, y 170, y 171, y 172, y 173, y 174, y 175, y 176, y 177, y 178, y 179, y 180, y 181, y 182, y 183, y 184, y 185, y 186, y 187, y 188, y 189, y 190, y 191, y 192, y 193, y 194, y 195, y 196, y 197, y 198, y 199, y 200, y 201, y 202, y 203, y 204, y 205, y 206, y 207, y 208, y 209, y 210, y 211, y 212, y 213, y 214, y 215, y 216, y 217, y 218, y 219, y 220, y 221, y 222, y 223, y 224, y 225, y 226, y 227, y 228, y 229, y 230, y 231, y 232, y 233, y 234, y 235, y 236, y 237, y 238, y 239, y 240, y 241, y 242, y 243, y 244, y 245, y 246, y 247, y 248, y 249, y 250, y 251, y 252, y 253, y 254, y 255, y 256, y 257, y 258, y 259, y 260, y 261, y 262, y 263, y 264, y 265, y 266, y 267, y 268, y 269, y 270, y 271, y 272, y 273, y 274, y 275, y 276, y 277, y 278, y 279, y 280, y 281, y 282, y 283, y 284, y 285, y 286, y 287, y 288, y 289, y 290, y 291, y 292, y 293, y 294, y 295, y 296, y 297, y 298, y 299, y 300, y 301, y 302, y 303, y 304, y 305, y 306, y 307, y 308, y 309, y 310, y 311, y 312, y 313, y 314, y 315, y 316, y 317, y 318, y 319, y 320, y 321, y 322, y 323, y 324, y 325, y 326, y 327, y 328, y 329, y 330, y 331, y 332, y 333, y 334, y 335, y 336, y 337, y 338, y 339, y 340, y 341, y 342, y 343, y 344, y 345, y 346, y 347, y 348, y 349, y 350, y 351, y 352, y 353, y 354, y 355, y 356, y 357, y 358, y 359, y 360, y 361, y 362, y 363, y 364, y 365, y 366, y 367, y 368, y 369, y 370, y 371, y 372, y 373, y 374, y 375, y 376, y 377, y 378, y 379, y 380, y 381, y 382, y 383, y 384, y 385, y 386, y 387, y 388, y 389, y 390, y 391, y 392, y 393, y 394, y 395, y 396, y 397, y 398, y 399, y 400, y 401, y 402, y 403, y 404, y 405, y 406, y 407, y 408, y 409, y 410, y 411, y 412, y 413, y 414, y 415, y 416, y 417, y 418, y 419, y 420, y 421, y 422, y 423, y 424, y 425, y 426, y 427, y 428, y 429, y 430, y 431, y 432, y 433, y 434, y 435, y 436, y 437, y 438, y 439, y 440, y 441, y 442, y 443, y 444, y 445, y 446, y 447, y 448, y 449, y 450], defers := [] } := by
  obtain ⟨tmps, defers⟩ := a
  have yd : defers = [] := hd
  subst yd
  obtain ⟨y, hy, hi⟩ := arr_451 tmps hs
  have e0 := (hi 0).trans h0
  have e2 := (hi 2).trans h2
  have e3 := (hi 3).trans h3
  have e4 := (hi 4).trans h4
  have e5 := (hi 5).trans h5
  have e20 := (hi 20).trans h20
  have e25 := (hi 25).trans h25
  have e26 := (hi 26).trans h26
  have e27 := (hi 27).trans h27
  have e28 := (hi 28).trans h28
  have e29 := (hi 29).trans h29
  have e31 := (hi 31).trans h31
  have e32 := (hi 32).trans h32
  have e33 := (hi 33).trans h33
  rw [e0, e2, e3, e4, e5, e20, e25, e26, e27, e28, e29, e31, e32, e33] at hy
  exact ⟨y, congrArg (fun t => (⟨t, []⟩ : Act)) hy⟩
set_option maxRecDepth 40000 in
theorem litt35 {a : Act} {u0 u2 u3 u4 u5 u20 u25 u26 u27 u28 u29 u31 u32 u33 u34 u35 : Value} (hs : a.tmps.size = 451) (hd : a.defers = []) (h0 : a.tmps.getD 0 undef = u0) (h2 : a.tmps.getD 2 undef = u2) (h3 : a.tmps.getD 3 undef = u3) (h4 : a.tmps.getD 4 undef = u4) (h5 : a.tmps.getD 5 undef = u5) (h20 : a.tmps.getD 20 undef = u20) (h25 : a.tmps.getD 25 undef = u25) (h26 : a.tmps.getD 26 undef = u26) (h27 : a.tmps.getD 27 undef = u27) (h28 : a.tmps.getD 28 undef = u28) (h29 : a.tmps.getD 29 undef = u29) (h31 : a.tmps.getD 31 undef = u31) (h32 : a.tmps.getD 32 undef = u32) (h33 : a.tmps.getD 33 undef = u33) (h34 : a.tmps.getD 34 undef = u34) (h35 : a.tmps.getD 35 undef = u35) : ∃ y : Nat → Value, a = { tmps := #[u0, y 1, u2, u3, u4, u5, y 6, y 7, y 8, y 9, y 10, y 11, y 12, y 13, y 14, y 15, y 16, y 17, y 18, y 19, u20, y 21, y 22, y 23, y 24, u25, u26, u27, u28, u29, y 30, u31, u32, u33, u34, u35, y 36, y 37, y 38, y 39, y 40, y 41, y 42, y 43, y 44, y 45, y 46, y 47, y 48, y 49, y 50, y 51, y 52, y 53, y 54, y 55, y 56, y 57, y 58, y 59, y 60, y 61, y 62, y 63, y 64, y 65, y 66, y 67, y 68, y 69, y 70, y 71, y 72, y 73, y 74, y 75, y 76, y 77, y 78, y 79, y 80, y 81, y 82, y 83, y 84, y 85, y 86, y 87, y 88, y 89, y 90, y 91, y 92, y 93, y 94, y 95, y 96, y 97, y 98, y 99, y 100, y 101, y 102, y 103, y 104, y 105, y 106, y 107, y 108, y 109, y 110, y 111, y 112, y 113, y 114, y 115, y 116, y 117, y 118, y 119, y 120, y 121, y 122, y 123, y 124, y 125, y 126, y 127, y 128, y 129, y 130, y 131, y 132, y 133, y 134, y 135, y 136, y 137, y 138, y 139, y 140, y 141, y 142, y 143, y 144, y 145, y 146, y 147, y 148, y 149, y 150, y 151, y 152, y 153, y 154, y 155, y 156, y 157, y 158, y 159, y 160, y 161, y 162, y 163, y 164, y 165, y 166, y 167, y 168, y 169, y 170, y 171, y 172, y 173, y 174, y 175, y 176, y 177, y 178, y 179, y 180, y 181, y 182, y 183, y 184, y 185, y 186, y 187, y 188, y 189, y 190, y 191, y 192, y 193, y 194, y 195, y 196, y 197, y 198, y 199, y 200, y 201, y 202, y 203, y 204, y 205, y 206, y 207, y 208, y 209, y 210, y 211, y 212, y 213, y 214, y 215, y 216, y 217, y 218, y 219, y 220, y 221, y 222, y 223, y 224, y 225, y 226, y 227, y 228, y 229, y 230, y 231, y 232, y 233, y 234, y 235, y 236, y 237, y 238, y 239, y 240, y 241, y 242, y 243, y 244, y 245, y 246, y 247, y 248, y 249, y 250, y 251, y 252, y 253, y 254, y 255, y 256, y 257, y 258, y 259, y 260, y 261, y 262, y 263, y 264, y 265, y 266, y 267, y 268, y 269, y 270, y 271, y 272, y 273, y 274, y 275, y 276, y 277, y 278, y 279, y 280, y 281, y 282, y 283, y 284, y 285, y 286, y 287, y 288, y 289, y 290, y 291, y 292, y 293, y 294, y 295, y 296, y 297, y 298, y 299, y 300, y 301, y 302, y 303, y 304, y 305, y 306, y 307, y 308, y 309, y 310, y 311, y 312, y 313, y 314, y 315, y 316, y 317, y 318, y 319, y 320, y 321, y 322, y 323, y 324, y 325, y 326, y 327, y 328, y 329, y 330, y 331, y 332, y 333, y 334, y 335, y 336, y 337, y 338, y 339, y 340, y 341, y 342, y 343, y 344, y 345, y 346, y 347, y 348, y 349, y 350, y 351, y 352, y 353, y 354, y 355, y 356, y 357, y 358, y 359, y 360, y 361, y 362, y 363, y 364, y 365, y 366, y 367, y 368, y 369, y 370, y 371, y 372, y 373, y 374, y 375, y 376, y 377, y 378, y 379, y 380, y 381, y 382, y 383, y 384, y 385, y 386, y 387, y 388, y 389, y 390, y 391, y 392, y 393, y 394, y 395, y 396, y 397, y 398, y 399, y 400, y 401, y 402, y 403, y 404, y 405, y 406, y 407, y 408, y 409, y 410, y 411, y 412, y 413, y 414, y 415, y 416, y 417, y 418, y 419, y 420, y 421, y 422, y 423, y 424, y 425, y 426, y 427, y 428, y 429, y 430, y 431, y 432, y 433, y 434, y 435, y 436, y 437, y 438, y 439, y 440, y 441, y 442, y 443, y 444, y 445, y 446, y 447, y 448, y 449, y 450], defers := [] } := by
  obtain ⟨tmps, defers⟩ := a
  have yd : defers = [] := hd
  subst yd
  obtain ⟨y, hy, hi⟩ := arr_451 tmps hs
  have e0 := (hi 0).trans h0
  have e2 := (hi 2).trans h2
  have e3 := (hi 3).trans h3
  have e4 := (hi 4).trans h4
  have e5 := (hi 5).trans h5
  have e20 := (hi 20).trans h20
  have e25 := (hi 25).trans h25
  have e26 := (hi 26).trans h26
  have e27 := (hi 27).trans h27
  have e28 := (hi 28).trans h28
  have e29 := (hi 29).trans h29
  have e31 := (hi 31).trans h31
  have e32 := (hi 32).trans h32
  have e33 := (hi 33).trans h33
  have e34 := (hi 34).trans h34
  have e35 := (hi 35).trans h35
  rw [e0, e2, e3, e4, e5, e20, e25, e26, e27, e28, e29, e31, e32, e33, e34, e35] at hy
  exact ⟨y, congrArg (fun t => (⟨t, []⟩ : Act)) hy⟩

set_option maxRecDepth 40000 in
set_option maxHeartbeats 8000000 in
/-- From region 98 on. -/
theorem md_14e (w0 : World) (G : GR) (a0 : Option Addr) (k0 ga gm g0 g1 g2 g3 : Nat) (R : Nat → Nat → Bool) (g8 g9 g10 : Nat) (v20 : Value) (rd x : Nat) (v31 : Value) (i j : Nat) (rt : Nat → Nat) (B nc : Nat) (cn : Nat → Nat) (cl : Nat → Nat → Nat) (ok : G.Ok) (hrt : RtI G R x G.E rt) (hc : PT (Sb G R G.E) (Rl G R x) nc cn cl) (hi : i < nc) (hj : j < cn i) (hrd : rd ≤ 100000000) (wr : World) (hJ : RJ w0 G ga gm g0 g1 g2 g3 R g8 g9 g10 v20 rd x rt B nc cn cl i j v31 wr)
    (a : Act) (hf : FXr a0 G.n k0 ga gm G.E g8 g9 g10 v20 rd x v31 i j (cl i j) a) (h35 : a.tmps.getD 35 undef = .int .i64 ((G.en x (cl i j) : Nat) : Int)) (Q : Exit → Act → World → Prop)
    (hC : ∀ (a : Act) (w : World) (v31 : Value), FXs a0 G.n k0 ga gm G.E g8 g9 g10 v20 rd x v31 i j a → RJ w0 G ga gm g0 g1 g2 g3 R g8 g9 g10 v20 rd x rt B nc cn cl i (j + 1) v31 w → Q .normal a w) :
    Code.wp Try.prog (tl 3 (f10r (Try.f10.body.getD .skip))) Q a wr := by
  obtain ⟨y, rfl⟩ := litt35 hf.fv.fx.fe.fm.sz hf.fv.fx.fe.fm.df hf.fv.fx.fe.fm.s0 hf.fv.fx.fe.fm.s2 hf.fv.fx.fe.fm.s3 hf.fv.fx.fe.fm.s4 hf.fv.fx.fe.s5 hf.fv.s20 hf.fv.fx.s25 hf.fv.fx.s26 hf.fv.fx.s27 hf.fv.s28 hf.fv.s29 hf.s31 hf.s32 hf.s33 hf.s34 h35
  have hn := ok.n
  have hE := ok.E
  obtain ⟨par, dp, st, wh, nr, rn, rl, D, hX, hU, hP⟩ := hJ
  have lf := (hc.el i j hi hj).1
  have le := G.en_lt ok x lf
  have lr := hU.rlt _ le
  have hnr := hP.nr_le hc
  have hcall := find_calls KD Fam.nil w0 wr D 8 G.n (G.en x (cl i j)) g8 rt dp rfl hX.xa.xb.b8 le (by omega) (hX.xa.ufin hU)
  rw [hX.xa.xb.c8] at hcall
  have HU : Hid (Calls Try.prog 25 #[.slice (some ⟨g8, 0, none⟩) G.n G.n, .int .i64 ((G.en x (cl i j) : Nat) : Int)] wr fun v w2 => v = .returned (.int .i64 ((rt (G.en x (cl i j)) : Nat) : Int)) ∧ ∃ D' par', XR w0 G ga gm g0 g1 g2 g3 R g8 g9 g10 par' st wh v20 B nc cn cl v31 nr rn rl D' w2 ∧ UF G.n par' rt dp) := by
    refine hcall.mono ?_
    rintro v w2 ⟨rfl, hF⟩
    exact ⟨rfl, hX.of hF⟩
  have HC : Hid (∀ (a : Act) (w : World) (v31 : Value), FXs a0 G.n k0 ga gm G.E g8 g9 g10 v20 rd x v31 i j a → RJ w0 G ga gm g0 g1 g2 g3 R g8 g9 g10 v20 rd x rt B nc cn cl i (j + 1) v31 w → Q .normal a w) := hC
  have PJ : Hid (st (rt (G.en x (cl i j))) = rd → wh (rt (G.en x (cl i j))) < nr ∧ rn (wh (rt (G.en x (cl i j)))) ≤ G.E ∧ RP G R x rt nc cn cl i (j + 1) st wh rd nr (up rn (wh (rt (G.en x (cl i j)))) (rn (wh (rt (G.en x (cl i j)))) + 1)) (upl rl (wh (rt (G.en x (cl i j)))) (rn (wh (rt (G.en x (cl i j))))) (cl i j))) := fun h => ⟨(hP.join hc ok hrt hi hj lr h).1, hP.rn_le hc (hP.join hc ok hrt hi hj lr h).1, (hP.join hc ok hrt hi hj lr h).2⟩
  have PF : Hid (st (rt (G.en x (cl i j))) ≠ rd → RP G R x rt nc cn cl i (j + 1) (up st (rt (G.en x (cl i j))) rd) (up wh (rt (G.en x (cl i j))) nr) rd (nr + 1) (up rn nr 1) (upl rl nr 0 (cl i j))) := fun h => hP.fresh hc ok hrt hi hj h
  clear hC hf h35 hX hU hP hcall hrt hc ok
  generalize rt (G.en x (cl i j)) = r at *
  generalize G.en x (cl i j) = en at *
  generalize hf : cl i j = f at *
  show Code.wp Try.prog (Code.seq _ (Code.seq (Code.seq _ (Code.cond (.tmp 393) _ Code.skip)) _)) Q _ wr
  refine wp_seq_k (fun K1 hK => ?_)
  have HK1 : Hid (∀ (a : Act) (w : World), _ → K1 a w) := hK
  clear hK
  go_wp2_with (go_at_call 25; refine HU.out.mono ?_; rintro v w2 ⟨rfl, hX⟩; have HX : Hid (∃ D' par', XR w0 G ga gm g0 g1 g2 g3 R g8 g9 g10 par' st wh v20 B nc cn cl v31 nr rn rl D' w2 ∧ UF G.n par' rt dp) := hX; clear hX)
  refine HK1.out _ _ ?_
  clear HK1 K1 HU
  obtain ⟨D', par', hX, hU⟩ := HX.out
  have x1 := hX.xa.xb.i9.cell' hX.xa.xb.ds.rep hX.xa.xb.b9 rfl lr
  have hrr : (r : Int) < (G.n : Int) := by omega
  refine wp_seq_k (fun K1 hK => ?_)
  have HK1 : Hid (∀ (a : Act) (w : World), _ → K1 a w) := hK
  clear hK
  refine wp_seq_k (fun K2 hK => ?_)
  have HK2 : Hid (∀ (a : Act) (w : World), _ → K2 a w) := hK
  clear hK
  by_cases hs : st r = rd
  · have hb : (((st r : Nat) : Int) != (rd : Int)) = false := by rw [hs]; simp
    obtain ⟨hk, hrn, hP⟩ := PJ.out hs
    have HX2 : Hid (XR w0 G ga gm g0 g1 g2 g3 R g8 g9 g10 par' st wh v20 B nc cn cl v31 nr rn rl D' w2) := hX
    have HP : Hid (RP G R x rt nc cn cl i (j + 1) st wh rd nr (up rn (wh r) (rn (wh r) + 1)) (upl rl (wh r) (rn (wh r)) f)) := hP
    clear hX HX PJ PF hP hs
    generalize st r = s0 at *
    go_wp2
    refine HK2.out _ _ (wp_cond_false (by kernel_rfl) (wp_skip ?_))
    refine HK1.out _ _ ?_
    refine md_14c w0 G a0 k0 ga gm g0 g1 g2 g3 R g8 g9 g10 v20 rd x v31 i j f r (wh r) par' st wh B nc cn cl nr rn rl D' w2 HX2.out lr rfl hk (by omega) (by omega) _ ⟨⟨⟨⟨⟨by kernel_rfl, by kernel_rfl, by kernel_rfl, by kernel_rfl, by kernel_rfl, by kernel_rfl⟩, by kernel_rfl⟩, by kernel_rfl, by kernel_rfl, by kernel_rfl⟩, by kernel_rfl, by kernel_rfl, by kernel_rfl⟩, by kernel_rfl, by kernel_rfl, by kernel_rfl, by kernel_rfl⟩ (by kernel_rfl) _ (fun a w D3 hf2 hX3 => ?_)
    exact HC.out a w v31 hf2.fs ⟨par', dp, st, wh, nr, _, _, D3, hX3, hU, HP.out⟩
  · have hb : (((st r : Nat) : Int) != (rd : Int)) = true := by
      have : ((st r : Nat) : Int) ≠ (rd : Int) := by omega
      simpa using this
    have HP : Hid (RP G R x rt nc cn cl i (j + 1) (up st r rd) (up wh r nr) rd (nr + 1) (up rn nr 1) (upl rl nr 0 f)) := PF.out hs
    have HX2 : Hid (XR w0 G ga gm g0 g1 g2 g3 R g8 g9 g10 par' st wh v20 B nc cn cl v31 nr rn rl D' w2) := hX
    clear hX HX PJ PF hs
    have HSr : Hid (∀ a b : Prop, a → b → a) := fun a b h _ => h
    generalize hs0 : st r = s0 at x1 hb
    clear hs0
    go_wp2
    refine HK2.out _ _ (wp_cond_true (by kernel_rfl) ?_)
    refine md_14b w0 G a0 k0 ga gm g0 g1 g2 g3 R g8 g9 g10 v20 rd x v31 i j f r par' st wh B nc cn cl nr rn rl D' w2 HX2.out lr (by omega) _ ⟨⟨⟨⟨⟨by kernel_rfl, by kernel_rfl, by kernel_rfl, by kernel_rfl, by kernel_rfl, by kernel_rfl⟩, by kernel_rfl⟩, by kernel_rfl, by kernel_rfl, by kernel_rfl⟩, by kernel_rfl, by kernel_rfl, by kernel_rfl⟩, by kernel_rfl, by kernel_rfl, by kernel_rfl, by kernel_rfl⟩ (by kernel_rfl) _ (fun a w D3 v31' hf2 h36 hX3 => ?_)
    refine HK1.out _ _ ?_
    refine md_14c w0 G a0 k0 ga gm g0 g1 g2 g3 R g8 g9 g10 v20 rd x v31' i j f r nr par' _ _ B nc cn cl (nr + 1) _ rl D3 w hX3 lr (up_same _ _ _) (by omega) (by rw [up_same]; omega) (by omega) a hf2 h36 _ (fun a w D4 hf3 hX4 => ?_)
    rw [up_same, up_up] at hX4
    exact HC.out a w v31' hf3.fs ⟨par', dp, _, _, _, _, _, D4, hX4, hU, HP.out⟩
end Go.Proofs.Qxb6602148a
