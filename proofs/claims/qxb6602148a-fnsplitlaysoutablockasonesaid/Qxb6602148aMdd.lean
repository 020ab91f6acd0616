/-
  'zzBuildModel': reachability.
-/
import Derived.Test.Qxb6602148aMp
attribute [local go_sem] Go.Proofs.Qxb6602148a.yTo Go.Proofs.Qxb6602148a.yUpon
namespace Go.Proofs.Qxb6602148a
open Go.RowKit
set_option linter.unusedVariables false
set_option linter.unusedSimpArgs false

theorem Ints.congr {M : Fam} {i n : Nat} {f f' : Nat → Int} (h : Ints M i n f) (e : ∀ j, j < n → f j = f' j) : Ints M i n f' := ⟨h.1, fun j hj => by rw [h.2 j hj, e j hj]⟩
/-- The graph's ends are known. -/
def DGr (w0 : World) (G : GR) (ga gm g0 g1 g2 g3 : Nat) (cls : Nat → Int) (onc : Nat → Bool) (D : Fam) (w : World) : Prop :=
  DS w0 G.n G.E ga gm g0 g1 g2 g3 (fun j => ((G.sr j : Nat) : Int)) (fun j => ((G.ds j : Nat) : Int)) cls onc D w
theorem EDI.all {w0 w : World} {G : GR} {ga gm g0 g1 g2 g3 : Nat} (h : EDI w0 G ga gm g0 g1 g2 g3 G.E w) : ∃ D, DGr w0 G ga gm g0 g1 g2 g3 (fun _ => 0) (fun _ => false) D w := by
  obtain ⟨src, dst, D, hD, _, hj⟩ := h
  exact ⟨D, hD.rep, hD.grew, hD.b15, hD.n15, hD.F15, hD.b14, hD.n14, hD.F14, hD.b0, hD.b1, hD.b2, hD.b3, hD.i0.congr (fun j h => (hj j h).1), hD.i1.congr (fun j h => (hj j h).2), hD.i2, hD.i3⟩
structure BM (w0 : World) (G : GR) (ga gm g0 g1 g2 g3 g4 g5 : Nat) (R : Nat → Nat → Bool) (Q : Nat → Nat) (D : Fam) (w : World) : Prop where
  ds : DGr w0 G ga gm g0 g1 g2 g3 (fun _ => 0) (fun _ => false) D w
  b4 : D.b 4 = some g4
  r4 : Bools D 4 (G.n * G.n) (flat G.n R)
  b5 : D.b 5 = some g5
  q5 : Ints D 5 G.n (fun j => ((Q j : Nat) : Int))
section
variable {w0 w : World} {G : GR} {ga gm g0 g1 g2 g3 g4 g5 : Nat} {R : Nat → Nat → Bool} {Q : Nat → Nat} {D : Fam}
theorem BM.seen (h : BM w0 G ga gm g0 g1 g2 g3 g4 g5 R Q D w) (u : Nat) {b : Nat} (hb : b < G.n) : BM w0 G ga gm g0 g1 g2 g3 g4 g5 (up2 R u b true) Q (D.set 4 (u * G.n + b) (.bool true)) (w.setCell ⟨g4, u * G.n + b, none⟩ (.bool true)) := by
  refine ⟨DS.setA h.ds ⟨by omega, by omega, by omega⟩ h.b4 _ _, h.b4, ?_, h.b5, h.q5.set_ne (by omega)⟩
  rw [← flat_up _ _ _ hb]
  exact h.r4.set
theorem BM.enq (h : BM w0 G ga gm g0 g1 g2 g3 g4 g5 R Q D w) (t b : Nat) : BM w0 G ga gm g0 g1 g2 g3 g4 g5 R (up Q t b) (D.set 5 t (.int .i64 (b : Int))) (w.setCell ⟨g5, t, none⟩ (.int .i64 (b : Int))) := by
  refine ⟨DS.setA h.ds ⟨by omega, by omega, by omega⟩ h.b5 _ _, h.b4, h.r4.set_ne (by omega), h.b5, ?_⟩
  have := h.q5.set (j := t) (x := ((b : Nat) : Int))
  rw [upd_cast] at this
  exact this
theorem BM.cell4 (h : BM w0 G ga gm g0 g1 g2 g3 g4 g5 R Q D w) {u b : Nat} (hu : u < G.n) (hb : b < G.n) : w.cell? ⟨g4, u * G.n + b, none⟩ = some (.bool (R u b)) := by
  have hlt : u * G.n + b < G.n * G.n := by
    have : (u + 1) * G.n ≤ G.n * G.n := Nat.mul_le_mul_right _ hu
    rw [Nat.succ_mul] at this
    omega
  rw [h.r4.cell h.ds.rep h.b4 rfl hlt, flat_at _ _ _ hb]
theorem BM.cell5 (h : BM w0 G ga gm g0 g1 g2 g3 g4 g5 R Q D w) {j : Nat} (hj : j < G.n) : w.cell? ⟨g5, j, none⟩ = some (.int .i64 ((Q j : Nat) : Int)) := h.q5.cell' h.ds.rep h.b5 rfl hj
end
def BMX (w0 : World) (G : GR) (ga gm g0 g1 g2 g3 g4 g5 : Nat) (C : (Nat → Nat → Bool) → (Nat → Nat) → Prop) (w : World) : Prop := ∃ R Q D, BM w0 G ga gm g0 g1 g2 g3 g4 g5 R Q D w ∧ C R Q
def C4 (G : GR) (u : Nat) (R : Nat → Nat → Bool) (Q : Nat → Nat) : Prop := RS G u R
def C5 (G : GR) (u h t : Nat) (R : Nat → Nat → Bool) (Q : Nat → Nat) : Prop := BB G u R Q t ∧ Q 0 = u ∧ BC G u R Q h
def C6 (G : GR) (u h t x k : Nat) (R : Nat → Nat → Bool) (Q : Nat → Nat) : Prop := BB G u R Q t ∧ Q 0 = u ∧ BC G u R Q h ∧ Q h = x ∧ ∀ k', k' < k → R u (G.t x k') = true
theorem C6.old {G : GR} {u h t x k : Nat} {R : Nat → Nat → Bool} {Q : Nat → Nat} (c : C6 G u h t x k R Q) (hr : R u (G.t x k) = true) : C6 G u h t x (k + 1) R Q := by
  obtain ⟨c1, c2, c3, c4, c5⟩ := c
  refine ⟨c1, c2, c3, c4, fun k' hk => ?_⟩
  rcases Nat.lt_or_ge k' k with h1 | h1
  · exact c5 k' h1
  · obtain rfl : k' = k := by omega
    exact hr
theorem C6.new {G : GR} {u h t x k : Nat} {R : Nat → Nat → Bool} {Q : Nat → Nat} (ok : G.Ok) (ht : h < t) (hk : k < G.d x) (c : C6 G u h t x k R Q) (hr : R u (G.t x k) = false) : C6 G u h (t + 1) x (k + 1) (up2 R u (G.t x k) true) (up Q t (G.t x k)) := by
  obtain ⟨c1, c2, c3, c4, c5⟩ := c
  have t1 := c1.t1
  refine ⟨c1.add ok ⟨h, ht, c4⟩ hk hr, by rw [up_other _ _ (by omega)]; exact c2, c3.add (x := x) (k := k) (by omega) _, by rw [up_other _ _ (by omega)]; exact c4, fun k' hk' => ?_⟩
  rcases Nat.lt_or_ge k' k with h1 | h1
  · exact up2_true (c5 k' h1)
  · obtain rfl : k' = k := by omega
    exact up2_same _ _ _ _
theorem C6.done {G : GR} {u h t x : Nat} {R : Nat → Nat → Bool} {Q : Nat → Nat} (c : C6 G u h t x (G.d x) R Q) : C5 G u (h + 1) t R Q := by
  obtain ⟨c1, c2, c3, c4, c5⟩ := c
  refine ⟨c1, c2, fun j k hj hk => ?_⟩
  rcases Nat.lt_or_ge j h with h1 | h1
  · exact c3 j k h1 hk
  · obtain rfl : j = h := by omega
    rw [c4] at hk ⊢
    exact c5 k hk

structure FR (a0 : Option Addr) (n k0 ga gm E g4 g5 m : Nat) (a : Act) : Prop where
  fe : FE a0 n k0 ga gm E a
  s10 : a.tmps.getD 10 undef = .slice (some ⟨g4, 0, none⟩) m m
  s11 : a.tmps.getD 11 undef = .slice (some ⟨g5, 0, none⟩) n n
set_option maxRecDepth 40000 in
theorem litr0 {a : Act} {u0 u2 u3 u4 u5 : Value} (hs : a.tmps.size = 451) (hd : a.defers = []) (h0 : a.tmps.getD 0 undef = u0) (h2 : a.tmps.getD 2 undef = u2) (h3 : a.tmps.getD 3 undef = u3) (h4 : a.tmps.getD 4 undef = u4) (h5 : a.tmps.getD 5 undef = u5) : ∃ y : Nat → Value, a = { tmps := #[u0, y 1, u2, u3, u4, u5, y 6, y 7, y 8, y 9, y 10, y 11, y 12, y 13, y 14, y 15, y 16, y 17, y 18, y 19, y 20, y 21, y 22, y 23, y 24, y 25, y 26, y 27, y 28, y 29, y 30, y 31, y 32, y 33, y 34, y 35, y 36, y 37, y 38, y 39, y 40, y 41, y 42, y 43, y 44, y 45, y 46, y 47, y 48, y 49, y 50, y 51, y 52, y 53, y 54, y 55, y 56, y 57, y 58, y 59, y 60, y 61, y 62, y 63, y 64, y 65, y 66, y 67, y 68, y 69, y 70, y 71, y 72, y 73, y 74, y 75, y 76, y 77, y 78, y 79, y 80, y 81, y 82, y 83, y 84, y 85, y 86, y 87, y 88, y 89, y 90, y 91, y 92, y 93, y 94, y 95, y 96, y 97, y 98, y 99, y 100, y 101, y 102, y 103, y 104, y 105, y 106, y 107, y 108, y 109, y 110, y 111, y 112, y 113, y 114, y 115, y 116, y 117, y 118, y 119, y 120, y 121, y 122, y 123, y 124, y 125, y 126, y 127, y 128, y 129, y 130, y 131, y 132, y 133, y 134, y 135, y 136, y 137, y 138, y 139, y 140, y 141, y 142, y 143, y 144, y 145, y 146, y 147, y 148, y 149, y 150, y 151, y 152, y 153, y 154, y 155, y 156, y 157, y 158, y 159, y 160, y 161, y 162, y 163, y 164, y 165, y 166, y 167, y 168, y 169, y 170, y 171, y 172, y 173, y 174, y 175, y 176, y 177, y 178, y 179, y 180, y 181, y 182, y 183, y 184, y 185, y 186, y 187, y 188, y 189, y 190, y 191, y 192, y 193, y 194, y 195, y 196, y 197, y 198, y 199, y 200, y 201, y 202, y 203, y 204, y 205, y 206, y 207, y 208, y 209, y 210, y 211, y 212, y 213, y 214, y 215, y 216, y 217, y 218, y 219, y 220, y 221, y 222, y 223, y 224, y 225, y 226, y 227, y 228, y 229, y 230, y 231, y 232, y 233, y 234, y 235, y 236, y 237, y 238, y 239, y 240, y 241, y 242, y 243, y 244, y 245, y 246, y 247, y 248, y 249, y 250, y 251, y 252, y 253, y 254, y 255, y 256, y 257, y 258, y 259, y 260, y 261, y 262, y 263, y 264, y 265, y 266, y 267, y 268, y 269, y 270, y 271, y 272, y 273, y 274, y 275, y 276, y 277, y 278, y 279, y 280, y 281, y 282, y 283, y 284, y 285, y 286, y 287, y 288, y 289, y 290, y 291, y 292, y 293, y 294, y 295, y 296, y 297, y 298, y 299, y 300, y 301, y 302, y 303, y 304, y 305, y 306, y 307, y 308, y 309, y 310, y 311, y 312, y 313, y 314, y 315, y 316, y 317, y 318, y 319, y 320, y 321, y 322, y 323, y 324, y 325, y 326, y 327, y 328, y 329, y 330, y 331, y 332, y 333, y 334, y 335, y 336, y 337, y 338, y 339, y 340, y 341, y 342, y 343, y 344, y 345, y 346, y 347, y 348, y 349, y 350, y 351, y 352, y 353, y 354, y 355, y 356, y 357, y 358, y 359, y 360, y 361, y 362, y 363, y 364, y 365, y 366, y 367, y 368, y 369, y 370, y 371, y 372, y 373, y 374, y 375, y 376, y 377, y 378, y 379, y 380, y 381, y 382, y 383, y 384, y 385, y 386, y 387, y 388, y 389, y 390, y 391, y 392, y 393, y 394, y 395, y 396, y 397, y 398, y 399, y 400, y 401, y 402, y 403, y 404, y 405, y 406, y 407, y 408, y 409, y 410, y 411, y 412, y 413, y 414, y 415, y 416, y 417, y 418, y 419, y 420, y 421, y 422, y 423, y 424, y 425, y 426, y 427, y 428, y 429, y 430, y 431, y 432, y 433, y 434, y 435, y 436, y 437, y 438, y 439, y 440, y 441, y 442, y 443, y 444, y 445, y 446, y 447, y 448, y 449, y 450], defers := [] } := by
  obtain ⟨tmps, defers⟩ := a
  have yd : defers = [] := hd
  subst yd
  obtain ⟨y, hy, hi⟩ := arr_451 tmps hs
  have e0 := (hi 0).trans h0
  have e2 := (hi 2).trans h2
  have e3 := (hi 3).trans h3
  have e4 := (hi 4).trans h4
  have e5 := (hi 5).trans h5
  rw [e0, e2, e3, e4, e5] at hy
  exact ⟨y, congrArg (fun t => (⟨t, []⟩ : Act)) hy⟩
set_option maxRecDepth 40000 in
theorem litr {a : Act} {u0 u2 u3 u4 u5 u10 u11 : Value} (hs : a.tmps.size = 451) (hd : a.defers = []) (h0 : a.tmps.getD 0 undef = u0) (h2 : a.tmps.getD 2 undef = u2) (h3 : a.tmps.getD 3 undef = u3) (h4 : a.tmps.getD 4 undef = u4) (h5 : a.tmps.getD 5 undef = u5) (h10 : a.tmps.getD 10 undef = u10) (h11 : a.tmps.getD 11 undef = u11) : ∃ y : Nat → Value, a = { tmps := #[u0, y 1, u2, u3, u4, u5, y 6, y 7, y 8, y 9, u10, u11, y 12, y 13, y 14, y 15, y 16, y 17, y 18, y 19, y 20, y 21, y 22, y 23, y 24, y 25, y 26, y 27, y 28, y 29, y 30, y 31, y 32, y 33, y 34, y 35, y 36, y 37, y 38, y 39, y 40, y 41, y 42, y 43, y 44, y 45, y 46, y 47, y 48, y 49, y 50, y 51, y 52, y 53, y 54, y 55, y 56, y 57, y 58, y 59, y 60, y 61, y 62, y 63, y 64, y 65, y 66, y 67, y 68, y 69, y 70, y 71, y 72, y 73, y 74, y 75, y 76, y 77, y 78, y 79, y 80, y 81, y 82, y 83, y 84, y 85, y 86, y 87, y 88, y 89, y 90, y 91, y 92, y 93, y 94, y 95, y 96, y 97, y 98, y 99, y 100, y 101, y 102, y 103, y 104, y 105, y 106, y 107, y 108, y 109, y 110, y 111, y 112, y 113, y 114, y 115, y 116, y 117, y 118, y 119, y 120, y 121, y 122, y 123, y 124, y 125, y 126, y 127, y 128, y 129, y 130, y 131, y 132, y 133, y 134, y 135, y 136, y 137, y 138, y 139, y 140, y 141, y 142, y 143, y 144, y 145, y 146, y 147, y 148, y 149, y 150, y 151, y 152, y 153, y 154, y 155, y 156, y 157, y 158, y 159, y 160, y 161, y 162, y 163, y 164, y 165, y 166, y 167, y 168, y 169, y 170, y 171, y 172, y 173, y 174, y 175, y 176, y 177, y 178, y 179, y 180, y 181, y 182, y 183, y 184, y 185, y 186, y 187, y 188, y 189, y 190, y 191, y 192, y 193, y 194, y 195, y 196, y 197, y 198, y 199, y 200, y 201, y 202, y 203, y 204, y 205, y 206, y 207, y 208, y 209, y 210, y 211, y 212, y 213, y 214, y 215, y 216, y 217, y 218, y 219, y 220, y 221, y 222, y 223, y 224, y 225, y 226, y 227, y 228, y 229, y 230, y 231, y 232, y 233, y 234, y 235, y 236, y 237, y 238, y 239, y 240, y 241, y 242, y 243, y 244, y 245, y 246, y 247, y 248, y 249, y 250, y 251, y 252, y 253, y 254, y 255, y 256, y 257, y 258, y 259, y 260, y 261, y 262, y 263, y 264, y 265, y 266, y 267, y 268, y 269, y 270, y 271, y 272, y 273, y 274, y 275, y 276, y 277, y 278, y 279, y 280, y 281, y 282, y 283, y 284, y 285, y 286, y 287, y 288, y 289, y 290, y 291, y 292, y 293, y 294, y 295, y 296, y 297, y 298, y 299, y 300, y 301, y 302, y 303, y 304, y 305, y 306, y 307, y 308, y 309, y 310, y 311, y 312, y 313, y 314, y 315, y 316, y 317, y 318, y 319, y 320, y 321, y 322, y 323, y 324, y 325, y 326, y 327, y 328, y 329, y 330, y 331, y 332, y 333, y 334, y 335, y 336, y 337, y 338, y 339, y 340, y 341, y 342, y 343, y 344, y 345, y 346, y 347, y 348, y 349, y 350, y 351, y 352, y 353, y 354, y 355, y 356, y 357, y 358, y 359, y 360, y 361, y 362, y 363, y 364, y 365, y 366, y 367, y 368, y 369, y 370, y 371, y 372, y 373, y 374, y 375, y 376, y 377, y 378, y 379, y 380, y 381, y 382, y 383, y 384, y 385, y 386, y 387, y 388, y 389, y 390, y 391, y 392, y 393, y 394, y 395, y 396, y 397, y 398, y 399, y 400, y 401, y 402, y 403, y 404, y 405, y 406, y 407, y 408, y 409, y 410, y 411, y 412, y 413, y 414, y 415, y 416, y 417, y 418, y 419, y 420, y 421, y 422, y 423, y 424, y 425, y 426, y 427, y 428, y 429, y 430, y 431, y 432, y 433, y 434, y 435, y 436, y 437, y 438, y 439, y 440, y 441, y 442, y 443, y 444, y 445, y 446, y 447, y 448, y 449, y 450], defers := [] } := by
  obtain ⟨tmps, defers⟩ := a
  have yd : defers = [] := hd
  subst yd
  obtain ⟨y, hy, hi⟩ := arr_451 tmps hs
  have e0 := (hi 0).trans h0
  have e2 := (hi 2).trans h2
  have e3 := (hi 3).trans h3
  have e4 := (hi 4).trans h4
  have e5 := (hi 5).trans h5
  have e10 := (hi 10).trans h10
  have e11 := (hi 11).trans h11
  rw [e0, e2, e3, e4, e5, e10, e11] at hy
  exact ⟨y, congrArg (fun t => (⟨t, []⟩ : Act)) hy⟩
set_option maxRecDepth 40000 in
theorem litr12 {a : Act} {u0 u2 u3 u4 u5 u10 u11 u12 : Value} (hs : a.tmps.size = 451) (hd : a.defers = []) (h0 : a.tmps.getD 0 undef = u0) (h2 : a.tmps.getD 2 undef = u2) (h3 : a.tmps.getD 3 undef = u3) (h4 : a.tmps.getD 4 undef = u4) (h5 : a.tmps.getD 5 undef = u5) (h10 : a.tmps.getD 10 undef = u10) (h11 : a.tmps.getD 11 undef = u11) (h12 : a.tmps.getD 12 undef = u12) : ∃ y : Nat → Value, a = { tmps := #[u0, y 1, u2, u3, u4, u5, y 6, y 7, y 8, y 9, u10, u11, u12, y 13, y 14, y 15, y 16, y 17, y 18, y 19, y 20, y 21, y 22, y 23, y 24, y 25, y 26, y 27, y 28, y 29, y 30, y 31, y 32, y 33, y 34, y 35, y 36, y 37, y 38, y 39, y 40, y 41, y 42, y 43, y 44, y 45, y 46, y 47, y 48, y 49, y 50, y 51, y 52, y 53, y 54, y 55, y 56, y 57, y 58, y 59, y 60, y 61, y 62, y 63, y 64, y 65, y 66, y 67, y 68, y 69, y 70, y 71, y 72, y 73, y 74, y 75, y 76, y 77, y 78, y 79, y 80, y 81, y 82, y 83, y 84, y 85, y 86, y 87, y 88, y 89, y 90, y 91, y 92, y 93, y 94, y 95, y 96, y 97, y 98, y 99, y 100, y 101, y 102, y 103, y 104, y 105, y 106, y 107, y 108, y 109, y 110, y 111, y 112, y 113, y 114, y 115, y 116, y 117, y 118, y 119, y 120, y 121, y 122, y 123, y 124, y 125, y 126, y 127, y 128, y 129, y 130, y 131, y 132, y 133, y 134, y 135, y 136, y 137, y 138, y 139, y 140, y 141, y 142, y 143, y 144, y 145, y 146, y 147, y 148, y 149, y 150, y 151, y 152, y 153, y 154, y 155, y 156, y 157, y 158, y 159, y 160, y 161, y 162, y 163, y 164, y 165, y 166, y 167, y 168, y 169, y 170, y 171, y 172, y 173, y 174, y 175, y 176, y 177, y 178, y 179, y 180, y 181, y 182, y 183, y 184, y 185, y 186, y 187, y 188, y 189, y 190, y 191, y 192, y 193, y 194, y 195, y 196, y 197, y 198, y 199, y 200, y 201, y 202, y 203, y 204, y 205, y 206, y 207, y 208, y 209, y 210, y 211, y 212, y 213, y 214, y 215, y 216, y 217, y 218, y 219, y 220, y 221, y 222, y 223, y 224, y 225, y 226, y 227, y 228, y 229, y 230, y 231, y 232, y 233, y 234, y 235, y 236, y 237, y 238, y 239, y 240, y 241, y 242, y 243, y 244, y 245, y 246, y 247, y 248, y 249, y 250, y 251, y 252, y 253, y 254, y 255, y 256, y 257, y 258, y 259, y 260, y 261, y 262, y 263, y 264, y 265, y 266, y 267, y 268, y 269, y 270, y 271, y 272, y 273, y 274, y 275, y 276, y 277, y 278, y 279, y 280, y 281, y 282, y 283, y 284, y 285, y 286, y 287, y 288, y 289, y 290, y 291, y 292, y 293, y 294, y 295, y 296, y 297, y 298, y 299, y 300, y 301, y 302, y 303, y 304, y 305, y 306, y 307, y 308, y 309, y 310, y 311, y 312, y 313, y 314, y 315, y 316, y 317, y 318, y 319, y 320, y 321, y 322, y 323, y 324, y 325, y 326, y 327, y 328, y 329, y 330, y 331, y 332, y 333, y 334, y 335, y 336, y 337, y 338, y 339, y 340, y 341, y 342, y 343, y 344, y 345, y 346, y 347, y 348, y 349, y 350, y 351, y 352, y 353, y 354, y 355, y 356, y 357, y 358, y 359, y 360, y 361, y 362, y 363, y 364, y 365, y 366, y 367, y 368, y 369, y 370, y 371, y 372, y 373, y 374, y 375, y 376, y 377, y 378, y 379, y 380, y 381, y 382, y 383, y 384, y 385, y 386, y 387, y 388, y 389, y 390, y 391, y 392, y 393, y 394, y 395, y 396, y 397, y 398, y 399, y 400, y 401, y 402, y 403, y 404, y 405, y 406, y 407, y 408, y 409, y 410, y 411, y 412, y 413, y 414, y 415, y 416, y 417, y 418, y 419, y 420, y 421, y 422, y 423, y 424, y 425, y 426, y 427, y 428, y 429, y 430, y 431, y 432, y 433, y 434, y 435, y 436, y 437, y 438, y 439, y 440, y 441, y 442, y 443, y 444, y 445, y 446, y 447, y 448, y 449, y 450], defers := [] } := by
  obtain ⟨tmps, defers⟩ := a
  have yd : defers = [] := hd
  subst yd
  obtain ⟨y, hy, hi⟩ := arr_451 tmps hs
  have e0 := (hi 0).trans h0
  have e2 := (hi 2).trans h2
  have e3 := (hi 3).trans h3
  have e4 := (hi 4).trans h4
  have e5 := (hi 5).trans h5
  have e10 := (hi 10).trans h10
  have e11 := (hi 11).trans h11
  have e12 := (hi 12).trans h12
  rw [e0, e2, e3, e4, e5, e10, e11, e12] at hy
  exact ⟨y, congrArg (fun t => (⟨t, []⟩ : Act)) hy⟩
set_option maxRecDepth 40000 in
theorem litr14 {a : Act} {u0 u2 u3 u4 u5 u10 u11 u12 u13 u14 : Value} (hs : a.tmps.size = 451) (hd : a.defers = []) (h0 : a.tmps.getD 0 undef = u0) (h2 : a.tmps.getD 2 undef = u2) (h3 : a.tmps.getD 3 undef = u3) (h4 : a.tmps.getD 4 undef = u4) (h5 : a.tmps.getD 5 undef = u5) (h10 : a.tmps.getD 10 undef = u10) (h11 : a.tmps.getD 11 undef = u11) (h12 : a.tmps.getD 12 undef = u12) (h13 : a.tmps.getD 13 undef = u13) (h14 : a.tmps.getD 14 undef = u14) : ∃ y : Nat → Value, a = { tmps := #[u0, y 1, u2, u3, u4, u5, y 6, y 7, y 8, y 9, u10, u11, u12, u13, u14, y 15, y 16, y 17, y 18, y 19, y 20, y 21, y 22, y 23, y 24, y 25, y 26, y 27, y 28, y 29, y 30, y 31, y 32, y 33, y 34, y 35, y 36, y 37, y 38, y 39, y 40, y 41, y 42, y 43, y 44, y 45, y 46, y 47, y 48, y 49, y 50, y 51, y 52, y 53, y 54, y 55, y 56, y 57, y 58, y 59, y 60, y 61, y 62, y 63, y 64, y 65, y 66, y 67, y 68, y 69, y 70, y 71, y 72, y 73, y 74, y 75, y 76, y 77, y 78, y 79, y 80, y 81, y 82, y 83, y 84, y 85, y 86, y 87, y 88, y 89, y 90, y 91, y 92, y 93, y 94, y 95, y 96, y 97, y 98, y 99, y 100, y 101, y 102, y 103, y 104, y 105, y 106, y 107, y 108, y 109, y 110, y 111, y 112, y 113, y 114, y 115, y 116, y 117, y 118, y 119, y 120, y 121, y 122, y 123, y 124, y 125, y 126, y 127, y 128, y 129, y 130, y 131, y 132, y 133, y 134, y 135, y 136, y 137, y 138, y 139, y 140, y 141, y 142, y 143, y 144, y 145, y 146, y 147, y 148, y 149, y 150, y 151, y 152, y 153, y 154, y 155, y 156, y 157, y 158, y 159, y 160, y 161, y 162, y 163, y 164, y 165, y 166, y 167, y 168, y 169, y 170, y 171, y 172, y 173, y 174, y 175, y 176, y 177, y 178, y 179, y 180, y 181, y 182, y 183, y 184, y 185, y 186, y 187, y 188, y 189, y 190, y 191, y 192, y 193, y 194, y 195, y 196, y 197, y 198, y 199, y 200, y 201, y 202, y 203, y 204, y 205, y 206, y 207, y 208, y 209, y 210, y 211, y 212, y 213, y 214, y 215, y 216, y 217, y 218, y 219, y 220, y 221, y 222, y 223, y 224, y 225, y 226, y 227, y 228, y 229, y 230, y 231, y 232, y 233, y 234, y 235, y 236, y 237, y 238, y 239, y 240, y 241, y 242, y 243, y 244, y 245, y 246, y 247, y 248, y 249, y 250, y 251, y 252, y 253, y 254, y 255, y 256, y 257, y 258, y 259, y 260, y 261, y 262, y 263, y 264, y 265, y 266, y 267, y 268, y 269, y 270, y 271, y 272, y 273, y 274, y 275, y 276, y 277, y 278, y 279, y 280, y 281, y 282, y 283, y 284, y 285, y 286, y 287, y 288, y 289, y 290, y 291, y 292, y 293, y 294, y 295, y 296, y 297, y 298, y 299, y 300, y 301, y 302, y 303, y 304, y 305, y 306, y 307, y 308, y 309, y 310, y 311, y 312, y 313, y 314, y 315, y 316, y 317, y 318, y 319, y 320, y 321, y 322, y 323, y 324, y 325, y 326, y 327, y 328, y 329, y 330, y 331, y 332, y 333, y 334, y 335, y 336, y 337, y 338, y 339, y 340, y 341, y 342, y 343, y 344, y 345, y 346, y 347, y 348, y 349, y 350, y 351, y 352, y 353, y 354, y 355, y 356, y 357, y 358, y 359, y 360, y 361, y 362, y 363, y 364, y 365, y 366, y 367, y 368, y 369, y 370, y 371, y 372, y 373, y 374, y 375, y 376, y 377, y 378, y 379, y 380, y 381, y 382, y 383, y 384, y 385, y 386, y 387, y 388, y 389, y 390, y 391, y 392, y 393, y 394, y 395, y 396, y 397, y 398, y 399, y 400, y 401, y 402, y 403, y 404, y 405, y 406, y 407, y 408, y 409, y 410, y 411, y 412, y 413, y 414, y 415, y 416, y 417, y 418, y 419, y 420, y 421, y 422, y 423, y 424, y 425, y 426, y 427, y 428, y 429, y 430, y 431, y 432, y 433, y 434, y 435, y 436, y 437, y 438, y 439, y 440, y 441, y 442, y 443, y 444, y 445, y 446, y 447, y 448, y 449, y 450], defers := [] } := by
  obtain ⟨tmps, defers⟩ := a
  have yd : defers = [] := hd
  subst yd
  obtain ⟨y, hy, hi⟩ := arr_451 tmps hs
  have e0 := (hi 0).trans h0
  have e2 := (hi 2).trans h2
  have e3 := (hi 3).trans h3
  have e4 := (hi 4).trans h4
  have e5 := (hi 5).trans h5
  have e10 := (hi 10).trans h10
  have e11 := (hi 11).trans h11
  have e12 := (hi 12).trans h12
  have e13 := (hi 13).trans h13
  have e14 := (hi 14).trans h14
  rw [e0, e2, e3, e4, e5, e10, e11, e12, e13, e14] at hy
  exact ⟨y, congrArg (fun t => (⟨t, []⟩ : Act)) hy⟩
set_option maxRecDepth 40000 in
theorem litr16 {a : Act} {u0 u2 u3 u4 u5 u10 u11 u12 u13 u14 u15 u16 : Value} (hs : a.tmps.size = 451) (hd : a.defers = []) (h0 : a.tmps.getD 0 undef = u0) (h2 : a.tmps.getD 2 undef = u2) (h3 : a.tmps.getD 3 undef = u3) (h4 : a.tmps.getD 4 undef = u4) (h5 : a.tmps.getD 5 undef = u5) (h10 : a.tmps.getD 10 undef = u10) (h11 : a.tmps.getD 11 undef = u11) (h12 : a.tmps.getD 12 undef = u12) (h13 : a.tmps.getD 13 undef = u13) (h14 : a.tmps.getD 14 undef = u14) (h15 : a.tmps.getD 15 undef = u15) (h16 : a.tmps.getD 16 undef = u16) : ∃ y : Nat → Value, a = { tmps := #[u0, y 1, u2, u3, u4, u5, y 6, y 7, y 8, y 9, u10, u11, u12, u13, u14, u15, u16, y 17, y 18, y 19, y 20, y 21, y 22, y 23, y 24, y 25, y 26, y 27, y 28, y 29, y 30, y 31, y 32, y 33, y 34, y 35, y 36, y 37, y 38, y 39, y 40, y 41, y 42, y 43, y 44, y 45, y 46, y 47, y 48, y 49, y 50, y 51, y 52, y 53, y 54, y 55, y 56, y 57, y 58, y 59, y 60, y 61, y 62, y 63, y 64, y 65, y 66, y 67, y 68, y 69, y 70, y 71, y 72, y 73, y 74, y 75, y 76, y 77, y 78, y 79, y 80, y 81, y 82, y 83, y 84, y 85, y 86, y 87, y 88, y 89, y 90, y 91, y 92, y 93, y 94, y 95, y 96, y 97, y 98, y 99, y 100, y 101, y 102, y 103, y 104, y 105, y 106, y 107, y 108, y 109, y 110, y 111, y 112, y 113, y 114, y 115, y 116, y 117, y 118, y 119, y 120, y 121, y 122, y 123, y 124, y 125, y 126, y 127, y 128, y 129, y 130, y 131, y 132, y 133, y 134, y 135, y 136, y 137, y 138, y 139, y 140, y 141, y 142, y 143, y 144, y 145, y 146, y 147, y 148, y 149, y 150, y 151, y 152, y 153, y 154, y 155, y 156, y 157, y 158, y 159, y 160, y 161, y 162, y 163, y 164, y 165, y 166, y 167, y 168, y 169, y 170, y 171, y 172, y 173, y 174, y 175, y 176, y 177, y 178, y 179, y 180, y 181, y 182, y 183, y 184, y 185, y 186, y 187, y 188, y 189, y 190, y 191, y 192, y 193, y 194, y 195, y 196, y 197, y 198, y 199, y 200, y 201, y 202, y 203, y 204, y 205, y 206, y 207, y 208, y 209, y 210, y 211, y 212, y 213, y 214, y 215, y 216, y 217, y 218, y 219, y 220, y 221, y 222, y 223, y 224, y 225, y 226, y 227, y 228, y 229, y 230, y 231, y 232, y 233, y 234, y 235, y 236, y 237, y 238, y 239, y 240, y 241, y 242, y 243, y 244, y 245, y 246, y 247, y 248, y 249, y 250, y 251, y 252, y 253, y 254, y 255, y 256, y 257, y 258, y 259, y 260, y 261, y 262, y 263, y 264, y 265, y 266, y 267, y 268, y 269, y 270, y 271, y 272, y 273, y 274, y 275, y 276, y 277, y 278, y 279, y 280, y 281, y 282, y 283, y 284, y 285, y 286, y 287, y 288, y 289, y 290, y 291, y 292, y 293, y 294, y 295, y 296, y 297, y 298, y 299, y 300, y 301, y 302, y 303, y 304, y 305, y 306, y 307, y 308, y 309, y 310, y 311, y 312, y 313, y 314, y 315, y 316, y 317, y 318, y 319, y 320, y 321, y 322, y 323, y 324, y 325, y 326, y 327, y 328, y 329, y 330, y 331, y 332, y 333, y 334, y 335, y 336, y 337, y 338, y 339, y 340, y 341, y 342, y 343, y 344, y 345, y 346, y 347, y 348, y 349, y 350, y 351, y 352, y 353, y 354, y 355, y 356, y 357, y 358, y 359, y 360, y 361, y 362, y 363, y 364, y 365, y 366, y 367, y 368, y 369, y 370, y 371, y 372, y 373, y 374, y 375, y 376, y 377, y 378, y 379, y 380, y 381, y 382, y 383, y 384, y 385, y 386, y 387, y 388, y 389, y 390, y 391, y 392, y 393, y 394, y 395, y 396, y 397, y 398, y 399, y 400, y 401, y 402, y 403, y 404, y 405, y 406, y 407, y 408, y 409, y 410, y 411, y 412, y 413, y 414, y 415, y 416, y 417, y 418, y 419, y 420, y 421, y 422, y 423, y 424, y 425, y 426, y 427, y 428, y 429, y 430, y 431, y 432, y 433, y 434, y 435, y 436, y 437, y 438, y 439, y 440, y 441, y 442, y 443, y 444, y 445, y 446, y 447, y 448, y 449, y 450], defers := [] } := by
  obtain ⟨tmps, defers⟩ := a
  have yd : defers = [] := hd
  subst yd
  obtain ⟨y, hy, hi⟩ := arr_451 tmps hs
  have e0 := (hi 0).trans h0
  have e2 := (hi 2).trans h2
  have e3 := (hi 3).trans h3
  have e4 := (hi 4).trans h4
  have e5 := (hi 5).trans h5
  have e10 := (hi 10).trans h10
  have e11 := (hi 11).trans h11
  have e12 := (hi 12).trans h12
  have e13 := (hi 13).trans h13
  have e14 := (hi 14).trans h14
  have e15 := (hi 15).trans h15
  have e16 := (hi 16).trans h16
  rw [e0, e2, e3, e4, e5, e10, e11, e12, e13, e14, e15, e16] at hy
  exact ⟨y, congrArg (fun t => (⟨t, []⟩ : Act)) hy⟩

set_option maxRecDepth 40000 in
set_option maxHeartbeats 4000000 in
/-- Regions 23 and 24. -/
theorem md_5 (w0 : World) (G : GR) (a0 : Option Addr) (k0 ga gm g0 g1 g2 g3 : Nat) (ok : G.Ok) (D : Fam) (wr : World) (hD : DGr w0 G ga gm g0 g1 g2 g3 (fun _ => 0) (fun _ => false) D wr) (a : Act) (hf : FE a0 G.n k0 ga gm G.E a) (tail : Code) (Z : Ending → World → Prop)
    (hT : ∀ (a : Act) (w' : World) (g4 g5 : Nat), FR a0 G.n k0 ga gm G.E g4 g5 (G.n * G.n) a → BMX w0 G ga gm g0 g1 g2 g3 g4 g5 (C4 G 0) w' → Code.wp Try.prog tail (bodyPost Try.prog Try.f10 fun e w' => Z e w') a w') :
    Code.wp Try.prog (rt 2 (tl 12 (Try.f10.body.getD .skip)) tail) (bodyPost Try.prog Try.f10 fun e w' => Z e w') a wr := by
  obtain ⟨y, rfl⟩ := litr0 hf.fm.sz hf.fm.df hf.fm.s0 hf.fm.s2 hf.fm.s3 hf.fm.s4 hf.s5
  obtain ⟨i3, hi3, hz30, hz31, hz32⟩ := info_parts Try.info3
  obtain ⟨i4, hi4, hz40, hz41, hz42⟩ := info_parts Try.info4
  have hn := ok.n
  have hm : G.n * G.n ≤ 16777216 := Nat.mul_le_mul hn hn
  have hw : IntKind.i64.wrap ((G.n : Int) * (G.n : Int)) = ((G.n * G.n : Nat) : Int) := by
    rw [← Int.natCast_mul, IntKind.wrap_i64]; omega
  have HTL : Hid (∀ (a : Act) (w' : World) (g4 g5 : Nat), FR a0 G.n k0 ga gm G.E g4 g5 (G.n * G.n) a → BMX w0 G ga gm g0 g1 g2 g3 g4 g5 (C4 G 0) w' → Code.wp Try.prog tail (bodyPost Try.prog Try.f10 fun e w' => Z e w') a w') := hT
  have fin0 : ∀ g4 g5 w1 w2, Fresh wr w1 4 1 g4 (G.n * G.n) (G.n * G.n) (fun _ => .bool false) → Fresh w1 w2 3 1 g5 G.n G.n (fun _ => .int .i64 0) → BMX w0 G ga gm g0 g1 g2 g3 g4 g5 (C4 G 0) w2 := by
    intro g4 g5 w1 w2 f1 f2
    refine ⟨fun _ _ => false, fun _ => 0, _, ⟨DS.freshA (r := 5) (DS.freshA (r := 4) hD ⟨by omega, by omega, by omega⟩ rfl f1) ⟨by omega, by omega, by omega⟩ rfl f2, ?_, ?_, put_bs, ?_⟩, RS.zero G⟩
    · rw [put_b (by omega), put_bs]
    · exact Bools.put_ne ⟨put_ns, fun j hj => by rw [put_Fs]; rfl⟩ (by omega)
    · exact ⟨put_ns, fun j hj => by rw [put_Fs]; rfl⟩
  generalize G.n * G.n = m at *
  obtain ⟨mk, hmk, hfr⟩ := make_fun (P := Try.prog) 27 4 i4 (.bool false) 1 1 (.bool false) Try.underlying27 hi4 hz40 hz41 hz42 rfl (by decide) zeroB m (by omega) (by omega)
  obtain ⟨mq, hmq, hfq⟩ := make_fun (P := Try.prog) 26 3 i3 (.int .i64 0) 1 8 (.int .i64 0) Try.underlying26 hi3 hz30 hz31 hz32 rfl (by decide) zero1 G.n (by omega) (by omega)
  have fin : Hid (BMX w0 G ga gm g0 g1 g2 g3 wr.heap.size (mk wr).heap.size (C4 G 0) (mq (mk wr))) := fin0 _ _ _ _ (hfr wr) (hfq (mk wr))
  clear hT hD hf hfr hfq fin0 hi3 hz30 hz31 hz32 hi4 hz40 hz41 hz42
  simp only [tl, rt, Try.f10, Option.getD]
  go_wp2
  exact HTL.out _ _ wr.heap.size (mk wr).heap.size ⟨⟨⟨by kernel_rfl, by kernel_rfl, by kernel_rfl, by kernel_rfl, by kernel_rfl, by kernel_rfl⟩, by kernel_rfl⟩, by kernel_rfl, by kernel_rfl⟩ fin.out

def BL4 (w0 : World) (G : GR) (a0 : Option Addr) (k0 ga gm g0 g1 g2 g3 g4 g5 m : Nat) (a : Act) (w : World) : Prop :=
  FR a0 G.n k0 ga gm G.E g4 g5 m a ∧ ∃ u : Nat, a.tmps.getD 12 undef = .int .i64 (u : Int) ∧ u ≤ G.n ∧ BMX w0 G ga gm g0 g1 g2 g3 g4 g5 (C4 G u) w
def BL5 (w0 : World) (G : GR) (a0 : Option Addr) (k0 ga gm g0 g1 g2 g3 g4 g5 m u : Nat) (a : Act) (w : World) : Prop :=
  FR a0 G.n k0 ga gm G.E g4 g5 m a ∧ a.tmps.getD 12 undef = .int .i64 (u : Int) ∧ ∃ h t : Nat, a.tmps.getD 13 undef = .int .i64 (h : Int) ∧ a.tmps.getD 14 undef = .int .i64 (t : Int) ∧ h ≤ t ∧ BMX w0 G ga gm g0 g1 g2 g3 g4 g5 (C5 G u h t) w
def BL6 (w0 : World) (G : GR) (a0 : Option Addr) (k0 ga gm g0 g1 g2 g3 g4 g5 m u h x : Nat) (a : Act) (w : World) : Prop :=
  FR a0 G.n k0 ga gm G.E g4 g5 m a ∧ a.tmps.getD 12 undef = .int .i64 (u : Int) ∧ a.tmps.getD 13 undef = .int .i64 ((h + 1 : Nat) : Int) ∧ a.tmps.getD 15 undef = .int .i64 (x : Int) ∧ ∃ k t : Nat, a.tmps.getD 16 undef = .int .i64 (k : Int) ∧ a.tmps.getD 14 undef = .int .i64 (t : Int) ∧ k ≤ G.d x ∧ h < t ∧ BMX w0 G ga gm g0 g1 g2 g3 g4 g5 (C6 G u h t x k) w

set_option maxRecDepth 40000 in
set_option maxHeartbeats 8000000 in
/-- The searches. -/
theorem md_6 (w0 : World) (N : Fam) (G : GR) (a0 : Option Addr) (k0 ga gm g0 g1 g2 g3 g4 g5 m : Nat) (hm : m = G.n * G.n) (ok : G.Ok) (hG : GM w0 N G a0 k0) (wr : World) (hI : BMX w0 G ga gm g0 g1 g2 g3 g4 g5 (C4 G 0) wr) (a : Act) (hf : FR a0 G.n k0 ga gm G.E g4 g5 m a) (Q : Exit → Act → World → Prop)
    (hC : ∀ (a : Act) (w : World), FR a0 G.n k0 ga gm G.E g4 g5 m a → BMX w0 G ga gm g0 g1 g2 g3 g4 g5 (C4 G G.n) w → Q .normal a w) :
    Code.wp Try.prog (sL (tl 14 (Try.f10.body.getD .skip))) Q a wr := by
  obtain ⟨y, rfl⟩ := litr hf.fe.fm.sz hf.fe.fm.df hf.fe.fm.s0 hf.fe.fm.s2 hf.fe.fm.s3 hf.fe.fm.s4 hf.fe.s5 hf.s10 hf.s11
  have HG : Hid (GM w0 N G a0 k0) := hG
  have HO : Hid G.Ok := ok
  have HI : Hid (BMX w0 G ga gm g0 g1 g2 g3 g4 g5 (C4 G 0) wr) := hI
  have HM : Hid (m = G.n * G.n) := hm
  have hn := ok.n
  have hE := ok.E
  have hm2 : m ≤ 16777216 := by rw [hm]; exact Nat.mul_le_mul hn hn
  have HC : Hid (∀ (a : Act) (w : World), FR a0 G.n k0 ga gm G.E g4 g5 m a → BMX w0 G ga gm g0 g1 g2 g3 g4 g5 (C4 G G.n) w → Q .normal a w) := hC
  clear hf hG ok hC hI hm
  show Code.wp Try.prog (Code.seq _ (Code.block 6 (Code.loop (Code.seq (Code.seq _ (Code.cond (.tmp 108) Code.skip (Code.exit 6))) (Code.seq (Code.block 7 (Code.seq _ (Code.seq _ (Code.seq _ (Code.seq _ (Code.block 8 (Code.loop (Code.seq (Code.seq _ (Code.cond (.tmp 123) Code.skip (Code.exit 8))) (Code.block 9 (Code.seq _ (Code.seq _ (Code.seq _ (Code.block 10 (Code.loop (Code.seq (Code.seq _ (Code.cond (.tmp 136) Code.skip (Code.exit 10))) (Code.seq (Code.block 11 (Code.seq _ (Code.seq _ (Code.cond (.tmp 154) (Code.seq _ (Code.seq _ _)) Code.skip)))) _)))))))))))))))) _))))) Q _ wr
  refine wp_seq_k (fun K1 hK => ?_)
  have HK1 : Hid (∀ (a : Act) (w : World), _ → K1 a w) := hK
  clear hK
  go_wp2
  refine HK1.out _ _ ?_
  clear HK1 K1
  refine wp_block ?_
  refine wp_loop (BL4 w0 G a0 k0 ga gm g0 g1 g2 g3 g4 g5 m) (fun a _ => mus 12 G.n a) ⟨⟨⟨⟨by kernel_rfl, by kernel_rfl, by kernel_rfl, by kernel_rfl, by kernel_rfl, by kernel_rfl⟩, by kernel_rfl⟩, by kernel_rfl, by kernel_rfl⟩, 0, by kernel_rfl, Nat.zero_le _, HI.out⟩ ?_
  clear HI
  rintro a w' ⟨hf, u, h12, u1, hI⟩
  have HI : Hid (BMX w0 G ga gm g0 g1 g2 g3 g4 g5 (C4 G u) w') := hI
  have e12 : mus 12 G.n a = G.n - u := congrArg (fun v => G.n - (intOf v).toNat) h12
  obtain ⟨y2, rfl⟩ := litr12 hf.fe.fm.sz hf.fe.fm.df hf.fe.fm.s0 hf.fe.fm.s2 hf.fe.fm.s3 hf.fe.fm.s4 hf.fe.s5 hf.s10 hf.s11 h12
  rw [e12]
  clear e12 hf h12 hI
  refine wp_seq_k (fun K1 hK => ?_)
  have HK1 : Hid (∀ (a : Act) (w : World), _ → K1 a w) := hK
  clear hK
  refine wp_seq_k (fun K2 hK => ?_)
  have HK2 : Hid (∀ (a : Act) (w : World), _ → K2 a w) := hK
  clear hK
  by_cases hu : u < G.n
  · have huu : (u : Int) < (G.n : Int) := by omega
    go_wp2
    refine HK2.out _ _ (wp_cond_true (by kernel_rfl) (wp_skip ?_))
    refine HK1.out _ _ ?_
    clear HK1 K1 HK2 K2
    refine wp_seq_k (fun K1 hK => ?_)
    have HK1 : Hid (∀ (a : Act) (w : World), _ → K1 a w) := hK
    clear hK
    refine wp_block ?_
    obtain ⟨R, Qu, D, hB, hc⟩ := HI.out
    obtain ⟨r, hr⟩ : ∃ r, r = u * G.n := ⟨_, rfl⟩
    have HR : Hid (r = u * G.n) := hr
    have hrm : r + G.n ≤ m := by
      have h1 : (u + 1) * G.n ≤ G.n * G.n := Nat.mul_le_mul_right _ hu
      rw [Nat.succ_mul] at h1
      rw [HM.out, hr]; exact h1
    have hw1 : IntKind.i64.wrap ((u : Int) * (G.n : Int)) = (r : Int) := by
      rw [← Int.natCast_mul, ← hr, IntKind.wrap_i64]; omega
    obtain ⟨q, hq⟩ : ∃ q, q = r + u := ⟨_, rfl⟩
    have hw2 : IntKind.i64.wrap ((r : Int) + (u : Int)) = (q : Int) := by rw [IntKind.wrap_i64]; omega
    have hqm : q < m := by omega
    have hqi : (q : Int) < (m : Int) := by omega
    have x1 : w'.cell? ⟨g4, q, none⟩ = some (.bool (R u u)) := by rw [hq, hr]; exact hB.cell4 hu hu
    have f1 := hB.ds.rep.frozen hB.b4 q
    have x2 := hB.cell5 (show 0 < G.n by omega)
    have f2 : (w'.setCell ⟨g4, q, none⟩ (.bool true)).frozen? ⟨g5, 0, none⟩ = false := (hB.ds.rep.set hB.b4 q (.bool true)).frozen (i := 5) hB.b5 0
    have n1 : g5 ≠ g4 := fun e => absurd (hB.ds.rep.inj 5 4 g5 hB.b5 (by rw [e]; exact hB.b4)) (by decide)
    have fin : Hid (BMX w0 G ga gm g0 g1 g2 g3 g4 g5 (C5 G u 0 1) ((w'.setCell ⟨g4, q, none⟩ (.bool true)).setCell ⟨g5, 0, none⟩ (.int .i64 (u : Int)))) := by
      have h1 := (hB.seen u hu).enq 0 u
      rw [← hr, ← hq] at h1
      exact ⟨_, _, _, h1, RS.start hc hu, up_same _ _ _, fun j k hj => absurd hj (Nat.not_lt_zero _)⟩
    have n0 : (0 : Int) < (G.n : Int) := by omega
    clear HI hB hc hr hq
    generalize R u u = v0 at *
    generalize Qu 0 = v1 at *
    refine wp_seq_k (fun K2 hK => ?_)
    have HK2 : Hid (∀ (a : Act) (w : World), _ → K2 a w) := hK
    clear hK
    go_wp2
    refine HK2.out _ _ ?_
    clear HK2 K2
    have x2' : (w'.setCell ⟨g4, q, none⟩ (.bool true)).cell? ⟨g5, 0, none⟩ = some (.int .i64 (v1 : Int)) := (cell_ne n1).trans x2
    clear x1 x2 f1
    generalize w'.setCell ⟨g4, q, none⟩ (.bool true) = wv at *
    refine wp_seq_k (fun K2 hK => ?_)
    have HK2 : Hid (∀ (a : Act) (w : World), _ → K2 a w) := hK
    clear hK
    go_wp2
    refine HK2.out _ _ ?_
    clear HK2 K2 x2' f2
    generalize wv.setCell ⟨g5, 0, none⟩ (.int .i64 (u : Int)) = wu at *
    refine wp_seq_k (fun K2 hK => ?_)
    have HK2 : Hid (∀ (a : Act) (w : World), _ → K2 a w) := hK
    clear hK
    go_wp2
    refine HK2.out _ _ ?_
    clear HK2 K2
    refine wp_seq_k (fun K2 hK => ?_)
    have HK2 : Hid (∀ (a : Act) (w : World), _ → K2 a w) := hK
    clear hK
    go_wp2
    refine HK2.out _ _ ?_
    clear HK2 K2 hw2 hqm hqi
    refine wp_block ?_
    refine wp_loop (BL5 w0 G a0 k0 ga gm g0 g1 g2 g3 g4 g5 m u) (fun a _ => mus 13 G.n a) ⟨⟨⟨⟨by kernel_rfl, by kernel_rfl, by kernel_rfl, by kernel_rfl, by kernel_rfl, by kernel_rfl⟩, by kernel_rfl⟩, by kernel_rfl, by kernel_rfl⟩, by kernel_rfl, 0, 1, by kernel_rfl, by kernel_rfl, Nat.zero_le _, fin.out⟩ ?_
    clear fin
    rintro a w' ⟨hf, h12, h, t, h13, h14, hht, hI⟩
    have HI : Hid (BMX w0 G ga gm g0 g1 g2 g3 g4 g5 (C5 G u h t) w') := hI
    have e13 : mus 13 G.n a = G.n - h := congrArg (fun v => G.n - (intOf v).toNat) h13
    obtain ⟨y3, rfl⟩ := litr14 hf.fe.fm.sz hf.fe.fm.df hf.fe.fm.s0 hf.fe.fm.s2 hf.fe.fm.s3 hf.fe.fm.s4 hf.fe.s5 hf.s10 hf.s11 h12 h13 h14
    rw [e13]
    clear e13 hf h12 h13 h14
    obtain ⟨R, Qu, D, hB, hc⟩ := hI
    have htn := hc.1.le
    refine wp_seq_k (fun K2 hK => ?_)
    have HK2 : Hid (∀ (a : Act) (w : World), _ → K2 a w) := hK
    clear hK
    refine wp_seq_k (fun K3 hK => ?_)
    have HK3 : Hid (∀ (a : Act) (w : World), _ → K3 a w) := hK
    clear hK
    by_cases hh : h < t
    · have hhi : (h : Int) < (t : Int) := by omega
      have hhn : (h : Int) < (G.n : Int) := by omega
      have x1 := hB.cell5 (show h < G.n by omega)
      have hx := hc.1.ql h hh
      have HI2 : Hid (BMX w0 G ga gm g0 g1 g2 g3 g4 g5 (C6 G u h t (Qu h) 0) w') := ⟨R, Qu, D, hB, hc.1, hc.2.1, hc.2.2, rfl, fun k' hk => absurd hk (Nat.not_lt_zero _)⟩
      clear HI hB hc
      generalize Qu h = x at *
      go_wp2
      refine HK3.out _ _ (wp_cond_true (by kernel_rfl) (wp_skip ?_))
      refine HK2.out _ _ ?_
      clear HK2 K2 HK3 K3
      refine wp_block ?_
      refine wp_seq_k (fun K2 hK => ?_)
      have HK2 : Hid (∀ (a : Act) (w : World), _ → K2 a w) := hK
      clear hK
      go_wp2
      refine HK2.out _ _ ?_
      clear HK2 K2
      refine wp_seq_k (fun K2 hK => ?_)
      have HK2 : Hid (∀ (a : Act) (w : World), _ → K2 a w) := hK
      clear hK
      go_wp2
      refine HK2.out _ _ ?_
      clear HK2 K2
      refine wp_seq_k (fun K2 hK => ?_)
      have HK2 : Hid (∀ (a : Act) (w : World), _ → K2 a w) := hK
      clear hK
      go_wp2
      refine HK2.out _ _ ?_
      clear HK2 K2 x1
      refine wp_block ?_
      refine wp_loop (BL6 w0 G a0 k0 ga gm g0 g1 g2 g3 g4 g5 m u h x) (fun a _ => mus 16 (G.d x) a) ⟨⟨⟨⟨by kernel_rfl, by kernel_rfl, by kernel_rfl, by kernel_rfl, by kernel_rfl, by kernel_rfl⟩, by kernel_rfl⟩, by kernel_rfl, by kernel_rfl⟩, by kernel_rfl, by kernel_rfl, by kernel_rfl, 0, t, by kernel_rfl, by kernel_rfl, Nat.zero_le _, hh, HI2.out⟩ ?_
      clear HI2 hht hh hhi htn
      rintro a w' ⟨hf, h12, h13, h15, k, t, h16, h14, hkd, hh, hI⟩
      have e16 : mus 16 (G.d x) a = G.d x - k := congrArg (fun v => G.d x - (intOf v).toNat) h16
      obtain ⟨y4, rfl⟩ := litr16 hf.fe.fm.sz hf.fe.fm.df hf.fe.fm.s0 hf.fe.fm.s2 hf.fe.fm.s3 hf.fe.fm.s4 hf.fe.s5 hf.s10 hf.s11 h12 h13 h14 h15 h16
      rw [e16]
      clear e16 hf h12 h13 h14 h15 h16
      refine wp_seq_k (fun K2 hK => ?_)
      have HK2 : Hid (∀ (a : Act) (w : World), _ → K2 a w) := hK
      clear hK
      refine wp_seq_k (fun K3 hK => ?_)
      have HK3 : Hid (∀ (a : Act) (w : World), _ → K3 a w) := hK
      clear hK
      obtain ⟨R, Qu, D, hB, hc⟩ := hI
      have htn := hc.1.le
      have hGw := HG.out.kept hB.ds.grew
      obtain ⟨g, ha, lc, xh⟩ := hGw.cell hx
      subst ha
      have hxx : (x : Int) < (G.n : Int) := by omega
      by_cases hk : k < G.d x
      · have hkk : (k : Int) < ((G.d x : Nat) : Int) := by omega
        obtain ⟨gr, har, hkr, xr⟩ := hGw.entry hx hk
        rw [har] at xh
        simp only [Option.map_some] at xh
        have hkb : k < 4096 := by have := G.fst_lt hx hk; omega
        have htl := HO.out.t x k hx hk
        have x4 := hB.cell4 hu htl
        rw [← HR.out] at x4
        have f4 := hB.ds.rep.frozen hB.b4 (r + G.t x k)
        have n1 : g5 ≠ g4 := fun e => absurd (hB.ds.rep.inj 5 4 g5 hB.b5 (by rw [e]; exact hB.b4)) (by decide)
        by_cases hr : R u (G.t x k) = true
        · have fin : Hid (BMX w0 G ga gm g0 g1 g2 g3 g4 g5 (C6 G u h t x (k + 1)) w') := ⟨R, Qu, D, hB, hc.old hr⟩
          rw [hr] at x4
          clear hB hc hGw har
          generalize G.t x k = b at *
          obtain ⟨q, hq⟩ : ∃ q, q = r + b := ⟨_, rfl⟩
          rw [← hq] at x4
          have hw2 : IntKind.i64.wrap ((r : Int) + (b : Int)) = (q : Int) := by rw [IntKind.wrap_i64]; omega
          have hqm : q < m := by omega
          have hqi : (q : Int) < (m : Int) := by omega
          clear hq hr f4
          generalize N.cap (1 + x) = kr at *
          go_wp2
          refine HK3.out _ _ (wp_cond_true (by kernel_rfl) (wp_skip ?_))
          refine HK2.out _ _ ?_
          clear HK2 K2 HK3 K3
          refine wp_seq_k (fun K2 hK => ?_)
          have HK2 : Hid (∀ (a : Act) (w : World), _ → K2 a w) := hK
          clear hK
          refine wp_block ?_
          refine wp_seq_k (fun K3 hK => ?_)
          have HK3 : Hid (∀ (a : Act) (w : World), _ → K3 a w) := hK
          clear hK
          go_wp2
          refine HK3.out _ _ ?_
          clear HK3 K3
          refine wp_seq_k (fun K3 hK => ?_)
          have HK3 : Hid (∀ (a : Act) (w : World), _ → K3 a w) := hK
          clear hK
          go_wp2
          refine HK3.out _ _ ?_
          clear HK3 K3
          refine wp_cond_false (by kernel_rfl) (wp_skip ?_)
          refine HK2.out _ _ ?_
          clear HK2 K2
          go_wp2
          exact ⟨⟨⟨⟨⟨by kernel_rfl, by kernel_rfl, by kernel_rfl, by kernel_rfl, by kernel_rfl, by kernel_rfl⟩, by kernel_rfl⟩, by kernel_rfl, by kernel_rfl⟩, by kernel_rfl, by kernel_rfl, by kernel_rfl, k + 1, t, by kernel_rfl, by kernel_rfl, by omega, hh, fin.out⟩, Nat.lt_of_le_of_lt (Nat.le_of_eq (by kernel_rfl : _ = G.d x - (k + 1))) (by omega)⟩
        · have hr : R u (G.t x k) = false := by simpa using hr
          have c6 := hc.new HO.out hh hk hr
          have htn2 := c6.1.le
          have h1 := (hB.seen u htl).enq t (G.t x k)
          rw [← HR.out] at h1
          have fin : Hid (BMX w0 G ga gm g0 g1 g2 g3 g4 g5 (C6 G u h (t + 1) x (k + 1)) ((w'.setCell ⟨g4, r + G.t x k, none⟩ (.bool true)).setCell ⟨g5, t, none⟩ (.int .i64 ((G.t x k : Nat) : Int)))) := ⟨_, _, _, h1, c6⟩
          rw [hr] at x4
          have x5 := hB.cell5 (show t < G.n by omega)
          have f5 : (w'.setCell ⟨g4, r + G.t x k, none⟩ (.bool true)).frozen? ⟨g5, t, none⟩ = false := (hB.ds.rep.set hB.b4 (r + G.t x k) (.bool true)).frozen (i := 5) hB.b5 t
          have htt : (t : Int) < (G.n : Int) := by omega
          clear hB hc hGw har c6 h1
          generalize Qu t = v5 at *
          generalize G.t x k = b at *
          obtain ⟨q, hq⟩ : ∃ q, q = r + b := ⟨_, rfl⟩
          rw [← hq] at x4 f4 f5 fin
          have hw2 : IntKind.i64.wrap ((r : Int) + (b : Int)) = (q : Int) := by rw [IntKind.wrap_i64]; omega
          have hqm : q < m := by omega
          have hqi : (q : Int) < (m : Int) := by omega
          have x5' : (w'.setCell ⟨g4, q, none⟩ (.bool true)).cell? ⟨g5, t, none⟩ = some (.int .i64 (v5 : Int)) := (cell_ne n1).trans x5
          clear hq hr x5
          generalize N.cap (1 + x) = kr at *
          go_wp2
          refine HK3.out _ _ (wp_cond_true (by kernel_rfl) (wp_skip ?_))
          refine HK2.out _ _ ?_
          clear HK2 K2 HK3 K3
          refine wp_seq_k (fun K2 hK => ?_)
          have HK2 : Hid (∀ (a : Act) (w : World), _ → K2 a w) := hK
          clear hK
          refine wp_block ?_
          refine wp_seq_k (fun K3 hK => ?_)
          have HK3 : Hid (∀ (a : Act) (w : World), _ → K3 a w) := hK
          clear hK
          go_wp2
          refine HK3.out _ _ ?_
          clear HK3 K3
          refine wp_seq_k (fun K3 hK => ?_)
          have HK3 : Hid (∀ (a : Act) (w : World), _ → K3 a w) := hK
          clear hK
          go_wp2
          refine HK3.out _ _ ?_
          clear HK3 K3 xh xr
          refine wp_cond_true (by kernel_rfl) ?_
          refine wp_seq_k (fun K3 hK => ?_)
          have HK3 : Hid (∀ (a : Act) (w : World), _ → K3 a w) := hK
          clear hK
          go_wp2
          refine HK3.out _ _ ?_
          clear HK3 K3 x4 f4
          generalize w'.setCell ⟨g4, q, none⟩ (.bool true) = wv at *
          refine wp_seq_k (fun K3 hK => ?_)
          have HK3 : Hid (∀ (a : Act) (w : World), _ → K3 a w) := hK
          clear hK
          go_wp2
          refine HK3.out _ _ ?_
          clear HK3 K3 x5' f5
          generalize wv.setCell ⟨g5, t, none⟩ (.int .i64 (b : Int)) = wu at *
          go_wp2
          refine HK2.out _ _ ?_
          clear HK2 K2
          go_wp2
          exact ⟨⟨⟨⟨⟨by kernel_rfl, by kernel_rfl, by kernel_rfl, by kernel_rfl, by kernel_rfl, by kernel_rfl⟩, by kernel_rfl⟩, by kernel_rfl, by kernel_rfl⟩, by kernel_rfl, by kernel_rfl, by kernel_rfl, k + 1, t + 1, by kernel_rfl, by kernel_rfl, by omega, by omega, fin.out⟩, Nat.lt_of_le_of_lt (Nat.le_of_eq (by kernel_rfl : _ = G.d x - (k + 1))) (by omega)⟩
      · have hkk : ¬ (k : Int) < ((G.d x : Nat) : Int) := by omega
        obtain rfl : k = G.d x := by omega
        have fin : Hid (BMX w0 G ga gm g0 g1 g2 g3 g4 g5 (C5 G u (h + 1) t) w') := ⟨R, Qu, D, hB, hc.done⟩
        clear hB hc hGw
        generalize Option.map (fun g => (⟨g, 0, none⟩ : Addr)) (N.b (1 + x)) = ar at *
        generalize N.cap (1 + x) = kr at *
        go_wp2
        refine HK3.out _ _ (wp_cond_false (by kernel_rfl) (wp_exit ?_))
        exact ⟨⟨⟨⟨⟨by kernel_rfl, by kernel_rfl, by kernel_rfl, by kernel_rfl, by kernel_rfl, by kernel_rfl⟩, by kernel_rfl⟩, by kernel_rfl, by kernel_rfl⟩, by kernel_rfl, h + 1, t, by kernel_rfl, by kernel_rfl, by omega, fin.out⟩, Nat.lt_of_le_of_lt (Nat.le_of_eq (by kernel_rfl : _ = G.n - (h + 1))) (by omega)⟩
    · have hhi : ¬ (h : Int) < (t : Int) := by omega
      obtain rfl : h = t := by omega
      have fin : Hid (BMX w0 G ga gm g0 g1 g2 g3 g4 g5 (C4 G (u + 1)) w') := ⟨R, Qu, D, hB, hc.1.done HO.out hu hc.2.1 hc.2.2⟩
      clear HI hB hc
      go_wp2
      refine HK3.out _ _ (wp_cond_false (by kernel_rfl) (wp_exit ?_))
      refine HK1.out _ _ ?_
      clear HK1 K1 HK2 K2 HK3 K3
      go_wp2
      exact ⟨⟨⟨⟨⟨by kernel_rfl, by kernel_rfl, by kernel_rfl, by kernel_rfl, by kernel_rfl, by kernel_rfl⟩, by kernel_rfl⟩, by kernel_rfl, by kernel_rfl⟩, u + 1, by kernel_rfl, by omega, fin.out⟩, Nat.lt_of_le_of_lt (Nat.le_of_eq (by kernel_rfl : _ = G.n - (u + 1))) (by omega)⟩
  · have huu : ¬ (u : Int) < (G.n : Int) := by omega
    obtain rfl : u = G.n := by omega
    go_wp2
    refine HK2.out _ _ (wp_cond_false (by kernel_rfl) (wp_exit ?_))
    exact HC.out _ _ ⟨⟨⟨by kernel_rfl, by kernel_rfl, by kernel_rfl, by kernel_rfl, by kernel_rfl, by kernel_rfl⟩, by kernel_rfl⟩, by kernel_rfl, by kernel_rfl⟩ HI.out
end Go.Proofs.Qxb6602148a
