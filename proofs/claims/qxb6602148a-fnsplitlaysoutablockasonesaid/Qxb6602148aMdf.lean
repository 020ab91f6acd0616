/-
  'zzBuildModel': lists of edges in memory; 'groupOf'.
-/
import Derived.Test.Qxb6602148aMq
attribute [local go_sem] Go.Proofs.Qxb6602148a.yTo Go.Proofs.Qxb6602148a.yUpon
namespace Go.Proofs.Qxb6602148a
open Go.RowKit
set_option linter.unusedVariables false
set_option linter.unusedSimpArgs false

/-- Lists of edges: headers in row hr, the i-th list in row 16 + B + i. -/
structure LSt (D : Fam) (hr B nc : Nat) (cn : Nat → Nat) (cl : Nat → Nat → Nat) : Prop where
  n : D.n hr = nc
  F : ∀ i, i < nc → D.F hr i = D.val (16 + B + i)
  L : ∀ i, i < nc → Ints D (16 + B + i) (cn i) (fun j => ((cl i j : Nat) : Int))
section
variable {D : Fam} {hr B nc : Nat} {cn : Nat → Nat} {cl : Nat → Nat → Nat}
theorem LSt.nil (h : D.n hr = 0) (B : Nat) (cn : Nat → Nat) (cl : Nat → Nat → Nat) : LSt D hr B 0 cn cl := ⟨h, fun i h => absurd h (Nat.not_lt_zero _), fun i h => absurd h (Nat.not_lt_zero _)⟩
theorem LSt.put_ne (h : LSt D hr B nc cn cl) {r n cap : Nat} {b : Option Nat} {F : Nat → Value} (h1 : r ≠ hr) (h2 : r < 16 + B ∨ 16 + B + nc ≤ r) : LSt (D.put r b n cap F) hr B nc cn cl :=
  ⟨(put_n (Ne.symm h1)).trans h.n, fun i hi => by rw [put_F (Ne.symm h1), put_val (by omega)]; exact h.F i hi, fun i hi => (h.L i hi).put_ne (by omega)⟩
theorem LSt.set_ne (h : LSt D hr B nc cn cl) {r j : Nat} {v : Value} (h1 : r ≠ hr) (h2 : r < 16 + B ∨ 16 + B + nc ≤ r) : LSt (D.set r j v) hr B nc cn cl :=
  ⟨h.n, fun i hi => by rw [set_F _ (Ne.symm h1), set_val]; exact h.F i hi, fun i hi => (h.L i hi).set_ne (by omega)⟩
theorem LSt.but (h : LSt D hr B nc cn cl) {r : Nat} {D' : Fam} (hB : But r D D') (h1 : r ≠ hr) (h2 : r < 16 + B ∨ 16 + B + nc ≤ r) : LSt D' hr B nc cn cl :=
  ⟨by rw [hB.n]; exact h.n, fun i hi => by rw [hB.F hr (Ne.symm h1), hB.val]; exact h.F i hi, fun i hi => hB.ints (by omega) (h.L i hi)⟩
theorem LSt.new (h : LSt D hr B nc cn cl) (hh : hr < 16) (z : Nat → Value) (g cap : Nat) : LSt ((D.put (16 + B + nc) none 0 0 z).put hr (some g) (nc + 1) cap (ext ((D.put (16 + B + nc) none 0 0 z).F hr) (nc * 1) [.slice none 0 0])) hr B (nc + 1) (up cn nc 0) cl := by
  refine ⟨put_ns, fun i hi => ?_, fun i hi => ?_⟩
  · rw [put_Fs, put_val (by omega)]
    by_cases e : i = nc
    · subst e
      rw [put_vals]
      unfold ext
      rw [if_neg (by omega), Nat.mul_one, Nat.sub_self]
      rfl
    · rw [put_val (by omega)]
      unfold ext
      rw [if_pos (by omega), put_F (by omega)]
      exact h.F i (by omega)
  · by_cases e : i = nc
    · subst e
      rw [up_same]
      exact Ints.put_ne ⟨put_ns, fun j hj => absurd hj (Nat.not_lt_zero _)⟩ (by omega)
    · rw [up_other _ _ e]
      exact ((h.L i (by omega)).put_ne (by omega)).put_ne (by omega)
theorem LSt.push (h : LSt D hr B nc cn cl) (hh : hr < 16) {i : Nat} (hi : i < nc) (f g cap : Nat) : LSt ((D.put (16 + B + i) (some g) (cn i + 1) cap (ext (D.F (16 + B + i)) (cn i * 1) [.int .i64 (f : Int)])).set hr i (.slice (some ⟨g, 0, none⟩) (cn i + 1) cap)) hr B nc (up cn i (cn i + 1)) (upl cl i (cn i) f) := by
  refine ⟨by rw [set_n, put_n (by omega)]; exact h.n, fun k hk => ?_, fun k hk => ?_⟩
  · rw [set_val]
    by_cases e : k = i
    · subst e
      rw [set_Fs, put_vals]; rfl
    · rw [set_Fj e, put_F (by omega), put_val (by omega)]
      exact h.F k hk
  · by_cases e : k = i
    · subst e
      refine Ints.set_ne ?_ (by omega)
      rw [up_same, upl_same]
      have h1 := (h.L k hk).push (b := some g) (cap := cap) (x := ((f : Nat) : Int))
      rw [(h.L k hk).1, upd_cast] at h1
      exact h1
    · rw [up_other _ _ e, upl_other _ _ _ e]
      exact ((h.L k hk).put_ne (by omega)).set_ne (by omega)
end

/-- The memory while edges are grouped. -/
structure GS (w0 : World) (G : GR) (ga gm g0 g1 g2 g3 g4 : Nat) (R : Nat → Nat → Bool) (g6 : Nat) (gof : Nat → Int) (v20 : Value) (nc : Nat) (cn : Nat → Nat) (cl : Nat → Nat → Nat) (D : Fam) (w : World) : Prop where
  rm : RM w0 G ga gm g0 g1 g2 g3 g4 R (fun _ => -1) (G.ocb R) D w
  b6 : D.b 6 = some g6
  i6 : Ints D 6 G.n gof
  v7 : D.val 7 = v20
  ls : LSt D 7 0 nc cn cl
theorem OCI.all {w0 w : World} {G : GR} {ga gm g0 g1 g2 g3 g4 : Nat} {R : Nat → Nat → Bool} (h : OCI w0 G ga gm g0 g1 g2 g3 g4 R G.E w) : ∃ D, RM w0 G ga gm g0 g1 g2 g3 g4 R (fun _ => -1) (G.ocb R) D w := by
  obtain ⟨cls, onc, D, hD, hj⟩ := h
  have d := hD.ds
  exact ⟨D, ⟨d.rep, d.grew, d.b15, d.n15, d.F15, d.b14, d.n14, d.F14, d.b0, d.b1, d.b2, d.b3, d.i0, d.i1, ⟨d.i2.1, fun j h => by rw [d.i2.2 j h, (hj j h).2]⟩, d.i3.congr (fun j h => (hj j h).1)⟩, hD.b4, hD.r4⟩
structure FG (a0 : Option Addr) (n k0 ga gm E g4 m g6 : Nat) (a : Act) : Prop where
  fs : FS a0 n k0 ga gm E g4 m a
  s18 : a.tmps.getD 18 undef = .slice (some ⟨g6, 0, none⟩) n n
/-- 'groupOf' before the loop's round v. -/
def GVI (w0 : World) (G : GR) (ga gm g0 g1 g2 g3 g4 : Nat) (R : Nat → Nat → Bool) (g6 v : Nat) (w : World) : Prop :=
  ∃ gof D, RM w0 G ga gm g0 g1 g2 g3 g4 R (fun _ => -1) (G.ocb R) D w ∧ D.b 6 = some g6 ∧ Ints D 6 G.n gof ∧ ∀ j, j < v → gof j = -1
theorem GVI.step {w0 w : World} {G : GR} {ga gm g0 g1 g2 g3 g4 g6 v : Nat} {R : Nat → Nat → Bool} (h : GVI w0 G ga gm g0 g1 g2 g3 g4 R g6 v w) : GVI w0 G ga gm g0 g1 g2 g3 g4 R g6 (v + 1) (w.setCell ⟨g6, v, none⟩ (.int .i64 (-1))) := by
  obtain ⟨gof, D, hD, b6, i6, hj⟩ := h
  refine ⟨_, _, ⟨DS.setA hD.ds ⟨by omega, by omega, by omega⟩ b6 v _, hD.b4, hD.r4.set_ne (by omega)⟩, b6, i6.set, fun j hjl => ?_⟩
  by_cases e : j = v
  · subst e; rw [upd_same]
  · rw [upd_other _ _ e]; exact hj j (by omega)
/-- ... and with no class yet. -/
theorem GVI.all {w0 w : World} {G : GR} {ga gm g0 g1 g2 g3 g4 g6 : Nat} {R : Nat → Nat → Bool} (h : GVI w0 G ga gm g0 g1 g2 g3 g4 R g6 G.n w) : ∃ D, GS w0 G ga gm g0 g1 g2 g3 g4 R g6 (fun _ => -1) (.slice none 0 0) 0 (fun _ => 0) (fun _ _ => 0) D w := by
  obtain ⟨gof, D, hD, b6, i6, hj⟩ := h
  refine ⟨D.put 7 none 0 0 (D.F 7), ⟨DS.putA hD.ds ⟨by omega, by omega, by omega⟩ (hD.ds.rep.drop 7 _) (hD.ds.grew.put (.inr rfl)), (put_b (by omega)).trans hD.b4, hD.r4.put_ne (by omega)⟩, (put_b (by omega)).trans b6, (i6.congr hj).put_ne (by omega), put_vals, LSt.nil put_ns _ _ _⟩
def GLI (w0 : World) (G : GR) (a0 : Option Addr) (k0 ga gm g0 g1 g2 g3 g4 m : Nat) (R : Nat → Nat → Bool) (g6 : Nat) (a : Act) (w : World) : Prop :=
  FG a0 G.n k0 ga gm G.E g4 m g6 a ∧ ∃ v : Nat, a.tmps.getD 19 undef = .int .i64 (v : Int) ∧ v ≤ G.n ∧ GVI w0 G ga gm g0 g1 g2 g3 g4 R g6 v w
set_option maxRecDepth 40000 in
theorem litg {a : Act} {u0 u2 u3 u4 u5 u10 u18 : Value} (hs : a.tmps.size = 451) (hd : a.defers = []) (h0 : a.tmps.getD 0 undef = u0) (h2 : a.tmps.getD 2 undef = u2) (h3 : a.tmps.getD 3 undef = u3) (h4 : a.tmps.getD 4 undef = u4) (h5 : a.tmps.getD 5 undef = u5) (h10 : a.tmps.getD 10 undef = u10) (h18 : a.tmps.getD 18 undef = u18) : ∃ y : Nat → Value, a = { tmps := #[u0, y 1, u2, u3, u4, u5, y 6, y 7, y 8, y 9, u10, y 11, y 12, y 13, y 14, y 15, y 16, y 17, u18, y 19, y 20, y 21, y 22, y 23, y 24, y 25, y 26, y 27, y 28, y 29, y 30, y 31, y 32, y 33, y 34, y 35, y 36, y 37, y 38, y 39, y 40, y 41, y 42, y 43, y 44, y 45, y 46, y 47, y 48, y 49, y 50, y 51, y 52, y 53, y 54, y 55, y 56, y 57, y 58, y 59, y 60, y 61, y 62, y 63, y 64, y 65, y 66, y 67, y 68, y 69, y 70, y 71, y 72, y 73, y 74, y 75, y 76, y 77, y 78, y 79, y 80, y 81, y 82, y 83, y 84, y 85, y 86, y 87, y 88, y 89, y 90, y 91, y 92, y 93, y 94, y 95, y 96, y 97, y 98, y 99, y 100, y 101, y 102, y 103, y 104, y 105, y 106, y 107, y 108, y 109, y 110, y 111, y 112, y 113, y 114, y 115, y 116, y 117, y 118, y 119, y 120, y 121, y 122, y 123, y 124, y 125, y 126, y 127, y 128, y 129, y 130, y 131, y 132, y 133, y 134, y 135, y 136, y 137, y 138, y 139, y 140, y 141, y 142, y 143, y 144, y 145, y 146, y 147, y 148, y 149, y 150, y 151, y 152, y 153, y 154, y 155, y 156, y 157, y 158, y 159, y 160, y 161, y 162, y 163, y 164, y 165, y 166, y 167, y 168, y 169, y 170, y 171, y 172, y 173, y 174, y 175, y 176, y 177, y 178, y 179, y 180, y 181, y 182, y 183, y 184, y 185, y 186, y 187, y 188, y 189, y 190, y 191, y 192, y 193, y 194, y 195, y 196, y 197, y 198, y 199, y 200, y 201, y 202, y 203, y 204, y 205, y 206, y 207, y 208, y 209, y 210, y 211, y 212, y 213, y 214, y 215, y 216, y 217, y 218, y 219, y 220, y 221, y 222, y 223, y 224, y 225, y 226, y 227, y 228, y 229, y 230, y 231, y 232, y 233, y 234, y 235, y 236, y 237, y 238, y 239, y 240, y 241, y 242, y 243, y 244, y 245, y 246, y 247, y 248, y 249, y 250, y 251, y 252, y 253, y 254, y 255, y 256, y 257, y 258, y 259, y 260, y 261, y 262, y 263, y 264, y 265, y 266, y 267, y 268, y 269, y 270, y 271, y 272, y 273, y 274, y 275, y 276, y 277, y 278, y 279, y 280, y 281, y 282, y 283, y 284, y 285, y 286, y 287, y 288, y 289, y 290, y 291, y 292, y 293, y 294, y 295, y 296, y 297, y 298, y 299, y 300, y 301, y 302, y 303, y 304, y 305, y 306, y 307, y 308, y 309, y 310, y 311, y 312, y 313, y 314, y 315, y 316, y 317, y 318, y 319, y 320, y 321, y 322, y 323, y 324, y 325, y 326, y 327, y 328, y 329, y 330, y 331, y 332, y 333, y 334, y 335, y 336, y 337, y 338, y 339, y 340, y 341, y 342, y 343, y 344, y 345, y 346, y 347, y 348, y 349, y 350, y 351, y 352, y 353, y 354, y 355, y 356, y 357, y 358, y 359, y 360, y 361, y 362, y 363, y 364, y 365, y 366, y 367, y 368, y 369, y 370, y 371, y 372, y 373, y 374, y 375, y 376, y 377, y 378, y 379, y 380, y 381, y 382, y 383, y 384, y 385, y 386, y 387, y 388, y 389, y 390, y 391, y 392, y 393, y 394, y 395, y 396, y 397, y 398, y 399, y 400, y 401, y 402, y 403, y 404, y 405, y 406, y 407, y 408, y 409, y 410, y 411, y 412, y 413, y 414, y 415, y 416, y 417, y 418, y 419, y 420, y 421, y 422, y 423, y 424, y 425, y 426, y 427, y 428, y 429, y 430, y 431, y 432, y 433, y 434, y 435, y 436, y 437, y 438, y 439, y 440, y 441, y 442, y 443, y 444, y 445, y 446, y 447, y 448, y 449, y 450], defers := [] } := by
  obtain ⟨tmps, defers⟩ := a
  have yd : defers = [] := hd
  subst yd
  obtain ⟨y, hy, hi⟩ := arr_451 tmps hs
  have e0 := (hi 0).trans h0
  have e2 := (hi 2).trans h2
  have e3 := (hi 3).trans h3
  have e4 := (hi 4).trans h4
  have e5 := (hi 5).trans h5
  have e10 := (hi 10).trans h10
  have e18 := (hi 18).trans h18
  rw [e0, e2, e3, e4, e5, e10, e18] at hy
  exact ⟨y, congrArg (fun t => (⟨t, []⟩ : Act)) hy⟩
set_option maxRecDepth 40000 in
theorem litg19 {a : Act} {u0 u2 u3 u4 u5 u10 u18 u19 : Value} (hs : a.tmps.size = 451) (hd : a.defers = []) (h0 : a.tmps.getD 0 undef = u0) (h2 : a.tmps.getD 2 undef = u2) (h3 : a.tmps.getD 3 undef = u3) (h4 : a.tmps.getD 4 undef = u4) (h5 : a.tmps.getD 5 undef = u5) (h10 : a.tmps.getD 10 undef = u10) (h18 : a.tmps.getD 18 undef = u18) (h19 : a.tmps.getD 19 undef = u19) : ∃ y : Nat → Value, a = { tmps := #[u0, y 1, u2, u3, u4, u5, y 6, y 7, y 8, y 9, u10, y 11, y 12, y 13, y 14, y 15, y 16, y 17, u18, u19, y 20, y 21, y 22, y 23, y 24, y 25, y 26, y 27, y 28, y 29, y 30, y 31, y 32, y 33, y 34, y 35, y 36, y 37, y 38, y 39, y 40, y 41, y 42, y 43, y 44, y 45, y 46, y 47, y 48, y 49, y 50, y 51, y 52, y 53, y 54, y 55, y 56, y 57, y 58, y 59, y 60, y 61, y 62, y 63, y 64, y 65, y 66, y 67, y 68, y 69, y 70, y 71, y 72, y 73, y 74, y 75, y 76, y 77, y 78, y 79, y 80, y 81, y 82, y 83, y 84, y 85, y 86, y 87, y 88, y 89, y 90, y 91, y 92, y 93, y 94, y 95, y 96, y 97, y 98, y 99, y 100, y 101, y 102, y 103, y 104, y 105, y 106, y 107, y 108, y 109, y 110, y 111, y 112, y 113, y 114, y 115, y 116, y 117, y 118, y 119, y 120, y 121, y 122, y 123, y 124, y 125, y 126, y 127, y 128, y 129, y 130, y 131, y 132, y 133, y 134, y 135, y 136, y 137, y 138, y 139, y 140, y 141, y 142, y 143, y 144, y 145, y 146, y 147, y 148, y 149, y 150, y 151, y 152, y 153, y 154, y 155, y 156, y 157, y 158, y 159, y 160, y 161, y 162, y 163, y 164, y 165, y 166, y 167, y 168, y 169, y 170, y 171, y 172, y 173, y 174, y 175, y 176, y 177, y 178, y 179, y 180, y 181, y 182, y 183, y 184, y 185, y 186, y 187, y 188, y 189, y 190, y 191, y 192, y 193, y 194, y 195, y 196, y 197, y 198, y 199, y 200, y 201, y 202, y 203, y 204, y 205, y 206, y 207, y 208, y 209, y 210, y 211, y 212, y 213, y 214, y 215, y 216, y 217, y 218, y 219, y 220, y 221, y 222, y 223, y 224, y 225, y 226, y 227, y 228, y 229, y 230, y 231, y 232, y 233, y 234, y 235, y 236, y 237, y 238, y 239, y 240, y 241, y 242, y 243, y 244, y 245, y 246, y 247, y 248, y 249, y 250, y 251, y 252, y 253, y 254, y 255, y 256, y 257, y 258, y 259, y 260, y 261, y 262, y 263, y 264, y 265, y 266, y 267, y 268, y 269, y 270, y 271, y 272, y 273, y 274, y 275, y 276, y 277, y 278, y 279, y 280, y 281, y 282, y 283, y 284, y 285, y 286, y 287, y 288, y 289, y 290, y 291, y 292, y 293, y 294, y 295, y 296, y 297, y 298, y 299, y 300, y 301, y 302, y 303, y 304, y 305, y 306, y 307, y 308, y 309, y 310, y 311, y 312, y 313, y 314, y 315, y 316, y 317, y 318, y 319, y 320, y 321, y 322, y 323, y 324, y 325, y 326, y 327, y 328, y 329, y 330, y 331, y 332, y 333, y 334, y 335, y 336, y 337, y 338, y 339, y 340, y 341, y 342, y 343, y 344, y 345, y 346, y 347, y 348, y 349, y 350, y 351, y 352, y 353, y 354, y 355, y 356, y 357, y 358, y 359, y 360, y 361, y 362, y 363, y 364, y 365, y 366, y 367, y 368, y 369, y 370, y 371, y 372, y 373, y 374, y 375, y 376, y 377, y 378, y 379, y 380, y 381, y 382, y 383, y 384, y 385, y 386, y 387, y 388, y 389, y 390, y 391, y 392, y 393, y 394, y 395, y 396, y 397, y 398, y 399, y 400, y 401, y 402, y 403, y 404, y 405, y 406, y 407, y 408, y 409, y 410, y 411, y 412, y 413, y 414, y 415, y 416, y 417, y 418, y 419, y 420, y 421, y 422, y 423, y 424, y 425, y 426, y 427, y 428, y 429, y 430, y 431, y 432, y 433, y 434, y 435, y 436, y 437, y 438, y 439, y 440, y 441, y 442, y 443, y 444, y 445, y 446, y 447, y 448, y 449, y 450], defers := [] } := by
  obtain ⟨tmps, defers⟩ := a
  have yd : defers = [] := hd
  subst yd
  obtain ⟨y, hy, hi⟩ := arr_451 tmps hs
  have e0 := (hi 0).trans h0
  have e2 := (hi 2).trans h2
  have e3 := (hi 3).trans h3
  have e4 := (hi 4).trans h4
  have e5 := (hi 5).trans h5
  have e10 := (hi 10).trans h10
  have e18 := (hi 18).trans h18
  have e19 := (hi 19).trans h19
  rw [e0, e2, e3, e4, e5, e10, e18, e19] at hy
  exact ⟨y, congrArg (fun t => (⟨t, []⟩ : Act)) hy⟩

set_option maxRecDepth 40000 in
set_option maxHeartbeats 4000000 in
/-- Region 48. -/
theorem md_8 (w0 : World) (G : GR) (a0 : Option Addr) (k0 ga gm g0 g1 g2 g3 g4 m : Nat) (ok : G.Ok) (R : Nat → Nat → Bool) (wr : World) (hI : OCI w0 G ga gm g0 g1 g2 g3 g4 R G.E wr) (a : Act) (hf : FS a0 G.n k0 ga gm G.E g4 m a) (tail : Code) (Z : Ending → World → Prop)
    (hT : ∀ (a : Act) (w' : World) (g6 : Nat), FG a0 G.n k0 ga gm G.E g4 m g6 a → GVI w0 G ga gm g0 g1 g2 g3 g4 R g6 0 w' → Code.wp Try.prog tail (bodyPost Try.prog Try.f10 fun e w' => Z e w') a w') :
    Code.wp Try.prog (rt 1 (tl 16 (Try.f10.body.getD .skip)) tail) (bodyPost Try.prog Try.f10 fun e w' => Z e w') a wr := by
  obtain ⟨y, rfl⟩ := lits hf.fe.fm.sz hf.fe.fm.df hf.fe.fm.s0 hf.fe.fm.s2 hf.fe.fm.s3 hf.fe.fm.s4 hf.fe.s5 hf.s10
  obtain ⟨i3, hi3, hz30, hz31, hz32⟩ := info_parts Try.info3
  have hn := ok.n
  obtain ⟨mq, hmq, hfq⟩ := make_fun (P := Try.prog) 26 3 i3 (.int .i64 0) 1 8 (.int .i64 0) Try.underlying26 hi3 hz30 hz31 hz32 rfl (by decide) zero1 G.n (by omega) (by omega)
  have HTL : Hid (∀ (a : Act) (w' : World) (g6 : Nat), FG a0 G.n k0 ga gm G.E g4 m g6 a → GVI w0 G ga gm g0 g1 g2 g3 g4 R g6 0 w' → Code.wp Try.prog tail (bodyPost Try.prog Try.f10 fun e w' => Z e w') a w') := hT
  have fin : Hid (GVI w0 G ga gm g0 g1 g2 g3 g4 R wr.heap.size 0 (mq wr)) := by
    obtain ⟨D, hD⟩ := hI.all
    exact ⟨fun _ => 0, _, ⟨DS.freshA (r := 6) hD.ds ⟨by omega, by omega, by omega⟩ rfl (hfq wr), (put_b (by omega)).trans hD.b4, hD.r4.put_ne (by omega)⟩, put_bs, ⟨put_ns, fun j hj => by rw [put_Fs]⟩, fun j hj => absurd hj (Nat.not_lt_zero _)⟩
  clear hT hI hf hfq hi3 hz30 hz31 hz32
  simp only [tl, rt, Try.f10, Option.getD]
  go_wp2
  exact HTL.out _ _ wr.heap.size ⟨⟨⟨⟨by kernel_rfl, by kernel_rfl, by kernel_rfl, by kernel_rfl, by kernel_rfl, by kernel_rfl⟩, by kernel_rfl⟩, by kernel_rfl⟩, by kernel_rfl⟩ fin.out

set_option maxRecDepth 40000 in
set_option maxHeartbeats 4000000 in
/-- 'groupOf' is laid out. -/
theorem md_9 (w0 : World) (G : GR) (a0 : Option Addr) (k0 ga gm g0 g1 g2 g3 g4 m : Nat) (ok : G.Ok) (R : Nat → Nat → Bool) (g6 : Nat) (wr : World) (hI : GVI w0 G ga gm g0 g1 g2 g3 g4 R g6 0 wr) (a : Act) (hf : FG a0 G.n k0 ga gm G.E g4 m g6 a) (Q : Exit → Act → World → Prop)
    (hC : ∀ (a : Act) (w : World), FG a0 G.n k0 ga gm G.E g4 m g6 a → GVI w0 G ga gm g0 g1 g2 g3 g4 R g6 G.n w → Q .normal a w) :
    Code.wp Try.prog (sL (tl 17 (Try.f10.body.getD .skip))) Q a wr := by
  obtain ⟨y, rfl⟩ := litg hf.fs.fe.fm.sz hf.fs.fe.fm.df hf.fs.fe.fm.s0 hf.fs.fe.fm.s2 hf.fs.fe.fm.s3 hf.fs.fe.fm.s4 hf.fs.fe.s5 hf.fs.s10 hf.s18
  have HI : Hid (GVI w0 G ga gm g0 g1 g2 g3 g4 R g6 0 wr) := hI
  have hn := ok.n
  have HC : Hid (∀ (a : Act) (w : World), FG a0 G.n k0 ga gm G.E g4 m g6 a → GVI w0 G ga gm g0 g1 g2 g3 g4 R g6 G.n w → Q .normal a w) := hC
  clear hf hC hI ok
  show Code.wp Try.prog (Code.seq _ (Code.block 14 (Code.loop (Code.seq (Code.seq _ (Code.cond (.tmp 214) Code.skip (Code.exit 14))) (Code.seq (Code.block 15 _) _))))) Q _ wr
  refine wp_seq_k (fun K1 hK => ?_)
  have HK1 : Hid (∀ (a : Act) (w : World), _ → K1 a w) := hK
  clear hK
  go_wp2
  refine HK1.out _ _ ?_
  clear HK1 K1
  refine wp_block ?_
  refine wp_loop (GLI w0 G a0 k0 ga gm g0 g1 g2 g3 g4 m R g6) (fun a _ => mus 19 G.n a) ⟨⟨⟨⟨⟨by kernel_rfl, by kernel_rfl, by kernel_rfl, by kernel_rfl, by kernel_rfl, by kernel_rfl⟩, by kernel_rfl⟩, by kernel_rfl⟩, by kernel_rfl⟩, 0, by kernel_rfl, Nat.zero_le _, HI.out⟩ ?_
  clear HI
  rintro a w' ⟨hf, v, h19, v1, hI⟩
  have HI : Hid (GVI w0 G ga gm g0 g1 g2 g3 g4 R g6 v w') := hI
  have e19 : mus 19 G.n a = G.n - v := congrArg (fun v => G.n - (intOf v).toNat) h19
  obtain ⟨y2, rfl⟩ := litg19 hf.fs.fe.fm.sz hf.fs.fe.fm.df hf.fs.fe.fm.s0 hf.fs.fe.fm.s2 hf.fs.fe.fm.s3 hf.fs.fe.fm.s4 hf.fs.fe.s5 hf.fs.s10 hf.s18 h19
  rw [e19]
  clear e19 hf h19 hI
  refine wp_seq_k (fun K1 hK => ?_)
  have HK1 : Hid (∀ (a : Act) (w : World), _ → K1 a w) := hK
  clear hK
  refine wp_seq_k (fun K2 hK => ?_)
  have HK2 : Hid (∀ (a : Act) (w : World), _ → K2 a w) := hK
  clear hK
  by_cases hv : v < G.n
  · have hvv : (v : Int) < (G.n : Int) := by omega
    have fin : Hid (GVI w0 G ga gm g0 g1 g2 g3 g4 R g6 (v + 1) (w'.setCell ⟨g6, v, none⟩ (.int .i64 (-1)))) := HI.out.step
    obtain ⟨gof, D, hD, b6, i6, hj⟩ := HI.out
    have x1 := i6.cell' hD.ds.rep b6 rfl hv
    have f1 := hD.ds.rep.frozen b6 v
    clear HI hD b6 i6 hj
    generalize gof v = c0 at *
    go_wp2
    refine HK2.out _ _ (wp_cond_true (by kernel_rfl) (wp_skip ?_))
    refine HK1.out _ _ ?_
    clear HK1 K1 HK2 K2
    refine wp_seq_k (fun K1 hK => ?_)
    have HK1 : Hid (∀ (a : Act) (w : World), _ → K1 a w) := hK
    clear hK
    refine wp_block ?_
    go_wp2
    refine HK1.out _ _ ?_
    clear HK1 K1 x1 f1
    generalize w'.setCell ⟨g6, v, none⟩ (.int .i64 (-1)) = wv at *
    go_wp2
    exact ⟨⟨⟨⟨⟨⟨by kernel_rfl, by kernel_rfl, by kernel_rfl, by kernel_rfl, by kernel_rfl, by kernel_rfl⟩, by kernel_rfl⟩, by kernel_rfl⟩, by kernel_rfl⟩, v + 1, by kernel_rfl, by omega, fin.out⟩, Nat.lt_of_le_of_lt (Nat.le_of_eq (by kernel_rfl : _ = G.n - (v + 1))) (by omega)⟩
  · have hvv : ¬ (v : Int) < (G.n : Int) := by omega
    obtain rfl : v = G.n := by omega
    go_wp2
    refine HK2.out _ _ (wp_cond_false (by kernel_rfl) (wp_exit ?_))
    exact HC.out _ _ ⟨⟨⟨⟨by kernel_rfl, by kernel_rfl, by kernel_rfl, by kernel_rfl, by kernel_rfl, by kernel_rfl⟩, by kernel_rfl⟩, by kernel_rfl⟩, by kernel_rfl⟩ HI.out

set_option maxRecDepth 40000 in
set_option maxHeartbeats 4000000 in
/-- Region 53. -/
theorem md_10 (a0 : Option Addr) (n k0 ga gm E g4 m g6 : Nat) (wr : World) (a : Act) (hf : FG a0 n k0 ga gm E g4 m g6 a) (tail : Code) (Z : Ending → World → Prop)
    (hT : ∀ (a : Act), FG a0 n k0 ga gm E g4 m g6 a → a.tmps.getD 20 undef = .slice none 0 0 → Code.wp Try.prog tail (bodyPost Try.prog Try.f10 fun e w' => Z e w') a wr) :
    Code.wp Try.prog (rt 1 (tl 18 (Try.f10.body.getD .skip)) tail) (bodyPost Try.prog Try.f10 fun e w' => Z e w') a wr := by
  obtain ⟨y, rfl⟩ := litg hf.fs.fe.fm.sz hf.fs.fe.fm.df hf.fs.fe.fm.s0 hf.fs.fe.fm.s2 hf.fs.fe.fm.s3 hf.fs.fe.fm.s4 hf.fs.fe.s5 hf.fs.s10 hf.s18
  have HTL : Hid (∀ (a : Act), FG a0 n k0 ga gm E g4 m g6 a → a.tmps.getD 20 undef = .slice none 0 0 → Code.wp Try.prog tail (bodyPost Try.prog Try.f10 fun e w' => Z e w') a wr) := hT
  clear hT hf
  simp only [tl, rt, Try.f10, Option.getD]
  go_wp2
  exact HTL.out _ ⟨⟨⟨⟨by kernel_rfl, by kernel_rfl, by kernel_rfl, by kernel_rfl, by kernel_rfl, by kernel_rfl⟩, by kernel_rfl⟩, by kernel_rfl⟩, by kernel_rfl⟩ (by kernel_rfl)
end Go.Proofs.Qxb6602148a
