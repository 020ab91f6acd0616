/-
  'zzBuildModel': an edge joins its part.
-/
import Derived.Test.Qxb6602148aMdj
attribute [local go_sem] Go.Proofs.Qxb6602148a.yTo Go.Proofs.Qxb6602148a.yUpon
namespace Go.Proofs.Qxb6602148a
open Go.RowKit
set_option linter.unusedVariables false
set_option linter.unusedSimpArgs false

/-- The memory while lists are parted: the new lists stand behind the old ones. -/
structure XR (w0 : World) (G : GR) (ga gm g0 g1 g2 g3 : Nat) (R : Nat → Nat → Bool) (g8 g9 g10 : Nat) (par st wh : Nat → Nat) (v20 : Value) (B nc : Nat) (cn : Nat → Nat) (cl : Nat → Nat → Nat) (v31 : Value) (nr : Nat) (rn : Nat → Nat) (rl : Nat → Nat → Nat) (D : Fam) (w : World) : Prop where
  xa : XAl w0 G ga gm g0 g1 g2 g3 R g8 g9 g10 par st wh v20 B nc cn cl D w
  v11 : D.val 11 = v31
  l11 : LSt D 11 (B + nc) nr rn rl
section
variable {w0 w w2 : World} {G : GR} {ga gm g0 g1 g2 g3 : Nat} {R : Nat → Nat → Bool} {g8 g9 g10 : Nat} {par st wh : Nat → Nat} {v20 v31 : Value} {B nc nr : Nat} {cn rn : Nat → Nat} {cl rl : Nat → Nat → Nat} {D : Fam}
theorem XAl.setA (h : XAl w0 G ga gm g0 g1 g2 g3 R g8 g9 g10 par st wh v20 B nc cn cl D w) {r g : Nat} (hr : Aux r) (h1 : r ≠ 7) (h2 : 11 ≤ r) (h3 : r < 16 + B ∨ 16 + B + nc ≤ r) (hb : D.b r = some g) (j : Nat) (v : Value) : XAl w0 G ga gm g0 g1 g2 g3 R g8 g9 g10 par st wh v20 B nc cn cl (D.set r j v) (w.setCell ⟨g, j, none⟩ v) :=
  ⟨⟨DS.setA h.xb.ds hr hb j v, h.xb.b8, h.xb.c8, h.xb.i8.set_ne (by omega), h.xb.b9, h.xb.i9.set_ne (by omega), h.xb.b10, h.xb.i10.set_ne (by omega)⟩, h.v7, h.l7.set_ne h1 h3⟩
theorem XAl.putA (h : XAl w0 G ga gm g0 g1 g2 g3 R g8 g9 g10 par st wh v20 B nc cn cl D w) {r n cap : Nat} {b : Option Nat} {F : Nat → Value} (hr : Aux r) (h2 : 11 ≤ r) (h3 : r < 16 + B ∨ 16 + B + nc ≤ r) (hR : Rep KD w2 (D.put r b n cap F)) (hG : Grew Fam.nil w0 (D.put r b n cap F) w2) : XAl w0 G ga gm g0 g1 g2 g3 R g8 g9 g10 par st wh v20 B nc cn cl (D.put r b n cap F) w2 :=
  ⟨⟨DS.putA h.xb.ds hr hR hG, (put_b (by omega)).trans h.xb.b8, (put_cap (by omega)).trans h.xb.c8, h.xb.i8.put_ne (by omega), (put_b (by omega)).trans h.xb.b9, h.xb.i9.put_ne (by omega), (put_b (by omega)).trans h.xb.b10, h.xb.i10.put_ne (by omega)⟩, (put_val (by omega)).trans h.v7, h.l7.put_ne (by omega) h3⟩
theorem XR.stamp (h : XR w0 G ga gm g0 g1 g2 g3 R g8 g9 g10 par st wh v20 B nc cn cl v31 nr rn rl D w) (v x : Nat) : XR w0 G ga gm g0 g1 g2 g3 R g8 g9 g10 par (up st v x) wh v20 B nc cn cl v31 nr rn rl (D.set 9 v (.int .i64 (x : Int))) (w.setCell ⟨g9, v, none⟩ (.int .i64 (x : Int))) := by
  have h9 := h.xa.xb.i9.set (j := v) (x := ((x : Nat) : Int))
  rw [upd_cast] at h9
  have b := h.xa.xb
  exact ⟨⟨⟨DS.setA b.ds ⟨by omega, by omega, by omega⟩ b.b9 v _, b.b8, b.c8, b.i8.set_ne (by omega), b.b9, h9, b.b10, b.i10.set_ne (by omega)⟩, h.xa.v7, h.xa.l7.set_ne (by omega) (by omega)⟩, h.v11, h.l11.set_ne (by omega) (by omega)⟩
theorem XR.where_ (h : XR w0 G ga gm g0 g1 g2 g3 R g8 g9 g10 par st wh v20 B nc cn cl v31 nr rn rl D w) (v x : Nat) : XR w0 G ga gm g0 g1 g2 g3 R g8 g9 g10 par st (up wh v x) v20 B nc cn cl v31 nr rn rl (D.set 10 v (.int .i64 (x : Int))) (w.setCell ⟨g10, v, none⟩ (.int .i64 (x : Int))) := by
  have h9 := h.xa.xb.i10.set (j := v) (x := ((x : Nat) : Int))
  rw [upd_cast] at h9
  have b := h.xa.xb
  exact ⟨⟨⟨DS.setA b.ds ⟨by omega, by omega, by omega⟩ b.b10 v _, b.b8, b.c8, b.i8.set_ne (by omega), b.b9, b.i9.set_ne (by omega), b.b10, h9⟩, h.xa.v7, h.xa.l7.set_ne (by omega) (by omega)⟩, h.v11, h.l11.set_ne (by omega) (by omega)⟩
theorem XR.push (h : XR w0 G ga gm g0 g1 g2 g3 R g8 g9 g10 par st wh v20 B nc cn cl v31 nr rn rl D w) {k g11 f g cap : Nat} {o : Obj} (hk : k < nr) (b11 : D.b 11 = some g11) (hR : Rep KD w2 (D.put (16 + (B + nc) + k) (some g) (rn k + 1) cap (ext (D.F (16 + (B + nc) + k)) (rn k * 1) [.int .i64 (f : Int)]))) (hG : Grew D (w.alloc o) (D.put (16 + (B + nc) + k) (some g) (rn k + 1) cap (ext (D.F (16 + (B + nc) + k)) (rn k * 1) [.int .i64 (f : Int)])) w2) :
    ∃ D', XR w0 G ga gm g0 g1 g2 g3 R g8 g9 g10 par st wh v20 B nc cn cl v31 nr (up rn k (rn k + 1)) (upl rl k (rn k) f) D' (w2.setCell ⟨g11, k, none⟩ (.slice (some ⟨g, 0, none⟩) (rn k + 1) cap)) := by
  have h1 := h.xa.putA (r := 16 + (B + nc) + k) ⟨by omega, by omega, by omega⟩ (by omega) (by omega) hR ((h.xa.xb.ds.grew.alloc o).trans hG)
  have b' : (D.put (16 + (B + nc) + k) (some g) (rn k + 1) cap (ext (D.F (16 + (B + nc) + k)) (rn k * 1) [.int .i64 (f : Int)])).b 11 = some g11 := (put_b (by omega)).trans b11
  refine ⟨_, h1.setA (r := 11) ⟨by omega, by omega, by omega⟩ (by omega) (by omega) (by omega) b' k _, ?_, h.l11.push (by omega) hk f g cap⟩
  rw [set_val, put_val (by omega)]; exact h.v11
theorem XR.rep0 (h : XR w0 G ga gm g0 g1 g2 g3 R g8 g9 g10 par st wh v20 B nc cn cl v31 nr rn rl D w) : Rep KD w (D.put (16 + (B + nc) + nr) none 0 0 (D.F 16)) := h.xa.xb.ds.rep.drop _ _
theorem XR.new (h : XR w0 G ga gm g0 g1 g2 g3 R g8 g9 g10 par st wh v20 B nc cn cl v31 nr rn rl D w) {g cap : Nat} {o : Obj} (hR : Rep KD w2 ((D.put (16 + (B + nc) + nr) none 0 0 (D.F 16)).put 11 (some g) (nr + 1) cap (ext ((D.put (16 + (B + nc) + nr) none 0 0 (D.F 16)).F 11) (nr * 1) [.slice none 0 0]))) (hG : Grew (D.put (16 + (B + nc) + nr) none 0 0 (D.F 16)) (w.alloc o) ((D.put (16 + (B + nc) + nr) none 0 0 (D.F 16)).put 11 (some g) (nr + 1) cap (ext ((D.put (16 + (B + nc) + nr) none 0 0 (D.F 16)).F 11) (nr * 1) [.slice none 0 0])) w2) :
    ∃ D', XR w0 G ga gm g0 g1 g2 g3 R g8 g9 g10 par st wh v20 B nc cn cl (.slice (some ⟨g, 0, none⟩) (nr + 1) cap) (nr + 1) (up rn nr 0) rl D' w2 := by
  have h0 := h.xa.putA (r := 16 + (B + nc) + nr) ⟨by omega, by omega, by omega⟩ (by omega) (by omega) h.rep0 (h.xa.xb.ds.grew.put (.inr rfl))
  have h1 := h0.putA (r := 11) ⟨by omega, by omega, by omega⟩ (by omega) (by omega) hR ((h0.xb.ds.grew.alloc o).trans hG)
  exact ⟨_, h1, put_vals, h.l11.new (by omega) _ g cap⟩
end
structure FXr (a0 : Option Addr) (n k0 ga gm E g8 g9 g10 : Nat) (v20 : Value) (rd x : Nat) (v31 : Value) (i j f : Nat) (a : Act) : Prop where
  fv : FXv a0 n k0 ga gm E g8 g9 g10 v20 rd x a
  s31 : a.tmps.getD 31 undef = v31
  s32 : a.tmps.getD 32 undef = .int .i64 (i : Int)
  s33 : a.tmps.getD 33 undef = .int .i64 (j : Int)
  s34 : a.tmps.getD 34 undef = .int .i64 (f : Int)
def f10r (c : Code) : Code := bl (sL (tl 1 (lp (bl (tl 2 (bl (sL (tl 1 (lp (bl (tl 1 (sL (tl 3 (f10x c))))))))))))))
set_option maxRecDepth 40000 in
theorem litq {a : Act} {u0 u2 u3 u4 u5 u20 u25 u26 u27 u28 u29 u31 u32 u33 u34 u36 : Value} (hs : a.tmps.size = 451) (hd : a.defers = []) (h0 : a.tmps.getD 0 undef = u0) (h2 : a.tmps.getD 2 undef = u2) (h3 : a.tmps.getD 3 undef = u3) (h4 : a.tmps.getD 4 undef = u4) (h5 : a.tmps.getD 5 undef = u5) (h20 : a.tmps.getD 20 undef = u20) (h25 : a.tmps.getD 25 undef = u25) (h26 : a.tmps.getD 26 undef = u26) (h27 : a.tmps.getD 27 undef = u27) (h28 : a.tmps.getD 28 undef = u28) (h29 : a.tmps.getD 29 undef = u29) (h31 : a.tmps.getD 31 undef = u31) (h32 : a.tmps.getD 32 undef = u32) (h33 : a.tmps.getD 33 undef = u33) (h34 : a.tmps.getD 34 undef = u34) (h36 : a.tmps.getD 36 undef = u36) : ∃ y : Nat → Value, a = { tmps := #[u0, y 1, u2, u3, u4, u5, y 6, y 7, y 8, y 9, y 10, y 11, y 12, y 13, y 14, y 15, y 16, y 17, y 18, y 19, u20, y 21, y 22, y 23, y 24, u25, u26, u27, u28, u29, y 30, u31, u32, u33, u34, y 35, u36, y 37, y 38, y 39, y 40, y 41, y 42, y 43, y 44, y 45, y 46, y 47, y 48, y 49, y 50, y 51, y 52, y 53, y 54, y 55, y 56, y 57, y 58, y 59, y 60, y 61, y 62, y 63, y 64, y 65, y 66, y 67, y 68, y 69, y 70, y 71, y 72, y 73, y 74, y 75, y 76, y 77, y 78, y 79, y 80, y 81, y 82, y 83, y 84, y 85, y 86, y 87, y 88, y 89, y 90, y 91, y 92, y 93, y 94, y 95, y 96, y 97, y 98, y 99, y 100, y 101, y 102, y 103, y 104, y 105, y 106, y 107, y 108, y 109, y 110, y 111, y 112, y 113, y 114, y 115, y 116, y 117, y 118, y 119, y 120, y 121, y 122, y 123, y 124, y 125, y 126, y 127, y 128, y 129, y 130, y 131, y 132, y 133, y 134, y 135, y 136, y 137, y 138, y 139, y 140, y 141, y 142, y 143, y 144, y 145, y 146, y 147, y 148, y 149, y 150, y 151, y 152, y 153, y 154, y 155, y 156, y 157, y 158, y 159, y 160, y 161, y 162, y 163, y 164, y 165, y 166, y 167, y 168, y 169, y 170, y 171, y 172, y 173, y 174, y 175, y 176, y 177, y 178, y 179, y 180, y 181, y 182, y 183, y 184, y 185, y 186, y 187, y 188, y 189, y 190, y 191, y 192, y 193, y 194, y 195, y 196, y 197, y 198, y 199, y 200, y 201, y 202, y 203, y 204, y 205, y 206, y 207, y 208, y 209, y 210, y 211, y 212, y 213, y 214, y 215, y 216, y 217, y 218, y 219, y 220, y 221, y 222, y 223, y 224, y 225, y 226, y 227, y 228, y 229, y 230, y 231, y 232, y 233, y 234, y 235, y 236, y 237, y 238, y 239, y 240, y 241, y 242, y 243, y 244, y 245, y 246, y 247, y 248, y 249, y 250, y 251, y 252, y 253, y 254, y 255, y 256, y 257, y 258, y 259, y 260, y 261, y 262, y 263, y 264, y 265, y 266, y 267, y 268, y 269, y 270, y 271, y 272, y 273, y 274, y 275, y 276, y 277, y 278, y 279, y 280, y 281, y 282, y 283, y 284, y 285, y 286, y 287, y 288, y 289, y 290, y 291, y 292, y 293, y 294, y 295, y 296, y 297, y 298, y 299, y 300, y 301, y 302, y 303, y 304, y 305, y 306, y 307, y 308, y 309, y 310, y 311, y 312, y 313, y 314, y 315, y 316, y 317, y 318, y 319, y 320, y 321, y 322, y 323, y 324, y 325, y 326, y 327, y 328, y 329, y 330, y 331, y 332, y 333, y 334, y 335, y 336, y 337, y 338, y 339, y 340, y 341, y 342, y 343, y 344, y 345, y 346, y 347, y 348, y 349, y 350, y 351, y 352, y 353, y 354, y 355, y 356, y 357, y 358, y 359, y 360, y 361, y 362, y 363, y 364, y 365, y 366, y 367, y 368, y 369, y 370, y 371, y 372, y 373, y 374, y 375, y 376, y 377, y 378, y 379, y 380, y 381, y 382, y 383, y 384, y 385, y 386, y 387, y 388, y 389, y 390, y 391, y 392, y 393, y 394, y 395, y 396, y 397, y 398, y 399, y 400, y 401, y 402, y 403, y 404, y 405, y 406, y 407, y 408, y 409, y 410, y 411, y 412, y 413, y 414, y 415, y 416, y 417, y 418, y 419, y 420, y 421, y 422, y 423, y 424, y 425, y 426, y 427, y 428, y 429, y 430, y 431, y 432, y 433, y 434, y 435, y 436, y 437, y 438, y 439, y 440, y 441, y 442, y 443, y 444, y 445, y 446, y 447, y 448, y 449, y 450], defers := [] } := by
  obtain ⟨tmps, defers⟩ := a
  have yd : defers = [] := hd
  subst yd
  obtain ⟨y, hy, hi⟩ := arr_451 tmps hs
  have e0 := (hi 0).trans h0
  have e2 := (hi 2).trans h2
  have e3 := (hi 3).trans h3
  have e4 := (hi 4).trans h4
  have e5 := (hi 5).trans h5
  have e20 := (hi 20).trans h20
  have e25 := (hi 25).trans h25
  have e26 := (hi 26).trans h26
  have e27 := (hi 27).trans h27
  have e28 := (hi 28).trans h28
  have e29 := (hi 29).trans h29
  have e31 := (hi 31).trans h31
  have e32 := (hi 32).trans h32
  have e33 := (hi 33).trans h33
  have e34 := (hi 34).trans h34
  have e36 := (hi 36).trans h36
  rw [e0, e2, e3, e4, e5, e20, e25, e26, e27, e28, e29, e31, e32, e33, e34, e36] at hy
  exact ⟨y, congrArg (fun t => (⟨t, []⟩ : Act)) hy⟩

set_option maxRecDepth 40000 in
set_option maxHeartbeats 4000000 in
/-- Regions 103 and 104. -/
theorem md_14c (w0 : World) (G : GR) (a0 : Option Addr) (k0 ga gm g0 g1 g2 g3 : Nat) (R : Nat → Nat → Bool) (g8 g9 g10 : Nat) (v20 : Value) (rd x : Nat) (v31 : Value) (i j f r k : Nat) (par st wh : Nat → Nat) (B nc : Nat) (cn : Nat → Nat) (cl : Nat → Nat → Nat) (nr : Nat) (rn : Nat → Nat) (rl : Nat → Nat → Nat) (D : Fam) (wr : World)
    (hS : XR w0 G ga gm g0 g1 g2 g3 R g8 g9 g10 par st wh v20 B nc cn cl v31 nr rn rl D wr) (hr : r < G.n) (hg : wh r = k) (hk : k < nr) (hcn : rn k ≤ 4096) (hnc : nr ≤ 4097)
    (a : Act) (hf : FXr a0 G.n k0 ga gm G.E g8 g9 g10 v20 rd x v31 i j f a) (h36 : a.tmps.getD 36 undef = .int .i64 (r : Int)) (Q : Exit → Act → World → Prop)
    (hC : ∀ (a : Act) (w : World) (D' : Fam), FXr a0 G.n k0 ga gm G.E g8 g9 g10 v20 rd x v31 i j f a → XR w0 G ga gm g0 g1 g2 g3 R g8 g9 g10 par st wh v20 B nc cn cl v31 nr (up rn k (rn k + 1)) (upl rl k (rn k) f) D' w → Q .normal a w) :
    Code.wp Try.prog (tl 5 (f10r (Try.f10.body.getD .skip))) Q a wr := by
  obtain ⟨i3, hi3, hz30, hz31, hz32⟩ := info_parts Try.info3
  have v11 := hS.v11
  have n11 : D.n 11 = nr := hS.l11.n
  obtain ⟨g11, b11⟩ := hS.xa.xb.ds.rep.hasBlock (i := 11) (by rw [n11]; omega)
  rw [val_some b11, n11] at v11
  have l11 := hS.xa.xb.ds.rep.le_cap 11
  rw [n11] at l11
  generalize D.cap 11 = k11 at *
  subst v11
  obtain ⟨y, rfl⟩ := litq hf.fv.fx.fe.fm.sz hf.fv.fx.fe.fm.df hf.fv.fx.fe.fm.s0 hf.fv.fx.fe.fm.s2 hf.fv.fx.fe.fm.s3 hf.fv.fx.fe.fm.s4 hf.fv.fx.fe.s5 hf.fv.s20 hf.fv.fx.s25 hf.fv.fx.s26 hf.fv.fx.s27 hf.fv.s28 hf.fv.s29 hf.s31 hf.s32 hf.s33 hf.s34 h36
  have x1 := hS.xa.xb.i10.cell' hS.xa.xb.ds.rep hS.xa.xb.b10 rfl hr
  rw [hg] at x1
  have hL := hS.l11.L k hk
  have hv : D.val (16 + (B + nc) + k) = .slice ((D.b (16 + (B + nc) + k)).map fun g => ⟨g, 0, none⟩) (rn k) (D.cap (16 + (B + nc) + k)) := by unfold Fam.val; rw [hL.1]
  have x2 := (hS.xa.xb.ds.rep.cell b11 (j := k) (by rw [n11]; show k < nr * 1; omega)).trans (congrArg some ((hS.l11.F k hk).trans hv))
  have FYY : Hid (∀ g cap w2, Rep KD w2 (D.put (16 + (B + nc) + k) (some g) (rn k + 1) cap (ext (D.F (16 + (B + nc) + k)) (rn k * 1) [.int .i64 (f : Int)])) → w2.cell? ⟨g11, k, none⟩ = some (.slice ((D.b (16 + (B + nc) + k)).map fun g => ⟨g, 0, none⟩) (rn k) (D.cap (16 + (B + nc) + k))) ∧ w2.frozen? ⟨g11, k, none⟩ = false) := by
    intro g cap w2 hR
    have b' : (D.put (16 + (B + nc) + k) (some g) (rn k + 1) cap (ext (D.F (16 + (B + nc) + k)) (rn k * 1) [.int .i64 (f : Int)])).b 11 = some g11 := (put_b (by omega)).trans b11
    refine ⟨(hR.cell b' (j := k) (by rw [put_n (by omega), n11]; show k < nr * 1; omega)).trans (congrArg some ?_), hR.frozen b' k⟩
    rw [put_F (by omega)]
    exact (hS.l11.F k hk).trans hv
  have FN : Hid (∀ (g cap : Nat) (w2 : World) (o : Obj), Rep KD w2 (D.put (16 + (B + nc) + k) (some g) (rn k + 1) cap (ext (D.F (16 + (B + nc) + k)) (rn k * 1) [.int .i64 (f : Int)])) → Grew D (wr.alloc o) (D.put (16 + (B + nc) + k) (some g) (rn k + 1) cap (ext (D.F (16 + (B + nc) + k)) (rn k * 1) [.int .i64 (f : Int)])) w2 → ∃ D', XR w0 G ga gm g0 g1 g2 g3 R g8 g9 g10 par st wh v20 B nc cn cl (.slice (some ⟨g11, 0, none⟩) nr k11) nr (up rn k (rn k + 1)) (upl rl k (rn k) f) D' (w2.setCell ⟨g11, k, none⟩ (.slice (some ⟨g, 0, none⟩) (rn k + 1) cap))) := fun g cap w2 o h1 h2 => hS.push hk b11 h1 h2
  have HR : Hid (Rep KD wr D) := hS.xa.xb.ds.rep
  have HL : Hid (D.n (16 + (B + nc) + k) = rn k) := hL.1
  have HV : Hid (D.val (16 + (B + nc) + k) = .slice ((D.b (16 + (B + nc) + k)).map fun g => ⟨g, 0, none⟩) (rn k) (D.cap (16 + (B + nc) + k))) := hv
  have HC : Hid (∀ (a : Act) (w : World) (D' : Fam), FXr a0 G.n k0 ga gm G.E g8 g9 g10 v20 rd x (.slice (some ⟨g11, 0, none⟩) nr k11) i j f a → XR w0 G ga gm g0 g1 g2 g3 R g8 g9 g10 par st wh v20 B nc cn cl (.slice (some ⟨g11, 0, none⟩) nr k11) nr (up rn k (rn k + 1)) (upl rl k (rn k) f) D' w → Q .normal a w) := hC
  clear hf h36 hC hS hL hv b11 n11 hg
  have hii : (k : Int) < (nr : Int) := by omega
  have hrr : (r : Int) < (G.n : Int) := by omega
  generalize hc : rn k = c at *
  clear hc
  generalize (D.b (16 + (B + nc) + k)).map (fun g => (⟨g, 0, none⟩ : Addr)) = o7 at *
  generalize D.cap (16 + (B + nc) + k) = kk at *
  show Code.wp Try.prog (Code.seq _ _) Q _ wr
  refine wp_seq_k (fun K1 hK => ?_)
  have HK1 : Hid (∀ (a : Act) (w : World), _ → K1 a w) := hK
  clear hK
  go_wp2
  refine HK1.out _ _ ?_
  clear HK1 K1
  go_wp2_with (at_builtin; refine wpList_append_row rfl (HR.out.alloc _) (16 + (B + nc) + k) c HL.out (.tmp 415) (.tmp 417) 26 rfl 3 i3 (.int .i64 0) 1 8 (KD_l (B + nc) k) Try.underlying26 hi3 hz30 hz31 hz32 rfl (by decide) (Eq.trans rfl HV.out.symm) ⟨wr.heap.size, 0, none⟩ 1 [.int .i64 (f : Int)] rfl rfl (news1 _ _ _) (by simp [Value.oneCell']) (by omega) (by decide) ?_; intro gn kn w2 hR2 hG2; obtain ⟨y1, y2⟩ := FYY.out gn kn w2 hR2; have FF := FN.out gn kn w2 _ hR2 hG2; have HFF : Hid (∃ D', XR w0 G ga gm g0 g1 g2 g3 R g8 g9 g10 par st wh v20 B nc cn cl (.slice (some ⟨g11, 0, none⟩) nr k11) nr (up rn k (c + 1)) (upl rl k c f) D' (w2.setCell ⟨g11, k, none⟩ (.slice (some ⟨gn, 0, none⟩) (c + 1) kn))) := FF; clear hR2 hG2 FF)
  obtain ⟨D', hF⟩ := HFF.out
  exact HC.out _ _ D' ⟨⟨⟨⟨⟨by kernel_rfl, by kernel_rfl, by kernel_rfl, by kernel_rfl, by kernel_rfl, by kernel_rfl⟩, by kernel_rfl⟩, by kernel_rfl, by kernel_rfl, by kernel_rfl⟩, by kernel_rfl, by kernel_rfl, by kernel_rfl⟩, by kernel_rfl, by kernel_rfl, by kernel_rfl, by kernel_rfl⟩ hF
end Go.Proofs.Qxb6602148a
