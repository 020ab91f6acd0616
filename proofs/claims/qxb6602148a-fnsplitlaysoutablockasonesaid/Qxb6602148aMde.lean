/-
  'zzBuildModel': which edges lie on a cycle.
-/
import Derived.Test.Qxb6602148aMdd
attribute [local go_sem] Go.Proofs.Qxb6602148a.yTo Go.Proofs.Qxb6602148a.yUpon
namespace Go.Proofs.Qxb6602148a
open Go.RowKit
set_option linter.unusedVariables false
set_option linter.unusedSimpArgs false

/-- One operation that its guard passes over. -/
theorem wpStage_skip {P : Program} {ops : Array Oper} {C : Nat → World → Prop} {mv : Nat → Bool} {top : Nat → Nat} {Q : Nat → Act → Prop} {a : Act} {o : Oper} {rest : List Oper} {i k : Nat} (hm : mv i = false) (hw : Region.wanted o (yielded ops a.tmps) = false)
    (h : wpStage P ops C mv top Q rest (i + 1) k (a.put o.dst undef)) : wpStage P ops C mv top Q (o :: rest) i k a :=
  ⟨undef, .inr ⟨hw, rfl, hm⟩, by rw [hm]; exact h⟩

/-- Edge e lies on a cycle, by the table R. -/
def GR.ocb (G : GR) (R : Nat → Nat → Bool) (e : Nat) : Bool := if G.sr e = G.ds e then false else R (G.ds e) (G.sr e)
/-- The memory, with the table R. -/
structure RM (w0 : World) (G : GR) (ga gm g0 g1 g2 g3 g4 : Nat) (R : Nat → Nat → Bool) (cls : Nat → Int) (onc : Nat → Bool) (D : Fam) (w : World) : Prop where
  ds : DGr w0 G ga gm g0 g1 g2 g3 cls onc D w
  b4 : D.b 4 = some g4
  r4 : Bools D 4 (G.n * G.n) (flat G.n R)
theorem RM.cell4 {w0 w : World} {G : GR} {ga gm g0 g1 g2 g3 g4 : Nat} {R : Nat → Nat → Bool} {cls : Nat → Int} {onc : Nat → Bool} {D : Fam} (h : RM w0 G ga gm g0 g1 g2 g3 g4 R cls onc D w) {u b : Nat} (hu : u < G.n) (hb : b < G.n) : w.cell? ⟨g4, u * G.n + b, none⟩ = some (.bool (R u b)) := by
  have hlt : u * G.n + b < G.n * G.n := by
    have : (u + 1) * G.n ≤ G.n * G.n := Nat.mul_le_mul_right _ hu
    rw [Nat.succ_mul] at this
    omega
  rw [h.r4.cell h.ds.rep h.b4 rfl hlt, flat_at _ _ _ hb]
def OCI (w0 : World) (G : GR) (ga gm g0 g1 g2 g3 g4 : Nat) (R : Nat → Nat → Bool) (e : Nat) (w : World) : Prop :=
  ∃ cls onc D, RM w0 G ga gm g0 g1 g2 g3 g4 R cls onc D w ∧ ∀ j, j < e → cls j = -1 ∧ onc j = G.ocb R j
theorem OCI.step {w0 w : World} {G : GR} {ga gm g0 g1 g2 g3 g4 e : Nat} {R : Nat → Nat → Bool} {b : Bool} (h : OCI w0 G ga gm g0 g1 g2 g3 g4 R e w) (hb : b = G.ocb R e) : OCI w0 G ga gm g0 g1 g2 g3 g4 R (e + 1) ((w.setCell ⟨g3, e, none⟩ (.int .i64 (-1))).drew.setCell ⟨g2, e, none⟩ (.bool b)) := by
  obtain ⟨cls, onc, D, hD, hj⟩ := h
  refine ⟨_, _, _, ⟨((DS.set3 hD.ds e (-1)).drew).set2 e b, hD.b4, (hD.r4.set_ne (by omega)).set_ne (by omega)⟩, fun j hjl => ?_⟩
  by_cases ej : j = e
  · subst ej
    rw [upd_same, upb_same]
    exact ⟨rfl, hb⟩
  · rw [upd_other _ _ ej, upb_other _ _ ej]
    exact hj j (by omega)
structure FS (a0 : Option Addr) (n k0 ga gm E g4 m : Nat) (a : Act) : Prop where
  fe : FE a0 n k0 ga gm E a
  s10 : a.tmps.getD 10 undef = .slice (some ⟨g4, 0, none⟩) m m
def OLI (w0 : World) (G : GR) (a0 : Option Addr) (k0 ga gm g0 g1 g2 g3 g4 m : Nat) (R : Nat → Nat → Bool) (a : Act) (w : World) : Prop :=
  FS a0 G.n k0 ga gm G.E g4 m a ∧ ∃ e : Nat, a.tmps.getD 7 undef = .int .i64 (e : Int) ∧ e ≤ G.E ∧ OCI w0 G ga gm g0 g1 g2 g3 g4 R e w
set_option maxRecDepth 40000 in
theorem lits {a : Act} {u0 u2 u3 u4 u5 u10 : Value} (hs : a.tmps.size = 451) (hd : a.defers = []) (h0 : a.tmps.getD 0 undef = u0) (h2 : a.tmps.getD 2 undef = u2) (h3 : a.tmps.getD 3 undef = u3) (h4 : a.tmps.getD 4 undef = u4) (h5 : a.tmps.getD 5 undef = u5) (h10 : a.tmps.getD 10 undef = u10) : ∃ y : Nat → Value, a = { tmps := #[u0, y 1, u2, u3, u4, u5, y 6, y 7, y 8, y 9, u10, y 11, y 12, y 13, y 14, y 15, y 16, y 17, y 18, y 19, y 20, y 21, y 22, y 23, y 24, y 25, y 26, y 27, y 28, y 29, y 30, y 31, y 32, y 33, y 34, y 35, y 36, y 37, y 38, y 39, y 40, y 41, y 42, y 43, y 44, y 45, y 46, y 47, y 48, y 49, y 50, y 51, y 52, y 53, y 54, y 55, y 56, y 57, y 58, y 59, y 60, y 61, y 62, y 63, y 64, y 65, y 66, y 67, y 68, y 69, y 70, y 71, y 72, y 73, y 74, y 75, y 76, y 77, y 78, y 79, y 80, y 81, y 82, y 83, y 84, y 85, y 86, y 87, y 88, y 89, y 90, y 91, y 92, y 93, y 94, y 95, y 96, y 97, y 98, y 99, y 100, y 101, y 102, y 103, y 104, y 105, y 106, y 107, y 108, y 109, y 110, y 111, y 112, y 113, y 114, y 115, y 116, y 117, y 118, y 119, y 120, y 121, y 122, y 123, y 124, y 125, y 126, y 127, y 128, y 129, y 130, y 131, y 132, y 133, y 134, y 135, y 136, y 137, y 138, y 139, y 140, y 141, y 142, y 143, y 144, y 145, y 146, y 147, y 148, y 149, y 150, y 151, y 152, y 153, y 154, y 155, y 156, y 157, y 158, y 159, y 160, y 161, y 162, y 163, y 164, y 165, y 166, y 167, y 168, y 169, y 170, y 171, y 172, y 173, y 174, y 175, y 176, y 177, y 178, y 179, y 180, y 181, y 182, y 183, y 184, y 185, y 186, y 187, y 188, y 189, y 190, y 191, y 192, y 193, y 194, y 195, y 196, y 197, y 198, y 199, y 200, y 201, y 202, y 203, y 204, y 205, y 206, y 207, y 208, y 209, y 210, y 211, y 212, y 213, y 214, y 215, y 216, y 217, y 218, y 219, y 220, y 221, y 222, y 223, y 224, y 225, y 226, y 227, y 228, y 229, y 230, y 231, y 232, y 233, y 234, y 235, y 236, y 237, y 238, y 239, y 240, y 241, y 242, y 243, y 244, y 245, y 246, y 247, y 248, y 249, y 250, y 251, y 252, y 253, y 254, y 255, y 256, y 257, y 258, y 259, y 260, y 261, y 262, y 263, y 264, y 265, y 266, y 267, y 268, y 269, y 270, y 271, y 272, y 273, y 274, y 275, y 276, y 277, y 278, y 279, y 280, y 281, y 282, y 283, y 284, y 285, y 286, y 287, y 288, y 289, y 290, y 291, y 292, y 293, y 294, y 295, y 296, y 297, y 298, y 299, y 300, y 301, y 302, y 303, y 304, y 305, y 306, y 307, y 308, y 309, y 310, y 311, y 312, y 313, y 314, y 315, y 316, y 317, y 318, y 319, y 320, y 321, y 322, y 323, y 324, y 325, y 326, y 327, y 328, y 329, y 330, y 331, y 332, y 333, y 334, y 335, y 336, y 337, y 338, y 339, y 340, y 341, y 342, y 343, y 344, y 345, y 346, y 347, y 348, y 349, y 350, y 351, y 352, y 353, y 354, y 355, y 356, y 357, y 358, y 359, y 360, y 361, y 362, y 363, y 364, y 365, y 366, y 367, y 368, y 369, y 370, y 371, y 372, y 373, y 374, y 375, y 376, y 377, y 378, y 379, y 380, y 381, y 382, y 383, y 384, y 385, y 386, y 387, y 388, y 389, y 390, y 391, y 392, y 393, y 394, y 395, y 396, y 397, y 398, y 399, y 400, y 401, y 402, y 403, y 404, y 405, y 406, y 407, y 408, y 409, y 410, y 411, y 412, y 413, y 414, y 415, y 416, y 417, y 418, y 419, y 420, y 421, y 422, y 423, y 424, y 425, y 426, y 427, y 428, y 429, y 430, y 431, y 432, y 433, y 434, y 435, y 436, y 437, y 438, y 439, y 440, y 441, y 442, y 443, y 444, y 445, y 446, y 447, y 448, y 449, y 450], defers := [] } := by
  obtain ⟨tmps, defers⟩ := a
  have yd : defers = [] := hd
  subst yd
  obtain ⟨y, hy, hi⟩ := arr_451 tmps hs
  have e0 := (hi 0).trans h0
  have e2 := (hi 2).trans h2
  have e3 := (hi 3).trans h3
  have e4 := (hi 4).trans h4
  have e5 := (hi 5).trans h5
  have e10 := (hi 10).trans h10
  rw [e0, e2, e3, e4, e5, e10] at hy
  exact ⟨y, congrArg (fun t => (⟨t, []⟩ : Act)) hy⟩
set_option maxRecDepth 40000 in
theorem lits7 {a : Act} {u0 u2 u3 u4 u5 u7 u10 : Value} (hs : a.tmps.size = 451) (hd : a.defers = []) (h0 : a.tmps.getD 0 undef = u0) (h2 : a.tmps.getD 2 undef = u2) (h3 : a.tmps.getD 3 undef = u3) (h4 : a.tmps.getD 4 undef = u4) (h5 : a.tmps.getD 5 undef = u5) (h7 : a.tmps.getD 7 undef = u7) (h10 : a.tmps.getD 10 undef = u10) : ∃ y : Nat → Value, a = { tmps := #[u0, y 1, u2, u3, u4, u5, y 6, u7, y 8, y 9, u10, y 11, y 12, y 13, y 14, y 15, y 16, y 17, y 18, y 19, y 20, y 21, y 22, y 23, y 24, y 25, y 26, y 27, y 28, y 29, y 30, y 31, y 32, y 33, y 34, y 35, y 36, y 37, y 38, y 39, y 40, y 41, y 42, y 43, y 44, y 45, y 46, y 47, y 48, y 49, y 50, y 51, y 52, y 53, y 54, y 55, y 56, y 57, y 58, y 59, y 60, y 61, y 62, y 63, y 64, y 65, y 66, y 67, y 68, y 69, y 70, y 71, y 72, y 73, y 74, y 75, y 76, y 77, y 78, y 79, y 80, y 81, y 82, y 83, y 84, y 85, y 86, y 87, y 88, y 89, y 90, y 91, y 92, y 93, y 94, y 95, y 96, y 97, y 98, y 99, y 100, y 101, y 102, y 103, y 104, y 105, y 106, y 107, y 108, y 109, y 110, y 111, y 112, y 113, y 114, y 115, y 116, y 117, y 118, y 119, y 120, y 121, y 122, y 123, y 124, y 125, y 126, y 127, y 128, y 129, y 130, y 131, y 132, y 133, y 134, y 135, y 136, y 137, y 138, y 139, y 140, y 141, y 142, y 143, y 144, y 145, y 146, y 147, y 148, y 149, y 150, y 151, y 152, y 153, y 154, y 155, y 156, y 157, y 158, y 159, y 160, y 161, y 162, y 163, y 164, y 165, y 166, y 167, y 168, y 169, y 170, y 171, y 172, y 173, y 174, y 175, y 176, y 177, y 178, y 179, y 180, y 181, y 182, y 183, y 184, y 185, y 186, y 187, y 188, y 189, y 190, y 191, y 192, y 193, y 194, y 195, y 196, y 197, y 198, y 199, y 200, y 201, y 202, y 203, y 204, y 205, y 206, y 207, y 208, y 209, y 210, y 211, y 212, y 213, y 214, y 215, y 216, y 217, y 218, y 219, y 220, y 221, y 222, y 223, y 224, y 225, y 226, y 227, y 228, y 229, y 230, y 231, y 232, y 233, y 234, y 235, y 236, y 237, y 238, y 239, y 240, y 241, y 242, y 243, y 244, y 245, y 246, y 247, y 248, y 249, y 250, y 251, y 252, y 253, y 254, y 255, y 256, y 257, y 258, y 259, y 260, y 261, y 262, y 263, y 264, y 265, y 266, y 267, y 268, y 269, y 270, y 271, y 272, y 273, y 274, y 275, y 276, y 277, y 278, y 279, y 280, y 281, y 282, y 283, y 284, y 285, y 286, y 287, y 288, y 289, y 290, y 291, y 292, y 293, y 294, y 295, y 296, y 297, y 298, y 299, y 300, y 301, y 302, y 303, y 304, y 305, y 306, y 307, y 308, y 309, y 310, y 311, y 312, y 313, y 314, y 315, y 316, y 317, y 318, y 319, y 320, y 321, y 322, y 323, y 324, y 325, y 326, y 327, y 328, y 329, y 330, y 331, y 332, y 333, y 334, y 335, y 336, y 337, y 338, y 339, y 340, y 341, y 342, y 343, y 344, y 345, y 346, y 347, y 348, y 349, y 350, y 351, y 352, y 353, y 354, y 355, y 356, y 357, y 358, y 359, y 360, y 361, y 362, y 363, y 364, y 365, y 366, y 367, y 368, y 369, y 370, y 371, y 372, y 373, y 374, y 375, y 376, y 377, y 378, y 379, y 380, y 381, y 382, y 383, y 384, y 385, y 386, y 387, y 388, y 389, y 390, y 391, y 392, y 393, y 394, y 395, y 396, y 397, y 398, y 399, y 400, y 401, y 402, y 403, y 404, y 405, y 406, y 407, y 408, y 409, y 410, y 411, y 412, y 413, y 414, y 415, y 416, y 417, y 418, y 419, y 420, y 421, y 422, y 423, y 424, y 425, y 426, y 427, y 428, y 429, y 430, y 431, y 432, y 433, y 434, y 435, y 436, y 437, y 438, y 439, y 440, y 441, y 442, y 443, y 444, y 445, y 446, y 447, y 448, y 449, y 450], defers := [] } := by
  obtain ⟨tmps, defers⟩ := a
  have yd : defers = [] := hd
  subst yd
  obtain ⟨y, hy, hi⟩ := arr_451 tmps hs
  have e0 := (hi 0).trans h0
  have e2 := (hi 2).trans h2
  have e3 := (hi 3).trans h3
  have e4 := (hi 4).trans h4
  have e5 := (hi 5).trans h5
  have e7 := (hi 7).trans h7
  have e10 := (hi 10).trans h10
  rw [e0, e2, e3, e4, e5, e7, e10] at hy
  exact ⟨y, congrArg (fun t => (⟨t, []⟩ : Act)) hy⟩

set_option maxRecDepth 40000 in
set_option maxHeartbeats 8000000 in
/-- Which edges lie on a cycle. -/
theorem md_7 (w0 : World) (G : GR) (a0 : Option Addr) (k0 ga gm g0 g1 g2 g3 g4 m : Nat) (hm : m = G.n * G.n) (ok : G.Ok) (R : Nat → Nat → Bool) (wr : World) (hI : OCI w0 G ga gm g0 g1 g2 g3 g4 R 0 wr) (a : Act) (hf : FS a0 G.n k0 ga gm G.E g4 m a) (Q : Exit → Act → World → Prop)
    (hC : ∀ (a : Act) (w : World), FS a0 G.n k0 ga gm G.E g4 m a → OCI w0 G ga gm g0 g1 g2 g3 g4 R G.E w → Q .normal a w) :
    Code.wp Try.prog (sL (tl 15 (Try.f10.body.getD .skip))) Q a wr := by
  obtain ⟨y, rfl⟩ := lits hf.fe.fm.sz hf.fe.fm.df hf.fe.fm.s0 hf.fe.fm.s2 hf.fe.fm.s3 hf.fe.fm.s4 hf.fe.s5 hf.s10
  have HO : Hid G.Ok := ok
  have HI : Hid (OCI w0 G ga gm g0 g1 g2 g3 g4 R 0 wr) := hI
  have HM : Hid (m = G.n * G.n) := hm
  have hn := ok.n
  have hE := ok.E
  have hm2 : m ≤ 16777216 := by rw [hm]; exact Nat.mul_le_mul hn hn
  have HC : Hid (∀ (a : Act) (w : World), FS a0 G.n k0 ga gm G.E g4 m a → OCI w0 G ga gm g0 g1 g2 g3 g4 R G.E w → Q .normal a w) := hC
  clear hf ok hC hI hm
  show Code.wp Try.prog (Code.seq _ (Code.block 12 (Code.loop (Code.seq (Code.seq _ (Code.cond (.tmp 170) Code.skip (Code.exit 12))) (Code.seq (Code.block 13 (Code.seq _ _)) _))))) Q _ wr
  refine wp_seq_k (fun K1 hK => ?_)
  have HK1 : Hid (∀ (a : Act) (w : World), _ → K1 a w) := hK
  clear hK
  go_wp2
  refine HK1.out _ _ ?_
  clear HK1 K1
  refine wp_block ?_
  refine wp_loop (OLI w0 G a0 k0 ga gm g0 g1 g2 g3 g4 m R) (fun a _ => mus 7 G.E a) ⟨⟨⟨⟨by kernel_rfl, by kernel_rfl, by kernel_rfl, by kernel_rfl, by kernel_rfl, by kernel_rfl⟩, by kernel_rfl⟩, by kernel_rfl⟩, 0, by kernel_rfl, Nat.zero_le _, HI.out⟩ ?_
  clear HI
  rintro a w' ⟨hf, e, h7, e1, hI⟩
  have HI : Hid (OCI w0 G ga gm g0 g1 g2 g3 g4 R e w') := hI
  have e7 : mus 7 G.E a = G.E - e := congrArg (fun v => G.E - (intOf v).toNat) h7
  obtain ⟨y2, rfl⟩ := lits7 hf.fe.fm.sz hf.fe.fm.df hf.fe.fm.s0 hf.fe.fm.s2 hf.fe.fm.s3 hf.fe.fm.s4 hf.fe.s5 h7 hf.s10
  rw [e7]
  clear e7 hf h7 hI
  refine wp_seq_k (fun K1 hK => ?_)
  have HK1 : Hid (∀ (a : Act) (w : World), _ → K1 a w) := hK
  clear hK
  refine wp_seq_k (fun K2 hK => ?_)
  have HK2 : Hid (∀ (a : Act) (w : World), _ → K2 a w) := hK
  clear hK
  by_cases he : e < G.E
  · have hee : (e : Int) < (G.E : Int) := by omega
    obtain ⟨cls, onc, D, hD, hj⟩ := HI.out
    have z4 : w'.cell? ⟨gm, 4, none⟩ = some (.slice (some ⟨g3, 0, none⟩) G.E G.E) := DS.hd hD.ds (f := 4) (by decide)
    have z5 := hD.ds.i3.cell' hD.ds.rep hD.ds.b3 rfl he
    have z6 := hD.ds.rep.frozen hD.ds.b3 e
    have hD2 := (DS.set3 hD.ds e (-1)).drew
    have RM2 : RM w0 G ga gm g0 g1 g2 g3 g4 R _ _ _ _ := ⟨hD2, hD.b4, hD.r4.set_ne (by omega)⟩
    have fin0 : Hid (∀ b, b = G.ocb R e → OCI w0 G ga gm g0 g1 g2 g3 g4 R (e + 1) ((w'.setCell ⟨g3, e, none⟩ (.int .i64 (-1))).drew.setCell ⟨g2, e, none⟩ (.bool b))) := fun b hb => HI.out.step hb
    have x1 : (w'.setCell ⟨g3, e, none⟩ (.int .i64 (-1))).drew.cell? ⟨gm, 1, none⟩ = some (.slice (some ⟨g0, 0, none⟩) G.E G.E) := DS.hd hD2 (f := 1) (by decide)
    have x2 : (w'.setCell ⟨g3, e, none⟩ (.int .i64 (-1))).drew.cell? ⟨gm, 2, none⟩ = some (.slice (some ⟨g1, 0, none⟩) G.E G.E) := DS.hd hD2 (f := 2) (by decide)
    have x3 : (w'.setCell ⟨g3, e, none⟩ (.int .i64 (-1))).drew.cell? ⟨gm, 3, none⟩ = some (.slice (some ⟨g2, 0, none⟩) G.E G.E) := DS.hd hD2 (f := 3) (by decide)
    have x4 := hD2.i0.cell' hD2.rep hD2.b0 rfl he
    have x5 := hD2.i1.cell' hD2.rep hD2.b1 rfl he
    have x6 := hD2.i2.cell hD2.rep hD2.b2 rfl he
    have f6 := hD2.rep.frozen hD2.b2 e
    have ls := G.sr_lt he
    have ld := G.ds_lt HO.out he
    have x7 := RM2.cell4 ld ls
    have hrm : G.ds e * G.n + G.n ≤ m := by
      have h1 : (G.ds e + 1) * G.n ≤ G.n * G.n := Nat.mul_le_mul_right _ ld
      rw [Nat.succ_mul] at h1
      rw [HM.out]; exact h1
    have hw1 : IntKind.i64.wrap (((G.ds e : Nat) : Int) * (G.n : Int)) = ((G.ds e * G.n : Nat) : Int) := by
      rw [← Int.natCast_mul, IntKind.wrap_i64]; omega
    have fb1 : Hid (G.sr e ≠ G.ds e → R (G.ds e) (G.sr e) = G.ocb R e) := fun h => (if_neg h).symm
    have fb0 : Hid (G.sr e = G.ds e → false = G.ocb R e) := fun h => (if_pos h).symm
    clear HI hD hj hD2 RM2
    generalize cls e = c0 at *
    generalize onc e = o0 at *
    generalize R (G.ds e) (G.sr e) = rb at *
    generalize G.ds e * G.n = r at *
    generalize G.ocb R e = ob at *
    generalize G.sr e = s at *
    generalize G.ds e = d at *
    obtain ⟨q, hq⟩ : ∃ q, q = r + s := ⟨_, rfl⟩
    rw [← hq] at x7
    have hw2 : IntKind.i64.wrap ((r : Int) + (s : Int)) = (q : Int) := by rw [IntKind.wrap_i64]; omega
    have hqm : q < m := by omega
    have hqi : (q : Int) < (m : Int) := by omega
    clear hq hrm
    go_wp2
    refine HK2.out _ _ (wp_cond_true (by kernel_rfl) (wp_skip ?_))
    refine HK1.out _ _ ?_
    clear HK1 K1 HK2 K2
    refine wp_seq_k (fun K1 hK => ?_)
    have HK1 : Hid (∀ (a : Act) (w : World), _ → K1 a w) := hK
    clear hK
    refine wp_block ?_
    refine wp_seq_k (fun K2 hK => ?_)
    have HK2 : Hid (∀ (a : Act) (w : World), _ → K2 a w) := hK
    clear hK
    go_wp2
    refine HK2.out _ _ ?_
    clear HK2 K2 z4 z5 z6
    generalize w'.setCell ⟨g3, e, none⟩ (.int .i64 (-1)) = wv at *
    by_cases hsd : s = d
    · have hne : ((s : Int) != (d : Int)) = false := by rw [hsd]; simp
      have fin : Hid (OCI w0 G ga gm g0 g1 g2 g3 g4 R (e + 1) (wv.drew.setCell ⟨g2, e, none⟩ (.bool false))) := fin0.out false (fb0.out hsd)
      clear fin0 fb0 fb1 hsd
      have FK : Hid (∀ kk w'', kk ≤ 0 → C1 wv.drew (wv.drew.setCell ⟨g2, e, none⟩ (.bool false)) kk w'' → w'' = wv.drew) := by
        intro kk w'' hk hw
        have hk : kk = 0 := by omega
        subst hk
        exact hw
      refine wp_region_stage (C1 wv.drew (wv.drew.setCell ⟨g2, e, none⟩ (.bool false))) [33] (fun i => 0) (by kernel_rfl) (by kernel_rfl) (rfl) ?_
      refine wpStage_read rfl rfl ?_
      apply Exists.intro
      refine ⟨fun kk w'' hk hw => ?_, ?_⟩
      · go_simp
        first | rfl | exact ⟨rfl, hw⟩
      go_simp
      refine wpStage_read rfl rfl ?_
      apply Exists.intro
      refine ⟨fun kk w'' hk hw => ?_, ?_⟩
      · have hw0 := FK.out kk w'' hk hw
        subst hw0
        go_simp
        first | rfl | exact ⟨rfl, hw⟩
      go_simp
      refine wpStage_read rfl rfl ?_
      apply Exists.intro
      refine ⟨fun kk w'' hk hw => ?_, ?_⟩
      · go_simp
        first | rfl | exact ⟨rfl, hw⟩
      go_simp
      refine wpStage_read rfl rfl ?_
      apply Exists.intro
      refine ⟨fun kk w'' hk hw => ?_, ?_⟩
      · go_simp
        first | rfl | exact ⟨rfl, hw⟩
      go_simp
      refine wpStage_read rfl rfl ?_
      apply Exists.intro
      refine ⟨fun kk w'' hk hw => ?_, ?_⟩
      · have hw0 := FK.out kk w'' hk hw
        subst hw0
        go_simp
        first | rfl | exact ⟨rfl, hw⟩
      go_simp
      refine wpStage_read rfl rfl ?_
      apply Exists.intro
      refine ⟨fun kk w'' hk hw => ?_, ?_⟩
      · go_simp
        first | rfl | exact ⟨rfl, hw⟩
      go_simp
      refine wpStage_read rfl rfl ?_
      apply Exists.intro
      refine ⟨fun kk w'' hk hw => ?_, ?_⟩
      · go_simp
        first | rfl | exact ⟨rfl, hw⟩
      go_simp
      refine wpStage_read rfl rfl ?_
      apply Exists.intro
      refine ⟨fun kk w'' hk hw => ?_, ?_⟩
      · have hw0 := FK.out kk w'' hk hw
        subst hw0
        go_simp
        first | rfl | exact ⟨rfl, hw⟩
      go_simp
      refine wpStage_read rfl rfl ?_
      apply Exists.intro
      refine ⟨fun kk w'' hk hw => ?_, ?_⟩
      · go_simp
        first | rfl | exact ⟨rfl, hw⟩
      go_simp
      refine wpStage_read rfl rfl ?_
      apply Exists.intro
      refine ⟨fun kk w'' hk hw => ?_, ?_⟩
      · have hw0 := FK.out kk w'' hk hw
        subst hw0
        go_simp
        first | rfl | exact ⟨rfl, hw⟩
      go_simp
      refine wpStage_read rfl rfl ?_
      apply Exists.intro
      refine ⟨fun kk w'' hk hw => ?_, ?_⟩
      · go_simp
        first | rfl | exact ⟨rfl, hw⟩
      go_simp
      refine wpStage_read rfl rfl ?_
      apply Exists.intro
      refine ⟨fun kk w'' hk hw => ?_, ?_⟩
      · go_simp
        first | rfl | exact ⟨rfl, hw⟩
      go_simp
      refine wpStage_read rfl rfl ?_
      apply Exists.intro
      refine ⟨fun kk w'' hk hw => ?_, ?_⟩
      · have hw0 := FK.out kk w'' hk hw
        subst hw0
        go_simp
        first | rfl | exact ⟨rfl, hw⟩
      go_simp
      refine wpStage_read rfl rfl ?_
      apply Exists.intro
      refine ⟨fun kk w'' hk hw => ?_, ?_⟩
      · go_simp
        first | rfl | exact ⟨rfl, hw⟩
      go_simp
      refine wpStage_read rfl rfl ?_
      apply Exists.intro
      refine ⟨fun kk w'' hk hw => ?_, ?_⟩
      · go_simp
        first | rfl | exact ⟨rfl, hw⟩
      go_simp
      refine wpStage_skip rfl (by kernel_rfl) ?_
      go_simp
      refine wpStage_skip rfl (by kernel_rfl) ?_
      go_simp
      refine wpStage_skip rfl (by kernel_rfl) ?_
      go_simp
      refine wpStage_skip rfl (by kernel_rfl) ?_
      go_simp
      refine wpStage_skip rfl (by kernel_rfl) ?_
      go_simp
      refine wpStage_skip rfl (by kernel_rfl) ?_
      go_simp
      refine wpStage_skip rfl (by kernel_rfl) ?_
      go_simp
      refine wpStage_skip rfl (by kernel_rfl) ?_
      go_simp
      refine wpStage_skip rfl (by kernel_rfl) ?_
      go_simp
      refine wpStage_skip rfl (by kernel_rfl) ?_
      go_simp
      refine wpStage_skip rfl (by kernel_rfl) ?_
      go_simp
      refine wpStage_skip rfl (by kernel_rfl) ?_
      go_simp
      refine wpStage_skip rfl (by kernel_rfl) ?_
      go_simp
      refine wpStage_skip rfl (by kernel_rfl) ?_
      go_simp
      refine wpStage_skip rfl (by kernel_rfl) ?_
      go_simp
      refine wpStage_skip rfl (by kernel_rfl) ?_
      go_simp
      refine wpStage_read rfl rfl ?_
      apply Exists.intro
      refine ⟨fun kk w'' hk hw => ?_, ?_⟩
      · go_simp
        first | rfl | exact ⟨rfl, hw⟩
      go_simp
      refine wpStage_read rfl rfl ?_
      apply Exists.intro
      refine ⟨fun kk w'' hk hw => ?_, ?_⟩
      · go_simp
        first | rfl | exact ⟨rfl, hw⟩
      go_simp
      refine wpStage_move rfl rfl ?_
      apply Exists.intro
      refine ⟨fun w'' hw => ?_, ?_⟩
      · have hw : w'' = wv.drew := hw
        subst hw
        go_simp
        first | rfl | exact ⟨rfl, rfl⟩
      go_simp
      intro we hw0
      have hw : we = (wv.drew.setCell ⟨g2, e, none⟩ (.bool false)) := hw0
      clear hw0
      rw [← hw] at fin
      clear hw FK x1 x2 x3 x4 x5 x6 x7 f6
      refine HK1.out _ _ ?_
      clear HK1 K1
      go_wp2
      exact ⟨⟨⟨⟨⟨by kernel_rfl, by kernel_rfl, by kernel_rfl, by kernel_rfl, by kernel_rfl, by kernel_rfl⟩, by kernel_rfl⟩, by kernel_rfl⟩, e + 1, by kernel_rfl, by omega, fin.out⟩, Nat.lt_of_le_of_lt (Nat.le_of_eq (by kernel_rfl : _ = G.E - (e + 1))) (by omega)⟩
    · have hne : ((s : Int) != (d : Int)) = true := by
        have : (s : Int) ≠ (d : Int) := by omega
        simpa using this
      have fin : Hid (OCI w0 G ga gm g0 g1 g2 g3 g4 R (e + 1) (wv.drew.setCell ⟨g2, e, none⟩ (.bool rb))) := fin0.out rb (fb1.out hsd)
      clear fin0 fb0 fb1 hsd
      have FK : Hid (∀ kk w'', kk ≤ 0 → C1 wv.drew (wv.drew.setCell ⟨g2, e, none⟩ (.bool rb)) kk w'' → w'' = wv.drew) := by
        intro kk w'' hk hw
        have hk : kk = 0 := by omega
        subst hk
        exact hw
      refine wp_region_stage (C1 wv.drew (wv.drew.setCell ⟨g2, e, none⟩ (.bool rb))) [33] (fun i => 0) (by kernel_rfl) (by kernel_rfl) (rfl) ?_
      refine wpStage_read rfl rfl ?_
      apply Exists.intro
      refine ⟨fun kk w'' hk hw => ?_, ?_⟩
      · go_simp
        first | rfl | exact ⟨rfl, hw⟩
      go_simp
      refine wpStage_read rfl rfl ?_
      apply Exists.intro
      refine ⟨fun kk w'' hk hw => ?_, ?_⟩
      · have hw0 := FK.out kk w'' hk hw
        subst hw0
        go_simp
        first | rfl | exact ⟨rfl, hw⟩
      go_simp
      refine wpStage_read rfl rfl ?_
      apply Exists.intro
      refine ⟨fun kk w'' hk hw => ?_, ?_⟩
      · go_simp
        first | rfl | exact ⟨rfl, hw⟩
      go_simp
      refine wpStage_read rfl rfl ?_
      apply Exists.intro
      refine ⟨fun kk w'' hk hw => ?_, ?_⟩
      · go_simp
        first | rfl | exact ⟨rfl, hw⟩
      go_simp
      refine wpStage_read rfl rfl ?_
      apply Exists.intro
      refine ⟨fun kk w'' hk hw => ?_, ?_⟩
      · have hw0 := FK.out kk w'' hk hw
        subst hw0
        go_simp
        first | rfl | exact ⟨rfl, hw⟩
      go_simp
      refine wpStage_read rfl rfl ?_
      apply Exists.intro
      refine ⟨fun kk w'' hk hw => ?_, ?_⟩
      · go_simp
        first | rfl | exact ⟨rfl, hw⟩
      go_simp
      refine wpStage_read rfl rfl ?_
      apply Exists.intro
      refine ⟨fun kk w'' hk hw => ?_, ?_⟩
      · go_simp
        first | rfl | exact ⟨rfl, hw⟩
      go_simp
      refine wpStage_read rfl rfl ?_
      apply Exists.intro
      refine ⟨fun kk w'' hk hw => ?_, ?_⟩
      · have hw0 := FK.out kk w'' hk hw
        subst hw0
        go_simp
        first | rfl | exact ⟨rfl, hw⟩
      go_simp
      refine wpStage_read rfl rfl ?_
      apply Exists.intro
      refine ⟨fun kk w'' hk hw => ?_, ?_⟩
      · go_simp
        first | rfl | exact ⟨rfl, hw⟩
      go_simp
      refine wpStage_read rfl rfl ?_
      apply Exists.intro
      refine ⟨fun kk w'' hk hw => ?_, ?_⟩
      · have hw0 := FK.out kk w'' hk hw
        subst hw0
        go_simp
        first | rfl | exact ⟨rfl, hw⟩
      go_simp
      refine wpStage_read rfl rfl ?_
      apply Exists.intro
      refine ⟨fun kk w'' hk hw => ?_, ?_⟩
      · go_simp
        first | rfl | exact ⟨rfl, hw⟩
      go_simp
      refine wpStage_read rfl rfl ?_
      apply Exists.intro
      refine ⟨fun kk w'' hk hw => ?_, ?_⟩
      · go_simp
        first | rfl | exact ⟨rfl, hw⟩
      go_simp
      refine wpStage_read rfl rfl ?_
      apply Exists.intro
      refine ⟨fun kk w'' hk hw => ?_, ?_⟩
      · have hw0 := FK.out kk w'' hk hw
        subst hw0
        go_simp
        first | rfl | exact ⟨rfl, hw⟩
      go_simp
      refine wpStage_read rfl rfl ?_
      apply Exists.intro
      refine ⟨fun kk w'' hk hw => ?_, ?_⟩
      · go_simp
        first | rfl | exact ⟨rfl, hw⟩
      go_simp
      refine wpStage_read rfl rfl ?_
      apply Exists.intro
      refine ⟨fun kk w'' hk hw => ?_, ?_⟩
      · go_simp
        first | rfl | exact ⟨rfl, hw⟩
      go_simp
      refine wpStage_read rfl (by kernel_rfl) ?_
      apply Exists.intro
      refine ⟨fun kk w'' hk hw => ?_, ?_⟩
      · go_simp
        first | rfl | exact ⟨rfl, hw⟩
      go_simp
      refine wpStage_read rfl (by kernel_rfl) ?_
      apply Exists.intro
      refine ⟨fun kk w'' hk hw => ?_, ?_⟩
      · go_simp
        first | rfl | exact ⟨rfl, hw⟩
      go_simp
      refine wpStage_read rfl (by kernel_rfl) ?_
      apply Exists.intro
      refine ⟨fun kk w'' hk hw => ?_, ?_⟩
      · have hw0 := FK.out kk w'' hk hw
        subst hw0
        go_simp
        first | rfl | exact ⟨rfl, hw⟩
      go_simp
      refine wpStage_read rfl (by kernel_rfl) ?_
      apply Exists.intro
      refine ⟨fun kk w'' hk hw => ?_, ?_⟩
      · go_simp
        first | rfl | exact ⟨rfl, hw⟩
      go_simp
      refine wpStage_read rfl (by kernel_rfl) ?_
      apply Exists.intro
      refine ⟨fun kk w'' hk hw => ?_, ?_⟩
      · go_simp
        first | rfl | exact ⟨rfl, hw⟩
      go_simp
      refine wpStage_read rfl (by kernel_rfl) ?_
      apply Exists.intro
      refine ⟨fun kk w'' hk hw => ?_, ?_⟩
      · have hw0 := FK.out kk w'' hk hw
        subst hw0
        go_simp
        first | rfl | exact ⟨rfl, hw⟩
      go_simp
      refine wpStage_read rfl (by kernel_rfl) ?_
      apply Exists.intro
      refine ⟨fun kk w'' hk hw => ?_, ?_⟩
      · go_simp
        first | rfl | exact ⟨rfl, hw⟩
      go_simp
      refine wpStage_read rfl (by kernel_rfl) ?_
      apply Exists.intro
      refine ⟨fun kk w'' hk hw => ?_, ?_⟩
      · go_simp
        first | rfl | exact ⟨rfl, hw⟩
      go_simp
      refine wpStage_read rfl (by kernel_rfl) ?_
      apply Exists.intro
      refine ⟨fun kk w'' hk hw => ?_, ?_⟩
      · go_simp
        first | rfl | exact ⟨rfl, hw⟩
      go_simp
      refine wpStage_read rfl (by kernel_rfl) ?_
      apply Exists.intro
      refine ⟨fun kk w'' hk hw => ?_, ?_⟩
      · have hw0 := FK.out kk w'' hk hw
        subst hw0
        go_simp
        first | rfl | exact ⟨rfl, hw⟩
      go_simp
      refine wpStage_read rfl (by kernel_rfl) ?_
      apply Exists.intro
      refine ⟨fun kk w'' hk hw => ?_, ?_⟩
      · go_simp
        first | rfl | exact ⟨rfl, hw⟩
      go_simp
      refine wpStage_read rfl (by kernel_rfl) ?_
      apply Exists.intro
      refine ⟨fun kk w'' hk hw => ?_, ?_⟩
      · go_simp
        first | rfl | exact ⟨rfl, hw⟩
      go_simp
      refine wpStage_read rfl (by kernel_rfl) ?_
      apply Exists.intro
      refine ⟨fun kk w'' hk hw => ?_, ?_⟩
      · have hw0 := FK.out kk w'' hk hw
        subst hw0
        go_simp
        first | rfl | exact ⟨rfl, hw⟩
      go_simp
      refine wpStage_read rfl (by kernel_rfl) ?_
      apply Exists.intro
      refine ⟨fun kk w'' hk hw => ?_, ?_⟩
      · go_simp
        first | rfl | exact ⟨rfl, hw⟩
      go_simp
      refine wpStage_read rfl (by kernel_rfl) ?_
      apply Exists.intro
      refine ⟨fun kk w'' hk hw => ?_, ?_⟩
      · go_simp
        first | rfl | exact ⟨rfl, hw⟩
      go_simp
      refine wpStage_read rfl (by kernel_rfl) ?_
      apply Exists.intro
      refine ⟨fun kk w'' hk hw => ?_, ?_⟩
      · have hw0 := FK.out kk w'' hk hw
        subst hw0
        go_simp
        first | rfl | exact ⟨rfl, hw⟩
      go_simp
      refine wpStage_read rfl rfl ?_
      apply Exists.intro
      refine ⟨fun kk w'' hk hw => ?_, ?_⟩
      · go_simp
        first | rfl | exact ⟨rfl, hw⟩
      go_simp
      refine wpStage_read rfl rfl ?_
      apply Exists.intro
      refine ⟨fun kk w'' hk hw => ?_, ?_⟩
      · go_simp
        first | rfl | exact ⟨rfl, hw⟩
      go_simp
      refine wpStage_move rfl rfl ?_
      apply Exists.intro
      refine ⟨fun w'' hw => ?_, ?_⟩
      · have hw : w'' = wv.drew := hw
        subst hw
        go_simp
        first | rfl | exact ⟨rfl, rfl⟩
      go_simp
      intro we hw0
      have hw : we = (wv.drew.setCell ⟨g2, e, none⟩ (.bool rb)) := hw0
      clear hw0
      rw [← hw] at fin
      clear hw FK x1 x2 x3 x4 x5 x6 x7 f6
      refine HK1.out _ _ ?_
      clear HK1 K1
      go_wp2
      exact ⟨⟨⟨⟨⟨by kernel_rfl, by kernel_rfl, by kernel_rfl, by kernel_rfl, by kernel_rfl, by kernel_rfl⟩, by kernel_rfl⟩, by kernel_rfl⟩, e + 1, by kernel_rfl, by omega, fin.out⟩, Nat.lt_of_le_of_lt (Nat.le_of_eq (by kernel_rfl : _ = G.E - (e + 1))) (by omega)⟩
  · have hee : ¬ (e : Int) < (G.E : Int) := by omega
    obtain rfl : e = G.E := by omega
    go_wp2
    refine HK2.out _ _ (wp_cond_false (by kernel_rfl) (wp_exit ?_))
    exact HC.out _ _ ⟨⟨⟨by kernel_rfl, by kernel_rfl, by kernel_rfl, by kernel_rfl, by kernel_rfl, by kernel_rfl⟩, by kernel_rfl⟩, by kernel_rfl⟩ HI.out
end Go.Proofs.Qxb6602148a
