import Derived.Test.Qxb6602148aDwl
import Derived.Test.Qxb6602148aDr
attribute [local go_sem] Go.Proofs.Qxb6602148a.yTo Go.Proofs.Qxb6602148a.yUpon
namespace Go.Proofs.Qxb6602148a
open Go.RowKit
set_option linter.unusedVariables false
set_option linter.unusedSimpArgs false

theorem DGo.old {P : PS} {c n : Nat} {sl : Nat → Nat} (h : DGo P c n sl) {j : Nat} (hj : j < n) (m : Nat) : sl j ≠ P.ns m := by
  unfold PS.ns
  have hlt := h.lt j hj
  by_cases hm' : m < P.nF
  · rw [if_pos hm']
    intro e
    have h1 := h.sp.f1 (P.nF - 1 - m) (by omega)
    exact h.free j (P.nF - 1 - m) hj (by omega) (by omega)
  · rw [if_neg hm']; omega
theorem Spare.nF_le {P : PS} (h : Spare P) : P.nF ≤ P.nS := pigeon P.nS P.nF (fun j => (P.free j).toNat) (fun i hi => by have := h.f1 i hi; omega) (fun i j hi hj e => h.f2 i j hi hj (by
  have h1 := h.f1 i hi
  have h2 := h.f1 j hj
  have e : (P.free i).toNat = (P.free j).toNat := e
  omega))
theorem Spare.nU_le {P : PS} (h : Spare P) : P.nU ≤ P.nC := pigeon P.nC P.nU (fun j => (P.unused j).toNat) (fun i hi => by have := h.u1 i hi; omega) (fun i j hi hj e => h.u2 i j hi hj (by
  have h1 := h.u1 i hi
  have h2 := h.u1 j hj
  have e : (P.unused i).toNat = (P.unused j).toNat := e
  omega))

/-- What is known of the slots behind the calls of 'split'. -/
structure DB (x : DX) (PB : PS) (L : LS) : Prop where
  lt : ∀ i, i < x.n → x.sl i < PB.nS
  on : ∀ i, i < x.n → PB.on (x.sl i) = x.P.on (x.sl i) ∧ PB.out (x.sl i) = x.P.out (x.sl i)
  ed : ∀ i j, i < x.n → j < x.P.on (x.sl i) → ∃ e : Nat, x.P.out (x.sl i) j = (e : Int) ∧ e < PB.nE ∧ (L.blk e = 0 → PB.fr e = ((x.sl i : Nat) : Int)) ∧ (L.blk e ≠ 0 → ∃ f : Nat, PB.fr e = (f : Int) ∧ f ≠ x.sl i)
  nF : PB.nF ≤ 100000
  nU : PB.nU ≤ 100000
  le : ∀ i, i < x.n → x.P.on (x.sl i) ≤ 4096
theorem DV.db {x : DX} {PA PB : PS} {s : TS} {K : Nat} {ln : Nat → Nat} {ls : Nat → Nat → Nat} {L : LS} (h : DV PA ln ls K PB L) (hl : DL PA K ln ls) (hgo : DGo x.P x.c x.n x.sl) (dr : DR x.P x.c s PA) : DB x PB L := by
  obtain ⟨kE, kfr, kto, kS, kon, kout, kC⟩ := dr.keeps
  have old : ∀ i, i < x.n → ∀ m, x.sl i ≠ PA.ns m := fun i hi m => by rw [dr.ns]; exact hgo.old hi m
  refine ⟨fun i hi => ?_, fun i hi => ?_, fun i j hi hj => ?_, ?_, ?_, fun i hi => hgo.on_le hi⟩
  · rw [h.lay.nS, kS]; have := hgo.lt i hi; omega
  · obtain ⟨_, _, _, o1, o2⟩ := h.lay.olds (x.sl i) (fun k _ => old i hi k)
    rw [o1, o2, kon, kout]; exact ⟨rfl, rfl⟩
  · obtain ⟨e, t, a1, a2, a3, a4, a5, a6⟩ := hgo.edge i j hi hj
    refine ⟨e, a1, by rw [h.lay.nE, kE]; exact a2, fun hb => ?_, fun hb => ?_⟩
    · rw [(h.lay.keep e hb).1, kfr]; exact a3
    · obtain ⟨_, _, k, k', _, _, _, _, m7, _⟩ := h.lay.move e hb
      exact ⟨PA.ns k, m7, fun e' => old i hi k e'.symm⟩
  · rw [h.lay.nF]
    have := hl.sp.nF_le
    have := hl.nS
    omega
  · rw [h.lay.nU]
    have := hl.sp.nU_le
    have := hl.nC
    omega

structure FE6 (x : DX) (i : Nat) (a : Act) : Prop where
  fe : FE1 x a
  s321 : a.tmps.getD 321 undef = .slice x.a12 x.n x.k12
  s322 : a.tmps.getD 322 undef = .int .i64 (x.n : Int)
  s323 : a.tmps.getD 323 undef = .int .i64 (i : Int)
set_option maxRecDepth 40000 in
theorem lite6 {x : DX} {a : Act} (hf : FE1 x a) {u321 u322 u323 : Value} (h321 : a.tmps.getD 321 undef = u321) (h322 : a.tmps.getD 322 undef = u322) (h323 : a.tmps.getD 323 undef = u323) : ∃ y : Nat → Value, a = { tmps := #[y 0, .int .i64 (x.c : Int), .pointer (some ⟨x.q13, 0, none⟩), y 3, .slice x.a12 x.n x.k12, y 5, y 6, y 7, y 8, y 9, y 10, y 11, y 12, y 13, y 14, y 15, y 16, y 17, y 18, y 19, y 20, y 21, y 22, y 23, y 24, y 25, y 26, y 27, y 28, y 29, y 30, y 31, y 32, y 33, y 34, y 35, y 36, y 37, y 38, y 39, y 40, y 41, y 42, y 43, y 44, y 45, y 46, y 47, y 48, y 49, y 50, y 51, y 52, y 53, y 54, y 55, y 56, y 57, y 58, y 59, y 60, y 61, y 62, y 63, y 64, y 65, y 66, y 67, y 68, y 69, y 70, y 71, y 72, y 73, y 74, y 75, y 76, y 77, y 78, y 79, y 80, y 81, y 82, y 83, y 84, y 85, y 86, y 87, y 88, y 89, y 90, y 91, y 92, y 93, y 94, y 95, y 96, y 97, y 98, y 99, y 100, y 101, y 102, y 103, y 104, y 105, y 106, y 107, y 108, y 109, y 110, y 111, y 112, y 113, y 114, y 115, y 116, y 117, y 118, y 119, y 120, y 121, y 122, y 123, y 124, y 125, y 126, y 127, y 128, y 129, y 130, y 131, y 132, y 133, y 134, y 135, y 136, y 137, y 138, y 139, y 140, y 141, y 142, y 143, y 144, y 145, y 146, y 147, y 148, y 149, y 150, y 151, y 152, y 153, y 154, y 155, y 156, y 157, y 158, y 159, y 160, y 161, y 162, y 163, y 164, y 165, y 166, y 167, y 168, y 169, y 170, y 171, y 172, y 173, y 174, y 175, y 176, y 177, y 178, y 179, y 180, y 181, y 182, y 183, y 184, y 185, y 186, y 187, y 188, y 189, y 190, y 191, y 192, y 193, y 194, y 195, y 196, y 197, y 198, y 199, y 200, y 201, y 202, y 203, y 204, y 205, y 206, y 207, y 208, y 209, y 210, y 211, y 212, y 213, y 214, y 215, y 216, y 217, y 218, y 219, y 220, y 221, y 222, y 223, y 224, y 225, y 226, y 227, y 228, y 229, y 230, y 231, y 232, y 233, y 234, y 235, y 236, y 237, y 238, y 239, y 240, y 241, y 242, y 243, y 244, y 245, y 246, y 247, y 248, y 249, y 250, y 251, y 252, y 253, y 254, y 255, y 256, y 257, y 258, y 259, y 260, y 261, y 262, y 263, y 264, y 265, y 266, y 267, y 268, y 269, y 270, y 271, y 272, y 273, y 274, y 275, y 276, y 277, y 278, y 279, y 280, y 281, y 282, y 283, y 284, y 285, y 286, y 287, y 288, y 289, y 290, y 291, y 292, y 293, y 294, y 295, y 296, y 297, y 298, y 299, y 300, y 301, y 302, y 303, y 304, y 305, y 306, y 307, y 308, y 309, y 310, y 311, y 312, y 313, y 314, y 315, y 316, y 317, y 318, y 319, y 320, u321, u322, u323, y 324, y 325, y 326, y 327, y 328, y 329, y 330, y 331, y 332, y 333, y 334, y 335, y 336, y 337, y 338, y 339, y 340, y 341, y 342, y 343, y 344, y 345, y 346, y 347, y 348, y 349, y 350, y 351, y 352, y 353, y 354, y 355, y 356, y 357, y 358, y 359, y 360, y 361, y 362, y 363, y 364, y 365, y 366, y 367, y 368, y 369, y 370, y 371, y 372, y 373, y 374, y 375, y 376, y 377, y 378, y 379, y 380, y 381, y 382, y 383, y 384, y 385, y 386, y 387, y 388, y 389], defers := [] } := by
  obtain ⟨tmps, defers⟩ := a
  have yd : defers = [] := hf.df
  subst yd
  obtain ⟨y, hy, hi⟩ := arr_390 tmps hf.sz
  have e1 := (hi 1).trans hf.s1
  have e2 := (hi 2).trans hf.s2
  have e4 := (hi 4).trans hf.s4
  have e321 := (hi 321).trans h321
  have e322 := (hi 322).trans h322
  have e323 := (hi 323).trans h323
  rw [e1, e2, e4, e321, e322, e323] at hy
  exact ⟨y, congrArg (fun t => (⟨t, []⟩ : Act)) hy⟩
set_option maxRecDepth 40000 in
theorem lite6b {x : DX} {a : Act} (hf : FE1 x a) {u20 u321 u322 u323 : Value} (h20 : a.tmps.getD 20 undef = u20) (h321 : a.tmps.getD 321 undef = u321) (h322 : a.tmps.getD 322 undef = u322) (h323 : a.tmps.getD 323 undef = u323) : ∃ y : Nat → Value, a = { tmps := #[y 0, .int .i64 (x.c : Int), .pointer (some ⟨x.q13, 0, none⟩), y 3, .slice x.a12 x.n x.k12, y 5, y 6, y 7, y 8, y 9, y 10, y 11, y 12, y 13, y 14, y 15, y 16, y 17, y 18, y 19, u20, y 21, y 22, y 23, y 24, y 25, y 26, y 27, y 28, y 29, y 30, y 31, y 32, y 33, y 34, y 35, y 36, y 37, y 38, y 39, y 40, y 41, y 42, y 43, y 44, y 45, y 46, y 47, y 48, y 49, y 50, y 51, y 52, y 53, y 54, y 55, y 56, y 57, y 58, y 59, y 60, y 61, y 62, y 63, y 64, y 65, y 66, y 67, y 68, y 69, y 70, y 71, y 72, y 73, y 74, y 75, y 76, y 77, y 78, y 79, y 80, y 81, y 82, y 83, y 84, y 85, y 86, y 87, y 88, y 89, y 90, y 91, y 92, y 93, y 94, y 95, y 96, y 97, y 98, y 99, y 100, y 101, y 102, y 103, y 104, y 105, y 106, y 107, y 108, y 109, y 110, y 111, y 112, y 113, y 114, y 115, y 116, y 117, y 118, y 119, y 120, y 121, y 122, y 123, y 124, y 125, y 126, y 127, y 128, y 129, y 130, y 131, y 132, y 133, y 134, y 135, y 136, y 137, y 138, y 139, y 140, y 141, y 142, y 143, y 144, y 145, y 146, y 147, y 148, y 149, y 150, y 151, y 152, y 153, y 154, y 155, y 156, y 157, y 158, y 159, y 160, y 161, y 162, y 163, y 164, y 165, y 166, y 167, y 168, y 169, y 170, y 171, y 172, y 173, y 174, y 175, y 176, y 177, y 178, y 179, y 180, y 181, y 182, y 183, y 184, y 185, y 186, y 187, y 188, y 189, y 190, y 191, y 192, y 193, y 194, y 195, y 196, y 197, y 198, y 199, y 200, y 201, y 202, y 203, y 204, y 205, y 206, y 207, y 208, y 209, y 210, y 211, y 212, y 213, y 214, y 215, y 216, y 217, y 218, y 219, y 220, y 221, y 222, y 223, y 224, y 225, y 226, y 227, y 228, y 229, y 230, y 231, y 232, y 233, y 234, y 235, y 236, y 237, y 238, y 239, y 240, y 241, y 242, y 243, y 244, y 245, y 246, y 247, y 248, y 249, y 250, y 251, y 252, y 253, y 254, y 255, y 256, y 257, y 258, y 259, y 260, y 261, y 262, y 263, y 264, y 265, y 266, y 267, y 268, y 269, y 270, y 271, y 272, y 273, y 274, y 275, y 276, y 277, y 278, y 279, y 280, y 281, y 282, y 283, y 284, y 285, y 286, y 287, y 288, y 289, y 290, y 291, y 292, y 293, y 294, y 295, y 296, y 297, y 298, y 299, y 300, y 301, y 302, y 303, y 304, y 305, y 306, y 307, y 308, y 309, y 310, y 311, y 312, y 313, y 314, y 315, y 316, y 317, y 318, y 319, y 320, u321, u322, u323, y 324, y 325, y 326, y 327, y 328, y 329, y 330, y 331, y 332, y 333, y 334, y 335, y 336, y 337, y 338, y 339, y 340, y 341, y 342, y 343, y 344, y 345, y 346, y 347, y 348, y 349, y 350, y 351, y 352, y 353, y 354, y 355, y 356, y 357, y 358, y 359, y 360, y 361, y 362, y 363, y 364, y 365, y 366, y 367, y 368, y 369, y 370, y 371, y 372, y 373, y 374, y 375, y 376, y 377, y 378, y 379, y 380, y 381, y 382, y 383, y 384, y 385, y 386, y 387, y 388, y 389], defers := [] } := by
  obtain ⟨tmps, defers⟩ := a
  have yd : defers = [] := hf.df
  subst yd
  obtain ⟨y, hy, hi⟩ := arr_390 tmps hf.sz
  have e1 := (hi 1).trans hf.s1
  have e2 := (hi 2).trans hf.s2
  have e4 := (hi 4).trans hf.s4
  have e20 := (hi 20).trans h20
  have e321 := (hi 321).trans h321
  have e322 := (hi 322).trans h322
  have e323 := (hi 323).trans h323
  rw [e1, e2, e4, e20, e321, e322, e323] at hy
  exact ⟨y, congrArg (fun t => (⟨t, []⟩ : Act)) hy⟩
set_option maxRecDepth 40000 in
theorem lite7 {x : DX} {a : Act} (hf : FE1 x a) {u20 u321 u322 u323 u334 u335 u336 : Value} (h20 : a.tmps.getD 20 undef = u20) (h321 : a.tmps.getD 321 undef = u321) (h322 : a.tmps.getD 322 undef = u322) (h323 : a.tmps.getD 323 undef = u323) (h334 : a.tmps.getD 334 undef = u334) (h335 : a.tmps.getD 335 undef = u335) (h336 : a.tmps.getD 336 undef = u336) : ∃ y : Nat → Value, a = { tmps := #[y 0, .int .i64 (x.c : Int), .pointer (some ⟨x.q13, 0, none⟩), y 3, .slice x.a12 x.n x.k12, y 5, y 6, y 7, y 8, y 9, y 10, y 11, y 12, y 13, y 14, y 15, y 16, y 17, y 18, y 19, u20, y 21, y 22, y 23, y 24, y 25, y 26, y 27, y 28, y 29, y 30, y 31, y 32, y 33, y 34, y 35, y 36, y 37, y 38, y 39, y 40, y 41, y 42, y 43, y 44, y 45, y 46, y 47, y 48, y 49, y 50, y 51, y 52, y 53, y 54, y 55, y 56, y 57, y 58, y 59, y 60, y 61, y 62, y 63, y 64, y 65, y 66, y 67, y 68, y 69, y 70, y 71, y 72, y 73, y 74, y 75, y 76, y 77, y 78, y 79, y 80, y 81, y 82, y 83, y 84, y 85, y 86, y 87, y 88, y 89, y 90, y 91, y 92, y 93, y 94, y 95, y 96, y 97, y 98, y 99, y 100, y 101, y 102, y 103, y 104, y 105, y 106, y 107, y 108, y 109, y 110, y 111, y 112, y 113, y 114, y 115, y 116, y 117, y 118, y 119, y 120, y 121, y 122, y 123, y 124, y 125, y 126, y 127, y 128, y 129, y 130, y 131, y 132, y 133, y 134, y 135, y 136, y 137, y 138, y 139, y 140, y 141, y 142, y 143, y 144, y 145, y 146, y 147, y 148, y 149, y 150, y 151, y 152, y 153, y 154, y 155, y 156, y 157, y 158, y 159, y 160, y 161, y 162, y 163, y 164, y 165, y 166, y 167, y 168, y 169, y 170, y 171, y 172, y 173, y 174, y 175, y 176, y 177, y 178, y 179, y 180, y 181, y 182, y 183, y 184, y 185, y 186, y 187, y 188, y 189, y 190, y 191, y 192, y 193, y 194, y 195, y 196, y 197, y 198, y 199, y 200, y 201, y 202, y 203, y 204, y 205, y 206, y 207, y 208, y 209, y 210, y 211, y 212, y 213, y 214, y 215, y 216, y 217, y 218, y 219, y 220, y 221, y 222, y 223, y 224, y 225, y 226, y 227, y 228, y 229, y 230, y 231, y 232, y 233, y 234, y 235, y 236, y 237, y 238, y 239, y 240, y 241, y 242, y 243, y 244, y 245, y 246, y 247, y 248, y 249, y 250, y 251, y 252, y 253, y 254, y 255, y 256, y 257, y 258, y 259, y 260, y 261, y 262, y 263, y 264, y 265, y 266, y 267, y 268, y 269, y 270, y 271, y 272, y 273, y 274, y 275, y 276, y 277, y 278, y 279, y 280, y 281, y 282, y 283, y 284, y 285, y 286, y 287, y 288, y 289, y 290, y 291, y 292, y 293, y 294, y 295, y 296, y 297, y 298, y 299, y 300, y 301, y 302, y 303, y 304, y 305, y 306, y 307, y 308, y 309, y 310, y 311, y 312, y 313, y 314, y 315, y 316, y 317, y 318, y 319, y 320, u321, u322, u323, y 324, y 325, y 326, y 327, y 328, y 329, y 330, y 331, y 332, y 333, u334, u335, u336, y 337, y 338, y 339, y 340, y 341, y 342, y 343, y 344, y 345, y 346, y 347, y 348, y 349, y 350, y 351, y 352, y 353, y 354, y 355, y 356, y 357, y 358, y 359, y 360, y 361, y 362, y 363, y 364, y 365, y 366, y 367, y 368, y 369, y 370, y 371, y 372, y 373, y 374, y 375, y 376, y 377, y 378, y 379, y 380, y 381, y 382, y 383, y 384, y 385, y 386, y 387, y 388, y 389], defers := [] } := by
  obtain ⟨tmps, defers⟩ := a
  have yd : defers = [] := hf.df
  subst yd
  obtain ⟨y, hy, hi⟩ := arr_390 tmps hf.sz
  have e1 := (hi 1).trans hf.s1
  have e2 := (hi 2).trans hf.s2
  have e4 := (hi 4).trans hf.s4
  have e20 := (hi 20).trans h20
  have e321 := (hi 321).trans h321
  have e322 := (hi 322).trans h322
  have e323 := (hi 323).trans h323
  have e334 := (hi 334).trans h334
  have e335 := (hi 335).trans h335
  have e336 := (hi 336).trans h336
  rw [e1, e2, e4, e20, e321, e322, e323, e334, e335, e336] at hy
  exact ⟨y, congrArg (fun t => (⟨t, []⟩ : Act)) hy⟩

def dB12 (c : Code) : Code := bl (sL (tl 2 (lp (bl (tl 1 (sL (tl 8 c)))))))

/-- The memory meanwhile. -/
structure DMe (x : DX) (vis : Int) (PB : PS) (L : LS) (i j : Nat) (M2 : Fam) (P2 : PS) (w : World) : Prop where
  din : DIn x.w x.M x.p x.q13 x.q14 vis w M2 P2
  v12 : M2.val 12 = .slice x.a12 x.n x.k12
  i12 : Ints M2 12 x.n (fun j => ((x.sl j : Nat) : Int))
  dc : DC x PB L i j P2

set_option maxRecDepth 40000 in
set_option maxHeartbeats 8000000 in
/-- Region 45: the next slot. -/
theorem dw_r45 (x : DX) (vis : Int) (PB : PS) (L : LS) (i : Nat) (a : Act) (w : World) (M2 : Fam) (P2 : PS) (hf : FE6 x i a) (hi : i < x.n) (hM : DMe x vis PB L i 0 M2 P2 w) (Q : Exit → Act → World → Prop)
    (hC : ∀ (a : Act), FE6 x i a → a.tmps.getD 20 undef = .int .i64 ((x.sl i : Nat) : Int) → Code.wp Try.prog (tl 1 (dB12 (Try.f28.body.getD .skip))) Q a w) :
    Code.wp Try.prog (dB12 (Try.f28.body.getD .skip)) Q a w := by
  obtain ⟨g12, b12⟩ := hM.din.rep.hasBlock (i := 12) (by rw [hM.i12.1]; omega)
  have hv := hM.v12
  rw [val_some b12, hM.i12.1] at hv
  injection hv with ha _ hc12
  have l12 := hM.din.rep.le_cap 12
  rw [hM.i12.1, hc12] at l12
  have HA : Hid (Value.slice (some ⟨g12, 0, none⟩) x.n x.k12 = .slice x.a12 x.n x.k12) := by rw [Hid, ← ha]
  have x0 := hM.i12.cell hM.din.rep b12 rfl hi
  have HC : Hid (∀ (a : Act), FE6 x i a → a.tmps.getD 20 undef = .int .i64 ((x.sl i : Nat) : Int) → Code.wp Try.prog (tl 1 (dB12 (Try.f28.body.getD .skip))) Q a w) := hC
  have hii : (i : Int) < (x.n : Int) := by omega
  obtain ⟨y, rfl⟩ := lite6 hf.fe hf.s321 hf.s322 hf.s323
  rw [← ha]
  clear hf hM hC ha hc12 b12
  show Code.wp Try.prog (Code.seq _ (tl 1 (dB12 (Try.f28.body.getD .skip)))) Q _ w
  refine wp_seq_k (fun K1 hK => ?_)
  have HK : Hid (∀ (a : Act) (w : World), _ → K1 a w) := hK
  clear hK
  go_wp2
  refine HK.out _ _ ?_
  exact HC.out _ ⟨⟨by kernel_rfl, by kernel_rfl, by kernel_rfl, by kernel_rfl, (Eq.trans (by kernel_rfl) HA.out)⟩, (Eq.trans (by kernel_rfl) HA.out), by kernel_rfl, by kernel_rfl⟩ (by kernel_rfl)

def L7I (x : DX) (vis : Int) (PB : PS) (L : LS) (i : Nat) (ao : Option Addr) (ko : Nat) (a : Act) (w : World) : Prop :=
  FE6 x i a ∧ a.tmps.getD 20 undef = .int .i64 ((x.sl i : Nat) : Int) ∧ a.tmps.getD 334 undef = .slice ao (x.P.on (x.sl i)) ko ∧ a.tmps.getD 335 undef = .int .i64 ((x.P.on (x.sl i) : Nat) : Int) ∧ ∃ j : Nat, a.tmps.getD 336 undef = .int .i64 (j : Int) ∧ j ≤ x.P.on (x.sl i) ∧ ∃ M2 P2, DMe x vis PB L i j M2 P2 w ∧ M2.val (60 + 3 * x.sl i) = .slice ao (x.P.on (x.sl i)) ko
def mu336 (n : Nat) (a : Act) : Nat := n - (intOf (a.tmps.getD 336 undef)).toNat

set_option maxRecDepth 40000 in
set_option maxHeartbeats 8000000 in
/-- The slot's edges. -/
theorem dw_c7 (x : DX) (vis : Int) (PB : PS) (L : LS) (i : Nat) (a : Act) (w : World) (M2 : Fam) (P2 : PS) (hf : FE6 x i a) (h20 : a.tmps.getD 20 undef = .int .i64 ((x.sl i : Nat) : Int)) (hi : i < x.n) (hM : DMe x vis PB L i 0 M2 P2 w) (hB : DB x PB L) (hgo : DGo x.P x.c x.n x.sl) (Q : Exit → Act → World → Prop)
    (hC : ∀ (a : Act) (w' : World) (M2 : Fam) (P2 : PS), FE6 x i a → a.tmps.getD 20 undef = .int .i64 ((x.sl i : Nat) : Int) → DMe x vis PB L i (x.P.on (x.sl i)) M2 P2 w' → Code.wp Try.prog (tl 2 (dB12 (Try.f28.body.getD .skip))) Q a w') :
    Code.wp Try.prog (tl 1 (dB12 (Try.f28.body.getD .skip))) Q a w := by
  obtain ⟨f0, t0, o0, n0, r0, e0⟩ := hM.dc.eq
  have nS2 : P2.nS = PB.nS := by rw [e0]; rfl
  have on2 : P2.on (x.sl i) = x.P.on (x.sl i) := (hM.dc.o2 (x.sl i) (fun i' hi' e => by have := hgo.inj i i' hi (by omega) e; omega)).trans (hB.on i hi).1
  have uS : x.sl i < P2.nS := by rw [nS2]; exact hB.lt i hi
  have hle := hB.le i hi
  obtain ⟨g3, b3⟩ := hM.din.rep.hasBlock (i := 3) (by rw [hM.din.pm.nS]; omega)
  have x1 := hM.din.box
  have x3 := hM.din.pm.hdr_some hM.din.rep hM.din.b11 (show 3 < 11 by omega) b3
  rw [hM.din.pm.nS] at x3
  have l3 := hM.din.rep.le_cap 3
  rw [hM.din.pm.nS] at l3
  have x4 := hM.din.slot b3 uS (show 2 < 7 by omega) (hM.din.pm.outh _ uS)
  have hno : M2.n (60 + 3 * x.sl i) = x.P.on (x.sl i) := (hM.din.pm.out _ uS).1.trans on2
  unfold Fam.val at x4
  rw [hno] at x4
  have start : Hid (∃ M3 P3, DMe x vis PB L i 0 M3 P3 w ∧ M3.val (60 + 3 * x.sl i) = .slice (Option.map (fun g => (⟨g, 0, none⟩ : Addr)) (M2.b (60 + 3 * x.sl i))) (x.P.on (x.sl i)) (M2.cap (60 + 3 * x.sl i))) := ⟨M2, P2, hM, by unfold Fam.val; rw [hno]⟩
  have HB : Hid (DB x PB L) := hB
  have HG : Hid (DGo x.P x.c x.n x.sl) := hgo
  have HC : Hid (∀ (a : Act) (w' : World) (M2 : Fam) (P2 : PS), FE6 x i a → a.tmps.getD 20 undef = .int .i64 ((x.sl i : Nat) : Int) → DMe x vis PB L i (x.P.on (x.sl i)) M2 P2 w' → Code.wp Try.prog (tl 2 (dB12 (Try.f28.body.getD .skip))) Q a w') := hC
  obtain ⟨y, rfl⟩ := lite6b hf.fe h20 hf.s321 hf.s322 hf.s323
  clear hf hM hC hB hgo b3 hno on2 e0 nS2 h20
  generalize Option.map (fun g => (⟨g, 0, none⟩ : Addr)) (M2.b (60 + 3 * x.sl i)) = ao at *
  generalize M2.cap (60 + 3 * x.sl i) = ko at *
  generalize M2.cap 3 = k3 at *
  generalize P2.nS = n3 at *
  show Code.wp Try.prog (Code.seq (Code.seq _ (Code.block 13 (Code.loop (Code.seq _ (Code.seq (Code.cond (.tmp 337) Code.skip (Code.exit 13)) (Code.seq (Code.block 14 (Code.seq _ (Code.seq _ (Code.cond (.tmp 348) _ Code.skip)))) _)))))) (tl 2 (dB12 (Try.f28.body.getD .skip)))) Q _ w
  refine wp_seq_k (fun K1 hK => ?_)
  have HK : Hid (∀ (a : Act) (w : World), _ → K1 a w) := hK
  clear hK
  refine wp_seq_k (fun K2 hK => ?_)
  have HK2 : Hid (∀ (a : Act) (w : World), _ → K2 a w) := hK
  clear hK
  go_wp2
  refine HK2.out _ _ ?_
  clear HK2 K2
  refine wp_block ?_
  refine wp_loop (L7I x vis PB L i ao ko) (fun a _ => mu336 (x.P.on (x.sl i)) a) ⟨⟨⟨by kernel_rfl, by kernel_rfl, by kernel_rfl, by kernel_rfl, by kernel_rfl⟩, by kernel_rfl, by kernel_rfl, by kernel_rfl⟩, by kernel_rfl, by kernel_rfl, by kernel_rfl, 0, by kernel_rfl, Nat.zero_le _, start.out⟩ ?_
  clear start x1 x3 x4 uS l3
  rintro a w' ⟨hf, h20, h334, h335, j, h336, j1, M3, P3, hM, hv⟩
  have e336 : mu336 (x.P.on (x.sl i)) a = x.P.on (x.sl i) - j := congrArg (fun v => x.P.on (x.sl i) - (intOf v).toNat) h336
  obtain ⟨y2, rfl⟩ := lite7 hf.fe h20 hf.s321 hf.s322 hf.s323 h334 h335 h336
  rw [e336]
  clear e336 hf h20 h334 h335 h336
  refine wp_seq_k (fun K3 hK => ?_)
  have HK3 : Hid (∀ (a : Act) (w : World), _ → K3 a w) := hK
  clear hK
  by_cases hj : j < x.P.on (x.sl i)
  · have hji : (j : Int) < ((x.P.on (x.sl i) : Nat) : Int) := by omega
    obtain ⟨e, e1, e2, e3, e4⟩ := HB.out.ed i j hi hj
    obtain ⟨f0, t0, o0, n0, r0, e0⟩ := hM.dc.eq
    have nS3 : P3.nS = PB.nS := by rw [e0]; rfl
    have nE3 : P3.nE = PB.nE := by rw [e0]; rfl
    have out3 : P3.out = PB.out := by rw [e0]; rfl
    have on3 : P3.on (x.sl i) = x.P.on (x.sl i) := (hM.dc.o2 (x.sl i) (fun i' hi' e => by have := HG.out.inj i i' hi (by omega) e; omega)).trans (HB.out.on i hi).1
    have uS : x.sl i < P3.nS := by rw [nS3]; exact HB.out.lt i hi
    obtain ⟨go, bo⟩ := hM.din.rep.hasBlock (i := 60 + 3 * x.sl i) (by rw [(hM.din.pm.out _ uS).1, on3]; omega)
    have ea : ao = some ⟨go, 0, none⟩ := by rw [val_some bo] at hv; injection hv with h1 _ _; exact h1.symm
    have hko : x.P.on (x.sl i) ≤ ko := by
      have h1 := hM.din.rep.le_cap (60 + 3 * x.sl i)
      rw [val_some bo] at hv
      injection hv with _ h2 h3
      rw [h2, h3] at h1
      exact h1
    subst ea
    have z0 := (hM.din.pm.out _ uS).cell hM.din.rep bo (by rw [KP_out]) (show j < P3.on (x.sl i) by rw [on3]; exact hj)
    rw [out3, (HB.out.on i hi).2, e1] at z0
    have eE : e < P3.nE := by rw [nE3]; exact e2
    obtain ⟨g1, b1⟩ := hM.din.rep.hasBlock (i := 1) (by rw [hM.din.pm.fr.1]; omega)
    obtain ⟨g2, b2⟩ := hM.din.rep.hasBlock (i := 2) (by rw [hM.din.pm.to.1]; omega)
    have z1 := hM.din.box
    have z2 := hM.din.pm.hdr_some hM.din.rep hM.din.b11 (show 1 < 11 by omega) b1
    have z3 := hM.din.pm.hdr_some hM.din.rep hM.din.b11 (show 2 < 11 by omega) b2
    rw [hM.din.pm.fr.1] at z2
    rw [hM.din.pm.to.1] at z3
    have l1 := hM.din.rep.le_cap 1
    have l2 := hM.din.rep.le_cap 2
    rw [hM.din.pm.fr.1] at l1
    rw [hM.din.pm.to.1] at l2
    have z4 := hM.din.pm.fr.cell hM.din.rep b1 rfl eE
    have z5 := hM.din.pm.to.cell hM.din.rep b2 rfl eE
    rw [hM.dc.at HG.out hi hj e1] at z4
    have z6 := hM.din.rep.frozen b1 e
    have z7 := hM.din.rep.frozen b2 e
    have d1 : x.p ≠ g1 := hM.din.ne hM.din.b11 b1 (by omega)
    have d2 : x.q13 ≠ g1 := hM.din.ne hM.din.b13 b1 (by omega)
    have d3 : x.p ≠ g2 := hM.din.ne hM.din.b11 b2 (by omega)
    have d4 : x.q13 ≠ g2 := hM.din.ne hM.din.b13 b2 (by omega)
    have d5 : g2 ≠ g1 := hM.din.ne b2 b1 (by omega)
    by_cases hb : L.blk e = 0
    · rw [e3 hb] at z4
      have fin : Hid (∃ M4 P4, DMe x vis PB L i (j + 1) M4 P4 ((w'.drew.setCell ⟨g1, e, none⟩ (.int .i64 (-1))).setCell ⟨g2, e, none⟩ (.int .i64 (-1))) ∧ M4.val (60 + 3 * x.sl i) = .slice (some ⟨go, 0, none⟩) (x.P.on (x.sl i)) ko) :=
        ⟨_, _, ⟨(hM.din.drew.setp (i := 1) b1 (by omega) (hM.din.pm.set_fr e (-1))).setp (i := 2) b2 (by omega) (hM.din.pm.unmove e), hM.v12, (hM.i12.set_ne (by omega)).set_ne (by omega), hM.dc.drop hi hj e1 hb⟩, hv⟩
      clear hM hv e1 e3 e4 e0 nS3 nE3 out3 on3 b1 b2 bo uS
      generalize M3.cap 1 = k1 at *
      generalize M3.cap 2 = k2 at *
      generalize P3.nE = nE at *
      generalize P3.to e = te at *
      go_wp2
      refine HK3.out _ _ ?_
      clear HK3 K3
      refine wp_seq_k (fun K3 hK => ?_)
      have HK3 : Hid (∀ (a : Act) (w : World), _ → K3 a w) := hK
      clear hK
      refine wp_cond_true (by kernel_rfl) (wp_skip ?_)
      refine HK3.out _ _ ?_
      clear HK3 K3
      refine wp_seq_k (fun K3 hK => ?_)
      have HK3 : Hid (∀ (a : Act) (w : World), _ → K3 a w) := hK
      clear hK
      refine wp_block ?_
      refine wp_seq_k (fun K4 hK => ?_)
      have HK4 : Hid (∀ (a : Act) (w : World), _ → K4 a w) := hK
      clear hK
      go_wp2
      refine HK4.out _ _ ?_
      clear HK4 K4
      refine wp_seq_k (fun K4 hK => ?_)
      have HK4 : Hid (∀ (a : Act) (w : World), _ → K4 a w) := hK
      clear hK
      go_wp2
      refine HK4.out _ _ (wp_cond_true (by kernel_rfl) ?_)
      clear HK4 K4
      have FK : Hid (∀ k w'', C2 w'.drew (w'.drew.setCell ⟨g1, e, none⟩ (.int .i64 (-1))) ((w'.drew.setCell ⟨g1, e, none⟩ (.int .i64 (-1))).setCell ⟨g2, e, none⟩ (.int .i64 (-1))) k w'' → w''.cell? ⟨x.q13, 0, none⟩ = some (.pointer (some ⟨x.p, 0, none⟩)) ∧ w''.cell? ⟨x.p, 1, none⟩ = some (.slice (some ⟨g1, 0, none⟩) nE k1) ∧ w''.cell? ⟨x.p, 2, none⟩ = some (.slice (some ⟨g2, 0, none⟩) nE k2)) := by
        refine C2.all ⟨z1, z2, z3⟩ ?_ ?_
        · rw [cell_ne d2, cell_ne d1, cell_ne d1]; exact ⟨z1, z2, z3⟩
        · rw [cell_ne d4, cell_ne d3, cell_ne d3, cell_ne d2, cell_ne d1, cell_ne d1]; exact ⟨z1, z2, z3⟩
      refine wp_region_stage (C2 w'.drew (w'.drew.setCell ⟨g1, e, none⟩ (.int .i64 (-1))) ((w'.drew.setCell ⟨g1, e, none⟩ (.int .i64 (-1))).setCell ⟨g2, e, none⟩ (.int .i64 (-1)))) [11, 13] (fun i => 2) (by kernel_rfl) (by kernel_rfl) (rfl) ?_
      refine wpStage_read rfl rfl ?_
      apply Exists.intro
      refine ⟨fun k w'' hk hw => ?_, ?_⟩
      · obtain ⟨y1, y3, y4⟩ := FK.out k w'' hw
        go_simp
        first | rfl | exact ⟨rfl, hw⟩
      go_simp
      refine wpStage_read rfl rfl ?_
      apply Exists.intro
      refine ⟨fun k w'' hk hw => ?_, ?_⟩
      · go_simp
        first | rfl | exact ⟨rfl, hw⟩
      go_simp
      refine wpStage_read rfl rfl ?_
      apply Exists.intro
      refine ⟨fun k w'' hk hw => ?_, ?_⟩
      · go_simp
        first | rfl | exact ⟨rfl, hw⟩
      go_simp
      refine wpStage_read rfl rfl ?_
      apply Exists.intro
      refine ⟨fun k w'' hk hw => ?_, ?_⟩
      · obtain ⟨y1, y3, y4⟩ := FK.out k w'' hw
        go_simp
        first | rfl | exact ⟨rfl, hw⟩
      go_simp
      refine wpStage_read rfl rfl ?_
      apply Exists.intro
      refine ⟨fun k w'' hk hw => ?_, ?_⟩
      · go_simp
        first | rfl | exact ⟨rfl, hw⟩
      go_simp
      refine wpStage_read rfl rfl ?_
      apply Exists.intro
      refine ⟨fun k w'' hk hw => ?_, ?_⟩
      · obtain ⟨y1, y3, y4⟩ := FK.out k w'' hw
        go_simp
        first | rfl | exact ⟨rfl, hw⟩
      go_simp
      refine wpStage_read rfl rfl ?_
      apply Exists.intro
      refine ⟨fun k w'' hk hw => ?_, ?_⟩
      · go_simp
        first | rfl | exact ⟨rfl, hw⟩
      go_simp
      refine wpStage_read rfl rfl ?_
      apply Exists.intro
      refine ⟨fun k w'' hk hw => ?_, ?_⟩
      · go_simp
        first | rfl | exact ⟨rfl, hw⟩
      go_simp
      refine wpStage_read rfl rfl ?_
      apply Exists.intro
      refine ⟨fun k w'' hk hw => ?_, ?_⟩
      · obtain ⟨y1, y3, y4⟩ := FK.out k w'' hw
        go_simp
        first | rfl | exact ⟨rfl, hw⟩
      go_simp
      refine wpStage_read rfl rfl ?_
      apply Exists.intro
      refine ⟨fun k w'' hk hw => ?_, ?_⟩
      · go_simp
        first | rfl | exact ⟨rfl, hw⟩
      go_simp
      refine wpStage_read rfl rfl ?_
      apply Exists.intro
      refine ⟨fun k w'' hk hw => ?_, ?_⟩
      · go_simp
        first | rfl | exact ⟨rfl, hw⟩
      go_simp
      refine wpStage_move rfl rfl ?_
      apply Exists.intro
      refine ⟨fun w'' hw => ?_, ?_⟩
      · have hw : w'' = w'.drew := hw
        subst hw
        go_simp
        first | rfl | exact ⟨rfl, rfl⟩
      go_simp
      refine wpStage_read rfl rfl ?_
      apply Exists.intro
      refine ⟨fun k w'' hk hw => ?_, ?_⟩
      · go_simp
        first | rfl | exact ⟨rfl, hw⟩
      go_simp
      refine wpStage_move rfl rfl ?_
      apply Exists.intro
      refine ⟨fun w'' hw => ?_, ?_⟩
      · have hw : w'' = (w'.drew.setCell ⟨g1, e, none⟩ (.int .i64 (-1))) := hw
        subst hw
        go_simp
        first | rfl | exact ⟨rfl, rfl⟩
      go_simp
      intro we hw0
      have hw : we = ((w'.drew.setCell ⟨g1, e, none⟩ (.int .i64 (-1))).setCell ⟨g2, e, none⟩ (.int .i64 (-1))) := hw0
      clear hw0
      rw [← hw] at fin
      clear hw FK
      refine HK3.out _ _ ?_
      clear HK3 K3
      clear z0 z1 z2 z3 z4 z5 z6 z7
      go_wp2
      exact ⟨⟨⟨⟨by kernel_rfl, by kernel_rfl, by kernel_rfl, by kernel_rfl, by kernel_rfl⟩, by kernel_rfl, by kernel_rfl, by kernel_rfl⟩, by kernel_rfl, by kernel_rfl, by kernel_rfl, j + 1, by kernel_rfl, by omega, fin.out⟩, Nat.lt_of_le_of_lt (Nat.le_of_eq (by kernel_rfl : _ = x.P.on (x.sl i) - (j + 1))) (by omega)⟩
    · obtain ⟨ff, ff1, ff2⟩ := e4 hb
      rw [ff1] at z4
      have fin : Hid (∃ M4 P4, DMe x vis PB L i (j + 1) M4 P4 w' ∧ M4.val (60 + 3 * x.sl i) = .slice (some ⟨go, 0, none⟩) (x.P.on (x.sl i)) ko) := ⟨M3, P3, ⟨hM.din, hM.v12, hM.i12, hM.dc.stay e1 hb⟩, hv⟩
      have hne : ¬ ((ff : Nat) : Int) = ((x.sl i : Nat) : Int) := by omega
      have hne1 : (((ff : Nat) : Int) == ((x.sl i : Nat) : Int)) = false := by simpa using hne
      clear hM hv e1 e3 e4 e0 nS3 nE3 out3 on3 b1 b2 bo uS ff1 hne
      generalize M3.cap 1 = k1 at *
      generalize M3.cap 2 = k2 at *
      generalize P3.nE = nE at *
      generalize P3.to e = te at *
      go_wp2
      refine HK3.out _ _ ?_
      clear HK3 K3
      refine wp_seq_k (fun K3 hK => ?_)
      have HK3 : Hid (∀ (a : Act) (w : World), _ → K3 a w) := hK
      clear hK
      refine wp_cond_true (by kernel_rfl) (wp_skip ?_)
      refine HK3.out _ _ ?_
      clear HK3 K3
      refine wp_seq_k (fun K3 hK => ?_)
      have HK3 : Hid (∀ (a : Act) (w : World), _ → K3 a w) := hK
      clear hK
      refine wp_block ?_
      refine wp_seq_k (fun K4 hK => ?_)
      have HK4 : Hid (∀ (a : Act) (w : World), _ → K4 a w) := hK
      clear hK
      go_wp2
      refine HK4.out _ _ ?_
      clear HK4 K4
      refine wp_seq_k (fun K4 hK => ?_)
      have HK4 : Hid (∀ (a : Act) (w : World), _ → K4 a w) := hK
      clear hK
      go_wp2
      refine HK4.out _ _ (wp_cond_false (by kernel_rfl) (wp_skip ?_))
      clear HK4 K4
      refine HK3.out _ _ ?_
      clear HK3 K3
      clear z0 z1 z2 z3 z4 z5 z6 z7
      go_wp2
      exact ⟨⟨⟨⟨by kernel_rfl, by kernel_rfl, by kernel_rfl, by kernel_rfl, by kernel_rfl⟩, by kernel_rfl, by kernel_rfl, by kernel_rfl⟩, by kernel_rfl, by kernel_rfl, by kernel_rfl, j + 1, by kernel_rfl, by omega, fin.out⟩, Nat.lt_of_le_of_lt (Nat.le_of_eq (by kernel_rfl : _ = x.P.on (x.sl i) - (j + 1))) (by omega)⟩
  · have hji : ¬ (j : Int) < ((x.P.on (x.sl i) : Nat) : Int) := by omega
    have hjj : j = x.P.on (x.sl i) := by omega
    have fin : Hid (DMe x vis PB L i (x.P.on (x.sl i)) M3 P3 w') := by rw [← hjj]; exact hM
    clear hM hv hjj
    go_wp2
    refine HK3.out _ _ ?_
    refine wp_seq_k (fun K4 hK => ?_)
    refine wp_cond_false (by kernel_rfl) (wp_exit ?_)
    refine HK.out _ _ ?_
    exact HC.out _ _ M3 P3 ⟨⟨by kernel_rfl, by kernel_rfl, by kernel_rfl, by kernel_rfl, by kernel_rfl⟩, by kernel_rfl, by kernel_rfl, by kernel_rfl⟩ (by kernel_rfl) fin.out
end Go.Proofs.Qxb6602148a
