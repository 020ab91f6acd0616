/-
  'divide': its frame, and what the search carries along.
-/
import Derived.Test.Qxb6602148aDv
import Derived.Test.Qxb6602148aSyb
attribute [local go_sem] Go.Proofs.Qxb6602148a.yTo Go.Proofs.Qxb6602148a.yUpon
namespace Go.Proofs.Qxb6602148a
open Go.RowKit
set_option linter.unusedVariables false
set_option linter.unusedSimpArgs false

structure DX where
  w : World
  M : Fam
  p : Nat
  q13 : Nat
  q14 : Nat
  P : PS
  c : Nat
  n : Nat
  sl : Nat → Nat
  a12 : Option Addr
  k12 : Nat

def Strong (M' : Fam) (K : Nat) (ln : Nat → Nat) (ls : Nat → Nat → Nat) : Prop := M'.n 15 = K ∧ ∀ k, k < K → M'.F 15 k = M'.val (62 + 3 * k) ∧ Ints M' (62 + 3 * k) (ln k) (fun j => ((ls k j : Nat) : Int))

structure DSt (x : DX) (s : TS) (K : Nat) (ln : Nat → Nat) (ls : Nat → Nat → Nat) (P' : PS) (M' : Fam) (wr : World) : Prop where
  din : DIn x.w x.M x.p x.q13 x.q14 ((s.vis : Nat) : Int) wr M' P'
  dr : DR x.P x.c s P'
  inv : TInv (dg x.P x.n x.sl) s
  r12 : M'.val 12 = .slice x.a12 x.n x.k12 ∧ Ints M' 12 x.n (fun j => ((x.sl j : Nat) : Int))
  st : Strong M' K ln ls

/-- What is carried along besides. ri: how many roots have been taken. -/
structure DPl (x : DX) (ri : Nat) (s : TS) (K : Nat) (ln : Nat → Nat) (ls : Nat → Nat → Nat) (lk : Nat → Nat) : Prop where
  li : Listed (dg x.P x.n x.sl) s K ln ls lk
  bd : s.vis + dgap x.P x.sl s.sc x.n ≤ 4096 * x.n + ri
  cov : ∀ j, j < ri → s.lab (x.sl j) ≠ 0 ∨ s.idx (x.sl j) ≠ 0
  kb : K + s.m ≤ s.vis
  scb : ∀ j, j < x.n → s.sc (x.sl j) ≤ x.P.on (x.sl j)

def DRel (x : DX) (ri n : Nat) (v7 : Value) (wr : World) : Prop :=
  ∃ s K ln ls lk P' M', DSt x s K ln ls P' M' wr ∧ DPl x ri s K ln ls lk ∧ v7 = M'.val 15 ∧ n = 2 * dgap x.P x.sl s.sc x.n + s.m

theorem DSt.drew {x : DX} {s : TS} {K : Nat} {ln : Nat → Nat} {ls : Nat → Nat → Nat} {P' : PS} {M' : Fam} {wr : World} (h : DSt x s K ln ls P' M' wr) : DSt x s K ln ls P' M' wr.drew := ⟨h.din.drew, h.dr, h.inv, h.r12, h.st⟩
theorem DSt.drewN {x : DX} {s : TS} {K : Nat} {ln : Nat → Nat} {ls : Nat → Nat → Nat} {P' : PS} {M' : Fam} {wr : World} (h : DSt x s K ln ls P' M' wr) (n : Nat) : DSt x s K ln ls P' M' (wr.drewN n) := ⟨h.din.drewN n, h.dr, h.inv, h.r12, h.st⟩

/-- The frame. -/
structure FD (x : DX) (v7 v39 : Value) (a : Act) : Prop where
  sz : a.tmps.size = 390
  df : a.defers = []
  s1 : a.tmps.getD 1 undef = .int .i64 (x.c : Int)
  s2 : a.tmps.getD 2 undef = .pointer (some ⟨x.q13, 0, none⟩)
  s4 : a.tmps.getD 4 undef = .slice x.a12 x.n x.k12
  s5 : a.tmps.getD 5 undef = .pointer (some ⟨x.q14, 0, none⟩)
  s6 : a.tmps.getD 6 undef = .func (.func 33) #[] #[.pointer (some ⟨x.q14, 0, none⟩), .pointer (some ⟨x.q13, 0, none⟩)]
  s7 : a.tmps.getD 7 undef = v7
  s37 : a.tmps.getD 37 undef = .slice x.a12 x.n x.k12
  s38 : a.tmps.getD 38 undef = .int .i64 (x.n : Int)
  s39 : a.tmps.getD 39 undef = v39

theorem arr_390 (arr : Array Value) (h : arr.size = 390) : ∃ y : Nat → Value, arr = #[y 0, y 1, y 2, y 3, y 4, y 5, y 6, y 7, y 8, y 9, y 10, y 11, y 12, y 13, y 14, y 15, y 16, y 17, y 18, y 19, y 20, y 21, y 22, y 23, y 24, y 25, y 26, y 27, y 28, y 29, y 30, y 31, y 32, y 33, y 34, y 35, y 36, y 37, y 38, y 39, y 40, y 41, y 42, y 43, y 44, y 45, y 46, y 47, y 48, y 49, y 50, y 51, y 52, y 53, y 54, y 55, y 56, y 57, y 58, y 59, y 60, y 61, y 62, y 63, y 64, y 65, y 66, y 67, y 68, y 69, y 70, y 71, y 72, y 73, y 74, y 75, y 76, y 77, y 78, y 79, y 80, y 81, y 82, y 83, y 84, y 85, y 86, y 87, y 88, y 89, y 90, y 91, y 92, y 93, y 94, y 95, y 96, y 97, y 98, y 99, y 100, y 101, y 102, y 103, y 104, y 105, y 106, y 107, y 108, y 109, y 110, y 111, y 112, y 113, y 114, y 115, y 116, y 117, y 118, y 119, y 120, y 121, y 122, y 123, y 124, y 125, y 126, y 127, y 128, y 129, y 130, y 131, y 132, y 133, y 134, y 135, y 136, y 137, y 138, y 139, y 140, y 141, y 142, y 143, y 144, y 145, y 146, y 147, y 148, y 149, y 150, y 151, y 152, y 153, y 154, y 155, y 156, y 157, y 158, y 159, y 160, y 161, y 162, y 163, y 164, y 165, y 166, y 167, y 168, y 169, y 170, y 171, y 172, y 173, y 174, y 175, y 176, y 177, y 178, y 179, y 180, y 181, y 182, y 183, y 184, y 185, y 186, y 187, y 188, y 189, y 190, y 191, y 192, y 193, y 194, y 195, y 196, y 197, y 198, y 199, y 200, y 201, y 202, y 203, y 204, y 205, y 206, y 207, y 208, y 209, y 210, y 211, y 212, y 213, y 214, y 215, y 216, y 217, y 218, y 219, y 220, y 221, y 222, y 223, y 224, y 225, y 226, y 227, y 228, y 229, y 230, y 231, y 232, y 233, y 234, y 235, y 236, y 237, y 238, y 239, y 240, y 241, y 242, y 243, y 244, y 245, y 246, y 247, y 248, y 249, y 250, y 251, y 252, y 253, y 254, y 255, y 256, y 257, y 258, y 259, y 260, y 261, y 262, y 263, y 264, y 265, y 266, y 267, y 268, y 269, y 270, y 271, y 272, y 273, y 274, y 275, y 276, y 277, y 278, y 279, y 280, y 281, y 282, y 283, y 284, y 285, y 286, y 287, y 288, y 289, y 290, y 291, y 292, y 293, y 294, y 295, y 296, y 297, y 298, y 299, y 300, y 301, y 302, y 303, y 304, y 305, y 306, y 307, y 308, y 309, y 310, y 311, y 312, y 313, y 314, y 315, y 316, y 317, y 318, y 319, y 320, y 321, y 322, y 323, y 324, y 325, y 326, y 327, y 328, y 329, y 330, y 331, y 332, y 333, y 334, y 335, y 336, y 337, y 338, y 339, y 340, y 341, y 342, y 343, y 344, y 345, y 346, y 347, y 348, y 349, y 350, y 351, y 352, y 353, y 354, y 355, y 356, y 357, y 358, y 359, y 360, y 361, y 362, y 363, y 364, y 365, y 366, y 367, y 368, y 369, y 370, y 371, y 372, y 373, y 374, y 375, y 376, y 377, y 378, y 379, y 380, y 381, y 382, y 383, y 384, y 385, y 386, y 387, y 388, y 389] ∧ ∀ i, y i = arr.getD i undef := by
  refine ⟨fun i => arr.getD i undef, ?_, fun _ => rfl⟩
  exact (arr_map arr 390 h undef).trans (by kernel_rfl)
set_option maxRecDepth 40000 in
theorem litd {x : DX} {v7 v39 : Value} {a : Act} (hf : FD x v7 v39 a)  : ∃ y : Nat → Value, a = { tmps := #[y 0, .int .i64 (x.c : Int), .pointer (some ⟨x.q13, 0, none⟩), y 3, .slice x.a12 x.n x.k12, .pointer (some ⟨x.q14, 0, none⟩), .func (.func 33) #[] #[.pointer (some ⟨x.q14, 0, none⟩), .pointer (some ⟨x.q13, 0, none⟩)], v7, y 8, y 9, y 10, y 11, y 12, y 13, y 14, y 15, y 16, y 17, y 18, y 19, y 20, y 21, y 22, y 23, y 24, y 25, y 26, y 27, y 28, y 29, y 30, y 31, y 32, y 33, y 34, y 35, y 36, .slice x.a12 x.n x.k12, .int .i64 (x.n : Int), v39, y 40, y 41, y 42, y 43, y 44, y 45, y 46, y 47, y 48, y 49, y 50, y 51, y 52, y 53, y 54, y 55, y 56, y 57, y 58, y 59, y 60, y 61, y 62, y 63, y 64, y 65, y 66, y 67, y 68, y 69, y 70, y 71, y 72, y 73, y 74, y 75, y 76, y 77, y 78, y 79, y 80, y 81, y 82, y 83, y 84, y 85, y 86, y 87, y 88, y 89, y 90, y 91, y 92, y 93, y 94, y 95, y 96, y 97, y 98, y 99, y 100, y 101, y 102, y 103, y 104, y 105, y 106, y 107, y 108, y 109, y 110, y 111, y 112, y 113, y 114, y 115, y 116, y 117, y 118, y 119, y 120, y 121, y 122, y 123, y 124, y 125, y 126, y 127, y 128, y 129, y 130, y 131, y 132, y 133, y 134, y 135, y 136, y 137, y 138, y 139, y 140, y 141, y 142, y 143, y 144, y 145, y 146, y 147, y 148, y 149, y 150, y 151, y 152, y 153, y 154, y 155, y 156, y 157, y 158, y 159, y 160, y 161, y 162, y 163, y 164, y 165, y 166, y 167, y 168, y 169, y 170, y 171, y 172, y 173, y 174, y 175, y 176, y 177, y 178, y 179, y 180, y 181, y 182, y 183, y 184, y 185, y 186, y 187, y 188, y 189, y 190, y 191, y 192, y 193, y 194, y 195, y 196, y 197, y 198, y 199, y 200, y 201, y 202, y 203, y 204, y 205, y 206, y 207, y 208, y 209, y 210, y 211, y 212, y 213, y 214, y 215, y 216, y 217, y 218, y 219, y 220, y 221, y 222, y 223, y 224, y 225, y 226, y 227, y 228, y 229, y 230, y 231, y 232, y 233, y 234, y 235, y 236, y 237, y 238, y 239, y 240, y 241, y 242, y 243, y 244, y 245, y 246, y 247, y 248, y 249, y 250, y 251, y 252, y 253, y 254, y 255, y 256, y 257, y 258, y 259, y 260, y 261, y 262, y 263, y 264, y 265, y 266, y 267, y 268, y 269, y 270, y 271, y 272, y 273, y 274, y 275, y 276, y 277, y 278, y 279, y 280, y 281, y 282, y 283, y 284, y 285, y 286, y 287, y 288, y 289, y 290, y 291, y 292, y 293, y 294, y 295, y 296, y 297, y 298, y 299, y 300, y 301, y 302, y 303, y 304, y 305, y 306, y 307, y 308, y 309, y 310, y 311, y 312, y 313, y 314, y 315, y 316, y 317, y 318, y 319, y 320, y 321, y 322, y 323, y 324, y 325, y 326, y 327, y 328, y 329, y 330, y 331, y 332, y 333, y 334, y 335, y 336, y 337, y 338, y 339, y 340, y 341, y 342, y 343, y 344, y 345, y 346, y 347, y 348, y 349, y 350, y 351, y 352, y 353, y 354, y 355, y 356, y 357, y 358, y 359, y 360, y 361, y 362, y 363, y 364, y 365, y 366, y 367, y 368, y 369, y 370, y 371, y 372, y 373, y 374, y 375, y 376, y 377, y 378, y 379, y 380, y 381, y 382, y 383, y 384, y 385, y 386, y 387, y 388, y 389], defers := [] } := by
  obtain ⟨tmps, defers⟩ := a
  have yd : defers = [] := hf.df
  subst yd
  obtain ⟨y, hy, hi⟩ := arr_390 tmps hf.sz
  have e1 := (hi 1).trans hf.s1
  have e2 := (hi 2).trans hf.s2
  have e4 := (hi 4).trans hf.s4
  have e5 := (hi 5).trans hf.s5
  have e6 := (hi 6).trans hf.s6
  have e7 := (hi 7).trans hf.s7
  have e37 := (hi 37).trans hf.s37
  have e38 := (hi 38).trans hf.s38
  have e39 := (hi 39).trans hf.s39
  rw [e1, e2, e4, e5, e6, e7, e37, e38, e39] at hy
  exact ⟨y, congrArg (fun t => (⟨t, []⟩ : Act)) hy⟩
set_option maxRecDepth 40000 in
theorem litd_10_11 {x : DX} {v7 v39 : Value} {a : Act} (hf : FD x v7 v39 a) {u10 u11 : Value} (h10 : a.tmps.getD 10 undef = u10) (h11 : a.tmps.getD 11 undef = u11) : ∃ y : Nat → Value, a = { tmps := #[y 0, .int .i64 (x.c : Int), .pointer (some ⟨x.q13, 0, none⟩), y 3, .slice x.a12 x.n x.k12, .pointer (some ⟨x.q14, 0, none⟩), .func (.func 33) #[] #[.pointer (some ⟨x.q14, 0, none⟩), .pointer (some ⟨x.q13, 0, none⟩)], v7, y 8, y 9, u10, u11, y 12, y 13, y 14, y 15, y 16, y 17, y 18, y 19, y 20, y 21, y 22, y 23, y 24, y 25, y 26, y 27, y 28, y 29, y 30, y 31, y 32, y 33, y 34, y 35, y 36, .slice x.a12 x.n x.k12, .int .i64 (x.n : Int), v39, y 40, y 41, y 42, y 43, y 44, y 45, y 46, y 47, y 48, y 49, y 50, y 51, y 52, y 53, y 54, y 55, y 56, y 57, y 58, y 59, y 60, y 61, y 62, y 63, y 64, y 65, y 66, y 67, y 68, y 69, y 70, y 71, y 72, y 73, y 74, y 75, y 76, y 77, y 78, y 79, y 80, y 81, y 82, y 83, y 84, y 85, y 86, y 87, y 88, y 89, y 90, y 91, y 92, y 93, y 94, y 95, y 96, y 97, y 98, y 99, y 100, y 101, y 102, y 103, y 104, y 105, y 106, y 107, y 108, y 109, y 110, y 111, y 112, y 113, y 114, y 115, y 116, y 117, y 118, y 119, y 120, y 121, y 122, y 123, y 124, y 125, y 126, y 127, y 128, y 129, y 130, y 131, y 132, y 133, y 134, y 135, y 136, y 137, y 138, y 139, y 140, y 141, y 142, y 143, y 144, y 145, y 146, y 147, y 148, y 149, y 150, y 151, y 152, y 153, y 154, y 155, y 156, y 157, y 158, y 159, y 160, y 161, y 162, y 163, y 164, y 165, y 166, y 167, y 168, y 169, y 170, y 171, y 172, y 173, y 174, y 175, y 176, y 177, y 178, y 179, y 180, y 181, y 182, y 183, y 184, y 185, y 186, y 187, y 188, y 189, y 190, y 191, y 192, y 193, y 194, y 195, y 196, y 197, y 198, y 199, y 200, y 201, y 202, y 203, y 204, y 205, y 206, y 207, y 208, y 209, y 210, y 211, y 212, y 213, y 214, y 215, y 216, y 217, y 218, y 219, y 220, y 221, y 222, y 223, y 224, y 225, y 226, y 227, y 228, y 229, y 230, y 231, y 232, y 233, y 234, y 235, y 236, y 237, y 238, y 239, y 240, y 241, y 242, y 243, y 244, y 245, y 246, y 247, y 248, y 249, y 250, y 251, y 252, y 253, y 254, y 255, y 256, y 257, y 258, y 259, y 260, y 261, y 262, y 263, y 264, y 265, y 266, y 267, y 268, y 269, y 270, y 271, y 272, y 273, y 274, y 275, y 276, y 277, y 278, y 279, y 280, y 281, y 282, y 283, y 284, y 285, y 286, y 287, y 288, y 289, y 290, y 291, y 292, y 293, y 294, y 295, y 296, y 297, y 298, y 299, y 300, y 301, y 302, y 303, y 304, y 305, y 306, y 307, y 308, y 309, y 310, y 311, y 312, y 313, y 314, y 315, y 316, y 317, y 318, y 319, y 320, y 321, y 322, y 323, y 324, y 325, y 326, y 327, y 328, y 329, y 330, y 331, y 332, y 333, y 334, y 335, y 336, y 337, y 338, y 339, y 340, y 341, y 342, y 343, y 344, y 345, y 346, y 347, y 348, y 349, y 350, y 351, y 352, y 353, y 354, y 355, y 356, y 357, y 358, y 359, y 360, y 361, y 362, y 363, y 364, y 365, y 366, y 367, y 368, y 369, y 370, y 371, y 372, y 373, y 374, y 375, y 376, y 377, y 378, y 379, y 380, y 381, y 382, y 383, y 384, y 385, y 386, y 387, y 388, y 389], defers := [] } := by
  obtain ⟨tmps, defers⟩ := a
  have yd : defers = [] := hf.df
  subst yd
  obtain ⟨y, hy, hi⟩ := arr_390 tmps hf.sz
  have e1 := (hi 1).trans hf.s1
  have e2 := (hi 2).trans hf.s2
  have e4 := (hi 4).trans hf.s4
  have e5 := (hi 5).trans hf.s5
  have e6 := (hi 6).trans hf.s6
  have e7 := (hi 7).trans hf.s7
  have e10 := (hi 10).trans h10
  have e11 := (hi 11).trans h11
  have e37 := (hi 37).trans hf.s37
  have e38 := (hi 38).trans hf.s38
  have e39 := (hi 39).trans hf.s39
  rw [e1, e2, e4, e5, e6, e7, e10, e11, e37, e38, e39] at hy
  exact ⟨y, congrArg (fun t => (⟨t, []⟩ : Act)) hy⟩
set_option maxRecDepth 40000 in
theorem litd_11 {x : DX} {v7 v39 : Value} {a : Act} (hf : FD x v7 v39 a) {u11 : Value} (h11 : a.tmps.getD 11 undef = u11) : ∃ y : Nat → Value, a = { tmps := #[y 0, .int .i64 (x.c : Int), .pointer (some ⟨x.q13, 0, none⟩), y 3, .slice x.a12 x.n x.k12, .pointer (some ⟨x.q14, 0, none⟩), .func (.func 33) #[] #[.pointer (some ⟨x.q14, 0, none⟩), .pointer (some ⟨x.q13, 0, none⟩)], v7, y 8, y 9, y 10, u11, y 12, y 13, y 14, y 15, y 16, y 17, y 18, y 19, y 20, y 21, y 22, y 23, y 24, y 25, y 26, y 27, y 28, y 29, y 30, y 31, y 32, y 33, y 34, y 35, y 36, .slice x.a12 x.n x.k12, .int .i64 (x.n : Int), v39, y 40, y 41, y 42, y 43, y 44, y 45, y 46, y 47, y 48, y 49, y 50, y 51, y 52, y 53, y 54, y 55, y 56, y 57, y 58, y 59, y 60, y 61, y 62, y 63, y 64, y 65, y 66, y 67, y 68, y 69, y 70, y 71, y 72, y 73, y 74, y 75, y 76, y 77, y 78, y 79, y 80, y 81, y 82, y 83, y 84, y 85, y 86, y 87, y 88, y 89, y 90, y 91, y 92, y 93, y 94, y 95, y 96, y 97, y 98, y 99, y 100, y 101, y 102, y 103, y 104, y 105, y 106, y 107, y 108, y 109, y 110, y 111, y 112, y 113, y 114, y 115, y 116, y 117, y 118, y 119, y 120, y 121, y 122, y 123, y 124, y 125, y 126, y 127, y 128, y 129, y 130, y 131, y 132, y 133, y 134, y 135, y 136, y 137, y 138, y 139, y 140, y 141, y 142, y 143, y 144, y 145, y 146, y 147, y 148, y 149, y 150, y 151, y 152, y 153, y 154, y 155, y 156, y 157, y 158, y 159, y 160, y 161, y 162, y 163, y 164, y 165, y 166, y 167, y 168, y 169, y 170, y 171, y 172, y 173, y 174, y 175, y 176, y 177, y 178, y 179, y 180, y 181, y 182, y 183, y 184, y 185, y 186, y 187, y 188, y 189, y 190, y 191, y 192, y 193, y 194, y 195, y 196, y 197, y 198, y 199, y 200, y 201, y 202, y 203, y 204, y 205, y 206, y 207, y 208, y 209, y 210, y 211, y 212, y 213, y 214, y 215, y 216, y 217, y 218, y 219, y 220, y 221, y 222, y 223, y 224, y 225, y 226, y 227, y 228, y 229, y 230, y 231, y 232, y 233, y 234, y 235, y 236, y 237, y 238, y 239, y 240, y 241, y 242, y 243, y 244, y 245, y 246, y 247, y 248, y 249, y 250, y 251, y 252, y 253, y 254, y 255, y 256, y 257, y 258, y 259, y 260, y 261, y 262, y 263, y 264, y 265, y 266, y 267, y 268, y 269, y 270, y 271, y 272, y 273, y 274, y 275, y 276, y 277, y 278, y 279, y 280, y 281, y 282, y 283, y 284, y 285, y 286, y 287, y 288, y 289, y 290, y 291, y 292, y 293, y 294, y 295, y 296, y 297, y 298, y 299, y 300, y 301, y 302, y 303, y 304, y 305, y 306, y 307, y 308, y 309, y 310, y 311, y 312, y 313, y 314, y 315, y 316, y 317, y 318, y 319, y 320, y 321, y 322, y 323, y 324, y 325, y 326, y 327, y 328, y 329, y 330, y 331, y 332, y 333, y 334, y 335, y 336, y 337, y 338, y 339, y 340, y 341, y 342, y 343, y 344, y 345, y 346, y 347, y 348, y 349, y 350, y 351, y 352, y 353, y 354, y 355, y 356, y 357, y 358, y 359, y 360, y 361, y 362, y 363, y 364, y 365, y 366, y 367, y 368, y 369, y 370, y 371, y 372, y 373, y 374, y 375, y 376, y 377, y 378, y 379, y 380, y 381, y 382, y 383, y 384, y 385, y 386, y 387, y 388, y 389], defers := [] } := by
  obtain ⟨tmps, defers⟩ := a
  have yd : defers = [] := hf.df
  subst yd
  obtain ⟨y, hy, hi⟩ := arr_390 tmps hf.sz
  have e1 := (hi 1).trans hf.s1
  have e2 := (hi 2).trans hf.s2
  have e4 := (hi 4).trans hf.s4
  have e5 := (hi 5).trans hf.s5
  have e6 := (hi 6).trans hf.s6
  have e7 := (hi 7).trans hf.s7
  have e11 := (hi 11).trans h11
  have e37 := (hi 37).trans hf.s37
  have e38 := (hi 38).trans hf.s38
  have e39 := (hi 39).trans hf.s39
  rw [e1, e2, e4, e5, e6, e7, e11, e37, e38, e39] at hy
  exact ⟨y, congrArg (fun t => (⟨t, []⟩ : Act)) hy⟩
set_option maxRecDepth 40000 in
theorem litd_11_12 {x : DX} {v7 v39 : Value} {a : Act} (hf : FD x v7 v39 a) {u11 u12 : Value} (h11 : a.tmps.getD 11 undef = u11) (h12 : a.tmps.getD 12 undef = u12) : ∃ y : Nat → Value, a = { tmps := #[y 0, .int .i64 (x.c : Int), .pointer (some ⟨x.q13, 0, none⟩), y 3, .slice x.a12 x.n x.k12, .pointer (some ⟨x.q14, 0, none⟩), .func (.func 33) #[] #[.pointer (some ⟨x.q14, 0, none⟩), .pointer (some ⟨x.q13, 0, none⟩)], v7, y 8, y 9, y 10, u11, u12, y 13, y 14, y 15, y 16, y 17, y 18, y 19, y 20, y 21, y 22, y 23, y 24, y 25, y 26, y 27, y 28, y 29, y 30, y 31, y 32, y 33, y 34, y 35, y 36, .slice x.a12 x.n x.k12, .int .i64 (x.n : Int), v39, y 40, y 41, y 42, y 43, y 44, y 45, y 46, y 47, y 48, y 49, y 50, y 51, y 52, y 53, y 54, y 55, y 56, y 57, y 58, y 59, y 60, y 61, y 62, y 63, y 64, y 65, y 66, y 67, y 68, y 69, y 70, y 71, y 72, y 73, y 74, y 75, y 76, y 77, y 78, y 79, y 80, y 81, y 82, y 83, y 84, y 85, y 86, y 87, y 88, y 89, y 90, y 91, y 92, y 93, y 94, y 95, y 96, y 97, y 98, y 99, y 100, y 101, y 102, y 103, y 104, y 105, y 106, y 107, y 108, y 109, y 110, y 111, y 112, y 113, y 114, y 115, y 116, y 117, y 118, y 119, y 120, y 121, y 122, y 123, y 124, y 125, y 126, y 127, y 128, y 129, y 130, y 131, y 132, y 133, y 134, y 135, y 136, y 137, y 138, y 139, y 140, y 141, y 142, y 143, y 144, y 145, y 146, y 147, y 148, y 149, y 150, y 151, y 152, y 153, y 154, y 155, y 156, y 157, y 158, y 159, y 160, y 161, y 162, y 163, y 164, y 165, y 166, y 167, y 168, y 169, y 170, y 171, y 172, y 173, y 174, y 175, y 176, y 177, y 178, y 179, y 180, y 181, y 182, y 183, y 184, y 185, y 186, y 187, y 188, y 189, y 190, y 191, y 192, y 193, y 194, y 195, y 196, y 197, y 198, y 199, y 200, y 201, y 202, y 203, y 204, y 205, y 206, y 207, y 208, y 209, y 210, y 211, y 212, y 213, y 214, y 215, y 216, y 217, y 218, y 219, y 220, y 221, y 222, y 223, y 224, y 225, y 226, y 227, y 228, y 229, y 230, y 231, y 232, y 233, y 234, y 235, y 236, y 237, y 238, y 239, y 240, y 241, y 242, y 243, y 244, y 245, y 246, y 247, y 248, y 249, y 250, y 251, y 252, y 253, y 254, y 255, y 256, y 257, y 258, y 259, y 260, y 261, y 262, y 263, y 264, y 265, y 266, y 267, y 268, y 269, y 270, y 271, y 272, y 273, y 274, y 275, y 276, y 277, y 278, y 279, y 280, y 281, y 282, y 283, y 284, y 285, y 286, y 287, y 288, y 289, y 290, y 291, y 292, y 293, y 294, y 295, y 296, y 297, y 298, y 299, y 300, y 301, y 302, y 303, y 304, y 305, y 306, y 307, y 308, y 309, y 310, y 311, y 312, y 313, y 314, y 315, y 316, y 317, y 318, y 319, y 320, y 321, y 322, y 323, y 324, y 325, y 326, y 327, y 328, y 329, y 330, y 331, y 332, y 333, y 334, y 335, y 336, y 337, y 338, y 339, y 340, y 341, y 342, y 343, y 344, y 345, y 346, y 347, y 348, y 349, y 350, y 351, y 352, y 353, y 354, y 355, y 356, y 357, y 358, y 359, y 360, y 361, y 362, y 363, y 364, y 365, y 366, y 367, y 368, y 369, y 370, y 371, y 372, y 373, y 374, y 375, y 376, y 377, y 378, y 379, y 380, y 381, y 382, y 383, y 384, y 385, y 386, y 387, y 388, y 389], defers := [] } := by
  obtain ⟨tmps, defers⟩ := a
  have yd : defers = [] := hf.df
  subst yd
  obtain ⟨y, hy, hi⟩ := arr_390 tmps hf.sz
  have e1 := (hi 1).trans hf.s1
  have e2 := (hi 2).trans hf.s2
  have e4 := (hi 4).trans hf.s4
  have e5 := (hi 5).trans hf.s5
  have e6 := (hi 6).trans hf.s6
  have e7 := (hi 7).trans hf.s7
  have e11 := (hi 11).trans h11
  have e12 := (hi 12).trans h12
  have e37 := (hi 37).trans hf.s37
  have e38 := (hi 38).trans hf.s38
  have e39 := (hi 39).trans hf.s39
  rw [e1, e2, e4, e5, e6, e7, e11, e12, e37, e38, e39] at hy
  exact ⟨y, congrArg (fun t => (⟨t, []⟩ : Act)) hy⟩
set_option maxRecDepth 40000 in
theorem litd_11_14 {x : DX} {v7 v39 : Value} {a : Act} (hf : FD x v7 v39 a) {u11 u14 : Value} (h11 : a.tmps.getD 11 undef = u11) (h14 : a.tmps.getD 14 undef = u14) : ∃ y : Nat → Value, a = { tmps := #[y 0, .int .i64 (x.c : Int), .pointer (some ⟨x.q13, 0, none⟩), y 3, .slice x.a12 x.n x.k12, .pointer (some ⟨x.q14, 0, none⟩), .func (.func 33) #[] #[.pointer (some ⟨x.q14, 0, none⟩), .pointer (some ⟨x.q13, 0, none⟩)], v7, y 8, y 9, y 10, u11, y 12, y 13, u14, y 15, y 16, y 17, y 18, y 19, y 20, y 21, y 22, y 23, y 24, y 25, y 26, y 27, y 28, y 29, y 30, y 31, y 32, y 33, y 34, y 35, y 36, .slice x.a12 x.n x.k12, .int .i64 (x.n : Int), v39, y 40, y 41, y 42, y 43, y 44, y 45, y 46, y 47, y 48, y 49, y 50, y 51, y 52, y 53, y 54, y 55, y 56, y 57, y 58, y 59, y 60, y 61, y 62, y 63, y 64, y 65, y 66, y 67, y 68, y 69, y 70, y 71, y 72, y 73, y 74, y 75, y 76, y 77, y 78, y 79, y 80, y 81, y 82, y 83, y 84, y 85, y 86, y 87, y 88, y 89, y 90, y 91, y 92, y 93, y 94, y 95, y 96, y 97, y 98, y 99, y 100, y 101, y 102, y 103, y 104, y 105, y 106, y 107, y 108, y 109, y 110, y 111, y 112, y 113, y 114, y 115, y 116, y 117, y 118, y 119, y 120, y 121, y 122, y 123, y 124, y 125, y 126, y 127, y 128, y 129, y 130, y 131, y 132, y 133, y 134, y 135, y 136, y 137, y 138, y 139, y 140, y 141, y 142, y 143, y 144, y 145, y 146, y 147, y 148, y 149, y 150, y 151, y 152, y 153, y 154, y 155, y 156, y 157, y 158, y 159, y 160, y 161, y 162, y 163, y 164, y 165, y 166, y 167, y 168, y 169, y 170, y 171, y 172, y 173, y 174, y 175, y 176, y 177, y 178, y 179, y 180, y 181, y 182, y 183, y 184, y 185, y 186, y 187, y 188, y 189, y 190, y 191, y 192, y 193, y 194, y 195, y 196, y 197, y 198, y 199, y 200, y 201, y 202, y 203, y 204, y 205, y 206, y 207, y 208, y 209, y 210, y 211, y 212, y 213, y 214, y 215, y 216, y 217, y 218, y 219, y 220, y 221, y 222, y 223, y 224, y 225, y 226, y 227, y 228, y 229, y 230, y 231, y 232, y 233, y 234, y 235, y 236, y 237, y 238, y 239, y 240, y 241, y 242, y 243, y 244, y 245, y 246, y 247, y 248, y 249, y 250, y 251, y 252, y 253, y 254, y 255, y 256, y 257, y 258, y 259, y 260, y 261, y 262, y 263, y 264, y 265, y 266, y 267, y 268, y 269, y 270, y 271, y 272, y 273, y 274, y 275, y 276, y 277, y 278, y 279, y 280, y 281, y 282, y 283, y 284, y 285, y 286, y 287, y 288, y 289, y 290, y 291, y 292, y 293, y 294, y 295, y 296, y 297, y 298, y 299, y 300, y 301, y 302, y 303, y 304, y 305, y 306, y 307, y 308, y 309, y 310, y 311, y 312, y 313, y 314, y 315, y 316, y 317, y 318, y 319, y 320, y 321, y 322, y 323, y 324, y 325, y 326, y 327, y 328, y 329, y 330, y 331, y 332, y 333, y 334, y 335, y 336, y 337, y 338, y 339, y 340, y 341, y 342, y 343, y 344, y 345, y 346, y 347, y 348, y 349, y 350, y 351, y 352, y 353, y 354, y 355, y 356, y 357, y 358, y 359, y 360, y 361, y 362, y 363, y 364, y 365, y 366, y 367, y 368, y 369, y 370, y 371, y 372, y 373, y 374, y 375, y 376, y 377, y 378, y 379, y 380, y 381, y 382, y 383, y 384, y 385, y 386, y 387, y 388, y 389], defers := [] } := by
  obtain ⟨tmps, defers⟩ := a
  have yd : defers = [] := hf.df
  subst yd
  obtain ⟨y, hy, hi⟩ := arr_390 tmps hf.sz
  have e1 := (hi 1).trans hf.s1
  have e2 := (hi 2).trans hf.s2
  have e4 := (hi 4).trans hf.s4
  have e5 := (hi 5).trans hf.s5
  have e6 := (hi 6).trans hf.s6
  have e7 := (hi 7).trans hf.s7
  have e11 := (hi 11).trans h11
  have e14 := (hi 14).trans h14
  have e37 := (hi 37).trans hf.s37
  have e38 := (hi 38).trans hf.s38
  have e39 := (hi 39).trans hf.s39
  rw [e1, e2, e4, e5, e6, e7, e11, e14, e37, e38, e39] at hy
  exact ⟨y, congrArg (fun t => (⟨t, []⟩ : Act)) hy⟩

/-! The parts of the code. -/
def dRT (c : Code) : Code := sL (tl 6 c)
def dRB (c : Code) : Code := bl (sL (tl 2 (lp (bl (tl 1 (dRT c))))))
def dIL (c : Code) : Code := tl 3 (dRB c)
def d3 (c : Code) : Code := bl (tl 1 (lp (bl (dIL c))))
def dTB (c : Code) : Code := cT (tl 1 (sL (tl 2 (d3 c))))
end Go.Proofs.Qxb6602148a
