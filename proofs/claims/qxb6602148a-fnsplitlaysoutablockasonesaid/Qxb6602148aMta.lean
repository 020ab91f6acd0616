/-
  'zzMeetsModel': its rows; the slots of each component are counted.
-/
import Derived.Test.Qxb6602148aMt
attribute [local go_sem] Go.Proofs.Qxb6602148a.yTo Go.Proofs.Qxb6602148a.yUpon
namespace Go.Proofs.Qxb6602148a
open Go.RowKit
set_option linter.unusedVariables false
set_option linter.unusedSimpArgs false

/-- Its own rows lie in memory that is new. -/
structure MM (wb : World) (D : Fam) (w : World) : Prop where
  rep : Rep KM w D
  grew : Grew Fam.nil wb D w
/-- Row r lies in block g. -/
def Roi (D : Fam) (r g n : Nat) (f : Nat → Int) : Prop := D.b r = some g ∧ Ints D r n f
def Rob (D : Fam) (r g n : Nat) (f : Nat → Bool) : Prop := D.b r = some g ∧ Bools D r n f
section
variable {wb w : World} {D : Fam} {r g n : Nat}
theorem MM.nil (w : World) : MM w Fam.nil w := ⟨Rep.nil KM w, Grew.refl _ _⟩
theorem MM.drew (h : MM wb D w) : MM wb D w.drew := ⟨h.rep.drew, h.grew.drew⟩
theorem MM.drewN (h : MM wb D w) (k : Nat) : MM wb D (w.drewN k) := ⟨h.rep.drewN k, h.grew.drewN k⟩
theorem MM.set (h : MM wb D w) (hb : D.b r = some g) (j : Nat) (v : Value) : MM wb (D.set r j v) (w.setCell ⟨g, j, none⟩ v) := ⟨h.rep.set hb j v, h.grew.set ⟨r, hb⟩ _ _ _ _⟩
theorem MM.fresh (h : MM wb D w) {w' : World} {e m : Nat} {F : Nat → Value} (hK : KM r = (e, 1)) (fr : Fresh w w' e 1 g m m F) : MM wb (D.put r (some g) m m F) w' := ⟨fr.rep h.rep r hK, h.grew.trans (fr.grew D r)⟩
theorem Roi.set_ne {f : Nat → Int} (h : Roi D r g n f) {r' j : Nat} {v : Value} (hne : r ≠ r') : Roi (D.set r' j v) r g n f := ⟨h.1, h.2.set_ne hne⟩
theorem Rob.set_ne {f : Nat → Bool} (h : Rob D r g n f) {r' j : Nat} {v : Value} (hne : r ≠ r') : Rob (D.set r' j v) r g n f := ⟨h.1, h.2.set_ne hne⟩
theorem Roi.set {f : Nat → Int} (h : Roi D r g n f) (j : Nat) (x : Int) : Roi (D.set r j (.int .i64 x)) r g n (upd f j x) := ⟨h.1, h.2.set⟩
theorem Rob.set {f : Nat → Bool} (h : Rob D r g n f) (j : Nat) (x : Bool) : Rob (D.set r j (.bool x)) r g n (upb f j x) := ⟨h.1, h.2.set⟩
theorem Roi.put_ne {f : Nat → Int} (h : Roi D r g n f) {r' m k : Nat} {b : Option Nat} {F : Nat → Value} (hne : r ≠ r') : Roi (D.put r' b m k F) r g n f := ⟨(put_b hne).trans h.1, h.2.put_ne hne⟩
theorem Rob.put_ne {f : Nat → Bool} (h : Rob D r g n f) {r' m k : Nat} {b : Option Nat} {F : Nat → Value} (hne : r ≠ r') : Rob (D.put r' b m k F) r g n f := ⟨(put_b hne).trans h.1, h.2.put_ne hne⟩
theorem Roi.new (D : Fam) (r g n : Nat) (f : Nat → Int) : Roi (D.put r (some g) n n (fun j => .int .i64 (f j))) r g n f := ⟨put_bs, put_ns, fun j _ => by rw [put_Fs]⟩
theorem Rob.new (D : Fam) (r g n : Nat) (f : Nat → Bool) : Rob (D.put r (some g) n n (fun j => .bool (f j))) r g n f := ⟨put_bs, put_ns, fun j _ => by rw [put_Fs]⟩
theorem Roi.cell {f : Nat → Int} (h : Roi D r g n f) (hM : MM wb D w) (hK : KM r = (3, 1)) {j : Nat} (hj : j < n) : w.cell? ⟨g, j, none⟩ = some (.int .i64 (f j)) := h.2.cell' hM.rep h.1 hK hj
theorem Rob.cell {f : Nat → Bool} (h : Rob D r g n f) (hM : MM wb D w) (hK : KM r = (4, 1)) {j : Nat} (hj : j < n) : w.cell? ⟨g, j, none⟩ = some (.bool (f j)) := h.2.cell hM.rep h.1 hK hj
theorem Roi.frozen {f : Nat → Int} (h : Roi D r g n f) (hM : MM wb D w) (j : Nat) : w.frozen? ⟨g, j, none⟩ = false := hM.rep.frozen h.1 j
theorem Rob.frozen {f : Nat → Bool} (h : Rob D r g n f) (hM : MM wb D w) (j : Nat) : w.frozen? ⟨g, j, none⟩ = false := hM.rep.frozen h.1 j
theorem Roi.congr {f f' : Nat → Int} (h : Roi D r g n f) (e : ∀ j, j < n → f j = f' j) : Roi D r g n f' := ⟨h.1, h.2.1, fun j hj => by rw [h.2.2 j hj, e j hj]⟩
theorem Roi.ne {f f' : Nat → Int} {r' g' n' : Nat} (h : Roi D r g n f) (hM : MM wb D w) (h' : Roi D r' g' n' f') (hne : r ≠ r') : g ≠ g' := fun e => hne (hM.rep.inj r r' g h.1 (by rw [e]; exact h'.1))
end

/-- The frame. -/
structure FT (gM gW E nS nC : Nat) (a : Act) : Prop where
  sz : a.tmps.size = 465
  df : a.defers = []
  s2 : a.tmps.getD 2 undef = .pointer (some ⟨gM, 0, none⟩)
  s3 : a.tmps.getD 3 undef = .pointer (some ⟨gW, 0, none⟩)
  s5 : a.tmps.getD 5 undef = .int .i64 (E : Int)
  s6 : a.tmps.getD 6 undef = .int .i64 (nS : Int)
  s7 : a.tmps.getD 7 undef = .int .i64 (nC : Int)
set_option maxRecDepth 40000 in
theorem arr_465 (arr : Array Value) (h : arr.size = 465) : ∃ y : Nat → Value, arr = #[y 0, y 1, y 2, y 3, y 4, y 5, y 6, y 7, y 8, y 9, y 10, y 11, y 12, y 13, y 14, y 15, y 16, y 17, y 18, y 19, y 20, y 21, y 22, y 23, y 24, y 25, y 26, y 27, y 28, y 29, y 30, y 31, y 32, y 33, y 34, y 35, y 36, y 37, y 38, y 39, y 40, y 41, y 42, y 43, y 44, y 45, y 46, y 47, y 48, y 49, y 50, y 51, y 52, y 53, y 54, y 55, y 56, y 57, y 58, y 59, y 60, y 61, y 62, y 63, y 64, y 65, y 66, y 67, y 68, y 69, y 70, y 71, y 72, y 73, y 74, y 75, y 76, y 77, y 78, y 79, y 80, y 81, y 82, y 83, y 84, y 85, y 86, y 87, y 88, y 89, y 90, y 91, y 92, y 93, y 94, y 95, y 96, y 97, y 98, y 99, y 100, y 101, y 102, y 103, y 104, y 105, y 106, y 107, y 108, y 109, y 110, y 111, y 112, y 113, y 114, y 115, y 116, y 117, y 118, y 119, y 120, y 121, y 122, y 123, y 124, y 125, y 126, y 127, y 128, y 129, y 130, y 131, y 132, y 133, y 134, y 135, y 136, y 137, y 138, y 139, y 140, y 141, y 142, y 143, y 144, y 145, y 146, y 147, y 148, y 149, y 150, y 151, y 152, y 153, y 154, y 155, y 156, y 157, y 158, y 159, y 160, y 161, y 162, y 163, y 164, y 165, y 166, y 167, y 168, y 169, y 170, y 171, y 172, y 173, y 174, y 175, y 176, y 177, y 178, y 179, y 180, y 181, y 182, y 183, y 184, y 185, y 186, y 187, y 188, y 189, y 190, y 191, y 192, y 193, y 194, y 195, y 196, y 197, y 198, y 199, y 200, y 201, y 202, y 203, y 204, y 205, y 206, y 207, y 208, y 209, y 210, y 211, y 212, y 213, y 214, y 215, y 216, y 217, y 218, y 219, y 220, y 221, y 222, y 223, y 224, y 225, y 226, y 227, y 228, y 229, y 230, y 231, y 232, y 233, y 234, y 235, y 236, y 237, y 238, y 239, y 240, y 241, y 242, y 243, y 244, y 245, y 246, y 247, y 248, y 249, y 250, y 251, y 252, y 253, y 254, y 255, y 256, y 257, y 258, y 259, y 260, y 261, y 262, y 263, y 264, y 265, y 266, y 267, y 268, y 269, y 270, y 271, y 272, y 273, y 274, y 275, y 276, y 277, y 278, y 279, y 280, y 281, y 282, y 283, y 284, y 285, y 286, y 287, y 288, y 289, y 290, y 291, y 292, y 293, y 294, y 295, y 296, y 297, y 298, y 299, y 300, y 301, y 302, y 303, y 304, y 305, y 306, y 307, y 308, y 309, y 310, y 311, y 312, y 313, y 314, y 315, y 316, y 317, y 318, y 319, y 320, y 321, y 322, y 323, y 324, y 325, y 326, y 327, y 328, y 329, y 330, y 331, y 332, y 333, y 334, y 335, y 336, y 337, y 338, y 339, y 340, y 341, y 342, y 343, y 344, y 345, y 346, y 347, y 348, y 349, y 350, y 351, y 352, y 353, y 354, y 355, y 356, y 357, y 358, y 359, y 360, y 361, y 362, y 363, y 364, y 365, y 366, y 367, y 368, y 369, y 370, y 371, y 372, y 373, y 374, y 375, y 376, y 377, y 378, y 379, y 380, y 381, y 382, y 383, y 384, y 385, y 386, y 387, y 388, y 389, y 390, y 391, y 392, y 393, y 394, y 395, y 396, y 397, y 398, y 399, y 400, y 401, y 402, y 403, y 404, y 405, y 406, y 407, y 408, y 409, y 410, y 411, y 412, y 413, y 414, y 415, y 416, y 417, y 418, y 419, y 420, y 421, y 422, y 423, y 424, y 425, y 426, y 427, y 428, y 429, y 430, y 431, y 432, y 433, y 434, y 435, y 436, y 437, y 438, y 439, y 440, y 441, y 442, y 443, y 444, y 445, y 446, y 447, y 448, y 449, y 450, y 451, y 452, y 453, y 454, y 455, y 456, y 457, y 458, y 459, y 460, y 461, y 462, y 463, y 464] ∧ ∀ i, y i = arr.getD i undef := by
  refine ⟨fun i => arr.getD i undef, ?_, fun _ => rfl⟩
  exact (arr_map arr 465 h undef).trans (by kernel_rfl)
set_option maxRecDepth 40000 in
theorem lt8 {a : Act} {u2 u3 u5 u6 u7 u8 : Value} (hs : a.tmps.size = 465) (hd : a.defers = []) (h2 : a.tmps.getD 2 undef = u2) (h3 : a.tmps.getD 3 undef = u3) (h5 : a.tmps.getD 5 undef = u5) (h6 : a.tmps.getD 6 undef = u6) (h7 : a.tmps.getD 7 undef = u7) (h8 : a.tmps.getD 8 undef = u8) : ∃ y : Nat → Value, a = { tmps := #[y 0, y 1, u2, u3, y 4, u5, u6, u7, u8, y 9, y 10, y 11, y 12, y 13, y 14, y 15, y 16, y 17, y 18, y 19, y 20, y 21, y 22, y 23, y 24, y 25, y 26, y 27, y 28, y 29, y 30, y 31, y 32, y 33, y 34, y 35, y 36, y 37, y 38, y 39, y 40, y 41, y 42, y 43, y 44, y 45, y 46, y 47, y 48, y 49, y 50, y 51, y 52, y 53, y 54, y 55, y 56, y 57, y 58, y 59, y 60, y 61, y 62, y 63, y 64, y 65, y 66, y 67, y 68, y 69, y 70, y 71, y 72, y 73, y 74, y 75, y 76, y 77, y 78, y 79, y 80, y 81, y 82, y 83, y 84, y 85, y 86, y 87, y 88, y 89, y 90, y 91, y 92, y 93, y 94, y 95, y 96, y 97, y 98, y 99, y 100, y 101, y 102, y 103, y 104, y 105, y 106, y 107, y 108, y 109, y 110, y 111, y 112, y 113, y 114, y 115, y 116, y 117, y 118, y 119, y 120, y 121, y 122, y 123, y 124, y 125, y 126, y 127, y 128, y 129, y 130, y 131, y 132, y 133, y 134, y 135, y 136, y 137, y 138, y 139, y 140, y 141, y 142, y 143, y 144, y 145, y 146, y 147, y 148, y 149, y 150, y 151, y 152, y 153, y 154, y 155, y 156, y 157, y 158, y 159, y 160, y 161, y 162, y 163, y 164, y 165, y 166, y 167, y 168, y 169, y 170, y 171, y 172, y 173, y 174, y 175, y 176, y 177, y 178, y 179, y 180, y 181, y 182, y 183, y 184, y 185, y 186, y 187, y 188, y 189, y 190, y 191, y 192, y 193, y 194, y 195, y 196, y 197, y 198, y 199, y 200, y 201, y 202, y 203, y 204, y 205, y 206, y 207, y 208, y 209, y 210, y 211, y 212, y 213, y 214, y 215, y 216, y 217, y 218, y 219, y 220, y 221, y 222, y 223, y 224, y 225, y 226, y 227, y 228, y 229, y 230, y 231, y 232, y 233, y 234, y 235, y 236, y 237, y 238, y 239, y 240, y 241, y 242, y 243, y 244, y 245, y 246, y 247, y 248, y 249, y 250, y 251, y 252, y 253, y 254, y 255, y 256, y 257, y 258, y 259, y 260, y 261, y 262, y 263, y 264, y 265, y 266, y 267, y 268, y 269, y 270, y 271, y 272, y 273, y 274, y 275, y 276, y 277, y 278, y 279, y 280, y 281, y 282, y 283, y 284, y 285, y 286, y 287, y 288, y 289, y 290, y 291, y 292, y 293, y 294, y 295, y 296, y 297, y 298, y 299, y 300, y 301, y 302, y 303, y 304, y 305, y 306, y 307, y 308, y 309, y 310, y 311, y 312, y 313, y 314, y 315, y 316, y 317, y 318, y 319, y 320, y 321, y 322, y 323, y 324, y 325, y 326, y 327, y 328, y 329, y 330, y 331, y 332, y 333, y 334, y 335, y 336, y 337, y 338, y 339, y 340, y 341, y 342, y 343, y 344, y 345, y 346, y 347, y 348, y 349, y 350, y 351, y 352, y 353, y 354, y 355, y 356, y 357, y 358, y 359, y 360, y 361, y 362, y 363, y 364, y 365, y 366, y 367, y 368, y 369, y 370, y 371, y 372, y 373, y 374, y 375, y 376, y 377, y 378, y 379, y 380, y 381, y 382, y 383, y 384, y 385, y 386, y 387, y 388, y 389, y 390, y 391, y 392, y 393, y 394, y 395, y 396, y 397, y 398, y 399, y 400, y 401, y 402, y 403, y 404, y 405, y 406, y 407, y 408, y 409, y 410, y 411, y 412, y 413, y 414, y 415, y 416, y 417, y 418, y 419, y 420, y 421, y 422, y 423, y 424, y 425, y 426, y 427, y 428, y 429, y 430, y 431, y 432, y 433, y 434, y 435, y 436, y 437, y 438, y 439, y 440, y 441, y 442, y 443, y 444, y 445, y 446, y 447, y 448, y 449, y 450, y 451, y 452, y 453, y 454, y 455, y 456, y 457, y 458, y 459, y 460, y 461, y 462, y 463, y 464], defers := [] } := by
  obtain ⟨tmps, defers⟩ := a
  have yd : defers = [] := hd
  subst yd
  obtain ⟨y, hy, hi⟩ := arr_465 tmps hs
  have e2 := (hi 2).trans h2
  have e3 := (hi 3).trans h3
  have e5 := (hi 5).trans h5
  have e6 := (hi 6).trans h6
  have e7 := (hi 7).trans h7
  have e8 := (hi 8).trans h8
  rw [e2, e3, e5, e6, e7, e8] at hy
  exact ⟨y, congrArg (fun t => (⟨t, []⟩ : Act)) hy⟩
set_option maxRecDepth 40000 in
theorem lt89 {a : Act} {u2 u3 u5 u6 u7 u8 u9 : Value} (hs : a.tmps.size = 465) (hd : a.defers = []) (h2 : a.tmps.getD 2 undef = u2) (h3 : a.tmps.getD 3 undef = u3) (h5 : a.tmps.getD 5 undef = u5) (h6 : a.tmps.getD 6 undef = u6) (h7 : a.tmps.getD 7 undef = u7) (h8 : a.tmps.getD 8 undef = u8) (h9 : a.tmps.getD 9 undef = u9) : ∃ y : Nat → Value, a = { tmps := #[y 0, y 1, u2, u3, y 4, u5, u6, u7, u8, u9, y 10, y 11, y 12, y 13, y 14, y 15, y 16, y 17, y 18, y 19, y 20, y 21, y 22, y 23, y 24, y 25, y 26, y 27, y 28, y 29, y 30, y 31, y 32, y 33, y 34, y 35, y 36, y 37, y 38, y 39, y 40, y 41, y 42, y 43, y 44, y 45, y 46, y 47, y 48, y 49, y 50, y 51, y 52, y 53, y 54, y 55, y 56, y 57, y 58, y 59, y 60, y 61, y 62, y 63, y 64, y 65, y 66, y 67, y 68, y 69, y 70, y 71, y 72, y 73, y 74, y 75, y 76, y 77, y 78, y 79, y 80, y 81, y 82, y 83, y 84, y 85, y 86, y 87, y 88, y 89, y 90, y 91, y 92, y 93, y 94, y 95, y 96, y 97, y 98, y 99, y 100, y 101, y 102, y 103, y 104, y 105, y 106, y 107, y 108, y 109, y 110, y 111, y 112, y 113, y 114, y 115, y 116, y 117, y 118, y 119, y 120, y 121, y 122, y 123, y 124, y 125, y 126, y 127, y 128, y 129, y 130, y 131, y 132, y 133, y 134, y 135, y 136, y 137, y 138, y 139, y 140, y 141, y 142, y 143, y 144, y 145, y 146, y 147, y 148, y 149, y 150, y 151, y 152, y 153, y 154, y 155, y 156, y 157, y 158, y 159, y 160, y 161, y 162, y 163, y 164, y 165, y 166, y 167, y 168, y 169, y 170, y 171, y 172, y 173, y 174, y 175, y 176, y 177, y 178, y 179, y 180, y 181, y 182, y 183, y 184, y 185, y 186, y 187, y 188, y 189, y 190, y 191, y 192, y 193, y 194, y 195, y 196, y 197, y 198, y 199, y 200, y 201, y 202, y 203, y 204, y 205, y 206, y 207, y 208, y 209, y 210, y 211, y 212, y 213, y 214, y 215, y 216, y 217, y 218, y 219, y 220, y 221, y 222, y 223, y 224, y 225, y 226, y 227, y 228, y 229, y 230, y 231, y 232, y 233, y 234, y 235, y 236, y 237, y 238, y 239, y 240, y 241, y 242, y 243, y 244, y 245, y 246, y 247, y 248, y 249, y 250, y 251, y 252, y 253, y 254, y 255, y 256, y 257, y 258, y 259, y 260, y 261, y 262, y 263, y 264, y 265, y 266, y 267, y 268, y 269, y 270, y 271, y 272, y 273, y 274, y 275, y 276, y 277, y 278, y 279, y 280, y 281, y 282, y 283, y 284, y 285, y 286, y 287, y 288, y 289, y 290, y 291, y 292, y 293, y 294, y 295, y 296, y 297, y 298, y 299, y 300, y 301, y 302, y 303, y 304, y 305, y 306, y 307, y 308, y 309, y 310, y 311, y 312, y 313, y 314, y 315, y 316, y 317, y 318, y 319, y 320, y 321, y 322, y 323, y 324, y 325, y 326, y 327, y 328, y 329, y 330, y 331, y 332, y 333, y 334, y 335, y 336, y 337, y 338, y 339, y 340, y 341, y 342, y 343, y 344, y 345, y 346, y 347, y 348, y 349, y 350, y 351, y 352, y 353, y 354, y 355, y 356, y 357, y 358, y 359, y 360, y 361, y 362, y 363, y 364, y 365, y 366, y 367, y 368, y 369, y 370, y 371, y 372, y 373, y 374, y 375, y 376, y 377, y 378, y 379, y 380, y 381, y 382, y 383, y 384, y 385, y 386, y 387, y 388, y 389, y 390, y 391, y 392, y 393, y 394, y 395, y 396, y 397, y 398, y 399, y 400, y 401, y 402, y 403, y 404, y 405, y 406, y 407, y 408, y 409, y 410, y 411, y 412, y 413, y 414, y 415, y 416, y 417, y 418, y 419, y 420, y 421, y 422, y 423, y 424, y 425, y 426, y 427, y 428, y 429, y 430, y 431, y 432, y 433, y 434, y 435, y 436, y 437, y 438, y 439, y 440, y 441, y 442, y 443, y 444, y 445, y 446, y 447, y 448, y 449, y 450, y 451, y 452, y 453, y 454, y 455, y 456, y 457, y 458, y 459, y 460, y 461, y 462, y 463, y 464], defers := [] } := by
  obtain ⟨tmps, defers⟩ := a
  have yd : defers = [] := hd
  subst yd
  obtain ⟨y, hy, hi⟩ := arr_465 tmps hs
  have e2 := (hi 2).trans h2
  have e3 := (hi 3).trans h3
  have e5 := (hi 5).trans h5
  have e6 := (hi 6).trans h6
  have e7 := (hi 7).trans h7
  have e8 := (hi 8).trans h8
  have e9 := (hi 9).trans h9
  rw [e2, e3, e5, e6, e7, e8, e9] at hy
  exact ⟨y, congrArg (fun t => (⟨t, []⟩ : Act)) hy⟩

theorem cnt_step (p : Nat → Bool) (n : Nat) : ((cnt p (n + 1) : Nat) : Int) = ((cnt p n : Nat) : Int) + (if p n then 1 else 0) := by
  rw [cnt_succ]; split <;> simp
/-- How many of the slots before s are in component c. -/
def icn (P : PS) (s : Nat) (c : Nat) : Int := ((cnt (fun s' => P.comp s' == ((c : Nat) : Int)) s : Nat) : Int)
def T1 (wb : World) (P : PS) (g2 s : Nat) (w : World) : Prop := ∃ D, MM wb D w ∧ Roi D 2 g2 P.nC (icn P s)
theorem T1.skip {wb w : World} {P : PS} {g2 s : Nat} (h : T1 wb P g2 s w) (hc : P.comp s = -1) : T1 wb P g2 (s + 1) w := by
  obtain ⟨D, h1, h2⟩ := h
  refine ⟨D, h1, h2.congr (fun c hc' => ?_)⟩
  unfold icn
  rw [cnt_step, hc]
  have : ((-1 : Int) == ((c : Nat) : Int)) = false := by rw [beq_eq_false_iff_ne]; omega
  rw [this]; simp
theorem T1.next {wb w : World} {P : PS} {g2 s c : Nat} (h : T1 wb P g2 s w) (hc : P.comp s = ((c : Nat) : Int)) : T1 wb P g2 (s + 1) (w.setCell ⟨g2, c, none⟩ (.int .i64 (icn P s c + 1))) := by
  obtain ⟨D, h1, h2⟩ := h
  refine ⟨_, h1.set h2.1 c _, (h2.set c _).congr (fun c' hc' => ?_)⟩
  by_cases e : c' = c
  · subst e
    rw [upd_same]
    unfold icn
    rw [cnt_step, hc]
    simp
  · rw [upd_other _ _ e]
    unfold icn
    rw [cnt_step, hc]
    have : (((c : Nat) : Int) == ((c' : Nat) : Int)) = false := by rw [beq_eq_false_iff_ne]; omega
    rw [this]; simp
theorem T1.cell {wb w : World} {P : PS} {g2 s c : Nat} (h : T1 wb P g2 s w) (hc : c < P.nC) : w.cell? ⟨g2, c, none⟩ = some (.int .i64 (icn P s c)) ∧ w.frozen? ⟨g2, c, none⟩ = false := by
  obtain ⟨D, h1, h2⟩ := h
  exact ⟨h2.cell h1 rfl hc, h2.frozen h1 c⟩
theorem T1.grew {wb w : World} {P : PS} {g2 s : Nat} (h : T1 wb P g2 s w) : ∃ D, Grew Fam.nil wb D w := by
  obtain ⟨D, h1, h2⟩ := h
  exact ⟨D, h1.grew⟩
theorem icn_le (P : PS) (s c : Nat) : 0 ≤ icn P s c ∧ icn P s c ≤ (s : Int) := by
  unfold icn
  have := cnt_le (fun s' => P.comp s' == ((c : Nat) : Int)) s
  omega
def L1I (wb : World) (gM gW E : Nat) (P : PS) (g2 : Nat) (a : Act) (w : World) : Prop :=
  FT gM gW E P.nS P.nC a ∧ a.tmps.getD 8 undef = .slice (some ⟨g2, 0, none⟩) P.nC P.nC ∧ ∃ s : Nat, a.tmps.getD 9 undef = .int .i64 (s : Int) ∧ s ≤ P.nS ∧ T1 wb P g2 s w

set_option maxRecDepth 40000 in
set_option maxHeartbeats 8000000 in
/-- The slots of each component are counted. -/
theorem mt_2 (wb : World) (gM gW : Nat) (X : MD) (P : PS) (g2 : Nat) (hin : MtIn wb gM gW X P) (hm : Meet X P) (wr : World) (hI : T1 wb P g2 0 wr) (a : Act) (hf : FT gM gW X.E P.nS P.nC a) (h8 : a.tmps.getD 8 undef = .slice (some ⟨g2, 0, none⟩) P.nC P.nC) (Q : Exit → Act → World → Prop)
    (hC : ∀ (a : Act) (w : World), FT gM gW X.E P.nS P.nC a → a.tmps.getD 8 undef = .slice (some ⟨g2, 0, none⟩) P.nC P.nC → T1 wb P g2 P.nS w → Q .normal a w) :
    Code.wp Try.prog (sL (tl 8 (Try.f12.body.getD .skip))) Q a wr := by
  obtain ⟨y, rfl⟩ := lt8 hf.sz hf.df hf.s2 hf.s3 hf.s5 hf.s6 hf.s7 h8
  obtain ⟨hE, hn, hS, hCC, hnc⟩ := hin.sm
  have HIN : Hid (MtIn wb gM gW X P) := hin
  have HM : Hid (Meet X P) := hm
  have HI : Hid (T1 wb P g2 0 wr) := hI
  have HC : Hid (∀ (a : Act) (w : World), FT gM gW X.E P.nS P.nC a → a.tmps.getD 8 undef = .slice (some ⟨g2, 0, none⟩) P.nC P.nC → T1 wb P g2 P.nS w → Q .normal a w) := hC
  have hnil := fun (a : Option Addr) (n c : Nat) (w : World) => Lib.run_eql_slice_nil (P := Try.prog) w 26 3 a n c 0 0 Try.underlying26
  clear hf hC hI hin hm h8
  show Code.wp Try.prog (Code.seq _ (Code.block 0 (Code.loop (Code.seq (Code.seq _ (Code.cond (.tmp 74) Code.skip (Code.exit 0))) (Code.seq (Code.block 1 _) _))))) Q _ wr
  refine wp_seq_k (fun K1 hK => ?_)
  have HK1 : Hid (∀ (a : Act) (w : World), _ → K1 a w) := hK
  clear hK
  go_wp2
  refine HK1.out _ _ ?_
  clear HK1 K1
  refine wp_block ?_
  refine wp_loop (L1I wb gM gW X.E P g2) (fun a _ => mus 9 P.nS a) ⟨⟨by kernel_rfl, by kernel_rfl, by kernel_rfl, by kernel_rfl, by kernel_rfl, by kernel_rfl, by kernel_rfl⟩, by kernel_rfl, 0, by kernel_rfl, Nat.zero_le _, HI.out⟩ ?_
  clear HI y
  rintro a w' ⟨hf, h8, s, h9, s1, hI⟩
  have e9 : mus 9 P.nS a = P.nS - s := congrArg (fun v => P.nS - (intOf v).toNat) h9
  obtain ⟨y2, rfl⟩ := lt89 hf.sz hf.df hf.s2 hf.s3 hf.s5 hf.s6 hf.s7 h8 h9
  rw [e9]
  clear e9 hf h8 h9
  have HI : Hid (T1 wb P g2 s w') := hI
  refine wp_seq_k (fun K1 hK => ?_)
  have HK1 : Hid (∀ (a : Act) (w : World), _ → K1 a w) := hK
  clear hK
  refine wp_seq_k (fun K2 hK => ?_)
  have HK2 : Hid (∀ (a : Act) (w : World), _ → K2 a w) := hK
  clear hK
  by_cases hs : s < P.nS
  · have hss : (s : Int) < (P.nS : Int) := by omega
    go_wp2
    refine HK2.out _ _ (wp_cond_true (by kernel_rfl) (wp_skip ?_))
    refine HK1.out _ _ ?_
    clear HK1 K1 HK2 K2
    refine wp_seq_k (fun K1 hK => ?_)
    have HK1 : Hid (∀ (a : Act) (w : World), _ → K1 a w) := hK
    clear hK
    have END : Hid (∀ (a : Act) (w : World), FT gM gW X.E P.nS P.nC a → a.tmps.getD 8 undef = .slice (some ⟨g2, 0, none⟩) P.nC P.nC → a.tmps.getD 9 undef = .int .i64 (s : Int) → T1 wb P g2 (s + 1) w → K1 a w) := by
      intro a w hf h8 h9 hT
      obtain ⟨y5, rfl⟩ := lt89 hf.sz hf.df hf.s2 hf.s3 hf.s5 hf.s6 hf.s7 h8 h9
      have HT : Hid (T1 wb P g2 (s + 1) w) := hT
      refine HK1.out _ _ ?_
      clear hf h8 h9 hT HK1 hI
      go_wp2
      exact ⟨⟨⟨by kernel_rfl, by kernel_rfl, by kernel_rfl, by kernel_rfl, by kernel_rfl, by kernel_rfl, by kernel_rfl⟩, by kernel_rfl, s + 1, by kernel_rfl, by omega, HT.out⟩, Nat.lt_of_le_of_lt (Nat.le_of_eq (by kernel_rfl : _ = P.nS - (s + 1))) (by omega)⟩
    clear HK1
    obtain ⟨D, hG⟩ := hI.grew
    obtain ⟨b3, k3, x1, x2, x3⟩ := HIN.out.v3.at hG hs
    obtain ⟨b4, k4, o4, l4, z1, z2, z3⟩ := HIN.out.v4.at hG hs
    refine wp_block ?_
    by_cases hc : P.comp s = -1
    · have h0 := HM.out.s0 s hs hc
      have fin : Hid (T1 wb P g2 (s + 1) w') := hI.skip hc
      rw [hc] at x3
      rw [h0] at z3
      clear hI hc h0 HI hG
      go_wp2
      exact END.out _ _ ⟨by kernel_rfl, by kernel_rfl, by kernel_rfl, by kernel_rfl, by kernel_rfl, by kernel_rfl, by kernel_rfl⟩ (by kernel_rfl) (by kernel_rfl) fin.out
    · obtain ⟨c, c1, c2, c3⟩ := HM.out.s1 s hs hc
      obtain ⟨b5, k5, b5', l5, q1, q2, q3, q4, _⟩ := HIN.out.v5.at2 hG (j := c) (q := 0) c1 (by omega)
      obtain ⟨p1, p2⟩ := hI.cell c1
      have fin : Hid (T1 wb P g2 (s + 1) (w'.setCell ⟨g2, c, none⟩ (.int .i64 (icn P s c + 1)))) := hI.next c2
      obtain ⟨ic0, ic1⟩ := icn_le P s c
      rw [c2] at x3
      have hcc : (c : Int) < (P.nC : Int) := by omega
      clear hI hc HI hG c2 c3 z1 z2 z3
      generalize icn P s c = ic at *
      generalize P.mn c = mc at *
      go_wp2
      generalize w'.setCell ⟨g2, c, none⟩ (.int .i64 (ic + 1)) = wv at *
      exact END.out _ _ ⟨by kernel_rfl, by kernel_rfl, by kernel_rfl, by kernel_rfl, by kernel_rfl, by kernel_rfl, by kernel_rfl⟩ (by kernel_rfl) (by kernel_rfl) fin.out
  · have hss : ¬ (s : Int) < (P.nS : Int) := by omega
    obtain rfl : s = P.nS := by omega
    clear hI
    go_wp2
    refine HK2.out _ _ (wp_cond_false (by kernel_rfl) (wp_exit ?_))
    exact HC.out _ _ ⟨by kernel_rfl, by kernel_rfl, by kernel_rfl, by kernel_rfl, by kernel_rfl, by kernel_rfl, by kernel_rfl⟩ (by kernel_rfl) HI.out
end Go.Proofs.Qxb6602148a
