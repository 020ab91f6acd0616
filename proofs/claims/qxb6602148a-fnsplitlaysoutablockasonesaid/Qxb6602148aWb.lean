import Derived.Test.Qxb6602148aSv
attribute [local go_sem] Go.Proofs.Qxb6602148a.yTo Go.Proofs.Qxb6602148a.yUpon
namespace Go.Proofs.Qxb6602148a
open Go.RowKit
set_option linter.unusedVariables false
set_option linter.unusedSimpArgs false

theorem run_min2 (w : World) (ts : Array TypeId) (t : TypeId) (a b : Int) : (Builtin.min_ ts t #[.int .i64 a, .int .i64 b]).run Try.prog w = .ok (.int .i64 (min a b)) w := by
  have e : (if b < a then b else a) = min a b := by rw [Int.min_def]; split <;> split <;> omega
  simp [Builtin.min_, Builtin.min2, e]
theorem run_min2n (w : World) (ts : Array TypeId) (t : TypeId) (a b : Nat) : (Builtin.min_ ts t #[.int .i64 (a : Int), .int .i64 (b : Int)]).run Try.prog w = .ok (.int .i64 ((min a b : Nat) : Int)) w := by
  rw [run_min2]
  congr 2
  omega

/-- The entry that the round looks at, in a block of its own. -/
structure Entry (M : Fam) (w : World) (eb b e : Nat) : Prop where
  lt : eb < w.heap.size
  out : ∀ i, M.b i ≠ some eb
  c0 : w.cell? ⟨eb, 0, none⟩ = some (.int .i64 (b : Int))
  c1 : w.cell? ⟨eb, 1, none⟩ = some (.int .i64 (e : Int))

/-- The frame's slots, by their numbers. -/
def LITv (y : Nat → Value) (v1 v2 v6 v13 v20 v21 v22 v23 v24 v25 v26 v27 v28 v29 v30 v31 v32 : Value) : Act := { tmps := #[y 0, v1, v2, y 3, y 4, y 5, v6, y 7, y 8, y 9, y 10, y 11, y 12, v13, y 14, y 15, y 16, y 17, y 18, y 19, v20, v21, v22, v23, v24, v25, v26, v27, v28, v29, v30, v31, v32, y 33, y 34, y 35, y 36, y 37, y 38, y 39, y 40, y 41, y 42, y 43, y 44, y 45, y 46, y 47, y 48, y 49, y 50, y 51, y 52, y 53, y 54, y 55, y 56, y 57, y 58, y 59, y 60, y 61, y 62, y 63, y 64, y 65, y 66, y 67, y 68, y 69, y 70, y 71, y 72, y 73, y 74, y 75, y 76, y 77, y 78, y 79, y 80, y 81, y 82, y 83, y 84, y 85, y 86, y 87, y 88, y 89, y 90, y 91, y 92, y 93, y 94, y 95, y 96, y 97, y 98, y 99, y 100, y 101, y 102, y 103, y 104, y 105, y 106, y 107, y 108, y 109, y 110, y 111, y 112, y 113, y 114, y 115, y 116, y 117, y 118, y 119, y 120, y 121, y 122, y 123, y 124, y 125, y 126, y 127, y 128, y 129, y 130, y 131, y 132, y 133, y 134, y 135, y 136, y 137, y 138, y 139, y 140, y 141, y 142, y 143, y 144, y 145, y 146, y 147, y 148, y 149, y 150, y 151, y 152, y 153, y 154, y 155, y 156, y 157, y 158, y 159, y 160, y 161, y 162, y 163, y 164, y 165, y 166, y 167, y 168, y 169, y 170, y 171, y 172, y 173, y 174, y 175, y 176, y 177, y 178, y 179, y 180, y 181, y 182, y 183, y 184, y 185, y 186, y 187, y 188, y 189, y 190, y 191, y 192, y 193, y 194, y 195, y 196, y 197, y 198, y 199, y 200, y 201, y 202, y 203, y 204, y 205, y 206, y 207, y 208, y 209, y 210, y 211, y 212, y 213, y 214, y 215, y 216, y 217, y 218, y 219, y 220, y 221, y 222, y 223, y 224, y 225, y 226, y 227, y 228, y 229, y 230, y 231, y 232, y 233, y 234, y 235, y 236, y 237, y 238, y 239, y 240, y 241, y 242, y 243, y 244, y 245, y 246, y 247, y 248, y 249, y 250, y 251, y 252, y 253, y 254, y 255, y 256, y 257, y 258, y 259, y 260, y 261, y 262, y 263, y 264, y 265, y 266, y 267, y 268, y 269, y 270, y 271, y 272, y 273, y 274, y 275, y 276, y 277, y 278, y 279, y 280, y 281, y 282, y 283, y 284, y 285, y 286, y 287, y 288, y 289, y 290, y 291, y 292, y 293, y 294, y 295, y 296, y 297, y 298, y 299, y 300, y 301, y 302, y 303, y 304, y 305, y 306, y 307, y 308, y 309, y 310, y 311, y 312, y 313, y 314, y 315, y 316, y 317, y 318, y 319, y 320, y 321, y 322, y 323, y 324, y 325, y 326, y 327, y 328, y 329, y 330, y 331, y 332, y 333, y 334, y 335, y 336, y 337, y 338, y 339, y 340, y 341, y 342, y 343, y 344, y 345, y 346, y 347, y 348, y 349, y 350, y 351, y 352, y 353, y 354, y 355, y 356, y 357, y 358, y 359, y 360, y 361, y 362, y 363, y 364, y 365, y 366, y 367, y 368, y 369, y 370, y 371, y 372, y 373, y 374, y 375, y 376, y 377, y 378, y 379, y 380, y 381, y 382, y 383, y 384, y 385, y 386, y 387, y 388, y 389, y 390, y 391, y 392, y 393, y 394, y 395, y 396, y 397, y 398, y 399, y 400, y 401, y 402, y 403, y 404, y 405, y 406, y 407, y 408, y 409, y 410, y 411, y 412, y 413, y 414, y 415, y 416, y 417, y 418, y 419, y 420, y 421, y 422, y 423, y 424, y 425, y 426, y 427, y 428, y 429, y 430, y 431, y 432, y 433, y 434, y 435, y 436, y 437, y 438, y 439, y 440, y 441, y 442, y 443, y 444, y 445, y 446, y 447, y 448, y 449, y 450, y 451, y 452, y 453, y 454, y 455, y 456, y 457, y 458, y 459, y 460, y 461, y 462, y 463, y 464, y 465, y 466, y 467, y 468, y 469, y 470, y 471, y 472, y 473, y 474, y 475, y 476, y 477, y 478, y 479, y 480, y 481, y 482, y 483, y 484, y 485, y 486, y 487, y 488, y 489, y 490, y 491, y 492, y 493, y 494, y 495, y 496, y 497, y 498, y 499, y 500, y 501, y 502, y 503, y 504, y 505, y 506, y 507, y 508, y 509, y 510, y 511, y 512, y 513, y 514, y 515, y 516], defers := [] }
theorem litv (tmps : Array Value) (h : tmps.size = 517) : (⟨tmps, []⟩ : Act) = LITv (fun i => tmps.getD i undef) (tmps.getD 1 undef) (tmps.getD 2 undef) (tmps.getD 6 undef) (tmps.getD 13 undef) (tmps.getD 20 undef) (tmps.getD 21 undef) (tmps.getD 22 undef) (tmps.getD 23 undef) (tmps.getD 24 undef) (tmps.getD 25 undef) (tmps.getD 26 undef) (tmps.getD 27 undef) (tmps.getD 28 undef) (tmps.getD 29 undef) (tmps.getD 30 undef) (tmps.getD 31 undef) (tmps.getD 32 undef) := by
  have e1 : (⟨tmps, []⟩ : Act) = ⟨((List.range 517).map (fun i => tmps.getD i undef)).toArray, []⟩ := congrArg (fun t => (⟨t, []⟩ : Act)) (arr_map tmps 517 h undef)
  exact e1.trans (by kernel_rfl)
def LIT (y : Nat → Value) (x : SC0) (gq kq : Nat) (v27 v28 v29 v30 v31 v32 : Value) : Act := LITv y (.slice (some ⟨gq, 0, none⟩) x.d.N kq) (.pointer (some ⟨x.q33, 0, none⟩)) (.slice (some ⟨x.d.g16, 0, none⟩) (x.d.N + 1) (x.d.N + 1)) (.slice (some ⟨x.d.g21, 0, none⟩) x.d.T x.d.T) (.pointer (some ⟨x.d.q24, 0, none⟩)) (.pointer (some ⟨x.d.q25, 0, none⟩)) (.pointer (some ⟨x.d.q31, 0, none⟩)) (.pointer (some ⟨x.d.q32, 0, none⟩)) (.func (.func 35) #[] #[.pointer (some ⟨x.q33, 0, none⟩), .pointer (some ⟨x.d.q31, 0, none⟩), .pointer (some ⟨x.d.q24, 0, none⟩), .pointer (some ⟨x.d.q25, 0, none⟩), .pointer (some ⟨x.d.q32, 0, none⟩)]) (.slice (some ⟨x.d.g20, 0, none⟩) x.d.N x.d.N) (.slice (some ⟨x.d.g22, 0, none⟩) x.d.N x.d.N) v27 v28 v29 v30 v31 v32
theorem lit_of {x : SC0} {gq kq : Nat} {a : Act} (hf : FIC x gq kq a) : ∃ y, a = LIT y x gq kq (a.tmps.getD 27 undef) (a.tmps.getD 28 undef) (a.tmps.getD 29 undef) (a.tmps.getD 30 undef) (a.tmps.getD 31 undef) (a.tmps.getD 32 undef) := by
  obtain ⟨tmps, defers⟩ := a
  have yd : defers = [] := hf.df
  subst yd
  have h := litv tmps hf.sz
  have s1 := hf.s1
  have s2 := hf.s2
  have s6 := hf.s6
  have s13 := hf.s13
  have s20 := hf.s20
  have s21 := hf.s21
  have s22 := hf.s22
  have s23 := hf.s23
  have s24 := hf.s24
  have s25 := hf.s25
  have s26 := hf.s26
  dsimp only at s1 s2 s6 s13 s20 s21 s22 s23 s24 s25 s26
  rw [s1, s2, s6, s13, s20, s21, s22, s23, s24, s25, s26] at h
  exact ⟨fun i => tmps.getD i undef, h⟩

set_option maxRecDepth 40000 in
set_option maxHeartbeats 8000000 in
/-- An edge back: 'met = append(met, a.edge); low[u] = min(low[u], index[a.node])'. -/
theorem walk_back (x : SC0) (gq kq : Nat) (y : Nat → Value) (v27 v28 v30 : Value) (s : HS) (S : SS) (cq : Nat → Int) (c : Int) (M' : Fam) (wr wb : World) (g27 q e b ib eb : Nat) (hS : Srch x s S cq c M' wr) (b27 : M'.b 27 = some g27) (hq : s.sc s.top = q) (hib : s.idx b = ib) (hb : b < x.d.N) (ht : s.top < x.d.N) (hk : s.k ≤ 137438953472) (hidx : s.idx s.top ≤ 137438953473)
    (hi : HInv x.U (s.back e ib)) (hR : Rep KP wb (M'.set 27 ((s.m - 1) * 3 + 2) (.int .i64 ((q : Int) + 1)))) (hG : Grew x.M x.w (M'.set 27 ((s.m - 1) * 3 + 2) (.int .i64 ((q : Int) + 1))) wb) (he : Entry (M'.set 27 ((s.m - 1) * 3 + 2) (.int .i64 ((q : Int) + 1))) wb eb b e) (Q : Exit → Act → World → Prop)
    (hQ : ∀ (a : Act) (w' : World) (M2 : Fam) (cq' : Nat → Int), FIC x gq kq a → a.tmps.getD 27 undef = v27 → a.tmps.getD 28 undef = v28 → a.tmps.getD 29 undef = M2.val 23 → M2.val 27 = M'.val 27 → Srch x (s.back e ib) S cq' c M2 w' → Q .normal a w') :
    Code.wp Try.prog (BK (Try.f29.body.getD .skip)) Q (LIT y x gq kq v27 v28 (M'.val 23) v30 (.int .i64 (s.top : Int)) (.pointer (some ⟨eb, 0, none⟩))) wb := by
  have n23 : (M'.set 27 ((s.m - 1) * 3 + 2) (.int .i64 ((q : Int) + 1))).n 23 = s.k := hS.sr.me.1
  have v23 : M'.val 23 = (M'.set 27 ((s.m - 1) * 3 + 2) (.int .i64 ((q : Int) + 1))).val 23 := rfl
  have HR : Hid (Rep KP wb (M'.set 27 ((s.m - 1) * 3 + 2) (.int .i64 ((q : Int) + 1)))) := hR
  have HG : Hid (Grew x.M x.w (M'.set 27 ((s.m - 1) * 3 + 2) (.int .i64 ((q : Int) + 1))) wb) := hG
  have HE : Hid (Entry (M'.set 27 ((s.m - 1) * 3 + 2) (.int .i64 ((q : Int) + 1))) wb eb b e) := he
  have HQ : Hid (∀ (a : Act) (w' : World) (M2 : Fam) (cq' : Nat → Int), FIC x gq kq a → a.tmps.getD 27 undef = v27 → a.tmps.getD 28 undef = v28 → a.tmps.getD 29 undef = M2.val 23 → M2.val 27 = M'.val 27 → Srch x (s.back e ib) S cq' c M2 w' → Q .normal a w') := hQ
  have HS : Hid (Srch x s S cq c M' wr) := hS
  have HI : Hid (HInv x.U (s.back e ib)) := hi
  have HB : Hid (M'.b 27 = some g27) := b27
  have ce0 := he.c0
  have ce1 := he.c1
  have le := he.lt
  have Hib : Hid (s.idx b = ib) := hib
  have Hq : Hid (s.sc s.top = q) := hq
  have N23 : Hid ((M'.set 27 ((s.m - 1) * 3 + 2) (.int .i64 ((q : Int) + 1))).n 23 = s.k) := n23
  have V23 : Hid (M'.val 23 = (M'.set 27 ((s.m - 1) * 3 + 2) (.int .i64 ((q : Int) + 1))).val 23) := v23
  have hmin := run_min2n
  obtain ⟨i3, hi3, hz30, hz31, hz32⟩ := info_parts Try.info3
  unfold LIT LITv
  rw [v23]
  clear hR hG he hQ hS hi b27 hib hq n23 v23
  simp only [BK, N63, N58, B14, D13, tl, sL, bl, lp, cT, cF, Try.f29, Option.getD]
  go_wp2_with (at_builtin; refine wpList_append_row rfl (HR.out.alloc _) 23 (s.k) N23.out (.tmp 353) (.tmp 356) 26 rfl 3 i3 (.int .i64 0) 1 8 rfl Try.underlying26 hi3 hz30 hz31 hz32 rfl (by decide) rfl ⟨wb.heap.size, 0, none⟩ 1 [.int .i64 (e : Int)] rfl rfl (news1 _ _ _) (by simp [Value.oneCell']) (by omega) (by decide) ?_; intro g23 k23 w2 hR2 hG2; have HR2 : Hid (Rep KP w2 _) := hR2; have HG2 : Hid (Grew _ _ _ w2) := hG2; clear hR2 hG2)
  have b22 : Hid (((M'.set 27 ((s.m - 1) * 3 + 2) (.int .i64 ((q : Int) + 1))).put 23 (some g23) (s.k + 1) k23 (ext ((M'.set 27 ((s.m - 1) * 3 + 2) (.int .i64 ((q : Int) + 1))).F 23) (s.k * 1) [.int .i64 (e : Int)])).b 22 = some x.d.g22) := (put_b (by omega)).trans HS.out.sr.lw.1
  have b20 : Hid (((M'.set 27 ((s.m - 1) * 3 + 2) (.int .i64 ((q : Int) + 1))).put 23 (some g23) (s.k + 1) k23 (ext ((M'.set 27 ((s.m - 1) * 3 + 2) (.int .i64 ((q : Int) + 1))).F 23) (s.k * 1) [.int .i64 (e : Int)])).b 20 = some x.d.g20) := (put_b (by omega)).trans HS.out.sr.ix.1
  have cl : w2.cell? ⟨x.d.g22, s.top, none⟩ = some (.int .i64 ((s.low s.top : Nat) : Int)) := ((HS.out.sr.lw.2.1.set_ne (by omega)).put_ne (by omega)).cell HR2.out b22.out rfl ht
  have ci : w2.cell? ⟨x.d.g20, b, none⟩ = some (.int .i64 ((ib : Nat) : Int)) := by rw [← Hib.out]; exact ((HS.out.sr.ix.2.1.set_ne (by omega)).put_ne (by omega)).cell HR2.out b20.out rfl hb
  have fl := HR2.out.frozen b22.out s.top
  have ce : w2.cell? ⟨eb, 0, none⟩ = some (.int .i64 (b : Int)) := by
    rw [HG2.out.cell_out (by simp; omega) HE.out.out, cell_alloc le]; exact ce0
  have fin : Hid (∃ M2 cq', M2.val 23 = .slice (some ⟨g23, 0, none⟩) (s.k + 1) k23 ∧ M2.val 27 = M'.val 27 ∧ Srch x (s.back e ib) S cq' c M2 ((w2.setCell ⟨x.d.g22, s.top, none⟩ (.int .i64 ((min (s.low s.top) ib : Nat) : Int))).drew)) := by
    have h1 := HR2.out
    have h2 := HG2.out
    rw [← N23.out] at h1 h2
    refine ⟨_, _, ?_, ?_, (HS.out.back HB.out Hq.out HI.out (HG.out.alloc _) h1 h2).drew⟩
    · rw [set_val, put_vals, N23.out]; rfl
    · rw [set_val, put_val (by omega)]; rfl
  clear HR HG HE HS HI HB HR2 HG2 Hib Hq N23 V23 b22 b20 ce0 ce1 le
  have FK : Hid (∀ k w', k ≤ 0 → C1 w2.drew ((w2.setCell ⟨x.d.g22, s.top, none⟩ (.int .i64 ((min (s.low s.top) ib : Nat) : Int))).drew) k w' → w' = w2.drew) := by
    intro k w' hk hw
    have hk : k = 0 := by omega
    subst hk
    exact hw
  refine wp_region_stage (C1 w2.drew ((w2.setCell ⟨x.d.g22, s.top, none⟩ (.int .i64 ((min (s.low s.top) ib : Nat) : Int))).drew)) [13] (fun i => 0) (by kernel_rfl) (by kernel_rfl) (rfl) ?_
  refine wpStage_read rfl rfl ?_
  apply Exists.intro
  refine ⟨fun k w' hk hw => ?_, ?_⟩
  · go_simp
    first | rfl | exact ⟨rfl, hw⟩
  go_simp
  refine wpStage_read rfl rfl ?_
  apply Exists.intro
  refine ⟨fun k w' hk hw => ?_, ?_⟩
  · go_simp
    first | rfl | exact ⟨rfl, hw⟩
  go_simp
  refine wpStage_read rfl rfl ?_
  apply Exists.intro
  refine ⟨fun k w' hk hw => ?_, ?_⟩
  · go_simp
    first | rfl | exact ⟨rfl, hw⟩
  go_simp
  refine wpStage_read rfl rfl ?_
  apply Exists.intro
  refine ⟨fun k w' hk hw => ?_, ?_⟩
  · go_simp
    first | rfl | exact ⟨rfl, hw⟩
  go_simp
  refine wpStage_read rfl rfl ?_
  apply Exists.intro
  refine ⟨fun k w' hk hw => ?_, ?_⟩
  · go_simp
    first | rfl | exact ⟨rfl, hw⟩
  go_simp
  refine wpStage_read rfl rfl ?_
  apply Exists.intro
  refine ⟨fun k w' hk hw => ?_, ?_⟩
  · have hw0 := FK.out k w' hk hw
    subst hw0
    go_simp
    first | rfl | exact ⟨rfl, hw⟩
  go_simp
  refine wpStage_read rfl rfl ?_
  apply Exists.intro
  refine ⟨fun k w' hk hw => ?_, ?_⟩
  · go_simp
    first | rfl | exact ⟨rfl, hw⟩
  go_simp
  refine wpStage_read rfl rfl ?_
  apply Exists.intro
  refine ⟨fun k w' hk hw => ?_, ?_⟩
  · go_simp
    first | rfl | exact ⟨rfl, hw⟩
  go_simp
  refine wpStage_read rfl rfl ?_
  apply Exists.intro
  refine ⟨fun k w' hk hw => ?_, ?_⟩
  · have hw0 := FK.out k w' hk hw
    subst hw0
    go_simp
    first | rfl | exact ⟨rfl, hw⟩
  go_simp
  refine wpStage_read rfl rfl ?_
  apply Exists.intro
  refine ⟨fun k w' hk hw => ?_, ?_⟩
  · go_simp
    first | rfl | exact ⟨rfl, hw⟩
  go_simp
  refine wpStage_read rfl rfl ?_
  apply Exists.intro
  refine ⟨fun k w' hk hw => ?_, ?_⟩
  · have hw0 := FK.out k w' hk hw
    subst hw0
    go_simp
    first | rfl | exact ⟨rfl, hw⟩
  go_simp
  refine wpStage_read rfl rfl ?_
  apply Exists.intro
  refine ⟨fun k w' hk hw => ?_, ?_⟩
  · skip
    go_simp
    first | rfl | exact ⟨rfl, hw⟩
  go_simp
  refine wpStage_read rfl rfl ?_
  apply Exists.intro
  refine ⟨fun k w' hk hw => ?_, ?_⟩
  · go_simp
    first | rfl | exact ⟨rfl, hw⟩
  go_simp
  refine wpStage_move rfl rfl ?_
  apply Exists.intro
  refine ⟨fun w' hw => ?_, ?_⟩
  · have hw : w' = w2.drew := hw
    subst hw
    go_simp
    first | rfl | exact ⟨rfl, rfl⟩
  go_simp
  intro w' hw
  have hw : w' = ((w2.setCell ⟨x.d.g22, s.top, none⟩ (.int .i64 ((min (s.low s.top) ib : Nat) : Int))).drew) := hw
  subst hw
  obtain ⟨M2, cq', e23, e27, hSr⟩ := fin.out
  exact HQ.out _ _ M2 cq' ⟨by kernel_rfl, by kernel_rfl, by kernel_rfl, by kernel_rfl, by kernel_rfl, by kernel_rfl, by kernel_rfl, by kernel_rfl, by kernel_rfl, by kernel_rfl, by kernel_rfl, by kernel_rfl, by kernel_rfl⟩ (by kernel_rfl) (by kernel_rfl) (Eq.trans (by kernel_rfl) e23.symm) e27 hSr
end Go.Proofs.Qxb6602148a
