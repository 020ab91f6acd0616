import Derived.Test.Qxb6602148aDwf
attribute [local go_sem] Go.Proofs.Qxb6602148a.yTo Go.Proofs.Qxb6602148a.yUpon
namespace Go.Proofs.Qxb6602148a
open Go.RowKit
set_option linter.unusedVariables false
set_option linter.unusedSimpArgs false

set_option maxRecDepth 40000 in
theorem litd_l4 {x : DX} {v7 v39 : Value} {a : Act} (hf : FD x v7 v39 a) {u11 u14 u262 u263 u264 : Value} (h11 : a.tmps.getD 11 undef = u11) (h14 : a.tmps.getD 14 undef = u14) (h262 : a.tmps.getD 262 undef = u262) (h263 : a.tmps.getD 263 undef = u263) (h264 : a.tmps.getD 264 undef = u264) : ∃ y : Nat → Value, a = { tmps := #[y 0, .int .i64 (x.c : Int), .pointer (some ⟨x.q13, 0, none⟩), y 3, .slice x.a12 x.n x.k12, .pointer (some ⟨x.q14, 0, none⟩), .func (.func 33) #[] #[.pointer (some ⟨x.q14, 0, none⟩), .pointer (some ⟨x.q13, 0, none⟩)], v7, y 8, y 9, y 10, u11, y 12, y 13, u14, y 15, y 16, y 17, y 18, y 19, y 20, y 21, y 22, y 23, y 24, y 25, y 26, y 27, y 28, y 29, y 30, y 31, y 32, y 33, y 34, y 35, y 36, .slice x.a12 x.n x.k12, .int .i64 (x.n : Int), v39, y 40, y 41, y 42, y 43, y 44, y 45, y 46, y 47, y 48, y 49, y 50, y 51, y 52, y 53, y 54, y 55, y 56, y 57, y 58, y 59, y 60, y 61, y 62, y 63, y 64, y 65, y 66, y 67, y 68, y 69, y 70, y 71, y 72, y 73, y 74, y 75, y 76, y 77, y 78, y 79, y 80, y 81, y 82, y 83, y 84, y 85, y 86, y 87, y 88, y 89, y 90, y 91, y 92, y 93, y 94, y 95, y 96, y 97, y 98, y 99, y 100, y 101, y 102, y 103, y 104, y 105, y 106, y 107, y 108, y 109, y 110, y 111, y 112, y 113, y 114, y 115, y 116, y 117, y 118, y 119, y 120, y 121, y 122, y 123, y 124, y 125, y 126, y 127, y 128, y 129, y 130, y 131, y 132, y 133, y 134, y 135, y 136, y 137, y 138, y 139, y 140, y 141, y 142, y 143, y 144, y 145, y 146, y 147, y 148, y 149, y 150, y 151, y 152, y 153, y 154, y 155, y 156, y 157, y 158, y 159, y 160, y 161, y 162, y 163, y 164, y 165, y 166, y 167, y 168, y 169, y 170, y 171, y 172, y 173, y 174, y 175, y 176, y 177, y 178, y 179, y 180, y 181, y 182, y 183, y 184, y 185, y 186, y 187, y 188, y 189, y 190, y 191, y 192, y 193, y 194, y 195, y 196, y 197, y 198, y 199, y 200, y 201, y 202, y 203, y 204, y 205, y 206, y 207, y 208, y 209, y 210, y 211, y 212, y 213, y 214, y 215, y 216, y 217, y 218, y 219, y 220, y 221, y 222, y 223, y 224, y 225, y 226, y 227, y 228, y 229, y 230, y 231, y 232, y 233, y 234, y 235, y 236, y 237, y 238, y 239, y 240, y 241, y 242, y 243, y 244, y 245, y 246, y 247, y 248, y 249, y 250, y 251, y 252, y 253, y 254, y 255, y 256, y 257, y 258, y 259, y 260, y 261, u262, u263, u264, y 265, y 266, y 267, y 268, y 269, y 270, y 271, y 272, y 273, y 274, y 275, y 276, y 277, y 278, y 279, y 280, y 281, y 282, y 283, y 284, y 285, y 286, y 287, y 288, y 289, y 290, y 291, y 292, y 293, y 294, y 295, y 296, y 297, y 298, y 299, y 300, y 301, y 302, y 303, y 304, y 305, y 306, y 307, y 308, y 309, y 310, y 311, y 312, y 313, y 314, y 315, y 316, y 317, y 318, y 319, y 320, y 321, y 322, y 323, y 324, y 325, y 326, y 327, y 328, y 329, y 330, y 331, y 332, y 333, y 334, y 335, y 336, y 337, y 338, y 339, y 340, y 341, y 342, y 343, y 344, y 345, y 346, y 347, y 348, y 349, y 350, y 351, y 352, y 353, y 354, y 355, y 356, y 357, y 358, y 359, y 360, y 361, y 362, y 363, y 364, y 365, y 366, y 367, y 368, y 369, y 370, y 371, y 372, y 373, y 374, y 375, y 376, y 377, y 378, y 379, y 380, y 381, y 382, y 383, y 384, y 385, y 386, y 387, y 388, y 389], defers := [] } := by
  obtain ⟨tmps, defers⟩ := a
  have yd : defers = [] := hf.df
  subst yd
  obtain ⟨y, hy, hi⟩ := arr_390 tmps hf.sz
  have e1 := (hi 1).trans hf.s1
  have e2 := (hi 2).trans hf.s2
  have e4 := (hi 4).trans hf.s4
  have e5 := (hi 5).trans hf.s5
  have e6 := (hi 6).trans hf.s6
  have e7 := (hi 7).trans hf.s7
  have e11 := (hi 11).trans h11
  have e14 := (hi 14).trans h14
  have e37 := (hi 37).trans hf.s37
  have e38 := (hi 38).trans hf.s38
  have e39 := (hi 39).trans hf.s39
  have e262 := (hi 262).trans h262
  have e263 := (hi 263).trans h263
  have e264 := (hi 264).trans h264
  rw [e1, e2, e4, e5, e6, e7, e11, e14, e37, e38, e39, e262, e263, e264] at hy
  exact ⟨y, congrArg (fun t => (⟨t, []⟩ : Act)) hy⟩

/-- j of the slots above the path's end, itself among them, have been put out. -/
structure DPd (s : TS) (P2 : PS) (j : Nat) (P3 : PS) : Prop where
  eq : ∃ cm ix, P3 = { P2 with comp := cm, idx := ix }
  c1 : ∀ i, s.sp (s.m - 1) ≤ i → i < s.sp (s.m - 1) + j → P3.comp (s.st i) = -1 ∧ P3.idx (s.st i) = 0
  c2 : ∀ v, (∀ i, s.sp (s.m - 1) ≤ i → i < s.sp (s.m - 1) + j → s.st i ≠ v) → P3.comp v = P2.comp v ∧ P3.idx v = P2.idx v
theorem DPd.start (s : TS) (P2 : PS) : DPd s P2 0 P2 := ⟨⟨_, _, rfl⟩, fun i h1 h2 => by omega, fun v _ => ⟨rfl, rfl⟩⟩
theorem DPd.next {s : TS} {P2 P3 : PS} {j : Nat} (h : DPd s P2 j P3) (hinj : ∀ i i', i < s.h → i' < s.h → s.st i = s.st i' → i = i') (hj : s.sp (s.m - 1) + j < s.h) :
    DPd s P2 (j + 1) { P3 with comp := upd P3.comp (s.st (s.sp (s.m - 1) + j)) (-1), idx := upd P3.idx (s.st (s.sp (s.m - 1) + j)) 0 } := by
  obtain ⟨cm, ix, e⟩ := h.eq
  refine ⟨⟨_, _, by rw [e]⟩, fun i h1 h2 => ?_, fun v hv => ?_⟩
  · show upd P3.comp _ (-1) (s.st i) = -1 ∧ upd P3.idx _ 0 (s.st i) = 0
    by_cases ei : i = s.sp (s.m - 1) + j
    · subst ei; rw [upd_same, upd_same]; exact ⟨rfl, rfl⟩
    · have : s.st i ≠ s.st (s.sp (s.m - 1) + j) := fun e' => ei (hinj _ _ (by omega) hj e')
      rw [upd_other _ _ this, upd_other _ _ this]; exact h.c1 i h1 (by omega)
  · show upd P3.comp _ (-1) v = _ ∧ upd P3.idx _ 0 v = _
    have : v ≠ s.st (s.sp (s.m - 1) + j) := fun e' => hv _ (Nat.le_add_right _ _) (by omega) e'.symm
    rw [upd_other _ _ this, upd_other _ _ this]; exact h.c2 v (fun i h1 h2 => hv i h1 (by omega))

def P2I (x : DX) (v7 v39 : Value) (s : TS) (K : Nat) (ln : Nat → Nat) (ls : Nat → Nat → Nat) (P2 : PS) (g9 k9 : Nat) (a : Act) (w : World) : Prop :=
  FD x v7 v39 a ∧ a.tmps.getD 11 undef = .int .i64 (s.top : Int) ∧ a.tmps.getD 14 undef = .int .i64 ((s.sp (s.m - 1) : Nat) : Int) ∧ a.tmps.getD 262 undef = .slice (some ⟨g9, s.sp (s.m - 1), none⟩) (s.h - s.sp (s.m - 1)) (k9 - s.sp (s.m - 1)) ∧ a.tmps.getD 263 undef = .int .i64 ((s.h - s.sp (s.m - 1) : Nat) : Int) ∧
  ∃ j : Nat, a.tmps.getD 264 undef = .int .i64 (j : Int) ∧ j ≤ s.h - s.sp (s.m - 1) ∧ ∃ M3 P3, DIn x.w x.M x.p x.q13 x.q14 ((s.vis : Nat) : Int) w M3 P3 ∧ DPd s P2 j P3 ∧ DKp x K ln ls v7 M3 ∧ M3.b 9 = some g9 ∧ M3.cap 9 = k9
def mu264 (n : Nat) (a : Act) : Nat := n - (intOf (a.tmps.getD 264 undef)).toNat

set_option maxRecDepth 40000 in
set_option maxHeartbeats 8000000 in
/-- Region 29 and the loop behind it: the component's slots are put out. -/
theorem dw_pop2 (x : DX) (v7 v39 : Value) (a : Act) (s : TS) (K : Nat) (ln : Nat → Nat) (ls : Nat → Nat → Nat) (P' P2 : PS) (M' M2 : Fam) (w0 wr : World) (hf : FD x v7 v39 a) (h11 : a.tmps.getD 11 undef = .int .i64 (s.top : Int)) (h14 : a.tmps.getD 14 undef = .int .i64 ((s.sp (s.m - 1) : Nat) : Int)) (hS : DSt x s K ln ls P' M' w0) (hgo : DGo x.P x.c x.n x.sl) (hm : 0 < s.m) (hv : s.vis ≤ 99999990) (hD : DIn x.w x.M x.p x.q13 x.q14 ((s.vis : Nat) : Int) wr M2 P2) (lf : DLf x s P' P2) (kp : DKp x K ln ls v7 M2) (Q : Exit → Act → World → Prop)
    (hC : ∀ (a : Act) (w' : World) (M3 : Fam) (P3 : PS), FD x v7 v39 a → a.tmps.getD 11 undef = .int .i64 (s.top : Int) → a.tmps.getD 14 undef = .int .i64 ((s.sp (s.m - 1) : Nat) : Int) → DIn x.w x.M x.p x.q13 x.q14 ((s.vis : Nat) : Int) w' M3 P3 → DPd s P2 (s.h - s.sp (s.m - 1)) P3 → DKp x K ln ls v7 M3 → Code.wp Try.prog (tl 9 (d3 (Try.f28.body.getD .skip))) Q a w') :
    Code.wp Try.prog (tl 8 (d3 (Try.f28.body.getD .skip))) Q a wr := by
  have inv := hS.inv
  obtain ⟨t1, t2, t3, t4, t5⟩ := inv.topf hm
  have hh := inv.h_le
  have nK : P2.nK = s.h := lf.nK.trans hS.dr.nK
  have n9 : M2.n 9 = s.h := hD.pm.stk.1.trans nK
  obtain ⟨g9, b9⟩ := hD.rep.hasBlock (i := 9) (by rw [n9]; omega)
  have x1 := hD.box
  have x2 := hD.pm.hdr_some hD.rep hD.b11 (show 9 < 11 by omega) b9
  rw [n9] at x2
  have l9 := hD.rep.le_cap 9
  have m9 := hD.rep.cap_le 9
  rw [n9] at l9
  simp only [maxLen] at m9
  have hst : Hid (∀ i, i < s.h → P2.stk i = ((s.st i : Nat) : Int)) := fun i hi => by rw [lf.stk]; exact hS.dr.stk i hi
  have hin : Hid (∀ i, i < s.h → s.st i < P2.nS) := by
    intro i hi
    obtain ⟨j, hj, e⟩ := (inv.s1 i hi).1
    obtain ⟨q1, q2, q3, q4, q5, q6, q7, e2⟩ := lf.eq
    rw [e2, ← e]; exact hgo.lt j hj
  have NK : Hid (P2.nK = s.h) := nK
  have inj : Hid (∀ i i', i < s.h → i' < s.h → s.st i = s.st i' → i = i') := fun i i' h1 h2 h3 => inv.st_inj h1 h2 h3
  have start : Hid (∃ M3 P3, DIn x.w x.M x.p x.q13 x.q14 ((s.vis : Nat) : Int) wr M3 P3 ∧ DPd s P2 0 P3 ∧ DKp x K ln ls v7 M3 ∧ M3.b 9 = some g9 ∧ M3.cap 9 = M2.cap 9) := ⟨M2, P2, hD, DPd.start s P2, kp, b9, rfl⟩
  have HC : Hid (∀ (a : Act) (w' : World) (M3 : Fam) (P3 : PS), FD x v7 v39 a → a.tmps.getD 11 undef = .int .i64 (s.top : Int) → a.tmps.getD 14 undef = .int .i64 ((s.sp (s.m - 1) : Nat) : Int) → DIn x.w x.M x.p x.q13 x.q14 ((s.vis : Nat) : Int) w' M3 P3 → DPd s P2 (s.h - s.sp (s.m - 1)) P3 → DKp x K ln ls v7 M3 → Code.wp Try.prog (tl 9 (d3 (Try.f28.body.getD .skip))) Q a w') := hC
  obtain ⟨y, rfl⟩ := litd_11_14 hf h11 h14
  have hsub : ((s.h : Nat) : Int) - ((s.sp (s.m - 1) : Nat) : Int) = ((s.h - s.sp (s.m - 1) : Nat) : Int) := by omega
  have lspi : ((s.sp (s.m - 1) : Nat) : Int) ≤ ((s.h : Nat) : Int) := by omega
  have lsp : s.sp (s.m - 1) ≤ s.h := by omega
  have lsk : s.sp (s.m - 1) ≤ M2.cap 9 := by omega
  clear hC hD hS lf inv b9 n9 nK t2 t3 t4 t5 hf h11 h14 hgo kp
  generalize M2.cap 9 = k9 at *
  show Code.wp Try.prog (Code.seq (Code.seq _ (Code.block 7 (Code.loop (Code.seq _ (Code.seq (Code.cond (.tmp 265) Code.skip (Code.exit 7)) (Code.seq (Code.block 8 (Code.seq _ _)) _)))))) (tl 9 (d3 (Try.f28.body.getD .skip)))) Q _ wr
  refine wp_seq_k (fun K1 hK => ?_)
  have HK : Hid (∀ (a : Act) (w : World), _ → K1 a w) := hK
  clear hK
  refine wp_seq_k (fun K2 hK => ?_)
  have HK2 : Hid (∀ (a : Act) (w : World), _ → K2 a w) := hK
  clear hK
  go_wp2
  refine HK2.out _ _ ?_
  clear HK2 K2
  refine wp_block ?_
  refine wp_loop (P2I x v7 v39 s K ln ls P2 g9 k9) (fun a _ => mu264 (s.h - s.sp (s.m - 1)) a) ⟨⟨by kernel_rfl, by kernel_rfl, by kernel_rfl, by kernel_rfl, by kernel_rfl, by kernel_rfl, by kernel_rfl, by kernel_rfl, by kernel_rfl, by kernel_rfl, by kernel_rfl⟩, by kernel_rfl, by kernel_rfl, by kernel_rfl, by kernel_rfl, 0, by kernel_rfl, Nat.zero_le _, start.out⟩ ?_
  clear start x1 x2
  rintro a w' ⟨hf, h11, h14, h262, h263, j, h264, j1, M3, P3, hD, hP, kp, b9, c9⟩
  have e264 : mu264 (s.h - s.sp (s.m - 1)) a = s.h - s.sp (s.m - 1) - j := congrArg (fun v => s.h - s.sp (s.m - 1) - (intOf v).toNat) h264
  obtain ⟨y2, rfl⟩ := litd_l4 hf h11 h14 h262 h263 h264
  rw [e264]
  clear e264 hf h11 h14 h262 h263 h264
  refine wp_seq_k (fun K3 hK => ?_)
  have HK3 : Hid (∀ (a : Act) (w : World), _ → K3 a w) := hK
  clear hK
  by_cases hj : j < s.h - s.sp (s.m - 1)
  · have hji : (j : Int) < ((s.h - s.sp (s.m - 1) : Nat) : Int) := by omega
    have n9 : P3.nK = s.h := by obtain ⟨cm, ix, e⟩ := hP.eq; rw [e]; exact NK.out
    have s9 : P3.stk = P2.stk := by obtain ⟨cm, ix, e⟩ := hP.eq; rw [e]
    have nS3 : P3.nS = P2.nS := by obtain ⟨cm, ix, e⟩ := hP.eq; rw [e]
    have xj := hD.pm.stk.cell hD.rep b9 rfl (show s.sp (s.m - 1) + j < P3.nK by omega)
    rw [s9, hst.out _ (by omega)] at xj
    have hvS : s.st (s.sp (s.m - 1) + j) < P3.nS := by rw [nS3]; exact hin.out _ (by omega)
    obtain ⟨g3, b3⟩ := hD.rep.hasBlock (i := 3) (by rw [hD.pm.nS]; exact Nat.lt_of_le_of_lt (Nat.zero_le _) hvS)
    have z1 := hD.box
    have z3 := hD.pm.hdr_some hD.rep hD.b11 (show 3 < 11 by omega) b3
    rw [hD.pm.nS] at z3
    have l3 := hD.rep.le_cap 3
    rw [hD.pm.nS] at l3
    have z4 := hD.slot b3 hvS (show 1 < 7 by omega) rfl
    have z5 := hD.slot b3 hvS (show 3 < 7 by omega) rfl
    have z6 := hD.rep.frozen b3 (s.st (s.sp (s.m - 1) + j) * 7 + 1)
    have z7 := hD.rep.frozen b3 (s.st (s.sp (s.m - 1) + j) * 7 + 3)
    have d1 : x.p ≠ g3 := hD.ne hD.b11 b3 (by omega)
    have d2 : x.q13 ≠ g3 := hD.ne hD.b13 b3 (by omega)
    have fin : Hid (∃ M3 P3, DIn x.w x.M x.p x.q13 x.q14 ((s.vis : Nat) : Int) ((w'.drew.setCell ⟨g3, s.st (s.sp (s.m - 1) + j) * 7 + 1, none⟩ (.int .i64 (-1))).setCell ⟨g3, s.st (s.sp (s.m - 1) + j) * 7 + 3, none⟩ (.int .i64 0)) M3 P3 ∧ DPd s P2 (j + 1) P3 ∧ DKp x K ln ls v7 M3 ∧ M3.b 9 = some g9 ∧ M3.cap 9 = k9) :=
      ⟨_, _, (hD.drew.setp b3 (by omega) (hD.pm.set_comp _ (-1))).setp (i := 3) b3 (by omega) ((hD.pm.set_comp _ (-1)).set_idx _ 0), hP.next inj.out (by omega), (kp.set (by omega)).set (by omega), b9, c9⟩
    have jle : s.sp (s.m - 1) + j < k9 := by omega
    have jlk : j < k9 - s.sp (s.m - 1) := by omega
    clear hD hP kp b9 c9 b3 n9 s9 nS3
    generalize M3.F 3 (s.st (s.sp (s.m - 1) + j) * 7 + 1) = vx at *
    generalize M3.F 3 (s.st (s.sp (s.m - 1) + j) * 7 + 3) = vy at *
    generalize M3.cap 3 = k3 at *
    generalize P3.nS = n3 at *
    go_wp2
    refine HK3.out _ _ ?_
    clear HK3 K3
    refine wp_seq_k (fun K3 hK => ?_)
    have HK3 : Hid (∀ (a : Act) (w : World), _ → K3 a w) := hK
    clear hK
    refine wp_cond_true (by kernel_rfl) (wp_skip ?_)
    refine HK3.out _ _ ?_
    clear HK3 K3
    refine wp_seq_k (fun K3 hK => ?_)
    have HK3 : Hid (∀ (a : Act) (w : World), _ → K3 a w) := hK
    clear hK
    refine wp_block ?_
    refine wp_seq_k (fun K4 hK => ?_)
    have HK4 : Hid (∀ (a : Act) (w : World), _ → K4 a w) := hK
    clear hK
    go_wp2
    refine HK4.out _ _ ?_
    clear HK4 K4
    have FK : Hid (∀ k w'', C2 w'.drew (w'.drew.setCell ⟨g3, s.st (s.sp (s.m - 1) + j) * 7 + 1, none⟩ (.int .i64 (-1))) ((w'.drew.setCell ⟨g3, s.st (s.sp (s.m - 1) + j) * 7 + 1, none⟩ (.int .i64 (-1))).setCell ⟨g3, s.st (s.sp (s.m - 1) + j) * 7 + 3, none⟩ (.int .i64 0)) k w'' → w''.cell? ⟨x.q13, 0, none⟩ = some (.pointer (some ⟨x.p, 0, none⟩)) ∧ w''.cell? ⟨x.p, 3, none⟩ = some (.slice (some ⟨g3, 0, none⟩) n3 k3)) := by
      refine C2.all ⟨z1, z3⟩ ?_ ?_
      · rw [cell_ne d2, cell_ne d1]; exact ⟨z1, z3⟩
      · rw [cell_ne d2, cell_ne d1, cell_ne d2, cell_ne d1]; exact ⟨z1, z3⟩
    refine wp_region_stage (C2 w'.drew (w'.drew.setCell ⟨g3, s.st (s.sp (s.m - 1) + j) * 7 + 1, none⟩ (.int .i64 (-1))) ((w'.drew.setCell ⟨g3, s.st (s.sp (s.m - 1) + j) * 7 + 1, none⟩ (.int .i64 (-1))).setCell ⟨g3, s.st (s.sp (s.m - 1) + j) * 7 + 3, none⟩ (.int .i64 0))) [12, 15] (fun i => 2) (by kernel_rfl) (by kernel_rfl) (rfl) ?_
    refine wpStage_read rfl rfl ?_
    apply Exists.intro
    refine ⟨fun k w'' hk hw => ?_, ?_⟩
    · obtain ⟨y1, y3⟩ := FK.out k w'' hw
      go_simp
      first | rfl | exact ⟨rfl, hw⟩
    go_simp
    refine wpStage_read rfl rfl ?_
    apply Exists.intro
    refine ⟨fun k w'' hk hw => ?_, ?_⟩
    · go_simp
      first | rfl | exact ⟨rfl, hw⟩
    go_simp
    refine wpStage_read rfl rfl ?_
    apply Exists.intro
    refine ⟨fun k w'' hk hw => ?_, ?_⟩
    · go_simp
      first | rfl | exact ⟨rfl, hw⟩
    go_simp
    refine wpStage_read rfl rfl ?_
    apply Exists.intro
    refine ⟨fun k w'' hk hw => ?_, ?_⟩
    · obtain ⟨y1, y3⟩ := FK.out k w'' hw
      go_simp
      first | rfl | exact ⟨rfl, hw⟩
    go_simp
    refine wpStage_read rfl rfl ?_
    apply Exists.intro
    refine ⟨fun k w'' hk hw => ?_, ?_⟩
    · go_simp
      first | rfl | exact ⟨rfl, hw⟩
    go_simp
    refine wpStage_read rfl rfl ?_
    apply Exists.intro
    refine ⟨fun k w'' hk hw => ?_, ?_⟩
    · obtain ⟨y1, y3⟩ := FK.out k w'' hw
      go_simp
      first | rfl | exact ⟨rfl, hw⟩
    go_simp
    refine wpStage_read rfl rfl ?_
    apply Exists.intro
    refine ⟨fun k w'' hk hw => ?_, ?_⟩
    · go_simp
      first | rfl | exact ⟨rfl, hw⟩
    go_simp
    refine wpStage_read rfl rfl ?_
    apply Exists.intro
    refine ⟨fun k w'' hk hw => ?_, ?_⟩
    · go_simp
      first | rfl | exact ⟨rfl, hw⟩
    go_simp
    refine wpStage_read rfl rfl ?_
    apply Exists.intro
    refine ⟨fun k w'' hk hw => ?_, ?_⟩
    · obtain ⟨y1, y3⟩ := FK.out k w'' hw
      go_simp
      first | rfl | exact ⟨rfl, hw⟩
    go_simp
    refine wpStage_read rfl rfl ?_
    apply Exists.intro
    refine ⟨fun k w'' hk hw => ?_, ?_⟩
    · go_simp
      first | rfl | exact ⟨rfl, hw⟩
    go_simp
    refine wpStage_read rfl rfl ?_
    apply Exists.intro
    refine ⟨fun k w'' hk hw => ?_, ?_⟩
    · go_simp
      first | rfl | exact ⟨rfl, hw⟩
    go_simp
    refine wpStage_read rfl rfl ?_
    apply Exists.intro
    refine ⟨fun k w'' hk hw => ?_, ?_⟩
    · go_simp
      first | rfl | exact ⟨rfl, hw⟩
    go_simp
    refine wpStage_move rfl rfl ?_
    apply Exists.intro
    refine ⟨fun w'' hw => ?_, ?_⟩
    · have hw : w'' = w'.drew := hw
      subst hw
      go_simp
      first | rfl | exact ⟨rfl, rfl⟩
    go_simp
    refine wpStage_read rfl rfl ?_
    apply Exists.intro
    refine ⟨fun k w'' hk hw => ?_, ?_⟩
    · go_simp
      first | rfl | exact ⟨rfl, hw⟩
    go_simp
    refine wpStage_read rfl rfl ?_
    apply Exists.intro
    refine ⟨fun k w'' hk hw => ?_, ?_⟩
    · go_simp
      first | rfl | exact ⟨rfl, hw⟩
    go_simp
    refine wpStage_move rfl rfl ?_
    apply Exists.intro
    refine ⟨fun w'' hw => ?_, ?_⟩
    · have hw : w'' = (w'.drew.setCell ⟨g3, s.st (s.sp (s.m - 1) + j) * 7 + 1, none⟩ (.int .i64 (-1))) := hw
      subst hw
      go_simp
      first | rfl | exact ⟨rfl, rfl⟩
    go_simp
    intro we hw0
    have hw : we = ((w'.drew.setCell ⟨g3, s.st (s.sp (s.m - 1) + j) * 7 + 1, none⟩ (.int .i64 (-1))).setCell ⟨g3, s.st (s.sp (s.m - 1) + j) * 7 + 3, none⟩ (.int .i64 0)) := hw0
    clear hw0
    rw [← hw] at fin
    clear hw FK
    refine HK3.out _ _ ?_
    clear HK3 K3
    clear z1 z3 z4 z5 z6 z7 xj
    go_wp2
    exact ⟨⟨⟨by kernel_rfl, by kernel_rfl, by kernel_rfl, by kernel_rfl, by kernel_rfl, by kernel_rfl, by kernel_rfl, by kernel_rfl, by kernel_rfl, by kernel_rfl, by kernel_rfl⟩, by kernel_rfl, by kernel_rfl, by kernel_rfl, by kernel_rfl, j + 1, by kernel_rfl, by omega, fin.out⟩, Nat.lt_of_le_of_lt (Nat.le_of_eq (by kernel_rfl : _ = s.h - s.sp (s.m - 1) - (j + 1))) (by omega)⟩
  · have hji : ¬ (j : Int) < ((s.h - s.sp (s.m - 1) : Nat) : Int) := by omega
    obtain rfl : j = s.h - s.sp (s.m - 1) := by omega
    have fin : Hid (DIn x.w x.M x.p x.q13 x.q14 ((s.vis : Nat) : Int) w' M3 P3 ∧ DPd s P2 (s.h - s.sp (s.m - 1)) P3 ∧ DKp x K ln ls v7 M3) := ⟨hD, hP, kp⟩
    clear hD hP kp b9 c9 hj j1
    go_wp2
    refine HK3.out _ _ ?_
    refine wp_seq_k (fun K4 hK => ?_)
    refine wp_cond_false (by kernel_rfl) (wp_exit ?_)
    refine HK.out _ _ ?_
    exact HC.out _ _ _ _ ⟨by kernel_rfl, by kernel_rfl, by kernel_rfl, by kernel_rfl, by kernel_rfl, by kernel_rfl, by kernel_rfl, by kernel_rfl, by kernel_rfl, by kernel_rfl, by kernel_rfl⟩ (by kernel_rfl) (by kernel_rfl) fin.out.1 fin.out.2.1 fin.out.2.2
end Go.Proofs.Qxb6602148a
