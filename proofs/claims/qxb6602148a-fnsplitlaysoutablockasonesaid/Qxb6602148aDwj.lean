import Derived.Test.Qxb6602148aDwi
attribute [local go_sem] Go.Proofs.Qxb6602148a.yTo Go.Proofs.Qxb6602148a.yUpon
namespace Go.Proofs.Qxb6602148a
open Go.RowKit
set_option linter.unusedVariables false
set_option linter.unusedSimpArgs false

structure FD0 (x : DX) (v7 : Value) (a : Act) : Prop where
  sz : a.tmps.size = 390
  df : a.defers = []
  s1 : a.tmps.getD 1 undef = .int .i64 (x.c : Int)
  s2 : a.tmps.getD 2 undef = .pointer (some ⟨x.q13, 0, none⟩)
  s4 : a.tmps.getD 4 undef = .slice x.a12 x.n x.k12
  s5 : a.tmps.getD 5 undef = .pointer (some ⟨x.q14, 0, none⟩)
  s6 : a.tmps.getD 6 undef = .func (.func 33) #[] #[.pointer (some ⟨x.q14, 0, none⟩), .pointer (some ⟨x.q13, 0, none⟩)]
  s7 : a.tmps.getD 7 undef = v7

set_option maxRecDepth 40000 in
theorem litd0 {x : DX} {v7 : Value} {a : Act} (hf : FD0 x v7 a) : ∃ y : Nat → Value, a = { tmps := #[y 0, .int .i64 (x.c : Int), .pointer (some ⟨x.q13, 0, none⟩), y 3, .slice x.a12 x.n x.k12, .pointer (some ⟨x.q14, 0, none⟩), .func (.func 33) #[] #[.pointer (some ⟨x.q14, 0, none⟩), .pointer (some ⟨x.q13, 0, none⟩)], v7, y 8, y 9, y 10, y 11, y 12, y 13, y 14, y 15, y 16, y 17, y 18, y 19, y 20, y 21, y 22, y 23, y 24, y 25, y 26, y 27, y 28, y 29, y 30, y 31, y 32, y 33, y 34, y 35, y 36, y 37, y 38, y 39, y 40, y 41, y 42, y 43, y 44, y 45, y 46, y 47, y 48, y 49, y 50, y 51, y 52, y 53, y 54, y 55, y 56, y 57, y 58, y 59, y 60, y 61, y 62, y 63, y 64, y 65, y 66, y 67, y 68, y 69, y 70, y 71, y 72, y 73, y 74, y 75, y 76, y 77, y 78, y 79, y 80, y 81, y 82, y 83, y 84, y 85, y 86, y 87, y 88, y 89, y 90, y 91, y 92, y 93, y 94, y 95, y 96, y 97, y 98, y 99, y 100, y 101, y 102, y 103, y 104, y 105, y 106, y 107, y 108, y 109, y 110, y 111, y 112, y 113, y 114, y 115, y 116, y 117, y 118, y 119, y 120, y 121, y 122, y 123, y 124, y 125, y 126, y 127, y 128, y 129, y 130, y 131, y 132, y 133, y 134, y 135, y 136, y 137, y 138, y 139, y 140, y 141, y 142, y 143, y 144, y 145, y 146, y 147, y 148, y 149, y 150, y 151, y 152, y 153, y 154, y 155, y 156, y 157, y 158, y 159, y 160, y 161, y 162, y 163, y 164, y 165, y 166, y 167, y 168, y 169, y 170, y 171, y 172, y 173, y 174, y 175, y 176, y 177, y 178, y 179, y 180, y 181, y 182, y 183, y 184, y 185, y 186, y 187, y 188, y 189, y 190, y 191, y 192, y 193, y 194, y 195, y 196, y 197, y 198, y 199, y 200, y 201, y 202, y 203, y 204, y 205, y 206, y 207, y 208, y 209, y 210, y 211, y 212, y 213, y 214, y 215, y 216, y 217, y 218, y 219, y 220, y 221, y 222, y 223, y 224, y 225, y 226, y 227, y 228, y 229, y 230, y 231, y 232, y 233, y 234, y 235, y 236, y 237, y 238, y 239, y 240, y 241, y 242, y 243, y 244, y 245, y 246, y 247, y 248, y 249, y 250, y 251, y 252, y 253, y 254, y 255, y 256, y 257, y 258, y 259, y 260, y 261, y 262, y 263, y 264, y 265, y 266, y 267, y 268, y 269, y 270, y 271, y 272, y 273, y 274, y 275, y 276, y 277, y 278, y 279, y 280, y 281, y 282, y 283, y 284, y 285, y 286, y 287, y 288, y 289, y 290, y 291, y 292, y 293, y 294, y 295, y 296, y 297, y 298, y 299, y 300, y 301, y 302, y 303, y 304, y 305, y 306, y 307, y 308, y 309, y 310, y 311, y 312, y 313, y 314, y 315, y 316, y 317, y 318, y 319, y 320, y 321, y 322, y 323, y 324, y 325, y 326, y 327, y 328, y 329, y 330, y 331, y 332, y 333, y 334, y 335, y 336, y 337, y 338, y 339, y 340, y 341, y 342, y 343, y 344, y 345, y 346, y 347, y 348, y 349, y 350, y 351, y 352, y 353, y 354, y 355, y 356, y 357, y 358, y 359, y 360, y 361, y 362, y 363, y 364, y 365, y 366, y 367, y 368, y 369, y 370, y 371, y 372, y 373, y 374, y 375, y 376, y 377, y 378, y 379, y 380, y 381, y 382, y 383, y 384, y 385, y 386, y 387, y 388, y 389], defers := [] } := by
  obtain ⟨tmps, defers⟩ := a
  have yd : defers = [] := hf.df
  subst yd
  obtain ⟨y, hy, hi⟩ := arr_390 tmps hf.sz
  have e1 := (hi 1).trans hf.s1
  have e2 := (hi 2).trans hf.s2
  have e4 := (hi 4).trans hf.s4
  have e5 := (hi 5).trans hf.s5
  have e6 := (hi 6).trans hf.s6
  have e7 := (hi 7).trans hf.s7
  rw [e1, e2, e4, e5, e6, e7] at hy
  exact ⟨y, congrArg (fun t => (⟨t, []⟩ : Act)) hy⟩

section
variable {x : DX} {i : Nat} {s : TS} {K : Nat} {ln : Nat → Nat} {ls : Nat → Nat → Nat} {lk : Nat → Nat}
theorem DPl.skip (h : DPl x i s K ln ls lk) (hl : s.lab (x.sl i) ≠ 0) : DPl x (i + 1) s K ln ls lk :=
  ⟨h.li, by have := h.bd; omega, fun j hj => by
    by_cases e : j = i
    · subst e; exact .inl hl
    · exact h.cov j (by omega), h.kb, h.scb⟩
theorem DPl.root (h : DPl x i s K ln ls lk) (hm : s.m = 0) : DPl x (i + 1) (s.root (x.sl i)) K ln ls lk :=
  ⟨h.li.same rfl rfl, by show s.vis + 1 + dgap x.P x.sl s.sc x.n ≤ _; have := h.bd; omega, fun j hj => by
    show s.lab (x.sl j) ≠ 0 ∨ up s.idx (x.sl i) (s.vis + 1) (x.sl j) ≠ 0
    by_cases e : x.sl j = x.sl i
    · rw [e, up_same]; exact .inr (by omega)
    · rw [up_other _ _ e]
      have : j ≠ i := fun e' => e (by rw [e'])
      exact h.cov j (by omega), by show K + 1 ≤ s.vis + 1; have := h.kb; omega, h.scb⟩
end

set_option maxRecDepth 40000 in
set_option maxHeartbeats 8000000 in
/-- A root. -/
theorem dw_root (x : DX) (v7 : Value) (a : Act) (wr : World) (i : Nat) (hi : i < x.n) (hf : FD x v7 (.int .i64 (i : Int)) a) (hdone : DDone x i v7 wr) (hgo : DGo x.P x.c x.n x.sl) (Q : Exit → Act → World → Prop)
    (hQ1 : ∀ (a : Act) (w' : World) (v7 : Value), FD x v7 (.int .i64 (i : Int)) a → DDone x (i + 1) v7 w' → Q (.exit 1) a w') (hQ2 : ∀ (a : Act) (w' : World) (v7 : Value), FD x v7 (.int .i64 (i : Int)) a → DDone x (i + 1) v7 w' → Q .normal a w') :
    Code.wp Try.prog (dRB (Try.f28.body.getD .skip)) Q a wr := by
  obtain ⟨s, K, ln, ls, lk, P', M', hS, hPl, rfl, hm⟩ := hdone
  obtain ⟨kE, kfr, kto, kS, kon, kout, kC⟩ := hS.dr.keeps
  have hvl := hPl.vis_le hgo.n1 (Nat.le_of_lt hi)
  have rS := hgo.lt i hi
  have rP : x.sl i < P'.nS := by rw [kS]; exact rS
  have hD := hS.din
  obtain ⟨g12, b12⟩ := hD.rep.hasBlock (i := 12) (by rw [hS.r12.2.1]; omega)
  have ha : x.a12 = some ⟨g12, 0, none⟩ := by
    have := hS.r12.1
    rw [val_some b12] at this
    injection this with h1 _ _
    exact h1.symm
  have HA : Hid (Value.slice (some ⟨g12, 0, none⟩) x.n x.k12 = .slice x.a12 x.n x.k12) := by rw [Hid, ha]
  have lk12 : x.n ≤ x.k12 := by
    have h1 := hD.rep.le_cap 12
    have h2 := hS.r12.1
    rw [val_some b12] at h2
    injection h2 with _ h3 h4
    rw [h3, h4] at h1
    exact h1
  have x0 := hS.r12.2.cell hD.rep b12 rfl hi
  obtain ⟨g3, b3⟩ := hD.rep.hasBlock (i := 3) (by rw [hD.pm.nS]; exact Nat.lt_of_le_of_lt (Nat.zero_le _) rP)
  have x1 := hD.box
  have x3 := hD.pm.hdr_some hD.rep hD.b11 (show 3 < 11 by omega) b3
  rw [hD.pm.nS, kS] at x3
  have l3 := hD.rep.le_cap 3
  rw [hD.pm.nS, kS] at l3
  have xc := hD.slot b3 rP (show 1 < 7 by omega) (hD.pm.comp _ rP)
  rw [hS.dr.comp, hgo.comp i hi] at xc
  have HQ1 : Hid (∀ (a : Act) (w' : World) (v7 : Value), FD x v7 (.int .i64 (i : Int)) a → DDone x (i + 1) v7 w' → Q (.exit 1) a w') := hQ1
  have HQ2 : Hid (∀ (a : Act) (w' : World) (v7 : Value), FD x v7 (.int .i64 (i : Int)) a → DDone x (i + 1) v7 w' → Q .normal a w') := hQ2
  have HG : Hid (DGo x.P x.c x.n x.sl) := hgo
  have hii : (i : Int) < (x.n : Int) := by omega
  obtain ⟨y, rfl⟩ := litd hf
  rw [ha]
  show Code.wp Try.prog (Code.seq _ (Code.seq (Code.seq _ (Code.cond (.tmp 52) (Code.exit 1) Code.skip)) (Code.seq _ (dIL (Try.f28.body.getD .skip))))) Q _ wr
  by_cases hl : s.lab (x.sl i) = 0
  · rw [if_pos hl] at xc
    have hcall := visit_calls hD rP (by rw [hS.dr.nK]; have := hS.inv.h_le; omega) (by rw [hS.dr.nQ]; omega) ⟨by omega, by omega⟩
    have HC : Hid (Calls Try.prog 33 #[.int .i64 ((x.sl i : Nat) : Int), .pointer (some ⟨x.q14, 0, none⟩), .pointer (some ⟨x.q13, 0, none⟩)] wr fun e w' => e = .returned (.tuple #[]) ∧ ∃ M'', DIn x.w x.M x.p x.q13 x.q14 (((s.vis : Nat) : Int) + 1) w' M'' (P'.visit (x.sl i) (((s.vis : Nat) : Int) + 1)) ∧ LocX X14 M' M'') := hcall
    have fin : Hid (∀ w' M'', DIn x.w x.M x.p x.q13 x.q14 (((s.vis : Nat) : Int) + 1) w' M'' (P'.visit (x.sl i) (((s.vis : Nat) : Int) + 1)) → LocX X14 M' M'' → DRel x (i + 1) (2 * dgap x.P x.sl s.sc x.n + 1) (M'.val 15) w') := by
      intro w' M'' h1 h2
      have v12 := h2.val (i := 12) (by unfold Own; omega) (by unfold X14; omega)
      have v15 := h2.val (i := 15) (by unfold Own; omega) (by unfold X14; omega)
      exact ⟨s.root (x.sl i), K, ln, ls, lk, _, M'', ⟨h1, hS.dr.root hS.inv hm hl, hS.inv.root hm ⟨i, hi, rfl⟩ hl, ⟨v12.trans hS.r12.1, h2.ints (by unfold Own; omega) (by unfold X14; omega) hS.r12.2⟩, hS.st.loc h2 (by unfold X14; omega) (fun k => by unfold X14; omega)⟩, hPl.root hm, v15.symm, rfl⟩
    clear hcall hD hS hPl hgo hQ1 hQ2 kE kfr kto kS kon kout kC b12 b3 ha hf hm
    generalize M'.cap 3 = k3 at *
    generalize M'.val 15 = v7 at *
    generalize 2 * dgap x.P x.sl s.sc x.n + 1 = nn at *
    refine wp_seq_k (fun K1 hK => ?_)
    have HK : Hid (∀ (a : Act) (w : World), _ → K1 a w) := hK
    clear hK
    go_wp2
    refine HK.out _ _ ?_
    clear HK K1
    refine wp_seq_k (fun K1 hK => ?_)
    have HK : Hid (∀ (a : Act) (w : World), _ → K1 a w) := hK
    clear hK
    refine wp_seq_k (fun K2 hK => ?_)
    have HK2 : Hid (∀ (a : Act) (w : World), _ → K2 a w) := hK
    clear hK
    go_wp2
    refine HK2.out _ _ (wp_cond_false (by kernel_rfl) (wp_skip ?_))
    refine HK.out _ _ ?_
    clear HK K1 HK2 K2
    refine wp_seq_k (fun K1 hK => ?_)
    have HK : Hid (∀ (a : Act) (w : World), _ → K1 a w) := hK
    clear hK
    go_wp2_with (go_at_call 33; refine HC.out.mono ?_; rintro e w' ⟨rfl, M'', h1, h2⟩; have hR := fin.out w' M'' h1 h2; clear h1 h2; have HRR : Hid (DRel x (i + 1) nn v7 w') := hR; clear hR)
    refine HK.out _ _ ?_
    exact dw_inner x v7 (.int .i64 (i : Int)) _ w' (i + 1) nn (by omega) ⟨by kernel_rfl, by kernel_rfl, by kernel_rfl, by kernel_rfl, (Eq.trans (by kernel_rfl) HA.out), by kernel_rfl, by kernel_rfl, by kernel_rfl, (Eq.trans (by kernel_rfl) HA.out), by kernel_rfl, by kernel_rfl⟩ HRR.out HG.out Q (fun a w2 v7 h1 h2 => HQ2.out a w2 v7 h1 h2)
  · rw [if_neg hl] at xc
    have fin : Hid (DDone x (i + 1) (M'.val 15) wr) := ⟨s, K, ln, ls, lk, P', M', hS, hPl.skip hl, rfl, hm⟩
    have hc1 : ¬ (-1 : Int) = (x.c : Int) := by omega
    clear hD hS hPl hgo hQ1 hQ2 kE kfr kto kS kon kout kC b12 b3 ha hf hm
    generalize M'.cap 3 = k3 at *
    generalize M'.val 15 = v7 at *
    refine wp_seq_k (fun K1 hK => ?_)
    have HK : Hid (∀ (a : Act) (w : World), _ → K1 a w) := hK
    clear hK
    go_wp2
    refine HK.out _ _ ?_
    clear HK K1
    refine wp_seq_k (fun K1 hK => ?_)
    have HK : Hid (∀ (a : Act) (w : World), _ → K1 a w) := hK
    clear hK
    refine wp_seq_k (fun K2 hK => ?_)
    have HK2 : Hid (∀ (a : Act) (w : World), _ → K2 a w) := hK
    clear hK
    go_wp2
    refine HK2.out _ _ (wp_cond_true (by kernel_rfl) (wp_exit ?_))
    exact HQ1.out _ _ _ ⟨by kernel_rfl, by kernel_rfl, by kernel_rfl, by kernel_rfl, (Eq.trans (by kernel_rfl) HA.out), by kernel_rfl, by kernel_rfl, by kernel_rfl, (Eq.trans (by kernel_rfl) HA.out), by kernel_rfl, by kernel_rfl⟩ fin.out

def RI (x : DX) (a : Act) (w : World) : Prop := ∃ v7 i, i ≤ x.n ∧ FD x v7 (.int .i64 ((i : Nat) : Int)) a ∧ DDone x i v7 w
def mu39 (n : Nat) (a : Act) : Nat := n - (intOf (a.tmps.getD 39 undef)).toNat

set_option maxRecDepth 40000 in
set_option maxHeartbeats 8000000 in
/-- The search from all roots. -/
theorem dw_rt (x : DX) (v7 : Value) (a : Act) (wr : World) (hf : FD0 x v7 a) (hdone : DDone x 0 v7 wr) (hgo : DGo x.P x.c x.n x.sl) (Q : Exit → Act → World → Prop) (hQ : ∀ (a : Act) (w' : World) (v7 v39 : Value), FD x v7 v39 a → DDone x x.n v7 w' → Q .normal a w') :
    Code.wp Try.prog (dRT (Try.f28.body.getD .skip)) Q a wr := by
  obtain ⟨y, rfl⟩ := litd0 hf
  show Code.wp Try.prog (Code.seq _ (Code.block 0 (Code.loop (Code.seq _ (Code.seq (Code.cond (.tmp 40) Code.skip (Code.exit 0)) (Code.seq (Code.block 1 (dRB (Try.f28.body.getD .skip))) _)))))) Q _ wr
  have HD : Hid (DDone x 0 v7 wr) := hdone
  have HG : Hid (DGo x.P x.c x.n x.sl) := hgo
  have HQ : Hid (∀ (a : Act) (w' : World) (v7 v39 : Value), FD x v7 v39 a → DDone x x.n v7 w' → Q .normal a w') := hQ
  have hn1 := hgo.n1
  clear hdone hgo hQ hf
  refine wp_seq_k (fun K1 hK => ?_)
  have HK : Hid (∀ (a : Act) (w : World), _ → K1 a w) := hK
  clear hK
  go_wp2
  refine HK.out _ _ ?_
  clear HK K1
  refine wp_block ?_
  refine wp_loop (RI x) (fun a _ => mu39 x.n a) ⟨v7, 0, Nat.zero_le _, ⟨by kernel_rfl, by kernel_rfl, by kernel_rfl, by kernel_rfl, by kernel_rfl, by kernel_rfl, by kernel_rfl, by kernel_rfl, by kernel_rfl, by kernel_rfl, by kernel_rfl⟩, HD.out⟩ ?_
  clear HD
  rintro a w ⟨v7, i, i1, hf, hd⟩
  have e39 : mu39 x.n a = x.n - i := congrArg (fun v => x.n - (intOf v).toNat) hf.s39
  rw [e39]
  have HD : Hid (DDone x i v7 w) := hd
  obtain ⟨y2, rfl⟩ := litd hf
  clear hd hf e39
  refine wp_seq_k (fun K1 hK => ?_)
  have HK : Hid (∀ (a : Act) (w : World), _ → K1 a w) := hK
  clear hK
  by_cases hi : i < x.n
  · have hii : (i : Int) < (x.n : Int) := by omega
    go_wp2
    refine HK.out _ _ ?_
    clear HK K1
    refine wp_seq_k (fun K1 hK => ?_)
    have HK : Hid (∀ (a : Act) (w : World), _ → K1 a w) := hK
    clear hK
    refine wp_cond_true (by kernel_rfl) (wp_skip ?_)
    refine HK.out _ _ ?_
    clear HK K1
    refine wp_seq_k (fun K1 hK => ?_)
    have HK : Hid (∀ (a : Act) (w : World), Code.wp Try.prog _ _ a w → K1 a w) := hK
    clear hK
    refine wp_block ?_
    have nxt : ∀ (a : Act) (w' : World) (v7 : Value), FD x v7 (.int .i64 (i : Int)) a → DDone x (i + 1) v7 w' → K1 a w' := by
      intro a w' v7 hf hd
      refine HK.out _ _ ?_
      have HD : Hid (DDone x (i + 1) v7 w') := hd
      obtain ⟨y3, rfl⟩ := litd hf
      clear hd hf HK
      go_wp2
      exact ⟨⟨v7, i + 1, by omega, ⟨by kernel_rfl, by kernel_rfl, by kernel_rfl, by kernel_rfl, by kernel_rfl, by kernel_rfl, by kernel_rfl, by kernel_rfl, by kernel_rfl, by kernel_rfl, by kernel_rfl⟩, HD.out⟩, Nat.lt_of_le_of_lt (Nat.le_of_eq (by kernel_rfl : _ = x.n - (i + 1))) (by omega)⟩
    exact dw_root x v7 _ w i hi ⟨by kernel_rfl, by kernel_rfl, by kernel_rfl, by kernel_rfl, by kernel_rfl, by kernel_rfl, by kernel_rfl, by kernel_rfl, by kernel_rfl, by kernel_rfl, by kernel_rfl⟩ HD.out HG.out _ nxt nxt
  · have hii : ¬ (i : Int) < (x.n : Int) := by omega
    obtain rfl : i = x.n := by omega
    go_wp2
    refine HK.out _ _ ?_
    clear HK K1
    refine wp_seq_k (fun K1 hK => ?_)
    refine wp_cond_false (by kernel_rfl) (wp_exit ?_)
    exact HQ.out _ _ _ (.int .i64 (x.n : Int)) ⟨by kernel_rfl, by kernel_rfl, by kernel_rfl, by kernel_rfl, by kernel_rfl, by kernel_rfl, by kernel_rfl, by kernel_rfl, by kernel_rfl, by kernel_rfl, by kernel_rfl⟩ HD.out
end Go.Proofs.Qxb6602148a
