import Derived.Test.Qxb6602148aDq
attribute [local go_sem] Go.Proofs.Qxb6602148a.yTo Go.Proofs.Qxb6602148a.yUpon
namespace Go.Proofs.Qxb6602148a
open Go.RowKit
set_option linter.unusedVariables false
set_option linter.unusedSimpArgs false

structure FE1 (x : DX) (a : Act) : Prop where
  sz : a.tmps.size = 390
  df : a.defers = []
  s1 : a.tmps.getD 1 undef = .int .i64 (x.c : Int)
  s2 : a.tmps.getD 2 undef = .pointer (some ⟨x.q13, 0, none⟩)
  s4 : a.tmps.getD 4 undef = .slice x.a12 x.n x.k12
set_option maxRecDepth 40000 in
theorem lite1 {x : DX} {a : Act} (hf : FE1 x a)  : ∃ y : Nat → Value, a = { tmps := #[y 0, .int .i64 (x.c : Int), .pointer (some ⟨x.q13, 0, none⟩), y 3, .slice x.a12 x.n x.k12, y 5, y 6, y 7, y 8, y 9, y 10, y 11, y 12, y 13, y 14, y 15, y 16, y 17, y 18, y 19, y 20, y 21, y 22, y 23, y 24, y 25, y 26, y 27, y 28, y 29, y 30, y 31, y 32, y 33, y 34, y 35, y 36, y 37, y 38, y 39, y 40, y 41, y 42, y 43, y 44, y 45, y 46, y 47, y 48, y 49, y 50, y 51, y 52, y 53, y 54, y 55, y 56, y 57, y 58, y 59, y 60, y 61, y 62, y 63, y 64, y 65, y 66, y 67, y 68, y 69, y 70, y 71, y 72, y 73, y 74, y 75, y 76, y 77, y 78, y 79, y 80, y 81, y 82, y 83, y 84, y 85, y 86, y 87, y 88, y 89, y 90, y 91, y 92, y 93, y 94, y 95, y 96, y 97, y 98, y 99, y 100, y 101, y 102, y 103, y 104, y 105, y 106, y 107, y 108, y 109, y 110, y 111, y 112, y 113, y 114, y 115, y 116, y 117, y 118, y 119, y 120, y 121, y 122, y 123, y 124, y 125, y 126, y 127, y 128, y 129, y 130, y 131, y 132, y 133, y 134, y 135, y 136, y 137, y 138, y 139, y 140, y 141, y 142, y 143, y 144, y 145, y 146, y 147, y 148, y 149, y 150, y 151, y 152, y 153, y 154, y 155, y 156, y 157, y 158, y 159, y 160, y 161, y 162, y 163, y 164, y 165, y 166, y 167, y 168, y 169, y 170, y 171, y 172, y 173, y 174, y 175, y 176, y 177, y 178, y 179, y 180, y 181, y 182, y 183, y 184, y 185, y 186, y 187, y 188, y 189, y 190, y 191, y 192, y 193, y 194, y 195, y 196, y 197, y 198, y 199, y 200, y 201, y 202, y 203, y 204, y 205, y 206, y 207, y 208, y 209, y 210, y 211, y 212, y 213, y 214, y 215, y 216, y 217, y 218, y 219, y 220, y 221, y 222, y 223, y 224, y 225, y 226, y 227, y 228, y 229, y 230, y 231, y 232, y 233, y 234, y 235, y 236, y 237, y 238, y 239, y 240, y 241, y 242, y 243, y 244, y 245, y 246, y 247, y 248, y 249, y 250, y 251, y 252, y 253, y 254, y 255, y 256, y 257, y 258, y 259, y 260, y 261, y 262, y 263, y 264, y 265, y 266, y 267, y 268, y 269, y 270, y 271, y 272, y 273, y 274, y 275, y 276, y 277, y 278, y 279, y 280, y 281, y 282, y 283, y 284, y 285, y 286, y 287, y 288, y 289, y 290, y 291, y 292, y 293, y 294, y 295, y 296, y 297, y 298, y 299, y 300, y 301, y 302, y 303, y 304, y 305, y 306, y 307, y 308, y 309, y 310, y 311, y 312, y 313, y 314, y 315, y 316, y 317, y 318, y 319, y 320, y 321, y 322, y 323, y 324, y 325, y 326, y 327, y 328, y 329, y 330, y 331, y 332, y 333, y 334, y 335, y 336, y 337, y 338, y 339, y 340, y 341, y 342, y 343, y 344, y 345, y 346, y 347, y 348, y 349, y 350, y 351, y 352, y 353, y 354, y 355, y 356, y 357, y 358, y 359, y 360, y 361, y 362, y 363, y 364, y 365, y 366, y 367, y 368, y 369, y 370, y 371, y 372, y 373, y 374, y 375, y 376, y 377, y 378, y 379, y 380, y 381, y 382, y 383, y 384, y 385, y 386, y 387, y 388, y 389], defers := [] } := by
  obtain ⟨tmps, defers⟩ := a
  have yd : defers = [] := hf.df
  subst yd
  obtain ⟨y, hy, hi⟩ := arr_390 tmps hf.sz
  have e1 := (hi 1).trans hf.s1
  have e2 := (hi 2).trans hf.s2
  have e4 := (hi 4).trans hf.s4
  rw [e1, e2, e4] at hy
  exact ⟨y, congrArg (fun t => (⟨t, []⟩ : Act)) hy⟩
set_option maxRecDepth 40000 in
theorem lite5 {x : DX} {a : Act} (hf : FE1 x a) {u311 u312 u313 : Value} (h311 : a.tmps.getD 311 undef = u311) (h312 : a.tmps.getD 312 undef = u312) (h313 : a.tmps.getD 313 undef = u313) : ∃ y : Nat → Value, a = { tmps := #[y 0, .int .i64 (x.c : Int), .pointer (some ⟨x.q13, 0, none⟩), y 3, .slice x.a12 x.n x.k12, y 5, y 6, y 7, y 8, y 9, y 10, y 11, y 12, y 13, y 14, y 15, y 16, y 17, y 18, y 19, y 20, y 21, y 22, y 23, y 24, y 25, y 26, y 27, y 28, y 29, y 30, y 31, y 32, y 33, y 34, y 35, y 36, y 37, y 38, y 39, y 40, y 41, y 42, y 43, y 44, y 45, y 46, y 47, y 48, y 49, y 50, y 51, y 52, y 53, y 54, y 55, y 56, y 57, y 58, y 59, y 60, y 61, y 62, y 63, y 64, y 65, y 66, y 67, y 68, y 69, y 70, y 71, y 72, y 73, y 74, y 75, y 76, y 77, y 78, y 79, y 80, y 81, y 82, y 83, y 84, y 85, y 86, y 87, y 88, y 89, y 90, y 91, y 92, y 93, y 94, y 95, y 96, y 97, y 98, y 99, y 100, y 101, y 102, y 103, y 104, y 105, y 106, y 107, y 108, y 109, y 110, y 111, y 112, y 113, y 114, y 115, y 116, y 117, y 118, y 119, y 120, y 121, y 122, y 123, y 124, y 125, y 126, y 127, y 128, y 129, y 130, y 131, y 132, y 133, y 134, y 135, y 136, y 137, y 138, y 139, y 140, y 141, y 142, y 143, y 144, y 145, y 146, y 147, y 148, y 149, y 150, y 151, y 152, y 153, y 154, y 155, y 156, y 157, y 158, y 159, y 160, y 161, y 162, y 163, y 164, y 165, y 166, y 167, y 168, y 169, y 170, y 171, y 172, y 173, y 174, y 175, y 176, y 177, y 178, y 179, y 180, y 181, y 182, y 183, y 184, y 185, y 186, y 187, y 188, y 189, y 190, y 191, y 192, y 193, y 194, y 195, y 196, y 197, y 198, y 199, y 200, y 201, y 202, y 203, y 204, y 205, y 206, y 207, y 208, y 209, y 210, y 211, y 212, y 213, y 214, y 215, y 216, y 217, y 218, y 219, y 220, y 221, y 222, y 223, y 224, y 225, y 226, y 227, y 228, y 229, y 230, y 231, y 232, y 233, y 234, y 235, y 236, y 237, y 238, y 239, y 240, y 241, y 242, y 243, y 244, y 245, y 246, y 247, y 248, y 249, y 250, y 251, y 252, y 253, y 254, y 255, y 256, y 257, y 258, y 259, y 260, y 261, y 262, y 263, y 264, y 265, y 266, y 267, y 268, y 269, y 270, y 271, y 272, y 273, y 274, y 275, y 276, y 277, y 278, y 279, y 280, y 281, y 282, y 283, y 284, y 285, y 286, y 287, y 288, y 289, y 290, y 291, y 292, y 293, y 294, y 295, y 296, y 297, y 298, y 299, y 300, y 301, y 302, y 303, y 304, y 305, y 306, y 307, y 308, y 309, y 310, u311, u312, u313, y 314, y 315, y 316, y 317, y 318, y 319, y 320, y 321, y 322, y 323, y 324, y 325, y 326, y 327, y 328, y 329, y 330, y 331, y 332, y 333, y 334, y 335, y 336, y 337, y 338, y 339, y 340, y 341, y 342, y 343, y 344, y 345, y 346, y 347, y 348, y 349, y 350, y 351, y 352, y 353, y 354, y 355, y 356, y 357, y 358, y 359, y 360, y 361, y 362, y 363, y 364, y 365, y 366, y 367, y 368, y 369, y 370, y 371, y 372, y 373, y 374, y 375, y 376, y 377, y 378, y 379, y 380, y 381, y 382, y 383, y 384, y 385, y 386, y 387, y 388, y 389], defers := [] } := by
  obtain ⟨tmps, defers⟩ := a
  have yd : defers = [] := hf.df
  subst yd
  obtain ⟨y, hy, hi⟩ := arr_390 tmps hf.sz
  have e1 := (hi 1).trans hf.s1
  have e2 := (hi 2).trans hf.s2
  have e4 := (hi 4).trans hf.s4
  have e311 := (hi 311).trans h311
  have e312 := (hi 312).trans h312
  have e313 := (hi 313).trans h313
  rw [e1, e2, e4, e311, e312, e313] at hy
  exact ⟨y, congrArg (fun t => (⟨t, []⟩ : Act)) hy⟩

theorem DIn.split {w wr w' : World} {M M' M2 : Fam} {p q13 q14 : Nat} {vis : Int} {P' P'' : PS} (h : DIn w M p q13 q14 vis wr M' P') (hR : Rep KP w' M2) (hM : PM M2 P'') (hG : Grew M' wr M2 w') (hL : LocX XA M' M2) : DIn w M p q13 q14 vis w' M2 P'' := by
  have r13 := hL.row 13 (by unfold Own; omega) (by unfold XA; omega)
  have r14 := hL.row 14 (by unfold Own; omega) (by unfold XA; omega)
  exact ⟨hR, hM, h.grew.trans hG, h.loc.trans (hL.mono (fun i hi => by unfold XA at hi; unfold XD; omega)), hL.p.trans h.b11, r13.1.trans h.b13, r13.2.1.trans h.n13, by rw [r13.2.2.2]; exact h.f13, r14.1.trans h.b14, hL.ints (by unfold Own; omega) (by unfold XA; omega) h.i14⟩
theorem DKp.split {x : DX} {K : Nat} {ln : Nat → Nat} {ls : Nat → Nat → Nat} {v7 : Value} {M' M2 : Fam} (h : DKp x K ln ls v7 M') (hL : LocX XA M' M2) : DKp x K ln ls v7 M2 :=
  ⟨⟨(hL.val (i := 12) (by unfold Own; omega) (by unfold XA; omega)).trans h.r12.1, hL.ints (by unfold Own; omega) (by unfold XA; omega) h.r12.2⟩, h.st.loc hL (by unfold XA; omega) (fun k => by unfold XA; omega), h.v15.trans (hL.val (i := 15) (by unfold Own; omega) (by unfold XA; omega)).symm⟩

def L5I (x : DX) (PA : PS) (K : Nat) (ln : Nat → Nat) (ls : Nat → Nat → Nat) (vis : Int) (a15 : Option Addr) (k15 : Nat) (a : Act) (w : World) : Prop :=
  FE1 x a ∧ a.tmps.getD 311 undef = .slice a15 K k15 ∧ a.tmps.getD 312 undef = .int .i64 (K : Int) ∧ ∃ k : Nat, a.tmps.getD 313 undef = .int .i64 (k : Int) ∧ k ≤ K ∧ ∃ M2 P2 L, DIn x.w x.M x.p x.q13 x.q14 vis w M2 P2 ∧ DKp x K ln ls (.slice a15 K k15) M2 ∧ DV PA ln ls k P2 L
def mu313 (n : Nat) (a : Act) : Nat := n - (intOf (a.tmps.getD 313 undef)).toNat

set_option maxRecDepth 40000 in
set_option maxHeartbeats 8000000 in
/-- The calls of 'split'. -/
theorem dw_splits (x : DX) (PA : PS) (K : Nat) (ln : Nat → Nat) (ls : Nat → Nat → Nat) (vis : Int) (a15 : Option Addr) (k15 : Nat) (v39 : Value) (a : Act) (wr : World) (M' : Fam) (hf : FD x (.slice a15 K k15) v39 a) (hD : DIn x.w x.M x.p x.q13 x.q14 vis wr M' PA) (kp : DKp x K ln ls (.slice a15 K k15) M') (hl : DL PA K ln ls) (hKb : K ≤ 99999990) (Q : Exit → Act → World → Prop)
    (hC : ∀ (a : Act) (w' : World) (M2 : Fam) (P2 : PS) (L : LS), FE1 x a → DIn x.w x.M x.p x.q13 x.q14 vis w' M2 P2 → M2.val 12 = .slice x.a12 x.n x.k12 → Ints M2 12 x.n (fun j => ((x.sl j : Nat) : Int)) → DV PA ln ls K P2 L → Q .normal a w') :
    Code.wp Try.prog (sL (tl 7 (Try.f28.body.getD .skip))) Q a wr := by
  obtain ⟨y, rfl⟩ := litd hf
  have start : Hid (∃ M2 P2 L, DIn x.w x.M x.p x.q13 x.q14 vis wr M2 P2 ∧ DKp x K ln ls (.slice a15 K k15) M2 ∧ DV PA ln ls 0 P2 L) := ⟨M', PA, LS.none, hD, kp, DV.init hl⟩
  have HL : Hid (DL PA K ln ls) := hl
  have HC : Hid (∀ (a : Act) (w' : World) (M2 : Fam) (P2 : PS) (L : LS), FE1 x a → DIn x.w x.M x.p x.q13 x.q14 vis w' M2 P2 → M2.val 12 = .slice x.a12 x.n x.k12 → Ints M2 12 x.n (fun j => ((x.sl j : Nat) : Int)) → DV PA ln ls K P2 L → Q .normal a w') := hC
  clear hf hD kp hl hC
  show Code.wp Try.prog (Code.seq _ (Code.block 9 (Code.loop (Code.seq _ (Code.seq (Code.cond (.tmp 314) Code.skip (Code.exit 9)) (Code.seq (Code.block 10 (Code.seq _ _)) _)))))) Q _ wr
  refine wp_seq_k (fun K1 hK => ?_)
  have HK : Hid (∀ (a : Act) (w : World), _ → K1 a w) := hK
  clear hK
  go_wp2
  refine HK.out _ _ ?_
  clear HK K1
  refine wp_block ?_
  refine wp_loop (L5I x PA K ln ls vis a15 k15) (fun a _ => mu313 K a) ⟨⟨by kernel_rfl, by kernel_rfl, by kernel_rfl, by kernel_rfl, by kernel_rfl⟩, by kernel_rfl, by kernel_rfl, 0, by kernel_rfl, Nat.zero_le _, start.out⟩ ?_
  clear start
  rintro a w' ⟨hf, h311, h312, k, h313, k1, M2, P2, L, hD, kp, dv⟩
  have e313 : mu313 K a = K - k := congrArg (fun v => K - (intOf v).toNat) h313
  obtain ⟨y2, rfl⟩ := lite5 hf h311 h312 h313
  rw [e313]
  clear e313 hf h311 h312 h313
  refine wp_seq_k (fun K1 hK => ?_)
  have HK : Hid (∀ (a : Act) (w : World), _ → K1 a w) := hK
  clear hK
  by_cases hk : k < K
  · have hki : (k : Int) < (K : Int) := by omega
    obtain ⟨g15, b15⟩ := hD.rep.hasBlock (i := 15) (by rw [kp.st.1]; omega)
    have hv := kp.v15
    rw [val_some b15, kp.st.1] at hv
    injection hv with ha _ hc15
    subst ha
    have l15 := hD.rep.le_cap 15
    rw [kp.st.1, ← hc15] at l15
    obtain ⟨fk, ik⟩ := kp.st.2 k hk
    obtain ⟨gk, bk⟩ := hD.rep.hasBlock (i := 62 + 3 * k) (by rw [ik.1]; have := (HL.out.n2 k hk).1; omega)
    have xk := hD.rep.cell b15 (j := k) (by rw [kp.st.1]; show k < K * 1; omega)
    rw [fk, val_some bk, ik.1] at xk
    have x1 := hD.box
    have hcall := split_calls w' M2 PA P2 L x.p (62 + 3 * k) gk (ln k) (ls k) hD.rep hD.pm hD.b11 (by unfold Own; omega) (by unfold XA; omega) (KP_list k) bk ik (dv.go HL.out hk)
    have HCall : Hid (Calls Try.prog 29 #[.pointer (some ⟨x.p, 0, none⟩), .slice (some ⟨gk, 0, none⟩) (ln k) (M2.cap (62 + 3 * k))] w' fun e w'' => e = .returned (.tuple #[]) ∧ SDn w' M2 PA L (ln k) (ls k) w'') := hcall
    have fin : Hid (∀ w'', SDn w' M2 PA L (ln k) (ls k) w'' → ∃ M3 P3 L3, DIn x.w x.M x.p x.q13 x.q14 vis w'' M3 P3 ∧ DKp x K ln ls (.slice (some ⟨g15, 0, none⟩) K k15) M3 ∧ DV PA ln ls (k + 1) P3 L3) := by
      rintro w'' ⟨S, M3, r, pm, gr, lo, en⟩
      exact ⟨M3, S.P, S.L, hD.split r pm gr lo, kp.split lo, dv.next HL.out hk en⟩
    clear hcall hD kp dv b15 bk fk ik hc15
    generalize M2.cap (62 + 3 * k) = kk at *
    go_wp2
    refine HK.out _ _ ?_
    clear HK K1
    refine wp_seq_k (fun K1 hK => ?_)
    have HK : Hid (∀ (a : Act) (w : World), _ → K1 a w) := hK
    clear hK
    refine wp_cond_true (by kernel_rfl) (wp_skip ?_)
    refine HK.out _ _ ?_
    clear HK K1
    refine wp_seq_k (fun K1 hK => ?_)
    have HK : Hid (∀ (a : Act) (w : World), _ → K1 a w) := hK
    clear hK
    refine wp_block ?_
    refine wp_seq_k (fun K2 hK => ?_)
    have HK2 : Hid (∀ (a : Act) (w : World), _ → K2 a w) := hK
    clear hK
    go_wp2
    refine HK2.out _ _ ?_
    clear HK2 K2
    go_wp2_with (go_at_call 29; refine HCall.out.mono ?_; rintro e w2 ⟨rfl, hdn⟩; have hR := fin.out w2 hdn; clear hdn; have HRR : Hid (∃ M3 P3 L3, DIn x.w x.M x.p x.q13 x.q14 vis w2 M3 P3 ∧ DKp x K ln ls (.slice (some ⟨g15, 0, none⟩) K k15) M3 ∧ DV PA ln ls (k + 1) P3 L3) := hR; clear hR)
    refine HK.out _ _ ?_
    clear HK K1 xk x1
    go_wp2
    exact ⟨⟨⟨by kernel_rfl, by kernel_rfl, by kernel_rfl, by kernel_rfl, by kernel_rfl⟩, by kernel_rfl, by kernel_rfl, k + 1, by kernel_rfl, by omega, HRR.out⟩, Nat.lt_of_le_of_lt (Nat.le_of_eq (by kernel_rfl : _ = K - (k + 1))) (by omega)⟩
  · have hki : ¬ (k : Int) < (K : Int) := by omega
    obtain rfl : k = K := by omega
    have fin : Hid (DIn x.w x.M x.p x.q13 x.q14 vis w' M2 P2 ∧ DKp x k ln ls (.slice a15 k k15) M2 ∧ DV PA ln ls k P2 L) := ⟨hD, kp, dv⟩
    clear hD kp dv
    go_wp2
    refine HK.out _ _ ?_
    refine wp_seq_k (fun K4 hK => ?_)
    refine wp_cond_false (by kernel_rfl) (wp_exit ?_)
    exact HC.out _ _ M2 P2 L ⟨by kernel_rfl, by kernel_rfl, by kernel_rfl, by kernel_rfl, by kernel_rfl⟩ fin.out.1 fin.out.2.1.r12.1 fin.out.2.1.r12.2 fin.out.2.2
end Go.Proofs.Qxb6602148a
