import Derived.Test.Qxb6602148aVwb
attribute [local go_sem] Go.Proofs.Qxb6602148a.yTo Go.Proofs.Qxb6602148a.yUpon
namespace Go.Proofs.Qxb6602148a
open Go.RowKit
set_option linter.unusedVariables false
set_option linter.unusedSimpArgs false

structure FV5 (p : Nat) (x0 x1 : Value) (g2 g3 g4 n g5 m : Nat) (a : Act) : Prop where
  f : FV p x0 x1 g2 g3 g4 n a
  s7 : a.tmps.getD 7 undef = .slice (some ⟨g5, 0, none⟩) m m

set_option maxRecDepth 40000 in
set_option maxHeartbeats 2000000 in
/-- Region 12. -/
theorem vw_3 (w0 : World) (M : Fam) (P : PS) (p : Nat) (hI : PIn w0 M P p) (x0 x1 : Value) (g2 g3 g4 : Nat) (wr : World) (V : Fam) (hR : Rep KV wr V) (hG : Grew Fam.nil w0 V wr) (hV : VA P x0 x1 g2 g3 g4 P.nS V) (y : Nat → Value) (tail : Code) (Z : Ending → World → Prop)
    (hT : ∀ (a : Act) (w' : World) (V : Fam) (g5 : Nat), FV5 p x0 x1 g2 g3 g4 P.nS g5 P.nC a → Rep KV w' V → Grew Fam.nil w0 V w' → VB P x0 x1 g2 g3 g4 g5 0 V → Code.wp Try.prog tail (bodyPost Try.prog Try.f27 fun e w' => Z e w') a w') :
    Code.wp Try.prog (rt 1 (tl 7 (Try.f27.body.getD .skip)) tail) (bodyPost Try.prog Try.f27 fun e w' => Z e w') { tmps := #[.pointer (some ⟨p, 0, none⟩), y 1, x0, x1, .slice (some ⟨g2, 0, none⟩) P.nS P.nS, .slice (some ⟨g3, 0, none⟩) P.nS P.nS, .slice (some ⟨g4, 0, none⟩) P.nS P.nS, y 7, y 8, y 9, y 10, y 11, y 12, y 13, y 14, y 15, y 16, y 17, y 18, y 19, y 20, y 21, y 22, y 23, y 24, y 25, y 26, y 27, y 28, y 29, y 30, y 31, y 32, y 33, y 34, y 35, y 36, y 37, y 38, y 39, y 40, y 41, y 42, y 43, y 44, y 45, y 46, y 47, y 48, y 49, y 50, y 51, y 52, y 53, y 54, y 55, y 56, y 57, y 58, y 59, y 60, y 61, y 62, y 63, y 64, y 65, y 66, y 67, y 68, y 69, y 70, y 71, y 72, y 73, y 74, y 75, y 76, y 77, y 78, y 79, y 80, y 81, y 82, y 83, y 84, y 85, y 86, y 87, y 88, y 89, y 90, y 91, y 92, y 93, y 94, y 95, y 96, y 97, y 98, y 99, y 100, y 101, y 102, y 103, y 104, y 105, y 106, y 107, y 108, y 109, y 110, y 111, y 112], defers := [] } wr := by
  obtain ⟨i26, hi26, hz260, hz261, hz262⟩ := info_parts Try.info26
  obtain ⟨hE, hS, hC⟩ := hI.small
  have c5 := hI.c5 hG
  have HR : Hid (Rep KV wr V) := hR
  have HG : Hid (Grew Fam.nil w0 V wr) := hG
  have HV : Hid (VA P x0 x1 g2 g3 g4 P.nS V) := hV
  have HTL : Hid (∀ (a : Act) (w' : World) (V : Fam) (g5 : Nat), FV5 p x0 x1 g2 g3 g4 P.nS g5 P.nC a → Rep KV w' V → Grew Fam.nil w0 V w' → VB P x0 x1 g2 g3 g4 g5 0 V → Code.wp Try.prog tail (bodyPost Try.prog Try.f27 fun e w' => Z e w') a w') := hT
  clear hT hI hR hG hV
  generalize Option.map (fun g => (⟨g, 0, none⟩ : Addr)) (M.b 5) = a5 at *
  generalize M.cap 5 = k5 at *
  simp only [tl, rt, Try.f27, Option.getD]
  go_wp2_with (at_make; refine wpList_make_row rfl (.tmp 86) (.tmp 86) 22 rfl 26 i26 (.slice none 0 0) 1 24 (.slice none 0 0) Try.underlying22 hi26 hz260 hz261 hz262 rfl (by decide) zeroS P.nC _ _ rfl rfl rfl rfl (by omega) (by omega) ?_; intro w5 hF; have HR5 : Hid (Rep KV w5 (V.put 5 (some wr.heap.size) P.nC P.nC (fun _ => .slice none 0 0))) := hF.rep HR.out 5 rfl; have HG5 : Hid (Grew Fam.nil w0 (V.put 5 (some wr.heap.size) P.nC P.nC (fun _ => .slice none 0 0)) w5) := HG.out.trans (hF.grew _ 5); clear hF)
  exact HTL.out _ _ _ wr.heap.size ⟨⟨by kernel_rfl, by kernel_rfl, by kernel_rfl, by kernel_rfl, by kernel_rfl, by kernel_rfl, by kernel_rfl, by kernel_rfl⟩, by kernel_rfl⟩ HR5.out HG5.out ⟨HV.out.more (by omega), ⟨put_bs, put_ns, by simp [Fam.put]⟩, fun j hj => by omega, fun j hj => by omega, fun j hj => by omega⟩

def VBI (w0 : World) (P : PS) (p : Nat) (x0 x1 : Value) (g2 g3 g4 g5 : Nat) (a : Act) (w' : World) : Prop :=
  FV5 p x0 x1 g2 g3 g4 P.nS g5 P.nC a ∧ ∃ c : Nat, a.tmps.getD 10 undef = .int .i64 (c : Int) ∧ c ≤ P.nC ∧ ∃ V, Rep KV w' V ∧ Grew Fam.nil w0 V w' ∧ VB P x0 x1 g2 g3 g4 g5 c V
def mu10 (n : Nat) (a : Act) : Nat := n - (intOf (a.tmps.getD 10 undef)).toNat

set_option maxRecDepth 40000 in
set_option maxHeartbeats 8000000 in
/-- The components. -/
theorem vw_4 (w0 : World) (M : Fam) (P : PS) (p : Nat) (hI : PIn w0 M P p) (x0 x1 : Value) (g2 g3 g4 g5 : Nat) (a : Act) (wr : World) (V : Fam) (hf : FV5 p x0 x1 g2 g3 g4 P.nS g5 P.nC a) (hR : Rep KV wr V) (hG : Grew Fam.nil w0 V wr) (hV : VB P x0 x1 g2 g3 g4 g5 0 V) (Q : Exit → Act → World → Prop)
    (hC : ∀ (a : Act) (w' : World) (V : Fam), FV5 p x0 x1 g2 g3 g4 P.nS g5 P.nC a → Rep KV w' V → Grew Fam.nil w0 V w' → VB P x0 x1 g2 g3 g4 g5 P.nC V → Q .normal a w') :
    Code.wp Try.prog (sL (tl 8 (Try.f27.body.getD .skip))) Q a wr := by
  obtain ⟨y, rfl⟩ := litv7 hf.f.sz hf.f.df hf.f.s0 hf.f.s2 hf.f.s3 hf.f.s4 hf.f.s5 hf.f.s6 hf.s7
  have start : Hid (∃ V, Rep KV wr V ∧ Grew Fam.nil w0 V wr ∧ VB P x0 x1 g2 g3 g4 g5 0 V) := ⟨V, hR, hG, hV⟩
  have HI : Hid (PIn w0 M P p) := hI
  obtain ⟨hE, hS, hCn⟩ := hI.small
  have HC : Hid (∀ (a : Act) (w' : World) (V : Fam), FV5 p x0 x1 g2 g3 g4 P.nS g5 P.nC a → Rep KV w' V → Grew Fam.nil w0 V w' → VB P x0 x1 g2 g3 g4 g5 P.nC V → Q .normal a w') := hC
  clear hf hR hG hV hI hC
  show Code.wp Try.prog (Code.seq _ (Code.block 2 (Code.loop (Code.seq (Code.seq _ (Code.cond (.tmp 94) Code.skip (Code.exit 2))) (Code.seq (Code.block 3 _) _))))) Q _ wr
  refine wp_seq_k (fun K1 hK => ?_)
  have HK : Hid (∀ (a : Act) (w : World), _ → K1 a w) := hK
  clear hK
  go_wp2
  refine HK.out _ _ ?_
  clear HK K1
  refine wp_block ?_
  refine wp_loop (VBI w0 P p x0 x1 g2 g3 g4 g5) (fun a _ => mu10 P.nC a) ⟨⟨⟨by kernel_rfl, by kernel_rfl, by kernel_rfl, by kernel_rfl, by kernel_rfl, by kernel_rfl, by kernel_rfl, by kernel_rfl⟩, by kernel_rfl⟩, 0, by kernel_rfl, Nat.zero_le _, start.out⟩ ?_
  clear start
  rintro a w' ⟨hf, c, h10, c1, V, hR, hG, hV⟩
  have e10 : mu10 P.nC a = P.nC - c := congrArg (fun v => P.nC - (intOf v).toNat) h10
  obtain ⟨y2, rfl⟩ := litv10 hf.f.sz hf.f.df hf.f.s0 hf.f.s2 hf.f.s3 hf.f.s4 hf.f.s5 hf.f.s6 hf.s7 h10
  rw [e10]
  clear e10 hf h10
  have hMr := HI.out.at hG
  have x3 := HI.out.c5 hG
  refine wp_seq_k (fun K1 hK => ?_)
  have HK : Hid (∀ (a : Act) (w : World), _ → K1 a w) := hK
  clear hK
  refine wp_seq_k (fun K2 hK => ?_)
  have HK2 : Hid (∀ (a : Act) (w : World), _ → K2 a w) := hK
  clear hK
  by_cases hs : c < P.nC
  · have hsi : (c : Int) < (P.nC : Int) := by omega
    obtain ⟨gs, bs⟩ := hMr.hasBlock (i := 5) (by rw [HI.out.pm.nC]; omega)
    rw [bs] at x3
    have x3' : w'.cell? ⟨p, 5, none⟩ = some (.slice (some ⟨gs, 0, none⟩) P.nC (M.cap 5)) := x3
    have l3 := hMr.le_cap 5
    rw [HI.out.pm.nC] at l3
    have z2 : w'.cell? ⟨gs, c, none⟩ = some (M.val (61 + 3 * c)) := (hMr.cell bs (by rw [HI.out.pm.nC]; show c < P.nC * 1; omega)).trans (congrArg some (HI.out.pm.memh c hs))
    have hcall := cloneB_row hR hG hMr (HI.out.pm.mem c hs) (KP_mem c) (HI.out.mn c hs) (8 + 2 * c) (KV_m c)
    have hnil : M.b (61 + 3 * c) = none ↔ P.mn c = 0 := by
      constructor
      · intro h
        have hr := hMr.row (61 + 3 * c)
        rw [h] at hr
        have hr0 : M.n (61 + 3 * c) = 0 := hr.1
        rw [← (HI.out.pm.mem c hs).1]; exact hr0
      · exact HI.out.pm.mnil c hs
    have b5 : V.b 5 = some g5 := hV.b5.1
    have HCall : Hid (Calls Try.prog 32 #[M.val (61 + 3 * c)] w' fun e w2 => ∃ a4 k4, e = .returned (.slice a4 (P.mn c) k4) ∧ (∃ vv, w2.cell? ⟨g5, c, none⟩ = some vv) ∧ w2.frozen? ⟨g5, c, none⟩ = false ∧ ∃ V', Rep KV (w2.setCell ⟨g5, c, none⟩ (.slice a4 (P.mn c) k4)) V' ∧ Grew Fam.nil w0 V' (w2.setCell ⟨g5, c, none⟩ (.slice a4 (P.mn c) k4)) ∧ VB P x0 x1 g2 g3 g4 g5 (c + 1) V') := by
      refine hcall.mono ?_
      rintro e w2 ⟨a', b, cap, rfl, hx, r, g, hb⟩
      have b5' : (V.put (8 + 2 * c) b (P.mn c) cap (fun j => .int .i64 (P.mem c j))).b 5 = some g5 := (put_b (by omega)).trans b5
      have hn := hV.next hs b cap (hb.trans hnil)
      rw [put_vals, ← hx] at hn
      exact ⟨_, _, rfl, ⟨_, r.cell b5' (j := c) (by rw [put_n (by omega)]; show c < V.n 5 * 1; rw [hV.b5.2.1]; omega)⟩, r.frozen b5' c, _, r.set b5' c _, g.set ⟨5, b5'⟩ _ _ _ _, hn⟩
    clear hcall hR hG hV b5 bs hMr x3 hnil
    generalize M.cap 5 = k5 at *
    generalize M.val (61 + 3 * c) = vo at *
    go_wp2
    refine HK2.out _ _ (wp_cond_true (by kernel_rfl) (wp_skip ?_))
    refine HK.out _ _ ?_
    clear HK K1 HK2 K2
    refine wp_seq_k (fun K1 hK => ?_)
    have HK : Hid (∀ (a : Act) (w : World), _ → K1 a w) := hK
    clear hK
    refine wp_block ?_
    go_wp2_with (go_at_call 32; refine HCall.out.mono ?_; rintro e w2 ⟨a4, k4, rfl, ⟨vv, c4⟩, f4, hfin⟩; have HFin : Hid (∃ V', Rep KV (w2.setCell ⟨g5, c, none⟩ (.slice a4 (P.mn c) k4)) V' ∧ Grew Fam.nil w0 V' (w2.setCell ⟨g5, c, none⟩ (.slice a4 (P.mn c) k4)) ∧ VB P x0 x1 g2 g3 g4 g5 (c + 1) V') := hfin; clear hfin)
    refine HK.out _ _ ?_
    clear HK K1 c4 f4 x3' z2
    generalize w2.setCell ⟨g5, c, none⟩ (.slice a4 (P.mn c) k4) = we at *
    go_wp2
    exact ⟨⟨⟨⟨by kernel_rfl, by kernel_rfl, by kernel_rfl, by kernel_rfl, by kernel_rfl, by kernel_rfl, by kernel_rfl, by kernel_rfl⟩, by kernel_rfl⟩, c + 1, by kernel_rfl, by omega, HFin.out⟩, Nat.lt_of_le_of_lt (Nat.le_of_eq (by kernel_rfl : _ = P.nC - (c + 1))) (by omega)⟩
  · have hsi : ¬ (c : Int) < (P.nC : Int) := by omega
    have hss : c = P.nC := by omega
    have fin : Hid (Rep KV w' V ∧ Grew Fam.nil w0 V w' ∧ VB P x0 x1 g2 g3 g4 g5 P.nC V) := ⟨hR, hG, by rw [← hss]; exact hV⟩
    clear hR hG hV hMr hss
    generalize Option.map (fun g => (⟨g, 0, none⟩ : Addr)) (M.b 5) = a5 at *
    generalize M.cap 5 = k5 at *
    go_wp2
    refine HK2.out _ _ (wp_cond_false (by kernel_rfl) (wp_exit ?_))
    exact HC.out _ _ V ⟨⟨by kernel_rfl, by kernel_rfl, by kernel_rfl, by kernel_rfl, by kernel_rfl, by kernel_rfl, by kernel_rfl, by kernel_rfl⟩, by kernel_rfl⟩ fin.out.1 fin.out.2.1 fin.out.2.2

/-- What 'ZZViewB1' hands back. -/
def VOut (w0 : World) (P : PS) (V : Fam) (w' : World) : Prop := Rep KV w' V ∧ Grew Fam.nil w0 V w' ∧ VM V P
def VRet (w0 : World) (P : PS) (e : Ending) (w' : World) : Prop := ∃ V, e = .returned (.tuple #[V.val 0, V.val 1, V.val 2, V.val 3, V.val 4, V.val 5, V.val 6]) ∧ VOut w0 P V w'

set_option maxRecDepth 40000 in
set_option maxHeartbeats 2000000 in
/-- Region 17, and the end. -/
theorem vw_5 (w0 : World) (M : Fam) (P : PS) (p : Nat) (hI : PIn w0 M P p) (x0 x1 : Value) (g2 g3 g4 g5 : Nat) (wr : World) (V : Fam) (hR : Rep KV wr V) (hG : Grew Fam.nil w0 V wr) (hV : VB P x0 x1 g2 g3 g4 g5 P.nC V) (y : Nat → Value) :
    Code.wp Try.prog (tl 9 (Try.f27.body.getD .skip)) (bodyPost Try.prog Try.f27 fun e w' => VRet w0 P e w') { tmps := #[.pointer (some ⟨p, 0, none⟩), y 1, x0, x1, .slice (some ⟨g2, 0, none⟩) P.nS P.nS, .slice (some ⟨g3, 0, none⟩) P.nS P.nS, .slice (some ⟨g4, 0, none⟩) P.nS P.nS, .slice (some ⟨g5, 0, none⟩) P.nC P.nC, y 8, y 9, y 10, y 11, y 12, y 13, y 14, y 15, y 16, y 17, y 18, y 19, y 20, y 21, y 22, y 23, y 24, y 25, y 26, y 27, y 28, y 29, y 30, y 31, y 32, y 33, y 34, y 35, y 36, y 37, y 38, y 39, y 40, y 41, y 42, y 43, y 44, y 45, y 46, y 47, y 48, y 49, y 50, y 51, y 52, y 53, y 54, y 55, y 56, y 57, y 58, y 59, y 60, y 61, y 62, y 63, y 64, y 65, y 66, y 67, y 68, y 69, y 70, y 71, y 72, y 73, y 74, y 75, y 76, y 77, y 78, y 79, y 80, y 81, y 82, y 83, y 84, y 85, y 86, y 87, y 88, y 89, y 90, y 91, y 92, y 93, y 94, y 95, y 96, y 97, y 98, y 99, y 100, y 101, y 102, y 103, y 104, y 105, y 106, y 107, y 108, y 109, y 110, y 111, y 112], defers := [] } wr := by
  obtain ⟨hE, hS, hC⟩ := hI.small
  have hMr := hI.at hG
  have c7 := pcell hMr hI.b11 hI.pm.p (show 7 < 12 by omega) (hI.pm.hd 7 (by omega))
  have hcall := cloneB_row hR hG hMr hI.pm.edg rfl (by omega) 6 rfl
  have HCall : Hid (Calls Try.prog 32 #[M.val 7] wr fun e w2 => ∃ a6 k6, e = .returned (.slice a6 P.nC k6) ∧ VRet w0 P (.returned (.tuple #[x0, x1, .slice (some ⟨g2, 0, none⟩) P.nS P.nS, .slice (some ⟨g3, 0, none⟩) P.nS P.nS, .slice (some ⟨g4, 0, none⟩) P.nS P.nS, .slice (some ⟨g5, 0, none⟩) P.nC P.nC, .slice a6 P.nC k6])) w2) := by
    refine hcall.mono ?_
    rintro e w2 ⟨a', b, cap, rfl, hx, r, g, hb⟩
    have d := hV.done b cap
    refine ⟨_, _, rfl, _, ?_, r, g, d⟩
    have e0 : (V.put 6 b P.nC cap (fun j => .int .i64 (P.edg j))).val 0 = x0 := (put_val (by omega)).trans hV.va.v0
    have e1 : (V.put 6 b P.nC cap (fun j => .int .i64 (P.edg j))).val 1 = x1 := (put_val (by omega)).trans hV.va.v1
    have e2 : (V.put 6 b P.nC cap (fun j => .int .i64 (P.edg j))).val 2 = .slice (some ⟨g2, 0, none⟩) P.nS P.nS := (put_val (by omega)).trans (by rw [val_some hV.va.b2.1, hV.va.b2.2.1, hV.va.b2.2.2])
    have e3 : (V.put 6 b P.nC cap (fun j => .int .i64 (P.edg j))).val 3 = .slice (some ⟨g3, 0, none⟩) P.nS P.nS := (put_val (by omega)).trans (by rw [val_some hV.va.b3.1, hV.va.b3.2.1, hV.va.b3.2.2])
    have e4 : (V.put 6 b P.nC cap (fun j => .int .i64 (P.edg j))).val 4 = .slice (some ⟨g4, 0, none⟩) P.nS P.nS := (put_val (by omega)).trans (by rw [val_some hV.va.b4.1, hV.va.b4.2.1, hV.va.b4.2.2])
    have e5 : (V.put 6 b P.nC cap (fun j => .int .i64 (P.edg j))).val 5 = .slice (some ⟨g5, 0, none⟩) P.nC P.nC := (put_val (by omega)).trans (by rw [val_some hV.b5.1, hV.b5.2.1, hV.b5.2.2])
    have e6 : (V.put 6 b P.nC cap (fun j => .int .i64 (P.edg j))).val 6 = .slice a' P.nC cap := by rw [put_vals, hx]
    rw [e0, e1, e2, e3, e4, e5, e6]
  clear hcall hI hR hG hV hMr
  generalize M.val 7 = m7 at *
  simp only [tl, Try.f27, Option.getD]
  go_wp2_with (go_at_call 32; refine HCall.out.mono ?_; rintro e w2 ⟨a6, k6, rfl, hfin⟩; have HFin : Hid (VRet w0 P (.returned (.tuple #[x0, x1, .slice (some ⟨g2, 0, none⟩) P.nS P.nS, .slice (some ⟨g3, 0, none⟩) P.nS P.nS, .slice (some ⟨g4, 0, none⟩) P.nS P.nS, .slice (some ⟨g5, 0, none⟩) P.nC P.nC, .slice a6 P.nC k6])) w2) := hfin; clear hfin)
  (try simp only [Exit.inBlock, Exit.then])
  refine bodyPost_ret (results_tmp7 rfl _ _ _) rfl ?_
  exact HFin.out

/-- 'ZZViewB1'. -/
theorem view_calls (w0 : World) (M : Fam) (P : PS) (p : Nat) (hI : PIn w0 M P p) : Calls Try.prog 27 #[.pointer (some ⟨p, 0, none⟩)] w0 (VRet w0 P) := by
  refine calls_of_wp (c := Try.f27.body.getD .skip) Try.func27 rfl ?_
  have hfr : ({ tmps := #[.pointer (some ⟨p, 0, none⟩)] ++ Array.replicate (Try.f27.ntmps - (#[.pointer (some ⟨p, 0, none⟩)] : Array Value).size) undef, defers := [] } : Act) = { tmps := #[.pointer (some ⟨p, 0, none⟩), undef, undef, undef, undef, undef, undef, undef, undef, undef, undef, undef, undef, undef, undef, undef, undef, undef, undef, undef, undef, undef, undef, undef, undef, undef, undef, undef, undef, undef, undef, undef, undef, undef, undef, undef, undef, undef, undef, undef, undef, undef, undef, undef, undef, undef, undef, undef, undef, undef, undef, undef, undef, undef, undef, undef, undef, undef, undef, undef, undef, undef, undef, undef, undef, undef, undef, undef, undef, undef, undef, undef, undef, undef, undef, undef, undef, undef, undef, undef, undef, undef, undef, undef, undef, undef, undef, undef, undef, undef, undef, undef, undef, undef, undef, undef, undef, undef, undef, undef, undef, undef, undef, undef, undef, undef, undef, undef, undef, undef, undef, undef, undef], defers := [] } := by kernel_rfl
  rw [hfr]
  clear hfr
  have h1 := vw_1a w0 M P p hI (fun _ => undef) (tl 2 (Try.f27.body.getD .skip)) (VRet w0 P) ?_
  · rw [rt_tl] at h1
    exact h1
  intro a w1 a0 b0 k0 hf hx0 hR hG
  obtain ⟨y, rfl⟩ := litva hf.sz hf.df hf.s0 hf.s2
  have e2 : tl 3 (Try.f27.body.getD .skip) = tl 1 (tl 2 (Try.f27.body.getD .skip)) := by kernel_rfl
  have h2 := vw_1b w0 M P p hI (.slice a0 P.nE k0) w1 _ hR hG y (tl 3 (Try.f27.body.getD .skip)) (VRet w0 P) ?_
  · rw [e2, rt_tl] at h2
    exact h2
  intro a w2 a1 b1 k1 hf hx1 hR hG
  obtain ⟨y, rfl⟩ := litvb hf.f.sz hf.f.df hf.f.s0 hf.f.s2 hf.s3
  have e3 : tl 6 (Try.f27.body.getD .skip) = tl 3 (tl 3 (Try.f27.body.getD .skip)) := by kernel_rfl
  have h3 := vw_1c w0 M P p hI (.slice a0 P.nE k0) (.slice a1 P.nE k1) w2 _ hR hG y (tl 6 (Try.f27.body.getD .skip)) (VRet w0 P) ?_
  · rw [e3, rt_tl] at h3
    exact h3
  intro a w3 g2 g3 g4 hf hR hG
  have e6 : tl 6 (Try.f27.body.getD .skip) = Code.seq (sL (tl 6 (Try.f27.body.getD .skip))) (tl 7 (Try.f27.body.getD .skip)) := by kernel_rfl
  rw [e6]
  refine wp_seq ?_
  refine vw_2 w0 M P p hI (.slice a0 P.nE k0) (.slice a1 P.nE k1) g2 g3 g4 a w3 _ hf hR hG (VA.start hx0 hx1) _ ?_
  intro a w4 V hf hR hG hV
  obtain ⟨y, rfl⟩ := litvv hf.sz hf.df hf.s0 hf.s2 hf.s3 hf.s4 hf.s5 hf.s6
  have e7 : tl 8 (Try.f27.body.getD .skip) = tl 1 (tl 7 (Try.f27.body.getD .skip)) := by kernel_rfl
  have h4 := vw_3 w0 M P p hI (.slice a0 P.nE k0) (.slice a1 P.nE k1) g2 g3 g4 w4 V hR hG hV y (tl 8 (Try.f27.body.getD .skip)) (VRet w0 P) ?_
  · rw [e7, rt_tl] at h4
    exact h4
  intro a w5 V g5 hf hR hG hV
  have e8 : tl 8 (Try.f27.body.getD .skip) = Code.seq (sL (tl 8 (Try.f27.body.getD .skip))) (tl 9 (Try.f27.body.getD .skip)) := by kernel_rfl
  rw [e8]
  refine wp_seq ?_
  refine vw_4 w0 M P p hI (.slice a0 P.nE k0) (.slice a1 P.nE k1) g2 g3 g4 g5 a w5 V hf hR hG hV _ ?_
  intro a w6 V hf hR hG hV
  obtain ⟨y, rfl⟩ := litv7 hf.f.sz hf.f.df hf.f.s0 hf.f.s2 hf.f.s3 hf.f.s4 hf.f.s5 hf.f.s6 hf.s7
  exact vw_5 w0 M P p hI _ _ g2 g3 g4 g5 w6 V hR hG hV y
end Go.Proofs.Qxb6602148a
