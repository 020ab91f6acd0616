/-
  'zzMeetsModel'.
-/
import Derived.Test.Qxb6602148aMtd
import Derived.Test.Qxb6602148aMte
attribute [local go_sem] Go.Proofs.Qxb6602148a.yTo Go.Proofs.Qxb6602148a.yUpon
namespace Go.Proofs.Qxb6602148a
open Go.RowKit
set_option linter.unusedVariables false
set_option linter.unusedSimpArgs false

set_option maxRecDepth 40000 in
set_option maxHeartbeats 8000000 in
/-- 'zzMeetsModel' answers true. -/
theorem meets_calls (w0 : World) (X : MD) (P : PS) (m1 m2 m3 m4 u0 u1 u2 u3 u4 u5 u6 : Value) (hin : MtIn ((w0.alloc (.cells #[.int .i64 (X.n : Int), m1, m2, m3, m4, .int .i64 (X.nc : Int)] 29)).alloc (.cells #[u0, u1, u2, u3, u4, u5, u6] 35)) w0.heap.size (w0.heap.size + 1) X P) (hm : Meet X P) :
    Calls Try.prog 12 #[.agg #[.int .i64 (X.n : Int), m1, m2, m3, m4, .int .i64 (X.nc : Int)], .agg #[u0, u1, u2, u3, u4, u5, u6]] w0 fun e w' => e = .returned (.bool true) ∧ ∃ D, Grew Fam.nil ((w0.alloc (.cells #[.int .i64 (X.n : Int), m1, m2, m3, m4, .int .i64 (X.nc : Int)] 29)).alloc (.cells #[u0, u1, u2, u3, u4, u5, u6] 35)) D w' := by
  refine calls_of_wp (c := (Try.f12.body.getD .skip)) Try.func12 rfl ?_
  have hfr : ({ tmps := #[.agg #[.int .i64 (X.n : Int), m1, m2, m3, m4, .int .i64 (X.nc : Int)], .agg #[u0, u1, u2, u3, u4, u5, u6]] ++ Array.replicate (Try.f12.ntmps - (#[.agg #[.int .i64 (X.n : Int), m1, m2, m3, m4, .int .i64 (X.nc : Int)], .agg #[u0, u1, u2, u3, u4, u5, u6]] : Array Value).size) undef, defers := [] } : Act) = { tmps := #[.agg #[.int .i64 (X.n : Int), m1, m2, m3, m4, .int .i64 (X.nc : Int)], .agg #[u0, u1, u2, u3, u4, u5, u6], undef, undef, undef, undef, undef, undef, undef, undef, undef, undef, undef, undef, undef, undef, undef, undef, undef, undef, undef, undef, undef, undef, undef, undef, undef, undef, undef, undef, undef, undef, undef, undef, undef, undef, undef, undef, undef, undef, undef, undef, undef, undef, undef, undef, undef, undef, undef, undef, undef, undef, undef, undef, undef, undef, undef, undef, undef, undef, undef, undef, undef, undef, undef, undef, undef, undef, undef, undef, undef, undef, undef, undef, undef, undef, undef, undef, undef, undef, undef, undef, undef, undef, undef, undef, undef, undef, undef, undef, undef, undef, undef, undef, undef, undef, undef, undef, undef, undef, undef, undef, undef, undef, undef, undef, undef, undef, undef, undef, undef, undef, undef, undef, undef, undef, undef, undef, undef, undef, undef, undef, undef, undef, undef, undef, undef, undef, undef, undef, undef, undef, undef, undef, undef, undef, undef, undef, undef, undef, undef, undef, undef, undef, undef, undef, undef, undef, undef, undef, undef, undef, undef, undef, undef, undef, undef, undef, undef, undef, undef, undef, undef, undef, undef, undef, undef, undef, undef, undef, undef, undef, undef, undef, undef, undef, undef, undef, undef, undef, undef, undef, undef, undef, undef, undef, undef, undef, undef, undef, undef, undef, undef, undef, undef, undef, undef, undef, undef, undef, undef, undef, undef, undef, undef, undef, undef, undef, undef, undef, undef, undef, undef, undef, undef, undef, undef, undef, undef, undef, undef, undef, undef, undef, undef, undef, undef, undef, undef, undef, undef, undef, undef, undef, undef, undef, undef, undef, undef, undef, undef, undef, undef, undef, undef, undef, undef, undef, undef, undef, undef, undef, undef, undef, undef, undef, undef, undef, undef, undef, undef, undef, undef, undef, undef, undef, undef, undef, undef, undef, undef, undef, undef, undef, undef, undef, undef, undef, undef, undef, undef, undef, undef, undef, undef, undef, undef, undef, undef, undef, undef, undef, undef, undef, undef, undef, undef, undef, undef, undef, undef, undef, undef, undef, undef, undef, undef, undef, undef, undef, undef, undef, undef, undef, undef, undef, undef, undef, undef, undef, undef, undef, undef, undef, undef, undef, undef, undef, undef, undef, undef, undef, undef, undef, undef, undef, undef, undef, undef, undef, undef, undef, undef, undef, undef, undef, undef, undef, undef, undef, undef, undef, undef, undef, undef, undef, undef, undef, undef, undef, undef, undef, undef, undef, undef, undef, undef, undef, undef, undef, undef, undef, undef, undef, undef, undef, undef, undef, undef, undef, undef, undef, undef, undef, undef, undef, undef, undef, undef, undef, undef, undef, undef, undef, undef, undef, undef, undef, undef, undef, undef, undef, undef, undef, undef, undef, undef, undef, undef, undef, undef, undef, undef, undef, undef, undef, undef, undef, undef, undef, undef, undef, undef, undef, undef, undef, undef, undef, undef, undef, undef, undef, undef, undef, undef, undef, undef, undef, undef, undef, undef, undef, undef, undef, undef, undef, undef, undef, undef, undef, undef, undef, undef, undef, undef, undef, undef, undef, undef, undef, undef, undef, undef, undef, undef], defers := [] } := by kernel_rfl
  rw [hfr]
  clear hfr
  have h1 := mt_1 w0 X P m1 m2 m3 m4 u0 u1 u2 u3 u4 u5 u6 hin hm (fun _ => undef) (tl 8 (Try.f12.body.getD .skip)) (fun e w' => e = .returned (.bool true) ∧ ∃ D, Grew Fam.nil ((w0.alloc (.cells #[.int .i64 (X.n : Int), m1, m2, m3, m4, .int .i64 (X.nc : Int)] 29)).alloc (.cells #[u0, u1, u2, u3, u4, u5, u6] 35)) D w') ?_
  · rw [rt_tl] at h1
    exact h1
  generalize ((w0.alloc (.cells #[.int .i64 (X.n : Int), m1, m2, m3, m4, .int .i64 (X.nc : Int)] 29)).alloc (.cells #[u0, u1, u2, u3, u4, u5, u6] 35)) = wb at *
  generalize w0.heap.size + 1 = gW at *
  generalize w0.heap.size = gM at *
  have e8 : tl 8 (Try.f12.body.getD .skip) = Code.seq (sL (tl 8 (Try.f12.body.getD .skip))) (tl 9 (Try.f12.body.getD .skip)) := by kernel_rfl
  have e9 : tl 10 (Try.f12.body.getD .skip) = tl 1 (tl 9 (Try.f12.body.getD .skip)) := by kernel_rfl
  have e10 : tl 10 (Try.f12.body.getD .skip) = Code.seq (sL (tl 10 (Try.f12.body.getD .skip))) (tl 11 (Try.f12.body.getD .skip)) := by kernel_rfl
  have e11 : tl 12 (Try.f12.body.getD .skip) = tl 1 (tl 11 (Try.f12.body.getD .skip)) := by kernel_rfl
  have e12 : tl 12 (Try.f12.body.getD .skip) = Code.seq (sL (tl 12 (Try.f12.body.getD .skip))) (tl 13 (Try.f12.body.getD .skip)) := by kernel_rfl
  have e13 : tl 15 (Try.f12.body.getD .skip) = tl 2 (tl 13 (Try.f12.body.getD .skip)) := by kernel_rfl
  have e15 : tl 15 (Try.f12.body.getD .skip) = Code.seq (sL (tl 15 (Try.f12.body.getD .skip))) (tl 16 (Try.f12.body.getD .skip)) := by kernel_rfl
  have e16 : tl 18 (Try.f12.body.getD .skip) = tl 2 (tl 16 (Try.f12.body.getD .skip)) := by kernel_rfl
  have e18 : tl 18 (Try.f12.body.getD .skip) = Code.seq (sL (tl 18 (Try.f12.body.getD .skip))) (tl 19 (Try.f12.body.getD .skip)) := by kernel_rfl
  have e19 : tl 20 (Try.f12.body.getD .skip) = tl 1 (tl 19 (Try.f12.body.getD .skip)) := by kernel_rfl
  have e20 : tl 20 (Try.f12.body.getD .skip) = Code.seq (sL (tl 20 (Try.f12.body.getD .skip))) (tl 21 (Try.f12.body.getD .skip)) := by kernel_rfl
  have e21 : tl 21 (Try.f12.body.getD .skip) = Code.seq (sL (tl 21 (Try.f12.body.getD .skip))) (tl 22 (Try.f12.body.getD .skip)) := by kernel_rfl
  intro a w1 g2 hf h8 hI
  rw [e8]
  refine wp_seq ?_
  refine mt_2 wb gM gW X P g2 hin hm w1 hI a hf h8 _ ?_
  intro a w2 hf h8 hI
  have s9 := mt_3a wb gM gW X P g2 hin hm w2 hI a hf h8 (tl 10 (Try.f12.body.getD .skip)) (fun e w' => e = .returned (.bool true) ∧ ∃ D, Grew Fam.nil wb D w') ?_
  · rw [e9, rt_tl] at s9
    exact s9
  intro a w3 g3 hf h8 h11 hI
  rw [e10]
  refine wp_seq ?_
  refine mt_3 wb gM gW X P g2 g3 hin hm w3 _ hI a hf h8 h11 _ ?_
  intro a w4 hf h8 h11 hI
  have s11 := mt_4a wb gM gW X P g2 g3 hin hm w4 hI a hf h8 h11 (tl 12 (Try.f12.body.getD .skip)) (fun e w' => e = .returned (.bool true) ∧ ∃ D, Grew Fam.nil wb D w') ?_
  · rw [e11, rt_tl] at s11
    exact s11
  intro a w5 g4 hf h8 h11 h13 hI
  rw [e12]
  refine wp_seq ?_
  refine mt_4 wb gM gW X P g2 g3 g4 hin hm w5 _ hI a hf h8 h11 h13 _ ?_
  intro a w6 hf h8 h11 h13 hI
  have s13 := mt_5a wb gM gW X P g2 g3 g4 hin hm w6 hI a hf h8 h11 h13 (tl 15 (Try.f12.body.getD .skip)) (fun e w' => e = .returned (.bool true) ∧ ∃ D, Grew Fam.nil wb D w') ?_
  · rw [e13, rt_tl] at s13
    exact s13
  intro a w7 g5 g6 hf hI
  rw [e15]
  refine wp_seq ?_
  refine mt_5 wb gM gW X P g2 g3 g4 g5 g6 hin hm w7 hI a hf _ ?_
  intro a w8 hf hI
  have s16 := mt_6a wb gM gW X P g2 g3 g4 g5 g6 hin hm w8 hI a hf (tl 18 (Try.f12.body.getD .skip)) (fun e w' => e = .returned (.bool true) ∧ ∃ D, Grew Fam.nil wb D w') ?_
  · rw [e16, rt_tl] at s16
    exact s16
  intro a w9 g7 g8 hf hI
  rw [e18]
  refine wp_seq ?_
  refine mt_6 wb gM gW X P g2 g5 g6 g7 g8 hin hm w9 hI a hf _ ?_
  intro a w10 hf hI
  have s19 := mt_7a wb gM gW X P hin hm w10 (by obtain ⟨D, _, _, _, d1, _⟩ := hI; exact ⟨D, d1⟩) a hf.ft (tl 20 (Try.f12.body.getD .skip)) (fun e w' => e = .returned (.bool true) ∧ ∃ D, Grew Fam.nil wb D w') ?_
  · rw [e19, rt_tl] at s19
    exact s19
  intro a w11 g9 hf hI
  rw [e20]
  refine wp_seq ?_
  refine mt_7 wb gM gW X P g9 hin hm w11 hI a hf _ ?_
  intro a w12 hf hI
  show Code.wp Try.prog (tl 21 (Try.f12.body.getD .skip)) _ a w12
  rw [e21]
  refine wp_seq ?_
  refine mt_8 wb gM gW X P g9 hin hm w12 hI a hf _ ?_
  intro a w13 hf hI
  exact mt_9 X.E P.nS P.nC gM gW w13 (fun w' => ∃ D, Grew Fam.nil wb D w') (by obtain ⟨D, d1, _⟩ := hI; exact ⟨D, d1.grew⟩) a hf.ft
end Go.Proofs.Qxb6602148a
