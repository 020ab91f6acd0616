/-
  The third law: from region 27 to the end.
-/
import Derived.Test.Qxb6602148aLy
import Derived.Test.Qxb6602148aLz
attribute [local go_sem] Go.Proofs.Qxb6602148a.yTo Go.Proofs.Qxb6602148a.yUpon
namespace Go.Proofs.Qxb6602148a
open Go.RowKit
set_option linter.unusedVariables false
set_option linter.unusedSimpArgs false


theorem Tp.zero (wb : World) (G : GR) (R : Nat → Nat → Bool) (nc : Nat) (cls : Nat → Nat) (P : PS) (c : Nat) : Tp wb G R nc cls P c 0 (.slice none 0 0) wb :=
  ⟨Fam.nil, fun _ => 0, MM.nil wb, rfl, ⟨rfl, fun j h => absurd h (Nat.not_lt_zero _)⟩, ⟨fun j h => absurd h (Nat.not_lt_zero _)⟩⟩
set_option maxRecDepth 40000 in
set_option maxHeartbeats 8000000 in
/-- From region 27 to the end. -/
theorem l3_end (wb : World) (gB gM gA : Nat) (V : Fam) (G : GR) (R : Nat → Nat → Bool) (nc : Nat) (cls : Nat → Nat) (P P2 : PS) (c D0 : Nat) (nu : Nat → Nat) (hin : L3In wb gB gM gA V G R nc cls P P2 c D0 nu) (a : Act) (hf : F5 gB gM gA c G.E P2.nS P2.nC a) (Rw : World → Prop) (hRw : ∀ w', Grew Fam.nil wb Fam.nil w' → Rw w') :
    Code.wp Try.prog (tl 19 (Try.f5.body.getD .skip)) (bodyPost Try.prog Try.f5 fun e w' => e = .returned (.bool true) ∧ Rw w') a wb := by
  obtain ⟨y, rfl⟩ := l5 hf.sz hf.df hf.s1 hf.s8 hf.s9 hf.s10 hf.s11 hf.s12 hf.s13
  have e21 : tl 21 (Try.f5.body.getD .skip) = Code.seq (sL (tl 21 (Try.f5.body.getD .skip))) (tl 22 (Try.f5.body.getD .skip)) := by kernel_rfl
  have e22 : tl 22 (Try.f5.body.getD .skip) = Code.seq (sL (tl 22 (Try.f5.body.getD .skip))) (tl 23 (Try.f5.body.getD .skip)) := by kernel_rfl
  have e28 : tl 28 (Try.f5.body.getD .skip) = Code.seq (sL (tl 28 (Try.f5.body.getD .skip))) (tl 29 (Try.f5.body.getD .skip)) := by kernel_rfl
  have e29 : tl 29 (Try.f5.body.getD .skip) = Code.seq (sL (tl 29 (Try.f5.body.getD .skip))) (tl 30 (Try.f5.body.getD .skip)) := by kernel_rfl
  have e30 : tl 30 (Try.f5.body.getD .skip) = Code.seq (sL (tl 30 (Try.f5.body.getD .skip))) (tl 31 (Try.f5.body.getD .skip)) := by kernel_rfl
  have e31 : tl 31 (Try.f5.body.getD .skip) = Code.seq (sL (tl 31 (Try.f5.body.getD .skip))) (tl 32 (Try.f5.body.getD .skip)) := by kernel_rfl
  have e32 : tl 32 (Try.f5.body.getD .skip) = Code.seq (sL (tl 32 (Try.f5.body.getD .skip))) (tl 33 (Try.f5.body.getD .skip)) := by kernel_rfl
  have e35 : tl 35 (Try.f5.body.getD .skip) = Code.seq (sL (tl 35 (Try.f5.body.getD .skip))) (tl 36 (Try.f5.body.getD .skip)) := by kernel_rfl
  have e36 : tl 36 (Try.f5.body.getD .skip) = Code.seq (sL (tl 36 (Try.f5.body.getD .skip))) (tl 37 (Try.f5.body.getD .skip)) := by kernel_rfl
  have e37 : tl 37 (Try.f5.body.getD .skip) = Code.seq (sL (tl 37 (Try.f5.body.getD .skip))) (tl 38 (Try.f5.body.getD .skip)) := by kernel_rfl
  have e38 : tl 38 (Try.f5.body.getD .skip) = Code.seq (sL (tl 38 (Try.f5.body.getD .skip))) (tl 39 (Try.f5.body.getD .skip)) := by kernel_rfl
  show Code.wp Try.prog (Code.seq _ (Code.seq _ (tl 21 (Try.f5.body.getD .skip)))) _ _ wb
  have H : Hid (∀ (a : Act), F5 gB gM gA c G.E P2.nS P2.nC a → a.tmps.getD 14 undef = .int .i64 (-1) → a.tmps.getD 15 undef = .slice none 0 0 → Code.wp Try.prog (tl 21 (Try.f5.body.getD .skip)) (bodyPost Try.prog Try.f5 fun e w' => e = .returned (.bool true) ∧ Rw w') a wb) := by
    intro a hf h14 h15
    rw [e21]
    refine wp_seq ?_
    refine l3_1 wb gB gM gA V G R nc cls P P2 c D0 nu hin wb (Tp.zero _ _ _ _ _ _ _) a hf h14 h15 _ ?_
    intro a w v15 hf h14 h15 hT
    show Code.wp Try.prog (tl 22 (Try.f5.body.getD .skip)) _ a w
    rw [e22]
    refine wp_seq ?_
    refine l3_2a wb gB gM gA V G R nc cls P P2 c D0 nu hin v15 w hT a hf h14 h15 _ ?_
    intro a w hf h14 h15 hT
    show Code.wp Try.prog (tl 23 (Try.f5.body.getD .skip)) _ a w
    refine l3_2b wb gB gM gA V G R nc cls P P2 c D0 nu hin v15 w hT a hf h14 h15 _ ?_
    intro a w mv b21 k21 b22 k22 g15 k15 g23 hf h23 hM hT
    rw [e28]
    refine wp_seq ?_
    refine l3_3 wb gB gM gA V G R nc cls P P2 c D0 nu mv b21 k21 b22 k22 g15 k15 hin hM g23 w hT a hf h23 _ ?_
    intro a w mk hf h23 hT hmk
    show Code.wp Try.prog (tl 29 (Try.f5.body.getD .skip)) _ a w
    rw [e29]
    refine wp_seq ?_
    refine l3_4m wb gB gM gA V G R nc cls P P2 c D0 nu mv b21 k21 b22 k22 g15 k15 hin g23 mk w hT a hf h23 _ ?_
    intro a w g25 hf h23 h25 hT
    show Code.wp Try.prog (tl 30 (Try.f5.body.getD .skip)) _ a w
    rw [e30]
    refine wp_seq ?_
    refine l3_4 wb gB gM gA V G R nc cls P P2 c D0 nu mv b21 k21 b22 k22 g15 k15 hin hM g23 g25 mk w hT (hin.nm0 hmk) a hf h23 h25 _ ?_
    intro a w mk id hf h25 hT hN
    show Code.wp Try.prog (tl 31 (Try.f5.body.getD .skip)) _ a w
    have hid : ∀ k, k < P.mn c → id (P.ns k) = true := fun k hk => (hN.b _).2 ⟨k, hk, rfl⟩
    rw [e31]
    refine wp_seq ?_
    refine l3_5m wb gB gM gA V G R nc cls P P2 c D0 nu mv b21 k21 b22 k22 g15 k15 hin g25 w a hf h25 _ ?_
    intro a hf h25 h29
    show Code.wp Try.prog (tl 32 (Try.f5.body.getD .skip)) _ a w
    rw [e32]
    refine wp_seq ?_
    refine l3_5 wb gB gM gA V G R nc cls P P2 c D0 nu mv b21 k21 b22 k22 g15 k15 hin g25 id w hT.four a hf h25 h29 _ ?_
    intro a w hf h25 hT h29
    show Code.wp Try.prog (tl 33 (Try.f5.body.getD .skip)) _ a w
    refine l3_6m wb gB gM gA V G R nc cls P P2 c D0 nu mv b21 k21 b22 k22 g15 k15 hin g25 id w hT a hf h25 h29 _ ?_
    intro a w g31 hf h25 h31 hT
    rw [e35]
    refine wp_seq ?_
    refine l3_6 wb gB gM gA V G R nc cls P P2 c D0 nu mv b21 k21 b22 k22 g15 k15 hin hM g25 g31 id hid w hT a hf h25 h31 _ ?_
    intro a w hf h31 hT
    show Code.wp Try.prog (tl 36 (Try.f5.body.getD .skip)) _ a w
    rw [e36]
    refine wp_seq ?_
    refine l3_7 wb gB gM gA V G R nc cls P P2 c D0 nu mv b21 k21 b22 k22 g15 k15 hin hM g25 g31 id w hT a hf h31 _ ?_
    intro a w hf hg
    show Code.wp Try.prog (tl 37 (Try.f5.body.getD .skip)) _ a w
    rw [e37]
    refine wp_seq ?_
    refine l3_8 wb gB gM gA V G R nc cls P P2 c D0 nu mv b21 k21 b22 k22 g15 k15 hin w hg a hf _ ?_
    intro a w hf hg
    show Code.wp Try.prog (tl 38 (Try.f5.body.getD .skip)) _ a w
    rw [e38]
    refine wp_seq ?_
    refine l3_9 wb gB gM gA V G R nc cls P P2 c D0 nu mv b21 k21 b22 k22 g15 k15 hin w hg a hf _ ?_
    intro a w hf hg
    show Code.wp Try.prog (tl 39 (Try.f5.body.getD .skip)) _ a w
    obtain ⟨y2, rfl⟩ := l5h hf.sz hf.df hf.s1 hf.s8 hf.s9 hf.s10 hf.s11 hf.s12 hf.s13 hf.s14 hf.s15 hf.s21 hf.s22
    have HG3 : Hid (Rw w) := hRw w hg
    clear hf hg
    simp only [tl, Try.f5, Option.getD]
    go_wp2
    go_ret
    exact ⟨rfl, HG3.out⟩
  clear hin hf hRw e21 e22 e28 e29 e30 e31 e32 e35 e36 e37 e38
  refine wp_seq_k (fun K1 hK => ?_)
  have HK1 : Hid (∀ (a : Act) (w : World), _ → K1 a w) := hK
  clear hK
  go_wp2
  refine HK1.out _ _ ?_
  clear HK1 K1
  refine wp_seq_k (fun K1 hK => ?_)
  have HK1 : Hid (∀ (a : Act) (w : World), _ → K1 a w) := hK
  clear hK
  go_wp2
  refine HK1.out _ _ ?_
  exact H.out _ ⟨by kernel_rfl, by kernel_rfl, by kernel_rfl, by kernel_rfl, by kernel_rfl, by kernel_rfl, by kernel_rfl, by kernel_rfl, by kernel_rfl⟩ (by kernel_rfl) (by kernel_rfl)
end Go.Proofs.Qxb6602148a
