/-
  The third law: its first loop.
-/
import Derived.Test.Qxb6602148aLr
attribute [local go_sem] Go.Proofs.Qxb6602148a.yTo Go.Proofs.Qxb6602148a.yUpon
namespace Go.Proofs.Qxb6602148a
open Go.RowKit
set_option linter.unusedVariables false
set_option linter.unusedSimpArgs false

def L5a (wb : World) (gB gM gA : Nat) (V : Fam) (G : GR) (R : Nat → Nat → Bool) (nc : Nat) (cls : Nat → Nat) (P P2 : PS) (c D0 : Nat) (nu : Nat → Nat) (a : Act) (w : World) : Prop :=
  F5 gB gM gA c G.E P2.nS P2.nC a ∧ ∃ (e : Nat) (dv : Int) (v15 : Value), a.tmps.getD 14 undef = .int .i64 dv ∧ a.tmps.getD 15 undef = v15 ∧ a.tmps.getD 16 undef = .int .i64 (e : Int) ∧ e ≤ G.E ∧ Dw G R nc cls P c D0 e dv ∧ Tp wb G R nc cls P c e v15 w
set_option maxRecDepth 40000 in
set_option maxHeartbeats 8000000 in
/-- The edges. -/
theorem l3_1 (wb : World) (gB gM gA : Nat) (V : Fam) (G : GR) (R : Nat → Nat → Bool) (nc : Nat) (cls : Nat → Nat) (P P2 : PS) (c D0 : Nat) (nu : Nat → Nat) (hin : L3In wb gB gM gA V G R nc cls P P2 c D0 nu) (wr : World) (hT : Tp wb G R nc cls P c 0 (.slice none 0 0) wr) (a : Act) (hf : F5 gB gM gA c G.E P2.nS P2.nC a) (h14 : a.tmps.getD 14 undef = .int .i64 (-1)) (h15 : a.tmps.getD 15 undef = .slice none 0 0) (Q : Exit → Act → World → Prop)
    (hC : ∀ (a : Act) (w : World) (v15 : Value), F5 gB gM gA c G.E P2.nS P2.nC a → a.tmps.getD 14 undef = .int .i64 (D0 : Int) → a.tmps.getD 15 undef = v15 → Tp wb G R nc cls P c G.E v15 w → Q .normal a w) :
    Code.wp Try.prog (sL (tl 21 (Try.f5.body.getD .skip))) Q a wr := by
  obtain ⟨y, rfl⟩ := l5c hf.sz hf.df hf.s1 hf.s8 hf.s9 hf.s10 hf.s11 hf.s12 hf.s13 h14 h15
  obtain ⟨hE, hn, hS, hCC, hS2, hC2⟩ := hin.sm
  have HIN : Hid (L3In wb gB gM gA V G R nc cls P P2 c D0 nu) := hin
  obtain ⟨nE1, nE2⟩ := hin.nE
  have HT : Hid (Tp wb G R nc cls P c 0 (.slice none 0 0) wr) := hT
  have HC : Hid (∀ (a : Act) (w : World) (v15 : Value), F5 gB gM gA c G.E P2.nS P2.nC a → a.tmps.getD 14 undef = .int .i64 (D0 : Int) → a.tmps.getD 15 undef = v15 → Tp wb G R nc cls P c G.E v15 w → Q .normal a w) := hC
  clear hf hC hin h14 h15 hT
  show Code.wp Try.prog (Code.seq _ (Code.block 0 (Code.loop (Code.seq (Code.seq _ (Code.cond (.tmp 135) Code.skip (Code.exit 0))) (Code.seq (Code.block 1 (f5e (Try.f5.body.getD .skip))) _))))) Q _ wr
  refine wp_seq_k (fun K1 hK => ?_)
  have HK1 : Hid (∀ (a : Act) (w : World), _ → K1 a w) := hK
  clear hK
  go_wp2
  refine HK1.out _ _ ?_
  clear HK1 K1
  refine wp_block ?_
  refine wp_loop (L5a wb gB gM gA V G R nc cls P P2 c D0 nu) (fun a _ => mus 16 G.E a) ⟨⟨by kernel_rfl, by kernel_rfl, by kernel_rfl, by kernel_rfl, by kernel_rfl, by kernel_rfl, by kernel_rfl, by kernel_rfl, by kernel_rfl⟩, 0, -1, _, by kernel_rfl, by kernel_rfl, by kernel_rfl, Nat.zero_le _, .inr ⟨rfl, rfl⟩, HT.out⟩ ?_
  clear y HT
  rintro a w' ⟨hf, e, dv, v15, h14, h15, h16, e1, hDw, hT⟩
  have e16 : mus 16 G.E a = G.E - e := congrArg (fun v => G.E - (intOf v).toNat) h16
  obtain ⟨y2, rfl⟩ := l5d hf.sz hf.df hf.s1 hf.s8 hf.s9 hf.s10 hf.s11 hf.s12 hf.s13 h14 h15 h16
  rw [e16]
  clear e16 hf h14 h15 h16
  have HD : Hid (Dw G R nc cls P c D0 e dv) := hDw
  have HT : Hid (Tp wb G R nc cls P c e v15 w') := hT
  clear hDw hT
  refine wp_seq_k (fun K1 hK => ?_)
  have HK1 : Hid (∀ (a : Act) (w : World), _ → K1 a w) := hK
  clear hK
  refine wp_seq_k (fun K2 hK => ?_)
  have HK2 : Hid (∀ (a : Act) (w : World), _ → K2 a w) := hK
  clear hK
  by_cases he : e < G.E
  · have hee : (e : Int) < (G.E : Int) := by omega
    have END : Hid (∀ (K : Act → World → Prop), (∀ (a : Act) (w : World), Code.wp Try.prog (tl 1 (tl 1 (lp (bl (tl 1 (sL (tl 21 (Try.f5.body.getD .skip)))))))) (fun ex a' w' => Exit.then (fun a' w' => L5a wb gB gM gA V G R nc cls P P2 c D0 nu a' w' ∧ mus 16 G.E a' < G.E - e) (Exit.inBlock 0 Q) ex a' w') a w → K a w) → ∀ (a : Act) (w : World) (dv : Int) (v15 : Value), F5 gB gM gA c G.E P2.nS P2.nC a → a.tmps.getD 14 undef = .int .i64 dv → a.tmps.getD 15 undef = v15 → a.tmps.getD 16 undef = .int .i64 (e : Int) → Dw G R nc cls P c D0 (e + 1) dv → Tp wb G R nc cls P c (e + 1) v15 w → K a w) := by
      intro K hK a w dv v15 hf h14 h15 h16 hD hT
      obtain ⟨y5, rfl⟩ := l5d hf.sz hf.df hf.s1 hf.s8 hf.s9 hf.s10 hf.s11 hf.s12 hf.s13 h14 h15 h16
      have HD2 : Hid (Dw G R nc cls P c D0 (e + 1) dv) := hD
      have HT2 : Hid (Tp wb G R nc cls P c (e + 1) v15 w) := hT
      refine hK _ _ ?_
      clear hf h14 h15 h16 hK hD hT HD HT HK1 HK2
      simp only [tl, lp, bl, sL, Try.f5, Option.getD]
      go_wp2
      exact ⟨⟨⟨by kernel_rfl, by kernel_rfl, by kernel_rfl, by kernel_rfl, by kernel_rfl, by kernel_rfl, by kernel_rfl, by kernel_rfl, by kernel_rfl⟩, e + 1, dv, v15, by kernel_rfl, by kernel_rfl, by kernel_rfl, by omega, HD2.out, HT2.out⟩, Nat.lt_of_le_of_lt (Nat.le_of_eq (by kernel_rfl : _ = G.E - (e + 1))) (by omega)⟩
    go_wp2
    refine HK2.out _ _ (wp_cond_true (by kernel_rfl) (wp_skip ?_))
    refine HK1.out _ _ ?_
    clear HK1 K1 HK2 K2
    refine wp_seq_k (fun K1 hK => ?_)
    have END1 : Hid (∀ (a : Act) (w : World) (dv : Int) (v15 : Value), F5 gB gM gA c G.E P2.nS P2.nC a → a.tmps.getD 14 undef = .int .i64 dv → a.tmps.getD 15 undef = v15 → a.tmps.getD 16 undef = .int .i64 (e : Int) → Dw G R nc cls P c D0 (e + 1) dv → Tp wb G R nc cls P c (e + 1) v15 w → K1 a w) := END.out K1 hK
    clear hK END
    have hG := HT.out.grew
    obtain ⟨b0, k0, x1, x2, x3⟩ := HIN.out.vb.v0.at hG (j := e) (by omega)
    rw [nE1] at x1 x2
    refine wp_block ?_
    show Code.wp Try.prog (Code.seq _ (Code.seq (Code.seq _ (Code.cond (.tmp 153) (Code.seq (Code.seq _ (Code.cond (.tmp 173) _ Code.skip)) (Code.exit 1)) Code.skip)) (tl 2 (f5e (Try.f5.body.getD .skip))))) _ _ w'
    cases hp : pC G R nc cls P c e with
    | true =>
      obtain ⟨f, k, k2, hk, hk2, p1, p2, p3, q2, q3, q4, q5, q6, q7, q8, q9⟩ := HIN.out.ein he hp
      obtain ⟨b3, k3, z1, z2, z3⟩ := HIN.out.vb.v3.at hG p2
      rw [p1] at x3
      rw [p3] at z3
      have ff : (f : Int) < (P.nS : Int) := by omega
      have hdv : dv = (D0 : Int) ∨ dv = -1 := by
        rcases HD.out with h | ⟨h, _⟩
        · exact .inl h
        · exact .inr h
      have HB : Hid (∀ (a : Act), F5 gB gM gA c G.E P2.nS P2.nC a → a.tmps.getD 14 undef = .int .i64 dv → a.tmps.getD 15 undef = v15 → a.tmps.getD 16 undef = .int .i64 (e : Int) → a.tmps.getD 17 undef = .int .i64 (f : Int) → ∀ (Q : Exit → Act → World → Prop), (∀ (a : Act) (w : World) (v15 : Value), F5 gB gM gA c G.E P2.nS P2.nC a → a.tmps.getD 14 undef = .int .i64 (D0 : Int) → a.tmps.getD 15 undef = v15 → a.tmps.getD 16 undef = .int .i64 (e : Int) → Tp wb G R nc cls P c (e + 1) v15 w → Q .normal a w) → Code.wp Try.prog (tl 2 (f5e (Try.f5.body.getD .skip))) Q a w') := fun a hf h14 h15 h16 h17 Q hC => l3_1b wb gB gM gA V G R nc cls P P2 c D0 nu HIN.out e f k k2 he hp hk hk2 q2 q3 q4 q5 q6 q7 q8 q9 dv hdv v15 w' HT.out a hf h14 h15 h16 h17 Q hC
      clear HIN HD HT hG p1 p3 q2 q3 q6 q7 q8 q9 hp hdv
      refine wp_seq_k (fun K2 hK => ?_)
      have HK2 : Hid (∀ (a : Act) (w : World), _ → K2 a w) := hK
      clear hK
      go_wp2
      refine HK2.out _ _ ?_
      clear HK2 K2
      refine wp_seq_k (fun K2 hK => ?_)
      have HK2 : Hid (∀ (a : Act) (w : World), _ → K2 a w) := hK
      clear hK
      refine wp_seq_k (fun K3 hK => ?_)
      have HK3 : Hid (∀ (a : Act) (w : World), _ → K3 a w) := hK
      clear hK
      go_wp2
      refine HK3.out _ _ (wp_cond_false (by kernel_rfl) (wp_skip ?_))
      refine HK2.out _ _ ?_
      clear HK2 K2 HK3 K3
      refine HB.out _ ⟨by kernel_rfl, by kernel_rfl, by kernel_rfl, by kernel_rfl, by kernel_rfl, by kernel_rfl, by kernel_rfl, by kernel_rfl, by kernel_rfl⟩ (by kernel_rfl) (by kernel_rfl) (by kernel_rfl) (by kernel_rfl) _ ?_
      intro a w v15 hf h14 h15 h16 hT
      exact END1.out a w _ v15 hf h14 h15 h16 (.inl rfl) hT
    | false =>
      obtain ⟨p1, p2, p3⟩ := HIN.out.eoth he hp
      obtain ⟨b4, k4, u1, u2, u3⟩ := HIN.out.va.v0.at hG (j := e) (by omega)
      obtain ⟨b5, k5, u4, u5, u6⟩ := HIN.out.va.v1.at hG (j := e) (by omega)
      obtain ⟨b6, k6, u7, u8, u9⟩ := HIN.out.vb.v1.at hG (j := e) (by omega)
      rw [nE2] at u1 u2 u4 u5
      rw [nE1] at u7 u8
      rw [p2] at u3
      rw [p3] at u6
      have FD : Hid (Dw G R nc cls P c D0 (e + 1) dv) := by
        rcases HD.out with h | ⟨h1, h2⟩
        · exact .inl h
        · exact .inr ⟨h1, by rw [cnt_succ, hp, h2]; rfl⟩
      have FT : Hid (∀ q, Tp wb G R nc cls P c (e + 1) v15 (w'.drewN q)) := fun q => (HT.out.drewN q).skip hp
      rcases p1 with q1 | ⟨f, d, q1, q2, q3, q4⟩
      · rw [q1] at x3 u3
        clear HIN HD HT hG q1 p2 p3 hp
        generalize P.to e = te at *
        refine wp_seq_k (fun K2 hK => ?_)
        have HK2 : Hid (∀ (a : Act) (w : World), _ → K2 a w) := hK
        clear hK
        go_wp2
        refine HK2.out _ _ ?_
        clear HK2 K2
        refine wp_seq_k (fun K2 hK => ?_)
        have HK2 : Hid (∀ (a : Act) (w : World), _ → K2 a w) := hK
        clear hK
        refine wp_seq_k (fun K3 hK => ?_)
        have HK3 : Hid (∀ (a : Act) (w : World), _ → K3 a w) := hK
        clear hK
        go_wp2
        refine HK3.out _ _ (wp_cond_true (by kernel_rfl) ?_)
        clear HK3 K3 x1 x2 x3
        refine wp_seq_k (fun K3 hK => ?_)
        have HK3 : Hid (∀ (a : Act) (w : World), _ → K3 a w) := hK
        clear hK
        refine wp_seq_k (fun K4 hK => ?_)
        have HK4 : Hid (∀ (a : Act) (w : World), _ → K4 a w) := hK
        clear hK
        go_quiet (fail)
        refine HK4.out _ _ (wp_cond_false (by kernel_rfl) (wp_skip ?_))
        refine HK3.out _ _ (wp_exit ?_)
        exact END1.out _ _ _ _ ⟨by kernel_rfl, by kernel_rfl, by kernel_rfl, by kernel_rfl, by kernel_rfl, by kernel_rfl, by kernel_rfl, by kernel_rfl, by kernel_rfl⟩ (by kernel_rfl) (by kernel_rfl) (by kernel_rfl) FD.out (FT.out nq)
      · obtain ⟨b3, k3, z1, z2, z3⟩ := HIN.out.vb.v3.at hG q2
        rw [q3] at z3
        rw [q1] at x3 u3
        have ff : (f : Int) < (P.nS : Int) := by omega
        have hnd : ((d : Int) == (c : Int)) = false := by rw [beq_eq_false_iff_ne]; omega
        have hnd2 : ((d : Int) != (c : Int)) = true := by
          have : (d : Int) ≠ (c : Int) := by omega
          simpa using this
        clear HIN HD HT hG q1 q3 p2 p3 hp
        generalize P.to e = te at *
        refine wp_seq_k (fun K2 hK => ?_)
        have HK2 : Hid (∀ (a : Act) (w : World), _ → K2 a w) := hK
        clear hK
        go_wp2
        refine HK2.out _ _ ?_
        clear HK2 K2
        refine wp_seq_k (fun K2 hK => ?_)
        have HK2 : Hid (∀ (a : Act) (w : World), _ → K2 a w) := hK
        clear hK
        refine wp_seq_k (fun K3 hK => ?_)
        have HK3 : Hid (∀ (a : Act) (w : World), _ → K3 a w) := hK
        clear hK
        go_wp2
        refine HK3.out _ _ (wp_cond_true (by kernel_rfl) ?_)
        clear HK3 K3 x1 x2 x3 z1 z2 z3
        refine wp_seq_k (fun K3 hK => ?_)
        have HK3 : Hid (∀ (a : Act) (w : World), _ → K3 a w) := hK
        clear hK
        refine wp_seq_k (fun K4 hK => ?_)
        have HK4 : Hid (∀ (a : Act) (w : World), _ → K4 a w) := hK
        clear hK
        go_quiet (fail)
        refine HK4.out _ _ (wp_cond_false (by kernel_rfl) (wp_skip ?_))
        refine HK3.out _ _ (wp_exit ?_)
        exact END1.out _ _ _ _ ⟨by kernel_rfl, by kernel_rfl, by kernel_rfl, by kernel_rfl, by kernel_rfl, by kernel_rfl, by kernel_rfl, by kernel_rfl, by kernel_rfl⟩ (by kernel_rfl) (by kernel_rfl) (by kernel_rfl) FD.out (FT.out nq)
  · have hee : ¬ (e : Int) < (G.E : Int) := by omega
    obtain rfl : e = G.E := by omega
    have hd : dv = (D0 : Int) := by
      rcases HD.out with h | ⟨_, h2⟩
      · exact h
      · exfalso
        exact (HIN.out.meet.c1 c HIN.out.c1 HIN.out.c2).1 h2
    subst hd
    clear HD HIN
    go_wp2
    refine HK2.out _ _ (wp_cond_false (by kernel_rfl) (wp_exit ?_))
    exact HC.out _ _ v15 ⟨by kernel_rfl, by kernel_rfl, by kernel_rfl, by kernel_rfl, by kernel_rfl, by kernel_rfl, by kernel_rfl, by kernel_rfl, by kernel_rfl⟩ (by kernel_rfl) (by kernel_rfl) HT.out
end Go.Proofs.Qxb6602148a
