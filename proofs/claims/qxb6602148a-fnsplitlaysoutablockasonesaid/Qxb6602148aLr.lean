/-
  The third law: its first loop.
-/
import Derived.Test.Qxb6602148aLq
attribute [local go_sem] Go.Proofs.Qxb6602148a.yTo Go.Proofs.Qxb6602148a.yUpon
namespace Go.Proofs.Qxb6602148a
open Go.RowKit
set_option linter.unusedVariables false
set_option linter.unusedSimpArgs false

set_option maxRecDepth 40000 in
set_option maxHeartbeats 8000000 in
/-- Regions 36 to 41. -/
theorem l3_1b (wb : World) (gB gM gA : Nat) (V : Fam) (G : GR) (R : Nat → Nat → Bool) (nc : Nat) (cls : Nat → Nat) (P P2 : PS) (c D0 : Nat) (nu : Nat → Nat) (hin : L3In wb gB gM gA V G R nc cls P P2 c D0 nu) (e f k k2 : Nat) (he : e < G.E) (hp : pC G R nc cls P c e = true) (hk : k < P.mn c) (hk2 : k2 < P.mn c) (q2 : P2.fr e = ((P.ns k : Nat) : Int)) (q3 : P2.to e = ((P.ns k2 : Nat) : Int)) (q4 : P.ns k < P2.nS) (q5 : P.ns k2 < P2.nS) (q6 : P2.node (P.ns k) = ((G.sr e : Nat) : Int)) (q7 : P2.node (P.ns k2) = ((G.ds e : Nat) : Int)) (q8 : P2.comp (P.ns k) = (D0 : Int)) (q9 : P2.comp (P.ns k2) = (D0 : Int)) (dv : Int) (hdv : dv = (D0 : Int) ∨ dv = -1) (v15 : Value) (wr : World) (hT : Tp wb G R nc cls P c e v15 wr) (a : Act) (hf : F5 gB gM gA c G.E P2.nS P2.nC a) (h14 : a.tmps.getD 14 undef = .int .i64 dv) (h15 : a.tmps.getD 15 undef = v15) (h16 : a.tmps.getD 16 undef = .int .i64 (e : Int)) (h17 : a.tmps.getD 17 undef = .int .i64 (f : Int)) (Q : Exit → Act → World → Prop)
    (hC : ∀ (a : Act) (w : World) (v15 : Value), F5 gB gM gA c G.E P2.nS P2.nC a → a.tmps.getD 14 undef = .int .i64 (D0 : Int) → a.tmps.getD 15 undef = v15 → a.tmps.getD 16 undef = .int .i64 (e : Int) → Tp wb G R nc cls P c (e + 1) v15 w → Q .normal a w) :
    Code.wp Try.prog (tl 2 (f5e (Try.f5.body.getD .skip))) Q a wr := by
  obtain ⟨y, rfl⟩ := l5e hf.sz hf.df hf.s1 hf.s8 hf.s9 hf.s10 hf.s11 hf.s12 hf.s13 h14 h15 h16 h17
  obtain ⟨hE, hn, hS, hCC, hS2, hC2⟩ := hin.sm
  have HIN : Hid (L3In wb gB gM gA V G R nc cls P P2 c D0 nu) := hin
  have hG := hT.grew
  have HGX : Hid (Grew Fam.nil wb Fam.nil wr) := hG
  obtain ⟨nE1, nE2⟩ := hin.nE
  obtain ⟨b2, k2', x1, x2, x3⟩ := hin.va.v0.at hG (j := e) (by omega)
  obtain ⟨b3, k3, x4, x5, x6⟩ := hin.va.v1.at hG (j := e) (by omega)
  rw [nE2] at x1 x2 x4 x5
  rw [q2] at x3
  rw [q3] at x6
  have d0 : wr.cell? ⟨gB, 0, none⟩ = some (V.val 0) := HIN.out.bcell HGX.out 0 _ rfl
  have d1 : wr.cell? ⟨gB, 1, none⟩ = some (V.val 1) := HIN.out.bcell HGX.out 1 _ rfl
  have d2 : wr.cell? ⟨gB, 2, none⟩ = some (V.val 2) := HIN.out.bcell HGX.out 2 _ rfl
  have d3 : wr.cell? ⟨gB, 3, none⟩ = some (V.val 3) := HIN.out.bcell HGX.out 3 _ rfl
  have d4 : wr.cell? ⟨gB, 4, none⟩ = some (V.val 4) := HIN.out.bcell HGX.out 4 _ rfl
  have d5 : wr.cell? ⟨gB, 5, none⟩ = some (V.val 5) := HIN.out.bcell HGX.out 5 _ rfl
  have d6 : wr.cell? ⟨gB, 6, none⟩ = some (V.val 6) := HIN.out.bcell HGX.out 6 _ rfl
  have rvk : ∀ w', Grew Fam.nil wr Fam.nil w' → Rep KV w' V := fun w' hg => hin.rv.kept (fun i g hb => (hG.trans hg).block g (hin.rv.lt hb) (fun i e => by cases e))
  have wu : ∀ (n : Nat), n < P2.nS → ¬ WU P (n : Int) → ∀ w', Grew Fam.nil wr Fam.nil w' → Calls Try.prog 22 #[.agg #[V.val 0, V.val 1, V.val 2, V.val 3, V.val 4, V.val 5, V.val 6], .int .i64 (n : Int)] w' fun e w'' => e = .returned (.bool false) ∧ Grew Fam.nil wr Fam.nil w'' := by
    intro n hn hw w' hg
    refine (wasInUse_calls w' V P n (rvk w' hg) hin.vm hS (by omega)).mono ?_
    rintro e w'' ⟨b, rfl, hb, hg'⟩
    have : b = false := by
      cases b with
      | false => rfl
      | true => exact absurd (hb.1 rfl) hw
    subst this
    exact ⟨rfl, hg.trans hg'⟩
  have HW1 : Hid (Calls Try.prog 22 #[.agg #[V.val 0, V.val 1, V.val 2, V.val 3, V.val 4, V.val 5, V.val 6], .int .i64 ((P.ns k : Nat) : Int)] wr fun e w'' => e = .returned (.bool false) ∧ Grew Fam.nil wr Fam.nil w'') := wu _ q4 (hin.nwu hk) wr (Grew.refl _ _)
  have HW2 : Hid (∀ w', Grew Fam.nil wr Fam.nil w' → Calls Try.prog 22 #[.agg #[V.val 0, V.val 1, V.val 2, V.val 3, V.val 4, V.val 5, V.val 6], .int .i64 ((P.ns k2 : Nat) : Int)] w' fun e w'' => e = .returned (.bool false) ∧ Grew Fam.nil wr Fam.nil w'') := wu _ q5 (hin.nwu hk2)
  have HBX : Hid (∀ w', Grew Fam.nil wr Fam.nil w' → ∀ (j : Nat) (v : Value), (#[V.val 0, V.val 1, V.val 2, V.val 3, V.val 4, V.val 5, V.val 6] : Array Value)[j]? = some v → w'.cell? ⟨gB, j, none⟩ = some v) := fun w' hg => hin.bcell (hG.trans hg)
  have HC : Hid (∀ (a : Act) (w' : World), Grew Fam.nil wr Fam.nil w' → F5 gB gM gA c G.E P2.nS P2.nC a → a.tmps.getD 14 undef = .int .i64 dv → a.tmps.getD 15 undef = v15 → a.tmps.getD 16 undef = .int .i64 (e : Int) → a.tmps.getD 17 undef = .int .i64 (f : Int) → a.tmps.getD 18 undef = .int .i64 ((P.ns k : Nat) : Int) → a.tmps.getD 19 undef = .int .i64 ((P.ns k2 : Nat) : Int) → Code.wp Try.prog (tl 6 (f5e (Try.f5.body.getD .skip))) Q a w') := fun a w' hg hf h14 h15 h16 h17 h18 h19 => l3_1d wb gB gM gA V G R nc cls P P2 c D0 nu hin e f k k2 he hp hk hk2 q2 q3 q4 q5 q6 q7 q8 q9 dv hdv v15 w' (hT.keep hg) a hf h14 h15 h16 h17 h18 h19 Q hC
  clear hf hC hin h14 h15 h16 h17 hT hG q2 q3 q6 q7 q8 q9 hp HIN rvk wu HGX nE1 nE2
  generalize P.ns k = nf at *
  generalize P.ns k2 = nt at *
  have f1 : (nf : Int) < (P2.nS : Int) := by omega
  have f2 : (nt : Int) < (P2.nS : Int) := by omega
  show Code.wp Try.prog (Code.seq _ (Code.seq _ (Code.seq (Code.seq _ (Code.cond (.tmp 199) _ Code.skip)) (Code.seq (Code.seq _ (Code.cond (.tmp 207) _ Code.skip)) (tl 6 (f5e (Try.f5.body.getD .skip))))))) Q _ wr
  refine wp_seq_k (fun K1 hK => ?_)
  have HK1 : Hid (∀ (a : Act) (w : World), _ → K1 a w) := hK
  clear hK
  go_wp2
  refine HK1.out _ _ ?_
  clear HK1 K1
  refine wp_seq_k (fun K1 hK => ?_)
  have HK1 : Hid (∀ (a : Act) (w : World), _ → K1 a w) := hK
  clear hK
  go_wp2
  refine HK1.out _ _ ?_
  clear HK1 K1 x1 x2 x3 x4 x5 x6
  refine wp_seq_k (fun K1 hK => ?_)
  have HK1 : Hid (∀ (a : Act) (w : World), _ → K1 a w) := hK
  clear hK
  go_wp2
  refine HK1.out _ _ ?_
  clear HK1 K1
  refine wp_seq_k (fun K1 hK => ?_)
  have HK1 : Hid (∀ (a : Act) (w : World), _ → K1 a w) := hK
  clear hK
  refine wp_seq_k (fun K2 hK => ?_)
  have HK2 : Hid (∀ (a : Act) (w : World), _ → K2 a w) := hK
  clear hK
  go_wp2_with (first
    | (go_at_call 22; refine (HW2.out w2 HG2.out).mono ?_; rintro er w3 ⟨rfl, hg⟩; have HG3 : Hid (Grew Fam.nil wr Fam.nil w3) := hg; clear hg)
    | (go_at_call 22; refine HW1.out.mono ?_; rintro er w2 ⟨rfl, hg⟩; have HG2 : Hid (Grew Fam.nil wr Fam.nil w2) := hg; clear hg; have u0 := HBX.out w2 HG2.out 0 _ rfl; have u1 := HBX.out w2 HG2.out 1 _ rfl; have u2 := HBX.out w2 HG2.out 2 _ rfl; have u3 := HBX.out w2 HG2.out 3 _ rfl; have u4 := HBX.out w2 HG2.out 4 _ rfl; have u5 := HBX.out w2 HG2.out 5 _ rfl; have u6 := HBX.out w2 HG2.out 6 _ rfl))
  refine HK2.out _ _ (wp_cond_false (by kernel_rfl) (wp_skip ?_))
  refine HK1.out _ _ ?_
  exact HC.out _ _ HG3.out ⟨by kernel_rfl, by kernel_rfl, by kernel_rfl, by kernel_rfl, by kernel_rfl, by kernel_rfl, by kernel_rfl, by kernel_rfl, by kernel_rfl⟩ (by kernel_rfl) (by kernel_rfl) (by kernel_rfl) (by kernel_rfl) (by kernel_rfl) (by kernel_rfl)

end Go.Proofs.Qxb6602148a
