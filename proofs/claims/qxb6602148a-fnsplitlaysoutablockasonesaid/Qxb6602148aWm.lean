import Derived.Test.Qxb6602148aWl
attribute [local go_sem] Go.Proofs.Qxb6602148a.yTo Go.Proofs.Qxb6602148a.yUpon
namespace Go.Proofs.Qxb6602148a
open Go.RowKit
set_option linter.unusedVariables false
set_option linter.unusedSimpArgs false

theorem Srch.drewN {x : SC0} {s : HS} {S : SS} {cq : Nat → Int} {c : Int} {M' : Fam} {wr : World} (h : Srch x s S cq c M' wr) (n : Nat) : Srch x s S cq c M' (wr.drewN n) :=
  ⟨⟨h.sin.rep.drewN n, h.sin.pm, h.sin.grew.drewN n, h.sin.loc, h.sin.b33, h.sin.n33, h.sin.f33⟩, h.sr, h.cqf, h.sq⟩

/-- A round, from the path's end on. -/
theorem walk_round (x : SC0) (gq kq : Nat) (a : Act) (s : HS) (S : SS) (cq : Nat → Int) (c : Int) (M' : Fam) (wr : World) (hx : SCx x) (hS : Srch x s S cq c M' wr) (hBd : Bd x s) (hf : FIC x gq kq a) (h27 : a.tmps.getD 27 undef = M'.val 27) (h28 : a.tmps.getD 28 undef = .int .i64 ((s.vis : Nat) : Int)) (h29 : a.tmps.getD 29 undef = M'.val 23)
    (Q : Exit → Act → World → Prop) (hQ1 : Go1 x gq kq s (Q (.exit 13))) (hQ2 : Go1 x gq kq s (Q .normal)) : Code.wp Try.prog (D13 (Try.f29.body.getD .skip)) Q a wr := by
  obtain ⟨y, hy⟩ := lit_of hf
  rw [h27, h28, h29] at hy
  rw [hy]
  have hk : s.k ≤ 137438953472 := by have := hBd.2; have := hx.T1; omega
  refine walk_D13 x gq kq y _ _ _ s S cq c M' wr hS hBd hx.ok hx.hN hx.st hx.en hx.T hx.T1 hx.N1.2 Q hQ1 ?_
  intro hq a2 n g27 f1 f2 f3 f4 b27 f6 f7
  obtain ⟨y2, hy2⟩ := lit_of f1
  rw [f2, f3, f4, f6, f7] at hy2
  rw [hy2]
  refine walk_pop x gq kq y2 _ s S cq c M' (wr.drewN n) g27 (hS.drewN n) hBd hx.ok hx.hN hx.T1 hx.N1.2 b27 hq Q hQ1 ?_
  intro hm hlow a3 M2 w' e1 e2 e3 e4 e5 hmem
  obtain ⟨y3, hy3, hyi⟩ := lit_of2 e1
  rw [e2, e3, e4] at hy3
  have h33 := (hyi 33).trans e5
  rw [hy3]
  exact walk_cut x gq kq y3 _ _ _ s S cq c M2 w' (s.te s.top) hx hS.sq hS.cqf hm hk hq hlow hBd rfl h33 hmem Q hQ2

set_option maxRecDepth 40000 in
set_option maxHeartbeats 8000000 in
/-- The search. -/
theorem walk_search (x : SC0) (gq kq : Nat) (a0 : Act) (w1 : World) (h0 : IC x gq kq a0 w1) (hx : SCx x) (K : Act → World → Prop) (Q' : Exit → Act → World → Prop)
    (hK : ∀ (a : Act) (s : HS) (S : SS) (M' : Fam) (w' : World), FB x gq kq a → SFin x s S M' w' → K a w') :
    Code.wp Try.prog (sL (tl 19 (Try.f29.body.getD .skip))) (Exit.then K Q') a0 w1 := by
  obtain ⟨mz, hmz⟩ := least3 (SRel x)
  show Code.wp Try.prog (Code.block 12 (Code.loop (Code.seq (Code.seq _ (Code.cond (.tmp 263) Code.skip (Code.exit 12))) (Code.block 13 (D13 (Try.f29.body.getD .skip)))))) (Exit.then K Q') a0 w1
  refine wp_block ?_
  refine wp_loop (IC x gq kq) (fun a w => mz (a.tmps.getD 27 undef) (a.tmps.getD 28 undef) (a.tmps.getD 29 undef) w) h0 ?_
  rintro a wr ⟨hf, hrel⟩
  obtain ⟨hr, hmin⟩ := hmz _ _ _ _ hrel
  clear hmin
  have hdec : ∀ (n : Nat) (a' : Act) (w' : World), FIC x gq kq a' → SRel x n (a'.tmps.getD 27 undef) (a'.tmps.getD 28 undef) (a'.tmps.getD 29 undef) w' → n < mz (a.tmps.getD 27 undef) (a.tmps.getD 28 undef) (a.tmps.getD 29 undef) wr →
      IC x gq kq a' w' ∧ mz (a'.tmps.getD 27 undef) (a'.tmps.getD 28 undef) (a'.tmps.getD 29 undef) w' < mz (a.tmps.getD 27 undef) (a.tmps.getD 28 undef) (a.tmps.getD 29 undef) wr := by
    intro n a' w' h1 h2 h3
    have h4 := (hmz _ _ _ _ ⟨n, h2⟩).2 n h2
    exact ⟨⟨h1, n, h2⟩, by omega⟩
  rcases hr with ⟨s, S, cq, c, M', hS, h27, h28, h29, hn, hBd⟩ | ⟨s, S, M', aa, cap, hF, h27, hn⟩
  · have mp := hS.sq.inv.P.mpos
    have hm0 : 0 < s.m := mp
    have hm0' : (0 : Int) < (s.m : Int) := by omega
    have v27 : M'.val 27 = .slice (Option.map (fun g => (⟨g, 0, none⟩ : Addr)) (M'.b 27)) s.m (M'.cap 27) := by unfold Fam.val; rw [hS.sr.cl.1]
    have HV : Hid (M'.val 27 = .slice (Option.map (fun g => (⟨g, 0, none⟩ : Addr)) (M'.b 27)) s.m (M'.cap 27)) := v27
    have HS : Hid (Srch x s S cq c M' wr) := hS
    generalize mz (a.tmps.getD 27 undef) (a.tmps.getD 28 undef) (a.tmps.getD 29 undef) wr = N0 at *
    have HD : Hid (∀ (n : Nat) (a' : Act) (w' : World), FIC x gq kq a' → SRel x n (a'.tmps.getD 27 undef) (a'.tmps.getD 28 undef) (a'.tmps.getD 29 undef) w' → n < N0 → IC x gq kq a' w' ∧ mz (a'.tmps.getD 27 undef) (a'.tmps.getD 28 undef) (a'.tmps.getD 29 undef) w' < N0) := hdec
    have HX : Hid (SCx x) := hx
    have HB : Hid (Bd x s) := hBd
    have HN : Hid (N0 = 2 * gap x.U s.sc x.U.N + s.m) := hn
    obtain ⟨y, hy⟩ := lit_of hf
    rw [h27, v27, h28, h29] at hy
    clear hdec hmz hrel hf h27 h28 h29 hS hx hBd hn v27 hK h0
    generalize a.tmps.getD 30 undef = v30 at hy
    generalize a.tmps.getD 31 undef = v31 at hy
    generalize a.tmps.getD 32 undef = v32 at hy
    subst hy
    unfold LIT LITv
    refine wp_seq_k (fun K1 hK1 => ?_)
    have HK1 : Hid (∀ (a : Act) (w : World), _ → K1 a w) := hK1
    clear hK1
    refine wp_seq_k (fun K2 hK2 => ?_)
    have HK2 : Hid (∀ (a : Act) (w : World), _ → K2 a w) := hK2
    clear hK2
    go_wp2
    refine HK2.out _ _ (wp_cond_true (by kernel_rfl) (wp_skip ?_))
    refine HK1.out _ _ ?_
    refine wp_block ?_
    exact walk_round x gq kq _ s S cq c M' wr HX.out HS.out HB.out ⟨by kernel_rfl, by kernel_rfl, by kernel_rfl, by kernel_rfl, by kernel_rfl, by kernel_rfl, by kernel_rfl, by kernel_rfl, by kernel_rfl, by kernel_rfl, by kernel_rfl, by kernel_rfl, by kernel_rfl⟩ (Eq.trans (by kernel_rfl) HV.out.symm) (by kernel_rfl) (by kernel_rfl) _ (fun a' w' n f r lt => HD.out n a' w' f r (by rw [HN.out]; exact lt)) (fun a' w' n f r lt => HD.out n a' w' f r (by rw [HN.out]; exact lt))
  · generalize mz (a.tmps.getD 27 undef) (a.tmps.getD 28 undef) (a.tmps.getD 29 undef) wr = N0 at *
    have HKK : Hid (∀ (a : Act) (s : HS) (S : SS) (M' : Fam) (w' : World), FB x gq kq a → SFin x s S M' w' → K a w') := hK
    have HF : Hid (SFin x s S M' wr) := hF
    obtain ⟨y, hy⟩ := lit_of hf
    rw [h27] at hy
    clear hdec hmz hrel hf h27 hF hx hn hK h0
    generalize a.tmps.getD 28 undef = v28 at hy
    generalize a.tmps.getD 29 undef = v29 at hy
    generalize a.tmps.getD 30 undef = v30 at hy
    generalize a.tmps.getD 31 undef = v31 at hy
    generalize a.tmps.getD 32 undef = v32 at hy
    subst hy
    unfold LIT LITv
    refine wp_seq_k (fun K1 hK1 => ?_)
    clear hK1
    refine wp_seq_k (fun K2 hK2 => ?_)
    have HK2 : Hid (∀ (a : Act) (w : World), _ → K2 a w) := hK2
    clear hK2
    go_wp2
    refine HK2.out _ _ (wp_cond_false (by kernel_rfl) (wp_exit ?_))
    exact HKK.out _ s S M' wr ⟨by kernel_rfl, by kernel_rfl, by kernel_rfl, by kernel_rfl⟩ HF.out
end Go.Proofs.Qxb6602148a
