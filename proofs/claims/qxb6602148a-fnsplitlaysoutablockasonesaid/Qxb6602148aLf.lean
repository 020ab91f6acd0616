/-
  The second law: behind its first loop.
-/
import Derived.Test.Qxb6602148aLe
attribute [local go_sem] Go.Proofs.Qxb6602148a.yTo Go.Proofs.Qxb6602148a.yUpon
namespace Go.Proofs.Qxb6602148a
open Go.RowKit
set_option linter.unusedVariables false
set_option linter.unusedSimpArgs false

set_option maxRecDepth 40000 in
set_option maxHeartbeats 8000000 in
/-- Region 34. -/
theorem l2_b (wb : World) (gB gM gA : Nat) (E : Nat) (P P2 : PS) (c D0 : Nat) (V : Fam) (hin : L2In wb gB gM gA E P P2 c D0) (hbx0 : wb.heap[gB]? = some (.cells #[V.val 0, V.val 1, V.val 2, V.val 3, V.val 4, V.val 5, V.val 6] 35)) (hR : Rep KV wb V) (hV : VM V P) (k : Nat) (a : Act) (hf : F4 gB gM gA c a) (h9 : a.tmps.getD 9 undef = .int .i64 (D0 : Int)) (Q : Exit → Act → World → Prop)
    (hC : ∀ (a : Act) (w' : World), F4 gB gM gA c a → a.tmps.getD 9 undef = .int .i64 (D0 : Int) → Grew Fam.nil wb Fam.nil w' → Q .normal a w') :
    Code.wp Try.prog (sL (tl 16 (Try.f4.body.getD .skip))) Q a (wb.drewN k) := by
  obtain ⟨y, rfl⟩ := l4b hf.sz hf.df hf.s1 hf.s6 hf.s7 hf.s8 h9
  obtain ⟨hE, hS, hCC, hS2, hC2⟩ := hin.sm
  have hbx : (wb.drewN k).heap[gB]? = some (.cells #[V.val 0, V.val 1, V.val 2, V.val 3, V.val 4, V.val 5, V.val 6] 35) := hbx0
  have d0 : (wb.drewN k).cell? ⟨gB, 0, none⟩ = some (V.val 0) := by rw [cell_of_row (wb.drewN k) gB 0 _ _ _ hbx]; rfl
  have d1 : (wb.drewN k).cell? ⟨gB, 1, none⟩ = some (V.val 1) := by rw [cell_of_row (wb.drewN k) gB 1 _ _ _ hbx]; rfl
  have d2 : (wb.drewN k).cell? ⟨gB, 2, none⟩ = some (V.val 2) := by rw [cell_of_row (wb.drewN k) gB 2 _ _ _ hbx]; rfl
  have d3 : (wb.drewN k).cell? ⟨gB, 3, none⟩ = some (V.val 3) := by rw [cell_of_row (wb.drewN k) gB 3 _ _ _ hbx]; rfl
  have d4 : (wb.drewN k).cell? ⟨gB, 4, none⟩ = some (V.val 4) := by rw [cell_of_row (wb.drewN k) gB 4 _ _ _ hbx]; rfl
  have d5 : (wb.drewN k).cell? ⟨gB, 5, none⟩ = some (V.val 5) := by rw [cell_of_row (wb.drewN k) gB 5 _ _ _ hbx]; rfl
  have d6 : (wb.drewN k).cell? ⟨gB, 6, none⟩ = some (V.val 6) := by rw [cell_of_row (wb.drewN k) gB 6 _ _ _ hbx]; rfl
  have hcc := hin.cc
  have hcall := inUse_calls (wb.drewN k) V P (D0 : Int) (hR.drewN k) hV (by omega) (by omega)
  have HU : Hid (Calls Try.prog 15 #[.agg #[V.val 0, V.val 1, V.val 2, V.val 3, V.val 4, V.val 5, V.val 6], .int .i64 (D0 : Int)] (wb.drewN k) fun e w' => e = .returned (.bool false) ∧ Grew Fam.nil wb Fam.nil w') := by
    refine hcall.mono ?_
    rintro e w' ⟨b, rfl, hb, hg⟩
    have : b = false := by
      cases b with
      | false => rfl
      | true => exact absurd (hb.1 rfl) hin.Du
    subst this
    exact ⟨rfl, ((Grew.refl Fam.nil wb).drewN k).trans hg⟩
  have hdc : ((D0 : Int) == (c : Int)) = false := by
    have := hin.Dc
    rw [beq_eq_false_iff_ne]; omega
  have HC : Hid (∀ (a : Act) (w' : World), F4 gB gM gA c a → a.tmps.getD 9 undef = .int .i64 (D0 : Int) → Grew Fam.nil wb Fam.nil w' → Q .normal a w') := hC
  clear hf hC hin h9 hcall hbx hbx0 hR hV
  show Code.wp Try.prog (Code.seq _ (Code.cond (.tmp 133) _ Code.skip)) Q _ (wb.drewN k)
  generalize wb.drewN k = wk at *
  refine wp_seq_k (fun K1 hK => ?_)
  have HK1 : Hid (∀ (a : Act) (w : World), _ → K1 a w) := hK
  clear hK
  go_wp2_with (go_at_call 15; refine HU.out.mono ?_; rintro e w2 ⟨rfl, hg⟩; have HG2 : Hid (Grew Fam.nil wb Fam.nil w2) := hg; clear hg)
  refine HK1.out _ _ (wp_cond_false (by kernel_rfl) (wp_skip ?_))
  exact HC.out _ _ ⟨by kernel_rfl, by kernel_rfl, by kernel_rfl, by kernel_rfl, by kernel_rfl, by kernel_rfl⟩ (by kernel_rfl) HG2.out

def L4b (wc : World) (gB gM gA : Nat) (P : PS) (c D0 : Nat) (a : Act) (w : World) : Prop :=
  F4 gB gM gA c a ∧ a.tmps.getD 9 undef = .int .i64 (D0 : Int) ∧ ∃ i : Nat, a.tmps.getD 13 undef = .int .i64 (i : Int) ∧ i ≤ P.nC ∧ ∃ k, w = wc.drewN k
set_option maxRecDepth 40000 in
set_option maxHeartbeats 8000000 in
/-- The components. -/
theorem l2_c (wb : World) (gB gM gA : Nat) (E : Nat) (P P2 : PS) (c D0 : Nat) (hin : L2In wb gB gM gA E P P2 c D0) (wc : World) (hg : Grew Fam.nil wb Fam.nil wc) (a : Act) (hf : F4 gB gM gA c a) (h9 : a.tmps.getD 9 undef = .int .i64 (D0 : Int)) (Q : Exit → Act → World → Prop)
    (hC : ∀ (a : Act) (w : World), F4 gB gM gA c a → Grew Fam.nil wb Fam.nil w → Q .normal a w) :
    Code.wp Try.prog (sL (tl 17 (Try.f4.body.getD .skip))) Q a wc := by
  obtain ⟨y, rfl⟩ := l4b hf.sz hf.df hf.s1 hf.s6 hf.s7 hf.s8 h9
  obtain ⟨hE, hS, hCC, hS2, hC2⟩ := hin.sm
  have HIN : Hid (L2In wb gB gM gA E P P2 c D0) := hin
  have HGC : Hid (Grew Fam.nil wb Fam.nil wc) := hg
  have HC : Hid (∀ (a : Act) (w : World), F4 gB gM gA c a → Grew Fam.nil wb Fam.nil w → Q .normal a w) := hC
  have hnil := fun (a : Option Addr) (n c : Nat) (w : World) => Lib.run_eql_slice_nil (P := Try.prog) w 26 3 a n c 0 0 Try.underlying26
  clear hf hC hin h9 hg
  show Code.wp Try.prog (Code.seq _ (Code.block 2 (Code.loop (Code.seq (Code.seq _ (Code.cond (.tmp 138) Code.skip (Code.exit 2))) (Code.seq (Code.block 3 (f4k (Try.f4.body.getD .skip))) _))))) Q _ wc
  refine wp_seq_k (fun K1 hK => ?_)
  have HK1 : Hid (∀ (a : Act) (w : World), _ → K1 a w) := hK
  clear hK
  go_wp2
  refine HK1.out _ _ ?_
  clear HK1 K1
  refine wp_block ?_
  refine wp_loop (L4b wc gB gM gA P c D0) (fun a _ => mus 13 P.nC a) ⟨⟨by kernel_rfl, by kernel_rfl, by kernel_rfl, by kernel_rfl, by kernel_rfl, by kernel_rfl⟩, by kernel_rfl, 0, by kernel_rfl, Nat.zero_le _, 0, rfl⟩ ?_
  clear y
  rintro a w' ⟨hf, h9, i, h13, i1, k, rfl⟩
  have e13 : mus 13 P.nC a = P.nC - i := congrArg (fun v => P.nC - (intOf v).toNat) h13
  obtain ⟨y2, rfl⟩ := l4d hf.sz hf.df hf.s1 hf.s6 hf.s7 hf.s8 h9 h13
  rw [e13]
  clear e13 hf h9 h13
  have HG : Hid (Grew Fam.nil wb Fam.nil (wc.drewN k)) := HGC.out.drewN k
  have HDD : Hid (∀ j, ∃ q, (wc.drewN k).drewN j = wc.drewN q) := fun j => drewN_drewN wc k j
  obtain ⟨o5, l5, m1⟩ := HIN.out.vb.v5.len HG.out
  refine wp_seq_k (fun K1 hK => ?_)
  have HK1 : Hid (∀ (a : Act) (w : World), _ → K1 a w) := hK
  clear hK
  refine wp_seq_k (fun K2 hK => ?_)
  have HK2 : Hid (∀ (a : Act) (w : World), _ → K2 a w) := hK
  clear hK
  by_cases hi : i < P.nC
  · have hii : (i : Int) < (P.nC : Int) := by omega
    have END : Hid (∀ (K : Act → World → Prop), (∀ (a : Act) (w : World), Code.wp Try.prog (tl 1 (tl 1 (lp (bl (tl 1 (sL (tl 17 (Try.f4.body.getD .skip)))))))) (fun ex a' w' => Exit.then (fun a' w' => L4b wc gB gM gA P c D0 a' w' ∧ mus 13 P.nC a' < P.nC - i) (Exit.inBlock 2 Q) ex a' w') a w → K a w) → ∀ (a : Act) (q : Nat), F4 gB gM gA c a → a.tmps.getD 9 undef = .int .i64 (D0 : Int) → a.tmps.getD 13 undef = .int .i64 (i : Int) → K a (wc.drewN q)) := by
      intro K hK a q hf h9 h13
      obtain ⟨y5, rfl⟩ := l4d hf.sz hf.df hf.s1 hf.s6 hf.s7 hf.s8 h9 h13
      refine hK _ _ ?_
      clear hf h9 h13 hK HG HDD m1 HK1 HK2
      have HQ : Hid (∃ q', wc.drewN q = wc.drewN q') := ⟨q, rfl⟩
      generalize wc.drewN q = wq at *
      simp only [tl, lp, bl, sL, Try.f4, Option.getD]
      go_wp2
      obtain ⟨q', hq'⟩ := HQ.out
      exact ⟨⟨⟨by kernel_rfl, by kernel_rfl, by kernel_rfl, by kernel_rfl, by kernel_rfl, by kernel_rfl⟩, by kernel_rfl, i + 1, by kernel_rfl, by omega, q', hq'⟩, Nat.lt_of_le_of_lt (Nat.le_of_eq (by kernel_rfl : _ = P.nC - (i + 1))) (by omega)⟩
    go_wp2
    refine HK2.out _ _ (wp_cond_true (by kernel_rfl) (wp_skip ?_))
    refine HK1.out _ _ ?_
    clear HK1 K1 HK2 K2
    refine wp_seq_k (fun K1 hK => ?_)
    have END1 : Hid (∀ (a : Act) (q : Nat), F4 gB gM gA c a → a.tmps.getD 9 undef = .int .i64 (D0 : Int) → a.tmps.getD 13 undef = .int .i64 (i : Int) → K1 a (wc.drewN q)) := END.out K1 hK
    clear hK END m1
    refine wp_block ?_
    show Code.wp Try.prog (Code.seq (Code.seq _ (Code.cond (.tmp 148) (Code.exit 3) Code.skip)) (Code.seq (Code.seq _ (Code.cond (.tmp 160) _ Code.skip)) (Code.seq _ (Code.cond (.tmp 179) _ Code.skip)))) _ _ (wc.drewN k)
    by_cases hic : i = c
    · have hb : ((i : Int) == (c : Int)) = true := by rw [hic]; simp
      clear HIN HG HDD hic
      refine wp_seq_k (fun K2 hK => ?_)
      have HK2 : Hid (∀ (a : Act) (w : World), _ → K2 a w) := hK
      clear hK
      refine wp_seq_k (fun K3 hK => ?_)
      have HK3 : Hid (∀ (a : Act) (w : World), _ → K3 a w) := hK
      clear hK
      go_wp2
      refine HK3.out _ _ (wp_cond_true (by kernel_rfl) (wp_exit ?_))
      exact END1.out _ k ⟨by kernel_rfl, by kernel_rfl, by kernel_rfl, by kernel_rfl, by kernel_rfl, by kernel_rfl⟩ (by kernel_rfl) (by kernel_rfl)
    · have hb : ((i : Int) == (c : Int)) = false := by rw [beq_eq_false_iff_ne]; omega
      by_cases hid : i = D0
      · have hb2 : ((i : Int) == (D0 : Int)) = true := by rw [hid]; simp
        clear HIN HG HDD hid hic
        refine wp_seq_k (fun K2 hK => ?_)
        have HK2 : Hid (∀ (a : Act) (w : World), _ → K2 a w) := hK
        clear hK
        refine wp_seq_k (fun K3 hK => ?_)
        have HK3 : Hid (∀ (a : Act) (w : World), _ → K3 a w) := hK
        clear hK
        go_wp2
        refine HK3.out _ _ (wp_cond_true (by kernel_rfl) (wp_exit ?_))
        exact END1.out _ k ⟨by kernel_rfl, by kernel_rfl, by kernel_rfl, by kernel_rfl, by kernel_rfl, by kernel_rfl⟩ (by kernel_rfl) (by kernel_rfl)
      · have hb2 : ((i : Int) == (D0 : Int)) = false := by rw [beq_eq_false_iff_ne]; omega
        obtain ⟨q1, q2, q3⟩ := HIN.out.mem i hi hic hid
        have hi2 : i < P2.nC := by have := HIN.out.nCC; omega
        have hii2 : (i : Int) < (P2.nC : Int) := by omega
        have hmb := HIN.out.mnb i hi
        by_cases h0 : P.mn i = 0
        · obtain ⟨b5, k5, l6, x1, x2, x3⟩ := HIN.out.vb.v5.nil HIN.out.vb.n5 HG.out hi h0
          obtain ⟨b7, k7, l7, z1, z2, z3⟩ := HIN.out.va.v5.nil HIN.out.va.n5 HG.out hi2 (by rw [q1]; exact h0)
          have H17 : Hid (∀ n, Calls Try.prog 17 #[.slice none 0 l6, .slice none 0 l7] ((wc.drewN k).drewN n) fun e w' => e = .returned (.bool true) ∧ ∃ m, w' = ((wc.drewN k).drewN n).drewN m) := fun n => sameList_calls _ none none 0 l6 l7 (fun _ => 0) (by omega) Iff.rfl (fun j h => absurd h (Nat.not_lt_zero _)) (fun j h => absurd h (Nat.not_lt_zero _))
          clear HIN HG q1 q2 q3 h0
          have HDk : Hid (∀ j, ∃ q, (wc.drewN k).drewN j = wc.drewN q) := HDD.out
          clear HDD
          generalize wc.drewN k = wk at *
          refine wp_seq_k (fun K2 hK => ?_)
          have HK2 : Hid (∀ (a : Act) (w : World), _ → K2 a w) := hK
          clear hK
          refine wp_seq_k (fun K3 hK => ?_)
          have HK3 : Hid (∀ (a : Act) (w : World), _ → K3 a w) := hK
          clear hK
          go_wp2
          refine HK3.out _ _ (wp_cond_false (by kernel_rfl) (wp_skip ?_))
          refine HK2.out _ _ ?_
          clear HK2 K2 HK3 K3
          refine wp_seq_k (fun K2 hK => ?_)
          have HK2 : Hid (∀ (a : Act) (w : World), _ → K2 a w) := hK
          clear hK
          refine wp_seq_k (fun K3 hK => ?_)
          have HK3 : Hid (∀ (a : Act) (w : World), _ → K3 a w) := hK
          clear hK
          go_quiet (exact Calls.quiet_of (H17.out _))
          refine HK3.out _ _ (wp_cond_false (by kernel_rfl) (wp_skip ?_))
          refine HK2.out _ _ ?_
          clear HK2 K2 HK3 K3 H17
          have x1' : (wk.drewN nq).cell? ⟨gB, 5, none⟩ = some (.slice (some ⟨b5, 0, none⟩) P.nC k5) := x1
          have x3' : (wk.drewN nq).cell? ⟨b5, i, none⟩ = some (.slice none 0 l6) := x3
          obtain ⟨q, hq⟩ := HDk.out nq
          have HQ : Hid (wk.drewN nq = wc.drewN q) := hq
          clear hq HDk x1 x3 z1 z3
          generalize wk.drewN nq = wl at *
          refine wp_seq_k (fun K2 hK => ?_)
          have HK2 : Hid (∀ (a : Act) (w : World), _ → K2 a w) := hK
          clear hK
          go_quiet (fail)
          refine HK2.out _ _ (wp_cond_false (by kernel_rfl) (wp_skip ?_))
          obtain ⟨q', hq'⟩ := drewN_drewN wc q nq
          show K1 _ (wl.drewN nq)
          rw [HQ.out, hq']
          exact END1.out _ q' ⟨by kernel_rfl, by kernel_rfl, by kernel_rfl, by kernel_rfl, by kernel_rfl, by kernel_rfl⟩ (by kernel_rfl) (by kernel_rfl)
        · obtain ⟨b5, k5, b5', l6, x1, x2, x3, x4, x5⟩ := HIN.out.vb.v5.some HG.out hi h0
          obtain ⟨b7, k7, b7', l7, z1, z2, z3, z4, z5⟩ := HIN.out.va.v5.some HG.out hi2 (by rw [q1]; exact h0)
          obtain ⟨b8, k8, u1, u2, u3⟩ := HIN.out.vb.v6.at HG.out hi
          obtain ⟨b9, k9, u4, u5, u6⟩ := HIN.out.va.v6.at HG.out hi2
          rw [q3] at u6
          rw [q1] at z3 z4 z5
          rw [q2] at z5
          have H17 : Hid (∀ n, Calls Try.prog 17 #[.slice (some ⟨b5', 0, none⟩) (P.mn i) l6, .slice (some ⟨b7', 0, none⟩) (P.mn i) l7] ((wc.drewN k).drewN n) fun e w' => e = .returned (.bool true) ∧ ∃ m, w' = ((wc.drewN k).drewN n).drewN m) := fun n => sameList_calls _ _ _ (P.mn i) l6 l7 (P.mem i) (by omega) (by simp) (fun j hj => ⟨b5', rfl, x4, x5 j hj⟩) (fun j hj => ⟨b7', rfl, z4, z5 j hj⟩)
          clear HIN HG q1 q2 q3 h0 x5 z5
          have HDk : Hid (∀ j, ∃ q, (wc.drewN k).drewN j = wc.drewN q) := HDD.out
          clear HDD
          generalize P.mn i = mi at *
          generalize P.edg i = ei at *
          generalize wc.drewN k = wk at *
          refine wp_seq_k (fun K2 hK => ?_)
          have HK2 : Hid (∀ (a : Act) (w : World), _ → K2 a w) := hK
          clear hK
          refine wp_seq_k (fun K3 hK => ?_)
          have HK3 : Hid (∀ (a : Act) (w : World), _ → K3 a w) := hK
          clear hK
          go_wp2
          refine HK3.out _ _ (wp_cond_false (by kernel_rfl) (wp_skip ?_))
          refine HK2.out _ _ ?_
          clear HK2 K2 HK3 K3
          refine wp_seq_k (fun K2 hK => ?_)
          have HK2 : Hid (∀ (a : Act) (w : World), _ → K2 a w) := hK
          clear hK
          refine wp_seq_k (fun K3 hK => ?_)
          have HK3 : Hid (∀ (a : Act) (w : World), _ → K3 a w) := hK
          clear hK
          go_quiet (exact Calls.quiet_of (H17.out _))
          refine HK3.out _ _ (wp_cond_false (by kernel_rfl) (wp_skip ?_))
          refine HK2.out _ _ ?_
          clear HK2 K2 HK3 K3 H17
          have x1' : (wk.drewN nq).cell? ⟨gB, 5, none⟩ = some (.slice (some ⟨b5, 0, none⟩) P.nC k5) := x1
          have x3' : (wk.drewN nq).cell? ⟨b5, i, none⟩ = some (.slice (some ⟨b5', 0, none⟩) mi l6) := x3
          have u1' : (wk.drewN nq).cell? ⟨gB, 6, none⟩ = some (.slice (some ⟨b8, 0, none⟩) P.nC k8) := u1
          have u3' : (wk.drewN nq).cell? ⟨b8, i, none⟩ = some (.int .i64 ei) := u3
          have u4' : (wk.drewN nq).cell? ⟨gA, 6, none⟩ = some (.slice (some ⟨b9, 0, none⟩) P2.nC k9) := u4
          have u6' : (wk.drewN nq).cell? ⟨b9, i, none⟩ = some (.int .i64 ei) := u6
          obtain ⟨q, hq⟩ := HDk.out nq
          have HQ : Hid (wk.drewN nq = wc.drewN q) := hq
          clear hq HDk x1 x3 z1 z3 u1 u3 u4 u6
          generalize wk.drewN nq = wl at *
          refine wp_seq_k (fun K2 hK => ?_)
          have HK2 : Hid (∀ (a : Act) (w : World), _ → K2 a w) := hK
          clear hK
          go_quiet (fail)
          refine HK2.out _ _ (wp_cond_false (by kernel_rfl) (wp_skip ?_))
          obtain ⟨q', hq'⟩ := drewN_drewN wc q nq
          show K1 _ (wl.drewN nq)
          rw [HQ.out, hq']
          exact END1.out _ q' ⟨by kernel_rfl, by kernel_rfl, by kernel_rfl, by kernel_rfl, by kernel_rfl, by kernel_rfl⟩ (by kernel_rfl) (by kernel_rfl)
  · have hii : ¬ (i : Int) < (P.nC : Int) := by omega
    obtain rfl : i = P.nC := by omega
    clear HIN HDD
    go_wp2
    refine HK2.out _ _ (wp_cond_false (by kernel_rfl) (wp_exit ?_))
    exact HC.out _ _ ⟨by kernel_rfl, by kernel_rfl, by kernel_rfl, by kernel_rfl, by kernel_rfl, by kernel_rfl⟩ HG.out

set_option maxRecDepth 40000 in
set_option maxHeartbeats 8000000 in
/-- From region 21 to the end. -/
theorem l2_end (wb : World) (gB gM gA : Nat) (E : Nat) (P P2 : PS) (c D0 : Nat) (V : Fam) (hin : L2In wb gB gM gA E P P2 c D0) (hbx0 : wb.heap[gB]? = some (.cells #[V.val 0, V.val 1, V.val 2, V.val 3, V.val 4, V.val 5, V.val 6] 35)) (hR : Rep KV wb V) (hV : VM V P) (a : Act) (hf : F4 gB gM gA c a) (Rw : World → Prop) (hRw : ∀ w', Grew Fam.nil wb Fam.nil w' → Rw w') :
    Code.wp Try.prog (tl 14 (Try.f4.body.getD .skip)) (bodyPost Try.prog Try.f4 fun e w' => e = .returned (.bool true) ∧ Rw w') a wb := by
  obtain ⟨y, rfl⟩ := l4a hf.sz hf.df hf.s1 hf.s6 hf.s7 hf.s8
  have e15 : tl 15 (Try.f4.body.getD .skip) = Code.seq (sL (tl 15 (Try.f4.body.getD .skip))) (tl 16 (Try.f4.body.getD .skip)) := by kernel_rfl
  have e16 : tl 16 (Try.f4.body.getD .skip) = Code.seq (sL (tl 16 (Try.f4.body.getD .skip))) (tl 17 (Try.f4.body.getD .skip)) := by kernel_rfl
  have e17 : tl 17 (Try.f4.body.getD .skip) = Code.seq (sL (tl 17 (Try.f4.body.getD .skip))) (tl 18 (Try.f4.body.getD .skip)) := by kernel_rfl
  show Code.wp Try.prog (Code.seq _ (tl 15 (Try.f4.body.getD .skip))) _ _ wb
  have H : Hid (∀ (a : Act), F4 gB gM gA c a → a.tmps.getD 9 undef = .int .i64 (-1) → Code.wp Try.prog (tl 15 (Try.f4.body.getD .skip)) (bodyPost Try.prog Try.f4 fun e w' => e = .returned (.bool true) ∧ Rw w') a wb) := by
    intro a hf h9
    rw [e15]
    refine wp_seq ?_
    refine l2_a wb gB gM gA E P P2 c D0 hin a hf h9 _ ?_
    intro a k hf h9
    show Code.wp Try.prog (tl 16 (Try.f4.body.getD .skip)) _ a (wb.drewN k)
    rw [e16]
    refine wp_seq ?_
    refine l2_b wb gB gM gA E P P2 c D0 V hin hbx0 hR hV k a hf h9 _ ?_
    intro a w2 hf h9 hg
    show Code.wp Try.prog (tl 17 (Try.f4.body.getD .skip)) _ a w2
    rw [e17]
    refine wp_seq ?_
    refine l2_c wb gB gM gA E P P2 c D0 hin w2 hg a hf h9 _ ?_
    intro a w3 hf hg
    show Code.wp Try.prog (tl 18 (Try.f4.body.getD .skip)) _ a w3
    obtain ⟨y2, rfl⟩ := l4a hf.sz hf.df hf.s1 hf.s6 hf.s7 hf.s8
    have HG3 : Hid (Rw w3) := hRw w3 hg
    clear hf hg
    simp only [tl, Try.f4, Option.getD]
    go_wp2
    go_ret
    exact ⟨rfl, HG3.out⟩
  clear hin hbx0 hR hV hf e15 e16 e17 hRw
  refine wp_seq_k (fun K1 hK => ?_)
  have HK1 : Hid (∀ (a : Act) (w : World), _ → K1 a w) := hK
  clear hK
  go_wp2
  refine HK1.out _ _ ?_
  exact H.out _ ⟨by kernel_rfl, by kernel_rfl, by kernel_rfl, by kernel_rfl, by kernel_rfl, by kernel_rfl⟩ (by kernel_rfl)
end Go.Proofs.Qxb6602148a
