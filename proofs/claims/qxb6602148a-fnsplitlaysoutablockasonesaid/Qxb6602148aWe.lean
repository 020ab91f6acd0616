import Derived.Test.Qxb6602148aWd
attribute [local go_sem] Go.Proofs.Qxb6602148a.yTo Go.Proofs.Qxb6602148a.yUpon
namespace Go.Proofs.Qxb6602148a
open Go.RowKit
set_option linter.unusedVariables false
set_option linter.unusedSimpArgs false

theorem Entry.drew {M : Fam} {w : World} {eb b e : Nat} (h : Entry M w eb b e) : Entry M w.drew eb b e := ⟨h.lt, h.out, h.c0, h.c1⟩

theorem wp_cond_f {P : Program} {Q : Exit → Act → World → Prop} {a : Act} {w : World} {c : Operand} {x y : Code} (b : Bool) (hc : a.eval c = .bool b) (hb : b = false) (h : y.wp P Q a w) : (Code.cond c x y).wp P Q a w := wp_cond_false (by rw [hc, hb]) h
theorem wp_cond_t {P : Program} {Q : Exit → Act → World → Prop} {a : Act} {w : World} {c : Operand} {x y : Code} (b : Bool) (hc : a.eval c = .bool b) (hb : b = true) (h : x.wp P Q a w) : (Code.cond c x y).wp P Q a w := wp_cond_true (by rw [hc, hb]) h

/-- The loop goes on with s'. -/
def Go1 (x : SC0) (gq kq : Nat) (s : HS) (Q : Act → World → Prop) : Prop :=
  ∀ (a : Act) (w' : World) (n : Nat), FIC x gq kq a → SRel x n (a.tmps.getD 27 undef) (a.tmps.getD 28 undef) (a.tmps.getD 29 undef) w' → n < 2 * gap x.U s.sc x.U.N + s.m → Q a w'

theorem walk_back_act (x : SC0) (gq kq : Nat) (a : Act) (s : HS) (S : SS) (cq : Nat → Int) (c : Int) (M' : Fam) (wr wb : World) (g27 q e b ib eb : Nat) (hS : Srch x s S cq c M' wr) (b27 : M'.b 27 = some g27) (hq : s.sc s.top = q) (hib : s.idx b = ib) (hb : b < x.d.N) (ht : s.top < x.d.N) (hk : s.k ≤ 137438953472) (hidx : s.idx s.top ≤ 137438953473)
    (hi : HInv x.U (s.back e ib)) (hR : Rep KP wb (M'.set 27 ((s.m - 1) * 3 + 2) (.int .i64 ((q : Int) + 1)))) (hG : Grew x.M x.w (M'.set 27 ((s.m - 1) * 3 + 2) (.int .i64 ((q : Int) + 1))) wb) (he : Entry (M'.set 27 ((s.m - 1) * 3 + 2) (.int .i64 ((q : Int) + 1))) wb eb b e) (Q : Exit → Act → World → Prop) (hf : FIC x gq kq a) (h27 : a.tmps.getD 27 undef = M'.val 27) (h28 : a.tmps.getD 28 undef = .int .i64 (s.vis : Int)) (h29 : a.tmps.getD 29 undef = M'.val 23) (h31 : a.tmps.getD 31 undef = .int .i64 (s.top : Int)) (h32 : a.tmps.getD 32 undef = .pointer (some ⟨eb, 0, none⟩))
    (hQ : ∀ (a : Act) (w' : World) (M2 : Fam) (cq' : Nat → Int), FIC x gq kq a → a.tmps.getD 27 undef = M'.val 27 → a.tmps.getD 28 undef = .int .i64 (s.vis : Int) → a.tmps.getD 29 undef = M2.val 23 → M2.val 27 = M'.val 27 → Srch x (s.back e ib) S cq' c M2 w' → Q .normal a w') :
    Code.wp Try.prog (BK (Try.f29.body.getD .skip)) Q a wb := by
  obtain ⟨y, hy⟩ := lit_of hf
  rw [h27, h28, h29, h31, h32] at hy
  rw [hy]
  exact walk_back x gq kq y _ _ _ s S cq c M' wr wb g27 q e b ib eb hS b27 hq hib hb ht hk hidx hi hR hG he Q hQ
theorem walk_down_act (x : SC0) (gq kq : Nat) (a : Act) (s : HS) (S : SS) (cq : Nat → Int) (c : Int) (M' : Fam) (wr wb : World) (g27 q e b z eb : Nat) (hS : Srch x s S cq c M' wr) (b27 : M'.b 27 = some g27) (hq : s.sc s.top = q) (hb0 : s.idx b = 0) (hbN : b < x.U.N) (hb : b < x.d.N) (hz : x.U.st b = z) (hst : x.d.st b = ((x.U.st b : Nat) : Int)) (hk : s.k ≤ 137438953472) (hv : s.vis ≤ 137438953473) (hm : s.m ≤ s.vis)
    (hi : HInv x.U (s.down e b)) (hR : Rep KP wb (M'.set 27 ((s.m - 1) * 3 + 2) (.int .i64 ((q : Int) + 1)))) (hG : Grew x.M x.w (M'.set 27 ((s.m - 1) * 3 + 2) (.int .i64 ((q : Int) + 1))) wb) (he : Entry (M'.set 27 ((s.m - 1) * 3 + 2) (.int .i64 ((q : Int) + 1))) wb eb b e) (Q : Exit → Act → World → Prop) (hf : FIC x gq kq a) (h27 : a.tmps.getD 27 undef = M'.val 27) (h28 : a.tmps.getD 28 undef = .int .i64 (s.vis : Int)) (h29 : a.tmps.getD 29 undef = M'.val 23) (h32 : a.tmps.getD 32 undef = .pointer (some ⟨eb, 0, none⟩))
    (hQ : ∀ (a : Act) (w' : World) (M2 : Fam) (cq' : Nat → Int), FIC x gq kq a → a.tmps.getD 27 undef = M2.val 27 → a.tmps.getD 28 undef = .int .i64 ((s.vis + 1 : Nat) : Int) → a.tmps.getD 29 undef = M2.val 23 → Srch x (s.down e b) S cq' c M2 w' → Q .normal a w') :
    Code.wp Try.prog (DN (Try.f29.body.getD .skip)) Q a wb := by
  obtain ⟨y, hy⟩ := lit_of hf
  rw [h27, h28, h29, h32] at hy
  rw [hy]
  exact walk_down x gq kq y _ _ s S cq c M' wr wb g27 q e b z eb hS b27 hq hb0 hbN hb hz hst hk hv hm hi hR hG he Q hQ

set_option maxRecDepth 40000 in
set_option maxHeartbeats 8000000 in
/-- What a round does with the entry that it looks at. -/
theorem walk_entry (x : SC0) (gq kq : Nat) (y : Nat → Value) (s : HS) (S : SS) (cq : Nat → Int) (c : Int) (M' : Fam) (wr wb : World) (g27 q e b eb : Nat) (hS : Srch x s S cq c M' wr) (b27 : M'.b 27 = some g27) (hq : s.sc s.top = q) (hqs : q < x.U.st (s.top + 1)) (hbe : x.U.eN q = b) (hee : x.U.eE q = e) (ok : x.U.Ok) (hUN : x.U.N = x.d.N) (hst : ∀ v, x.d.st v = ((x.U.st v : Nat) : Int)) (hBd : Bd x s) (hT : x.d.T ≤ 137438953472)
    (hR : Rep KP wb (M'.set 27 ((s.m - 1) * 3 + 2) (.int .i64 ((q : Int) + 1)))) (hG : Grew x.M x.w (M'.set 27 ((s.m - 1) * 3 + 2) (.int .i64 ((q : Int) + 1))) wb) (hSb : Srch x s S cq c M' wr → HInv x.U s.adv → Srch x s.adv S (upd cq ((s.m - 1) * 3 + 2) ((q : Int) + 1)) c (M'.set 27 ((s.m - 1) * 3 + 2) (.int .i64 ((q : Int) + 1))) wb) (he : Entry (M'.set 27 ((s.m - 1) * 3 + 2) (.int .i64 ((q : Int) + 1))) wb eb b e) (Q : Exit → Act → World → Prop) (hQ : Go1 x gq kq s (Q .normal)) :
    Code.wp Try.prog (B14 (Try.f29.body.getD .skip)) Q (LIT y x gq kq (M'.val 27) (.int .i64 (s.vis : Int)) (M'.val 23) (.pointer (some ⟨g27, (s.m - 1) * 3, none⟩)) (.int .i64 (s.top : Int)) (.pointer (some ⟨eb, 0, none⟩))) wb := by
  have inv := hS.sq.inv
  have mp := inv.P.mpos
  obtain ⟨t1, t2, t3⟩ := inv.topidx
  have bd := inv.P.scbd s.top t1
  have hqs' : s.sc s.top < x.U.st (s.top + 1) := by rw [hq]; exact hqs
  have hinc := UG.inc_at t1 bd.1 hqs'
  rw [hq, hbe, hee] at hinc
  obtain ⟨bN, bne⟩ := ok.lt _ _ _ hinc
  have gapd := gap_up hqs' x.U.N t1
  have hbd' : ∀ s' : HS, s'.sc = up s.sc s.top (s.sc s.top + 1) → s'.vis ≤ s.vis + 1 → s'.k ≤ s.k + 1 → Bd x s' := by
    intro s' h3 h4 h5
    have h1 := hBd.1
    have h2 := hBd.2
    unfold Bd
    rw [h3]
    omega
  have hgd : ∀ s' : HS, s'.sc = up s.sc s.top (s.sc s.top + 1) → s'.m ≤ s.m + 1 → 2 * gap x.U s'.sc x.U.N + s'.m < 2 * gap x.U s.sc x.U.N + s.m := by
    intro s' h3 h4
    rw [h3]
    omega
  have cl := hS.cqf (s.m - 1) (by omega)
  have tt : s.nd (s.m - 1) = s.top := rfl
  have b1 : (M'.set 27 ((s.m - 1) * 3 + 2) (.int .i64 ((q : Int) + 1))).b 27 = some g27 := b27
  have cv : wb.cell? ⟨g27, (s.m - 1) * 3 + 1, none⟩ = some (.int .i64 (if s.m - 1 = 0 then (-1 : Int) else ((s.te s.top : Nat) : Int))) := by
    rw [hR.cell b1 (j := (s.m - 1) * 3 + 1) (by show (s.m - 1) * 3 + 1 < M'.n 27 * 3; rw [hS.sr.cl.1]; omega), set_Fj (by omega), hS.sr.cl.2 _ (by omega), cl.2.1, tt]
  have cib : wb.cell? ⟨x.d.g20, b, none⟩ = some (.int .i64 ((s.idx b : Nat) : Int)) := (hS.sr.ix.2.1.set_ne (by omega)).cell hR hS.sr.ix.1 rfl (by omega)
  have ciu : wb.cell? ⟨x.d.g20, s.top, none⟩ = some (.int .i64 ((s.idx s.top : Nat) : Int)) := (hS.sr.ix.2.1.set_ne (by omega)).cell hR hS.sr.ix.1 rfl (by omega)
  have ce0 := he.c0
  have ce1 := he.c1
  have hidx := inv.P.idxle s.top
  have hk1 : s.k ≤ 137438953472 := by have := hBd.2; omega
  have hvis : s.vis ≤ 137438953473 := by have := hBd.1; omega
  have hmv := inv.m_le
  have bN' : b < x.d.N := by omega
  have tN' : s.top < x.d.N := by omega
  have pass : HInv x.U s.adv → ∀ (a : Act) (w' : World), FIC x gq kq a → a.tmps.getD 27 undef = M'.val 27 → a.tmps.getD 28 undef = .int .i64 (s.vis : Int) → a.tmps.getD 29 undef = M'.val 23 → (∀ n, w' = wb.drewN n → True) → (∃ n, w' = wb.drewN n) → Q .normal a w' := by
    intro hi a w' hf h27 h28 h29 _ hw
    obtain ⟨n, rfl⟩ := hw
    have h1 := hSb hS hi
    refine hQ a _ (2 * gap x.U s.adv.sc x.U.N + s.adv.m) hf ?_ (hgd s.adv rfl (Nat.le_succ _))
    rw [h27, h28, h29]
    exact SRel.run (⟨⟨h1.sin.rep.drewN n, h1.sin.pm, h1.sin.grew.drewN n, h1.sin.loc, h1.sin.b33, h1.sin.n33, h1.sin.f33⟩, h1.sr, h1.cqf, h1.sq⟩ : Srch x s.adv S _ c (M'.set 27 ((s.m - 1) * 3 + 2) (.int .i64 ((q : Int) + 1))) (wb.drewN n)) rfl rfl rfl rfl (hbd' s.adv rfl (Nat.le_succ _) (Nat.le_succ _))
  show Code.wp Try.prog (Code.seq _ (Code.cond _ Code.skip (N58 (Try.f29.body.getD .skip)))) Q _ wb
  refine wp_seq_k (fun K hK => ?_)
  have HK : Hid (∀ (a : Act) (w : World), Code.wp Try.prog (Code.cond (.tmp 297) Code.skip (N58 (Try.f29.body.getD .skip))) Q a w → K a w) := hK
  have HP : Hid (HInv x.U s.adv → ∀ (a : Act) (w' : World), FIC x gq kq a → a.tmps.getD 27 undef = M'.val 27 → a.tmps.getD 28 undef = .int .i64 (s.vis : Int) → a.tmps.getD 29 undef = M'.val 23 → (∀ n, w' = wb.drewN n → True) → (∃ n, w' = wb.drewN n) → Q .normal a w') := pass
  have HQ : Hid (Go1 x gq kq s (Q .normal)) := hQ
  have HI : Hid (HInv x.U s) := inv
  have Hhe : Hid (Entry (M'.set 27 ((s.m - 1) * 3 + 2) (.int .i64 ((q : Int) + 1))) wb eb b e) := he
  have HBD : Hid (∀ s' : HS, s'.sc = up s.sc s.top (s.sc s.top + 1) → s'.vis ≤ s.vis + 1 → s'.k ≤ s.k + 1 → Bd x s') := hbd'
  have HGD : Hid (∀ s' : HS, s'.sc = up s.sc s.top (s.sc s.top + 1) → s'.m ≤ s.m + 1 → 2 * gap x.U s'.sc x.U.N + s'.m < 2 * gap x.U s.sc x.U.N + s.m) := hbd' |> fun _ => hgd
  have HS : Hid (Srch x s S cq c M' wr) := hS
  have HR : Hid (Rep KP wb (M'.set 27 ((s.m - 1) * 3 + 2) (.int .i64 ((q : Int) + 1)))) := hR
  have HG : Hid (Grew x.M x.w (M'.set 27 ((s.m - 1) * 3 + 2) (.int .i64 ((q : Int) + 1))) wb) := hG
  have HH : Hid (s.sc s.top = q ∧ x.U.eN q = b ∧ x.U.eE q = e ∧ M'.b 27 = some g27 ∧ x.U.Ok ∧ (∀ v, x.d.st v = ((x.U.st v : Nat) : Int))) := ⟨hq, hbe, hee, b27, ok, hst⟩
  clear hK pass hQ inv he hbd' hgd hS hR hG cl tt b1 b27 hBd hSb hst hinc gapd hq hbe hee
  unfold LIT LITv
  by_cases hv : 2 ≤ s.m ∧ e = s.te s.top
  · have hadv : Hid (HInv x.U s.adv) := HI.out.skip_via HH.out.2.2.2.2.1 hv.1 hqs' (by rw [HH.out.1, HH.out.2.2.1]; exact hv.2)
    rw [if_neg (by omega), ← hv.2] at cv
    clear hv
    go_quiet (fail)
    refine HK.out _ _ (wp_cond_true (by kernel_rfl) (wp_skip ?_))
    exact HP.out hadv.out _ _ ⟨by kernel_rfl, by kernel_rfl, by kernel_rfl, by kernel_rfl, by kernel_rfl, by kernel_rfl, by kernel_rfl, by kernel_rfl, by kernel_rfl, by kernel_rfl, by kernel_rfl, by kernel_rfl, by kernel_rfl⟩ (by kernel_rfl) (by kernel_rfl) (by kernel_rfl) (fun _ _ => trivial) ⟨_, rfl⟩
  · have hvia : ∃ V : Int, V ≠ ((e : Nat) : Int) ∧ (if s.m - 1 = 0 then (-1 : Int) else ((s.te s.top : Nat) : Int)) = V := by
      refine ⟨_, ?_, rfl⟩
      split
      · omega
      · intro h
        exact hv ⟨by omega, by omega⟩
    obtain ⟨V, hV, hVe⟩ := hvia
    rw [hVe] at cv
    have hte : Hid (2 ≤ s.m → e ≠ s.te s.top) := fun h2 h3 => hv ⟨h2, h3⟩
    have hV' : ((e : Nat) : Int) ≠ V := Ne.symm hV
    clear hv hVe
    go_quiet (fail)
    refine HK.out _ _ (wp_cond_f ((e : Int) == V) (by kernel_rfl) (by simpa using hV') ?_)
    clear HK K
    show Code.wp Try.prog (Code.seq _ (Code.cond _ (DN (Try.f29.body.getD .skip)) (N63 (Try.f29.body.getD .skip)))) Q _ _
    refine wp_seq_k (fun K hK => ?_)
    have HK : Hid (∀ (a : Act) (w : World), Code.wp Try.prog (Code.cond (.tmp 305) (DN (Try.f29.body.getD .skip)) (N63 (Try.f29.body.getD .skip))) Q a w → K a w) := hK
    clear hK
    by_cases hb0 : s.idx b = 0
    · rw [hb0] at cib
      have hdn : Hid (HInv x.U (s.down e b)) := by
        have := HI.out.down HH.out.2.2.2.2.1 hqs' (by rw [HH.out.1, HH.out.2.1]; exact hb0)
        rw [HH.out.1, HH.out.2.1, HH.out.2.2.1] at this
        exact this
      have Hb0 : Hid (s.idx b = 0) := hb0
      clear hb0
      go_wp2
      refine HK.out _ _ (wp_cond_true (by kernel_rfl) ?_)
      refine walk_down_act x gq kq _ s S cq c M' wr _ g27 q e b _ eb HS.out HH.out.2.2.2.1 HH.out.1 Hb0.out bN bN' rfl (HH.out.2.2.2.2.2 b) hk1 hvis hmv hdn.out (HR.out.drewN nq) (HG.out.drewN nq) ⟨Hhe.out.lt, Hhe.out.out, Hhe.out.c0, Hhe.out.c1⟩ Q ⟨by kernel_rfl, by kernel_rfl, by kernel_rfl, by kernel_rfl, by kernel_rfl, by kernel_rfl, by kernel_rfl, by kernel_rfl, by kernel_rfl, by kernel_rfl, by kernel_rfl, by kernel_rfl, by kernel_rfl⟩ (by kernel_rfl) (by kernel_rfl) (by kernel_rfl) (by kernel_rfl) ?_
      intro a w' M2 cq' hf h27 h28 h29 hSr
      refine HQ.out a w' _ hf ?_ (HGD.out (s.down e b) rfl (Nat.le_refl _))
      rw [h27, h28, h29]
      exact SRel.run hSr rfl rfl rfl rfl (HBD.out (s.down e b) rfl (Nat.le_refl _) (Nat.le_refl _))
    · have hb0' : ¬ ((s.idx b : Nat) : Int) = 0 := by omega
      go_wp2
      refine HK.out _ _ (wp_cond_f (((s.idx b : Nat) : Int) == 0) (by kernel_rfl) (by simpa using hb0) ?_)
      clear HK K
      show Code.wp Try.prog (Code.seq _ (Code.cond _ (BK (Try.f29.body.getD .skip)) Code.skip)) Q _ _
      refine wp_seq_k (fun K hK => ?_)
      have HK : Hid (∀ (a : Act) (w : World), Code.wp Try.prog (Code.cond (.tmp 342) (BK (Try.f29.body.getD .skip)) Code.skip) Q a w → K a w) := hK
      clear hK
      by_cases hbl : s.idx b < s.idx s.top
      · have hbk : Hid (HInv x.U (s.back e (s.idx b))) := by
          have h2 := HI.out.back_facts HH.out.2.2.2.2.1 hqs' (by rw [HH.out.1, HH.out.2.1]; exact hb0) (by rw [HH.out.1, HH.out.2.1]; exact hbl)
          have := HI.out.back HH.out.2.2.2.2.1 hqs' (by rw [HH.out.1, HH.out.2.1]; exact hb0) (by rw [HH.out.1, HH.out.2.1]; exact hbl) (by
            rw [HH.out.1, HH.out.2.2.1]
            intro h3
            by_cases hm2 : 2 ≤ s.m
            · exact hte.out hm2 h3
            · have hm1 : s.m = 1 := by omega
              have hr := HI.out.P.root
              have ht : s.top = s.nd 0 := by show s.nd (s.m - 1) = s.nd 0; rw [hm1]
              rw [ht, hr] at hbl
              omega)
          rw [HH.out.1, HH.out.2.1, HH.out.2.2.1] at this
          exact this
        go_quiet (fail)
        generalize hAA : Act.mk _ _ = AA
        have hev : AA.eval (.tmp 342) = .bool true := by rw [← hAA]; kernel_rfl
        have hfi : FIC x gq kq AA := by rw [← hAA]; exact ⟨by kernel_rfl, by kernel_rfl, by kernel_rfl, by kernel_rfl, by kernel_rfl, by kernel_rfl, by kernel_rfl, by kernel_rfl, by kernel_rfl, by kernel_rfl, by kernel_rfl, by kernel_rfl, by kernel_rfl⟩
        have h27 : AA.tmps.getD 27 undef = M'.val 27 := by rw [← hAA]; kernel_rfl
        have h28 : AA.tmps.getD 28 undef = .int .i64 (s.vis : Int) := by rw [← hAA]; kernel_rfl
        have h29 : AA.tmps.getD 29 undef = M'.val 23 := by rw [← hAA]; kernel_rfl
        have h31 : AA.tmps.getD 31 undef = .int .i64 (s.top : Int) := by rw [← hAA]; kernel_rfl
        have h32 : AA.tmps.getD 32 undef = .pointer (some ⟨eb, 0, none⟩) := by rw [← hAA]; kernel_rfl
        clear hAA
        refine HK.out _ _ (wp_cond_true hev ?_)
        refine walk_back_act x gq kq AA s S cq c M' wr _ g27 q e b _ eb HS.out HH.out.2.2.2.1 HH.out.1 rfl bN' tN' hk1 (by omega) hbk.out ((HR.out.drewN _).drewN _) ((HG.out.drewN _).drewN _) ⟨Hhe.out.lt, Hhe.out.out, Hhe.out.c0, Hhe.out.c1⟩ Q hfi h27 h28 h29 h31 h32 ?_
        intro a w' M2 cq' hf h27 h28 h29 h27' hSr
        refine HQ.out a w' _ hf ?_ (HGD.out (s.back e (s.idx b)) rfl (Nat.le_succ _))
        rw [h27, h28, h29, ← h27']
        exact SRel.run hSr rfl rfl rfl rfl (HBD.out (s.back e (s.idx b)) rfl (Nat.le_succ _) (Nat.le_refl _))
      · have hadv : Hid (HInv x.U s.adv) := HI.out.skip_down HH.out.2.2.2.2.1 hqs' (by
          rw [HH.out.1, HH.out.2.1]
          have : s.idx b ≠ s.idx s.top := fun h => bne (HI.out.P.idxinj _ _ hb0 h)
          omega)
        go_quiet (fail)
        refine HK.out _ _ (wp_cond_false (by kernel_rfl) (wp_skip ?_))
        refine HP.out hadv.out _ _ ⟨by kernel_rfl, by kernel_rfl, by kernel_rfl, by kernel_rfl, by kernel_rfl, by kernel_rfl, by kernel_rfl, by kernel_rfl, by kernel_rfl, by kernel_rfl, by kernel_rfl, by kernel_rfl, by kernel_rfl⟩ (by kernel_rfl) (by kernel_rfl) (by kernel_rfl) (fun _ _ => trivial) ⟨_, World.drewN_drewN _ _ _⟩
end Go.Proofs.Qxb6602148a
