import Derived.Test.Qxb6602148aWe
attribute [local go_sem] Go.Proofs.Qxb6602148a.yTo Go.Proofs.Qxb6602148a.yUpon
namespace Go.Proofs.Qxb6602148a
open Go.RowKit
set_option linter.unusedVariables false
set_option linter.unusedSimpArgs false

theorem cell_new (w : World) (cs : Array Value) (t : TypeId) (k : Nat) (hk : k = w.heap.size) (j : Nat) : (w.alloc (.cells cs t)).cell? ⟨k, j, none⟩ = cs[j]? := by
  subst hk
  unfold World.cell?
  rw [heap_alloc_new]
  rfl

def EA' (c : Code) : Code := cT (tl 1 (sL (tl 2 (D13 c))))
def PB' (c : Code) : Code := tl 3 (D13 c)

set_option maxRecDepth 40000 in
set_option maxHeartbeats 8000000 in
/-- A round that looks at one more entry; or that finds none left: then 'PB'' follows. -/
theorem walk_D13 (x : SC0) (gq kq : Nat) (y : Nat → Value) (v30 v31 v32 : Value) (s : HS) (S : SS) (cq : Nat → Int) (c : Int) (M' : Fam) (wr : World) (hS : Srch x s S cq c M' wr) (hBd : Bd x s) (ok : x.U.Ok) (hUN : x.U.N = x.d.N) (hst : ∀ v, x.d.st v = ((x.U.st v : Nat) : Int)) (hen : x.d.en = ev x.U.eN x.U.eE) (hTe : x.U.st x.d.N = x.d.T) (hT : x.d.T ≤ 137438953472) (hN : x.d.N ≤ 4096)
    (Q : Exit → Act → World → Prop) (hQ : Go1 x gq kq s (Q (.exit 13)))
    (hP : s.sc s.top = x.U.st (s.top + 1) → ∀ (a : Act) (n : Nat) (g27 : Nat), FIC x gq kq a → a.tmps.getD 27 undef = M'.val 27 → a.tmps.getD 28 undef = .int .i64 (s.vis : Int) → a.tmps.getD 29 undef = M'.val 23 → M'.b 27 = some g27 → a.tmps.getD 30 undef = .pointer (some ⟨g27, (s.m - 1) * 3, none⟩) → a.tmps.getD 31 undef = .int .i64 (s.top : Int) → Code.wp Try.prog (PB' (Try.f29.body.getD .skip)) Q a (wr.drewN n)) :
    Code.wp Try.prog (D13 (Try.f29.body.getD .skip)) Q (LIT y x gq kq (M'.val 27) (.int .i64 (s.vis : Int)) (M'.val 23) v30 v31 v32) wr := by
  have inv := hS.sq.inv
  have mp := inv.P.mpos
  obtain ⟨t1, t2, t3⟩ := inv.topidx
  have bd := inv.P.scbd s.top t1
  have tN' : s.top < x.d.N := by omega
  obtain ⟨g27, b27⟩ := hS.sin.rep.hasBlock (i := 27) (by rw [hS.sr.cl.1]; omega)
  have cl := hS.cqf (s.m - 1) (by omega)
  have tt : s.nd (s.m - 1) = s.top := rfl
  have c0 := (hS.sin.rep.cell b27 (j := (s.m - 1) * 3) (by rw [hS.sr.cl.1]; show (s.m - 1) * 3 < s.m * 3; omega)).trans (congrArg some (hS.sr.cl.2 _ (by omega)))
  have c2 := (hS.sin.rep.cell b27 (j := (s.m - 1) * 3 + 2) (by rw [hS.sr.cl.1]; show (s.m - 1) * 3 + 2 < s.m * 3; omega)).trans (congrArg some (hS.sr.cl.2 _ (by omega)))
  rw [cl.1, tt] at c0
  rw [cl.2.2, tt] at c2
  have cs1 : wr.cell? ⟨x.d.g16, s.top + 1, none⟩ = some (.int .i64 ((x.U.st (s.top + 1) : Nat) : Int)) := by rw [← hst]; exact hS.sr.st.2.1.cell hS.sin.rep hS.sr.st.1 rfl (by omega)
  have l27 := hS.sin.rep.le_cap 27
  rw [hS.sr.cl.1] at l27
  have v27 : M'.val 27 = .slice (some ⟨g27, 0, none⟩) s.m (M'.cap 27) := by rw [val_some b27, hS.sr.cl.1]
  have hmv := inv.m_le
  have hvis : s.vis ≤ 137438953473 := by have := hBd.1; omega
  have f27 := hS.sin.rep.frozen b27 ((s.m - 1) * 3 + 2)
  have hqT : x.U.st (s.top + 1) ≤ x.d.T := by rw [← hTe]; exact ok.st_le (by omega)
  have HQ : Hid (Go1 x gq kq s (Q (.exit 13))) := hQ
  have HPP : Hid (s.sc s.top = x.U.st (s.top + 1) → ∀ (a : Act) (n : Nat) (g27 : Nat), FIC x gq kq a → a.tmps.getD 27 undef = M'.val 27 → a.tmps.getD 28 undef = .int .i64 (s.vis : Int) → a.tmps.getD 29 undef = M'.val 23 → M'.b 27 = some g27 → a.tmps.getD 30 undef = .pointer (some ⟨g27, (s.m - 1) * 3, none⟩) → a.tmps.getD 31 undef = .int .i64 (s.top : Int) → Code.wp Try.prog (PB' (Try.f29.body.getD .skip)) Q a (wr.drewN n)) := hP
  have HS : Hid (Srch x s S cq c M' wr) := hS
  have HH : Hid (M'.b 27 = some g27 ∧ x.U.Ok ∧ (∀ v, x.d.st v = ((x.U.st v : Nat) : Int)) ∧ x.d.en = ev x.U.eN x.U.eE ∧ Bd x s) := ⟨b27, ok, hst, hen, hBd⟩
  have HV : Hid (M'.val 27 = .slice (some ⟨g27, 0, none⟩) s.m (M'.cap 27)) := v27
  have Hbd : Hid (x.U.st s.top ≤ s.sc s.top ∧ s.sc s.top ≤ x.U.st (s.top + 1)) := bd
  have hsb := bd.2
  clear hQ hP hS ok hst hen hBd inv cl b27 tt t3 t2 bd
  unfold LIT LITv
  rw [v27]
  clear v27
  show Code.wp Try.prog (Code.seq _ (Code.seq _ (Code.seq (Code.seq _ (Code.cond _ (EA' (Try.f29.body.getD .skip)) Code.skip)) (PB' (Try.f29.body.getD .skip))))) Q _ wr
  refine wp_seq_k (fun K hK => ?_)
  have HK : Hid (∀ (a : Act) (w : World), _ → K a w) := hK
  clear hK
  go_wp2
  refine HK.out _ _ ?_
  clear HK K
  refine wp_seq_k (fun K hK => ?_)
  have HK : Hid (∀ (a : Act) (w : World), _ → K a w) := hK
  clear hK
  go_wp2
  refine HK.out _ _ ?_
  clear HK K
  refine wp_seq_k (fun K hK => ?_)
  have HK : Hid (∀ (a : Act) (w : World), Code.wp Try.prog (PB' (Try.f29.body.getD .skip)) Q a w → K a w) := hK
  clear hK
  refine wp_seq_k (fun K2 hK => ?_)
  have HK2 : Hid (∀ (a : Act) (w : World), Code.wp Try.prog (Code.cond (.tmp 282) (EA' (Try.f29.body.getD .skip)) Code.skip) (Exit.then K Q) a w → K2 a w) := hK
  clear hK
  have hw1 : IntKind.i64.wrap ((s.top : Int) + 1) = (s.top : Int) + 1 := by rw [IntKind.wrap_i64]; omega
  have h01 : (0 : Int) ≤ (s.top : Int) + 1 := by omega
  have h02 : (s.top : Int) + 1 < (x.d.N : Int) + 1 := by omega
  have h03 : ((s.top : Int) + 1).toNat = s.top + 1 := by omega
  by_cases hq : s.sc s.top < x.U.st (s.top + 1)
  · have hqn : s.sc s.top < x.d.T := by omega
    have e0 : wr.cell? ⟨x.d.g21, s.sc s.top * 2, none⟩ = some (.int .i64 ((x.U.eN (s.sc s.top) : Nat) : Int)) := by
      rw [HS.out.sin.rep.cell HS.out.sr.en.1 (by rw [HS.out.sr.en.2.1]; show s.sc s.top * 2 < x.d.T * 2; omega), HS.out.sr.en.2.2.1 _ (by omega), HH.out.2.2.2.1, (ev_at _ _ _).1]
    have e1 : wr.cell? ⟨x.d.g21, s.sc s.top * 2 + 1, none⟩ = some (.int .i64 ((x.U.eE (s.sc s.top) : Nat) : Int)) := by
      rw [HS.out.sin.rep.cell HS.out.sr.en.1 (by rw [HS.out.sr.en.2.1]; show s.sc s.top * 2 + 1 < x.d.T * 2; omega), HS.out.sr.en.2.2.1 _ (by omega), HH.out.2.2.2.1, (ev_at _ _ _).2]
    have s27 := HS.out.sin.rep.lt HH.out.1
    have s21 := HS.out.sin.rep.lt HS.out.sr.en.1
    go_quiet (fail)
    refine HK2.out _ _ (wp_cond_true (by kernel_rfl) ?_)
    clear HK2 K2
    have c2' : (wr.drewN nq).cell? ⟨g27, (s.m - 1) * 3 + 2, none⟩ = some (.int .i64 ((s.sc s.top : Nat) : Int)) := c2
    have e0' : (wr.drewN nq).cell? ⟨x.d.g21, s.sc s.top * 2, none⟩ = some (.int .i64 ((x.U.eN (s.sc s.top) : Nat) : Int)) := e0
    have e1' : (wr.drewN nq).cell? ⟨x.d.g21, s.sc s.top * 2 + 1, none⟩ = some (.int .i64 ((x.U.eE (s.sc s.top) : Nat) : Int)) := e1
    have f27' : (wr.drewN nq).frozen? ⟨g27, (s.m - 1) * 3 + 2, none⟩ = false := f27
    have s27' : g27 < (wr.drewN nq).heap.size := s27
    have s21' : x.d.g21 < (wr.drewN nq).heap.size := s21
    have HSq : Hid (Srch x s S cq c M' (wr.drewN nq)) := ⟨⟨HS.out.sin.rep.drewN nq, HS.out.sin.pm, HS.out.sin.grew.drewN nq, HS.out.sin.loc, HS.out.sin.b33, HS.out.sin.n33, HS.out.sin.f33⟩, HS.out.sr, HS.out.cqf, HS.out.sq⟩
    clear c0 c2 e0 e1 f27 s27 s21 HS HPP cs1
    generalize wr.drewN nq = wq at *
    show Code.wp Try.prog (Code.seq _ (Code.seq _ (Code.seq (Code.block 14 (B14 (Try.f29.body.getD .skip))) (Code.exit 13)))) (Exit.then K Q) _ _
    refine wp_seq_k (fun K2 hK => ?_)
    have HK2 : Hid (∀ (a : Act) (w : World), _ → K2 a w) := hK
    clear hK
    go_wp2
    refine HK2.out _ _ ?_
    clear HK2 K2
    refine wp_seq_k (fun K2 hK => ?_)
    have HK2 : Hid (∀ (a : Act) (w : World), _ → K2 a w) := hK
    clear hK
    go_wp2
    refine HK2.out _ _ ?_
    clear HK2 K2
    refine wp_seq ?_
    refine wp_block ?_
    have hb27 := HH.out.1
    have fin : ∀ (y' : Nat → Value), Code.wp Try.prog (B14 (Try.f29.body.getD .skip)) (Exit.inBlock 14 (Exit.then (Code.wp Try.prog (Code.exit 13) (Exit.then K Q)) (Exit.then K Q))) (LIT y' x gq kq (M'.val 27) (.int .i64 (s.vis : Int)) (M'.val 23) (.pointer (some ⟨g27, (s.m - 1) * 3, none⟩)) (.int .i64 (s.top : Int)) (.pointer (some ⟨wq.heap.size, 0, none⟩)))
        ((wq.setCell ⟨g27, (s.m - 1) * 3 + 2, none⟩ (.int .i64 ((s.sc s.top : Int) + 1))).alloc (.cells #[.int .i64 ((x.U.eN (s.sc s.top) : Nat) : Int), .int .i64 ((x.U.eE (s.sc s.top) : Nat) : Int)] 62)) := by
      intro y'
      refine walk_entry x gq kq y' s S cq c M' wq _ g27 (s.sc s.top) (x.U.eE (s.sc s.top)) (x.U.eN (s.sc s.top)) wq.heap.size HSq.out hb27 rfl hq rfl rfl HH.out.2.1 hUN HH.out.2.2.1 HH.out.2.2.2.2 hT ((HSq.out.sin.rep.set hb27 _ _).alloc _) ((HSq.out.sin.grew.set ⟨27, hb27⟩ _ _ _ _).alloc _) (fun h hi => (h.pass hb27 rfl hi).alloc _) ⟨by simp [World.setCell], ?_, ?_, ?_⟩ _ ?_
      · intro i hi
        have := HSq.out.sin.rep.lt (i := i) hi
        omega
      · exact cell_new _ _ _ _ (by simp [World.setCell]) 0
      · exact cell_new _ _ _ _ (by simp [World.setCell]) 1
      · intro a w' n hf hr hlt
        exact wp_exit (HQ.out a w' n hf hr hlt)
    generalize hAA : Act.mk _ _ = AA
    have hfi : FIC x gq kq AA := by rw [← hAA]; exact ⟨by kernel_rfl, by kernel_rfl, by kernel_rfl, by kernel_rfl, by kernel_rfl, by kernel_rfl, by kernel_rfl, by kernel_rfl, by kernel_rfl, by kernel_rfl, by kernel_rfl, by kernel_rfl, by kernel_rfl⟩
    have h27 : AA.tmps.getD 27 undef = M'.val 27 := by rw [HV.out, ← hAA]; kernel_rfl
    have h28 : AA.tmps.getD 28 undef = .int .i64 (s.vis : Int) := by rw [← hAA]; kernel_rfl
    have h29 : AA.tmps.getD 29 undef = M'.val 23 := by rw [← hAA]; kernel_rfl
    have h30 : AA.tmps.getD 30 undef = .pointer (some ⟨g27, (s.m - 1) * 3, none⟩) := by rw [← hAA]; kernel_rfl
    have h31 : AA.tmps.getD 31 undef = .int .i64 (s.top : Int) := by rw [← hAA]; kernel_rfl
    have h32 : AA.tmps.getD 32 undef = .pointer (some ⟨wq.heap.size, 0, none⟩) := by rw [← hAA]; kernel_rfl
    clear hAA
    obtain ⟨y', hy'⟩ := lit_of hfi
    rw [h27, h28, h29, h30, h31, h32] at hy'
    rw [hy']
    exact fin y'
  · have hqe : s.sc s.top = x.U.st (s.top + 1) := by omega
    go_quiet (fail)
    refine HK2.out _ _ (wp_cond_false (by kernel_rfl) (wp_skip ?_))
    refine HK.out _ _ (HPP.out hqe _ nq g27 ⟨by kernel_rfl, by kernel_rfl, by kernel_rfl, by kernel_rfl, by kernel_rfl, by kernel_rfl, by kernel_rfl, by kernel_rfl, by kernel_rfl, by kernel_rfl, by kernel_rfl, by kernel_rfl, by kernel_rfl⟩ (Eq.trans (by kernel_rfl) HV.out.symm) (by kernel_rfl) (by kernel_rfl) HH.out.1 (by kernel_rfl) (by kernel_rfl))
end Go.Proofs.Qxb6602148a
