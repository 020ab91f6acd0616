/-
  'split's search: what each step writes.
-/
import Derived.Test.Qxb6602148aSt
attribute [local go_sem] Go.Proofs.Qxb6602148a.yTo Go.Proofs.Qxb6602148a.yUpon
namespace Go.Proofs.Qxb6602148a
open Go.RowKit
set_option linter.unusedVariables false
set_option linter.unusedSimpArgs false

structure SMem (x : SC0) (idx low : Nat → Int) (m : Nat) (cq : Nat → Int) (k : Nat) (met : Nat → Int) (S : SS) (bl c : Int) (M' : Fam) (wr : World) : Prop where
  sin : SIn x.w x.M x.d.p x.q33 wr M' S.P
  sr : SR M' x.d idx low m cq k met S.laid S.slin bl c

section
variable {x : SC0} {idx low : Nat → Int} {m : Nat} {cq : Nat → Int} {k : Nat} {met : Nat → Int} {S : SS} {bl c : Int} {M' : Fam} {wr w2 : World}

theorem SMem.alloc (h : SMem x idx low m cq k met S bl c M' wr) (o : Obj) : SMem x idx low m cq k met S bl c M' (wr.alloc o) := ⟨h.sin.alloc o, h.sr⟩
theorem SMem.drew (h : SMem x idx low m cq k met S bl c M' wr) : SMem x idx low m cq k met S bl c M' wr.drew := ⟨h.sin.drew, h.sr⟩
theorem SMem.setix (h : SMem x idx low m cq k met S bl c M' wr) (j : Nat) (v : Int) : SMem x (upd idx j v) low m cq k met S bl c (M'.set 20 j (.int .i64 v)) (wr.setCell ⟨x.d.g20, j, none⟩ (.int .i64 v)) :=
  ⟨h.sin.setloc h.sr.ix.1 (by unfold Own; omega) (by unfold XA; omega) (by omega), h.sr.setix j v⟩
theorem SMem.setlw (h : SMem x idx low m cq k met S bl c M' wr) (j : Nat) (v : Int) : SMem x idx (upd low j v) m cq k met S bl c (M'.set 22 j (.int .i64 v)) (wr.setCell ⟨x.d.g22, j, none⟩ (.int .i64 v)) :=
  ⟨h.sin.setloc h.sr.lw.1 (by unfold Own; omega) (by unfold XA; omega) (by omega), h.sr.setlw j v⟩
theorem SMem.setcq (h : SMem x idx low m cq k met S bl c M' wr) {g27 : Nat} (hb : M'.b 27 = some g27) (j : Nat) (v : Int) : SMem x idx low m (upd cq j v) k met S bl c (M'.set 27 j (.int .i64 v)) (wr.setCell ⟨g27, j, none⟩ (.int .i64 v)) :=
  ⟨h.sin.setloc hb (by unfold Own; omega) (by unfold XA; omega) (by omega), h.sr.setcq j v⟩
theorem SMem.setbl (h : SMem x idx low m cq k met S bl c M' wr) (v : Int) : SMem x idx low m cq k met S v c (M'.set 24 0 (.int .i64 v)) (wr.setCell ⟨x.d.q24, 0, none⟩ (.int .i64 v)) :=
  ⟨h.sin.setloc h.sr.bb.1 (by unfold Own; omega) (by unfold XA; omega) (by omega), h.sr.setbl v⟩
theorem SMem.setc (h : SMem x idx low m cq k met S bl c M' wr) (v : Int) : SMem x idx low m cq k met S bl v (M'.set 25 0 (.int .i64 v)) (wr.setCell ⟨x.d.q25, 0, none⟩ (.int .i64 v)) :=
  ⟨h.sin.setloc h.sr.bb.2.1 (by unfold Own; omega) (by unfold XA; omega) (by omega), h.sr.setc v⟩
theorem SIn.putl {w wr w2 : World} {M M' : Fam} {p q33 : Nat} {P' : PS} (h : SIn w M p q33 wr M' P') {r n cap : Nat} {b : Option Nat} {F : Nat → Value} (hr : Own r) (hx : XA r) (h33 : r ≠ 33) (hR : Rep KP w2 (M'.put r b n cap F)) (hG : Grew M w (M'.put r b n cap F) w2) : SIn w M p q33 w2 (M'.put r b n cap F) P' :=
  ⟨hR, h.pm.put_local hr _ _ _ _, hG, h.loc.put (.inr hx) (by unfold Own at hr; omega), by rw [put_b (Ne.symm h33)]; exact h.b33, by rw [put_n (Ne.symm h33)]; exact h.n33, by rw [put_F (Ne.symm h33)]; exact h.f33⟩
theorem SMem.cutcall (h : SMem x idx low m cq k met S bl c M' wr) {m' : Nat} (hm : m' ≤ m) : SMem x idx low m' cq k met S bl c (M'.put 27 (M'.b 27) m' (M'.cap 27) (M'.F 27)) wr :=
  ⟨h.sin.putl (by unfold Own; omega) (by unfold XA; omega) (by omega) (h.sin.rep.shrink 27 (by rw [h.sr.cl.1]; exact hm)) (h.sin.grew.put (.inl rfl)), h.sr.cutcall hm _ _⟩
theorem SMem.cutmet (h : SMem x idx low m cq k met S bl c M' wr) {k' : Nat} (hk : k' ≤ k) : SMem x idx low m cq k' met S bl c (M'.put 23 (M'.b 23) k' (M'.cap 23) (M'.F 23)) wr :=
  ⟨h.sin.putl (by unfold Own; omega) (by unfold XA; omega) (by omega) (h.sin.rep.shrink 23 (by rw [h.sr.me.1]; exact hk)) (h.sin.grew.put (.inl rfl)), h.sr.cutmet hk _ _⟩
theorem SMem.pushmet (h : SMem x idx low m cq k met S bl c M' wr) (v : Int) {w1 : World} (hw : Grew x.M x.w M' w1) {g kk : Nat} (hR : Rep KP w2 (M'.put 23 (some g) (M'.n 23 + 1) kk (ext (M'.F 23) (M'.n 23 * 1) [.int .i64 v]))) (hG : Grew M' w1 (M'.put 23 (some g) (M'.n 23 + 1) kk (ext (M'.F 23) (M'.n 23 * 1) [.int .i64 v])) w2) :
    SMem x idx low m cq (k + 1) (upd met k v) S bl c (M'.put 23 (some g) (M'.n 23 + 1) kk (ext (M'.F 23) (M'.n 23 * 1) [.int .i64 v])) w2 :=
  ⟨h.sin.putl (by unfold Own; omega) (by unfold XA; omega) (by omega) hR (hw.trans hG), h.sr.pushmet v _ _⟩
theorem SMem.pushcall (h : SMem x idx low m cq k met S bl c M' wr) (u v z : Int) {w1 : World} (hw : Grew x.M x.w M' w1) {g kk : Nat} (hR : Rep KP w2 (M'.put 27 (some g) (M'.n 27 + 1) kk (ext (M'.F 27) (M'.n 27 * 3) [.int .i64 u, .int .i64 v, .int .i64 z]))) (hG : Grew M' w1 (M'.put 27 (some g) (M'.n 27 + 1) kk (ext (M'.F 27) (M'.n 27 * 3) [.int .i64 u, .int .i64 v, .int .i64 z])) w2) :
    SMem x idx low (m + 1) (upd (upd (upd cq (m * 3) u) (m * 3 + 1) v) (m * 3 + 2) z) k met S bl c (M'.put 27 (some g) (M'.n 27 + 1) kk (ext (M'.F 27) (M'.n 27 * 3) [.int .i64 u, .int .i64 v, .int .i64 z])) w2 :=
  ⟨h.sin.putl (by unfold Own; omega) (by unfold XA; omega) (by omega) hR (hw.trans hG), h.sr.pushcall u v z _ _⟩
end

theorem upd_cast (f : Nat → Nat) (i n : Nat) : upd (fun v => ((f v : Nat) : Int)) i ((n : Nat) : Int) = fun v => ((up f i n v : Nat) : Int) := by
  funext v
  unfold upd up
  split <;> rfl

/-- The calls' cells, told by the path. -/
def CqOk (s : HS) (cq : Nat → Int) : Prop := ∀ j, j < s.m → cq (j * 3) = ((s.nd j : Nat) : Int) ∧ cq (j * 3 + 1) = (if j = 0 then -1 else ((s.te (s.nd j) : Nat) : Int)) ∧ cq (j * 3 + 2) = ((s.sc (s.nd j) : Nat) : Int)

section
variable {x : SC0} {s : HS} {S : SS} {cq : Nat → Int} {c : Int} {M' : Fam} {wr : World}

theorem Srch.mem (h : Srch x s S cq c M' wr) : SMem x (fun v => ((s.idx v : Nat) : Int)) (fun v => ((s.low v : Nat) : Int)) s.m cq s.k (fun i => ((s.met i : Nat) : Int)) S (s.nb : Int) c M' wr := ⟨h.sin, h.sr⟩
theorem SMem.srch (h : SMem x (fun v => ((s.idx v : Nat) : Int)) (fun v => ((s.low v : Nat) : Int)) s.m cq s.k (fun i => ((s.met i : Nat) : Int)) S (s.nb : Int) c M' wr) (hc : CqOk s cq) (hq : SQ x.P0 x.LA x.U x.d.N x.str s S) : Srch x s S cq c M' wr := ⟨h.sin, h.sr, hc, hq⟩

theorem CqOk.adv {U : UG} (hi : HInv U s) (h : CqOk s cq) {s' : HS} (e1 : s'.m = s.m) (e2 : s'.nd = s.nd) (e3 : s'.te = s.te) (e4 : s'.sc = up s.sc s.top (s.sc s.top + 1)) : CqOk s' (upd cq ((s.m - 1) * 3 + 2) (((s.sc s.top + 1 : Nat) : Nat) : Int)) := by
  have hm := hi.P.mpos
  intro j hj
  rw [e1] at hj
  obtain ⟨a, b, c⟩ := h j hj
  rw [e2, e3, e4]
  refine ⟨by rw [upd_other _ _ (by omega)]; exact a, by rw [upd_other _ _ (by omega)]; exact b, ?_⟩
  by_cases e : j = s.m - 1
  · subst e
    rw [upd_same, show s.nd (s.m - 1) = s.top from rfl, up_same]
  · have ne : s.nd j ≠ s.top := fun h' => e (hi.nd_inj hj (by omega) h')
    rw [upd_other _ _ (by omega), up_other _ _ ne]; exact c

/-- The loop goes on, the entry looked at and passed by. -/
theorem Srch.pass (h : Srch x s S cq c M' wr) {g27 : Nat} (hb : M'.b 27 = some g27) {q : Nat} (hq : s.sc s.top = q) (hi : HInv x.U s.adv) : Srch x s.adv S (upd cq ((s.m - 1) * 3 + 2) ((q : Int) + 1)) c (M'.set 27 ((s.m - 1) * 3 + 2) (.int .i64 ((q : Int) + 1))) (wr.setCell ⟨g27, (s.m - 1) * 3 + 2, none⟩ (.int .i64 ((q : Int) + 1))) := by
  have m1 := h.mem.setcq hb ((s.m - 1) * 3 + 2) ((q : Int) + 1)
  have hc := CqOk.adv (s' := s.adv) h.sq.inv h.cqf rfl rfl rfl rfl
  have e : (((s.sc s.top + 1 : Nat) : Nat) : Int) = (q : Int) + 1 := by omega
  rw [e] at hc
  exact SMem.srch (s := s.adv) m1 hc (h.sq.next hi rfl rfl)
theorem Srch.alloc (h : Srch x s S cq c M' wr) (o : Obj) : Srch x s S cq c M' (wr.alloc o) := ⟨h.sin.alloc o, h.sr, h.cqf, h.sq⟩
theorem Srch.drew (h : Srch x s S cq c M' wr) : Srch x s S cq c M' wr.drew := ⟨h.sin.drew, h.sr, h.cqf, h.sq⟩

/-- An edge back. -/
theorem Srch.back (h : Srch x s S cq c M' wr) {g27 : Nat} (hb : M'.b 27 = some g27) {q e b : Nat} (hq : s.sc s.top = q) (hi : HInv x.U (s.back e b)) {w1 w2 : World} {g kk : Nat}
    (hw : Grew x.M x.w (M'.set 27 ((s.m - 1) * 3 + 2) (.int .i64 ((q : Int) + 1))) w1)
    (hR : Rep KP w2 ((M'.set 27 ((s.m - 1) * 3 + 2) (.int .i64 ((q : Int) + 1))).put 23 (some g) ((M'.set 27 ((s.m - 1) * 3 + 2) (.int .i64 ((q : Int) + 1))).n 23 + 1) kk (ext ((M'.set 27 ((s.m - 1) * 3 + 2) (.int .i64 ((q : Int) + 1))).F 23) ((M'.set 27 ((s.m - 1) * 3 + 2) (.int .i64 ((q : Int) + 1))).n 23 * 1) [.int .i64 (e : Int)])))
    (hG : Grew (M'.set 27 ((s.m - 1) * 3 + 2) (.int .i64 ((q : Int) + 1))) w1 ((M'.set 27 ((s.m - 1) * 3 + 2) (.int .i64 ((q : Int) + 1))).put 23 (some g) ((M'.set 27 ((s.m - 1) * 3 + 2) (.int .i64 ((q : Int) + 1))).n 23 + 1) kk (ext ((M'.set 27 ((s.m - 1) * 3 + 2) (.int .i64 ((q : Int) + 1))).F 23) ((M'.set 27 ((s.m - 1) * 3 + 2) (.int .i64 ((q : Int) + 1))).n 23 * 1) [.int .i64 (e : Int)])) w2) :
    Srch x (s.back e b) S (upd cq ((s.m - 1) * 3 + 2) ((q : Int) + 1)) c
      (((M'.set 27 ((s.m - 1) * 3 + 2) (.int .i64 ((q : Int) + 1))).put 23 (some g) ((M'.set 27 ((s.m - 1) * 3 + 2) (.int .i64 ((q : Int) + 1))).n 23 + 1) kk (ext ((M'.set 27 ((s.m - 1) * 3 + 2) (.int .i64 ((q : Int) + 1))).F 23) ((M'.set 27 ((s.m - 1) * 3 + 2) (.int .i64 ((q : Int) + 1))).n 23 * 1) [.int .i64 (e : Int)])).set 22 s.top (.int .i64 ((min (s.low s.top) b : Nat) : Int)))
      (w2.setCell ⟨x.d.g22, s.top, none⟩ (.int .i64 ((min (s.low s.top) b : Nat) : Int))) := by
  have m1 := ((h.mem.setcq hb ((s.m - 1) * 3 + 2) ((q : Int) + 1)).pushmet (e : Int) hw hR hG).setlw s.top ((min (s.low s.top) b : Nat) : Int)
  rw [upd_cast, upd_cast] at m1
  have hc := CqOk.adv (s' := s.back e b) h.sq.inv h.cqf rfl rfl rfl rfl
  have e1 : (((s.sc s.top + 1 : Nat) : Nat) : Int) = (q : Int) + 1 := by omega
  rw [e1] at hc
  exact SMem.srch (s := s.back e b) m1 hc (h.sq.next hi rfl rfl)

/-- Down to a node that is new. -/
theorem CqOk.down {U : UG} (hi : HInv U s) (h : CqOk s cq) {q e b z : Nat} (hb : b < U.N) (hb0 : s.idx b = 0) (hq : s.sc s.top = q) (hz : U.st b = z) :
    CqOk (s.down e b) (upd (upd (upd (upd cq ((s.m - 1) * 3 + 2) ((q : Int) + 1)) (s.m * 3) (b : Int)) (s.m * 3 + 1) (e : Int)) (s.m * 3 + 2) (z : Int)) := by
  have hm := hi.P.mpos
  have hti := hi.topidx
  have e1 : (((s.sc s.top + 1 : Nat) : Nat) : Int) = (q : Int) + 1 := by omega
  have hc := CqOk.adv (s' := s.adv) hi h rfl rfl rfl rfl
  rw [e1] at hc
  intro j hj
  have hj : j < s.m + 1 := hj
  show _ = ((up s.nd s.m b j : Nat) : Int) ∧ _ = (if j = 0 then -1 else ((up s.te b e (up s.nd s.m b j) : Nat) : Int)) ∧ _ = ((up s.sc s.top (s.sc s.top + 1) (up s.nd s.m b j) : Nat) : Int)
  by_cases ej : j = s.m
  · subst ej
    have nb : b ≠ s.top := fun h' => hti.2.1 (by rw [← h']; exact hb0)
    rw [up_same, up_same, up_other _ _ nb, hi.P.scun b hb hb0, hz]
    refine ⟨by rw [upd_other _ _ (by omega), upd_other _ _ (by omega), upd_same], by rw [upd_other _ _ (by omega), upd_same, if_neg (by omega)], by rw [upd_same]⟩
  · obtain ⟨a1, a2, a3⟩ := hc j (by show j < s.m; omega)
    have a1 : _ = ((s.nd j : Nat) : Int) := a1
    have a2 : _ = (if j = 0 then -1 else ((s.te (s.nd j) : Nat) : Int)) := a2
    have a3 : _ = ((up s.sc s.top (s.sc s.top + 1) (s.nd j) : Nat) : Int) := a3
    have nbj : s.nd j ≠ b := fun h' => by have := hi.nd_pos (show j < s.m by omega); rw [h', hb0] at this; omega
    rw [up_other _ _ ej, up_other _ _ nbj]
    refine ⟨by rw [upd_other _ _ (by omega), upd_other _ _ (by omega), upd_other _ _ (by omega)]; exact a1, by rw [upd_other _ _ (by omega), upd_other _ _ (by omega), upd_other _ _ (by omega)]; exact a2, by rw [upd_other _ _ (by omega), upd_other _ _ (by omega), upd_other _ _ (by omega)]; exact a3⟩

/-- The top is left. -/
theorem CqOk.cut (h : CqOk s cq) {s' : HS} (e1 : s'.m = s.m - 1) (e2 : s'.nd = s.nd) (e3 : s'.te = s.te) (e4 : s'.sc = s.sc) : CqOk s' cq := by
  intro j hj
  rw [e1] at hj
  rw [e2, e3, e4]
  exact h j (by omega)
theorem Srch.stay (h : Srch x s S cq c M' wr) (hi : HInv x.U s.stay) (hm : 2 ≤ s.m) :
    Srch x s.stay S cq c ((M'.put 27 (M'.b 27) (s.m - 1) (M'.cap 27) (M'.F 27)).set 22 s.par (.int .i64 ((min (s.low s.par) (s.low s.top) : Nat) : Int))) (wr.setCell ⟨x.d.g22, s.par, none⟩ (.int .i64 ((min (s.low s.par) (s.low s.top) : Nat) : Int))) := by
  have m1 := (h.mem.cutcall (m' := s.m - 1) (by omega)).setlw s.par ((min (s.low s.par) (s.low s.top) : Nat) : Int)
  rw [upd_cast] at m1
  exact SMem.srch (s := s.stay) m1 (CqOk.cut h.cqf rfl rfl rfl rfl) (h.sq.next hi rfl rfl)

/-- While a block is laid out. -/
structure Pop (x : SC0) (s : HS) (S : SS) (kk : Nat) (cq : Nat → Int) (M' : Fam) (wr : World) : Prop where
  mem : SMem x (fun v => ((s.idx v : Nat) : Int)) (fun v => ((up s.low s.par (min (s.low s.par) (s.low s.top)) v : Nat) : Int)) (s.m - 1) cq kk (fun i => ((s.met i : Nat) : Int)) S ((s.nb : Int) + 1) ((x.P0.cs (x.LA.nb + s.nb) : Nat) : Int) M' wr
  pq : PQ x.P0 x.LA x.U x.d.N x.str s S kk
  cqf : CqOk s cq

theorem Pop.finish {kk : Nat} (h : Pop x s S kk cq M' wr) (ok : x.U.Ok) (hinv : HInv x.U s) (hLA : ∀ e, x.LA.blk e ≤ x.LA.nb) (hm : 2 ≤ s.m) (hq : s.sc s.top = x.U.st (s.top + 1)) (hlow : s.idx s.par ≤ s.low s.top) (hkk : kk = s.pos (s.m - 1)) :
    ∃ s', Srch x s' S cq ((x.P0.cs (x.LA.nb + s.nb) : Nat) : Int) M' wr ∧ s'.vis = s.vis ∧ s'.sc = s.sc ∧ s'.m = s.m - 1 := by
  obtain ⟨bk, hs⟩ := h.pq.finish ok hinv hLA hm hq hlow hkk
  subst hkk
  exact ⟨s.cut bk, SMem.srch (s := s.cut bk) h.mem (CqOk.cut h.cqf rfl rfl rfl rfl) hs, rfl, rfl, rfl⟩
end

theorem UG.Ok.st_le {g : UG} (ok : g.Ok) {v v' : Nat} (h : v ≤ v') : g.st v ≤ g.st v' := by
  induction h with
  | refl => exact Nat.le_refl _
  | step _ ih => exact Nat.le_trans ih (ok.mono _)
theorem ev_at (eN eE : Nat → Nat) (q : Nat) : ev eN eE (q * 2) = .int .i64 ((eN q : Nat) : Int) ∧ ev eN eE (q * 2 + 1) = .int .i64 ((eE q : Nat) : Int) := by
  unfold ev
  rw [show (q * 2) % 2 = 0 by omega, show (q * 2) / 2 = q by omega, show (q * 2 + 1) / 2 = q by omega]
  rw [if_pos rfl, if_neg (show ¬ (q * 2 + 1) % 2 = 0 by omega)]
  exact ⟨rfl, rfl⟩
/-- One more round of the search. -/
theorem SRel.run {x : SC0} {s : HS} {S : SS} {cq : Nat → Int} {c : Int} {M' : Fam} {wr : World} (h : Srch x s S cq c M' wr) {n : Nat} (hn : n = 2 * gap x.U s.sc x.U.N + s.m) {a b d : Value} (ha : a = M'.val 27) (hb : b = .int .i64 ((s.vis : Nat) : Int)) (hd : d = M'.val 23) (hB : Bd x s) : SRel x n a b d wr :=
  .inl ⟨s, S, cq, c, M', h, ha, hb, hd, hn, hB⟩
theorem HInv.m_le {g : UG} {s : HS} (h : HInv g s) : s.m ≤ s.vis := by
  have key : ∀ j, j < s.m → j + 1 ≤ s.idx (s.nd j) := by
    intro j
    induction j with
    | zero => intro hj; exact h.nd_pos hj
    | succ j ih =>
      intro hj
      have h1 := ih (by omega)
      have h2 := h.P.ndidx j (j + 1) (by omega) hj
      omega
  have hm := h.P.mpos
  have h1 := key (s.m - 1) (by omega)
  have h2 := h.P.idxle (s.nd (s.m - 1))
  omega
/-- A block that is no row's. -/
theorem Grew.cell_out {M M' : Fam} {w w' : World} (h : Grew M w M' w') {k o : Nat} (hk : k < w.heap.size) (hn : ∀ i, M.b i ≠ some k) : w'.cell? ⟨k, o, none⟩ = w.cell? ⟨k, o, none⟩ := by
  simp only [World.cell?, h.block k hk hn]
theorem Grew.frozen_out {M M' : Fam} {w w' : World} (h : Grew M w M' w') {k o : Nat} (hk : k < w.heap.size) (hn : ∀ i, M.b i ≠ some k) : w'.frozen? ⟨k, o, none⟩ = w.frozen? ⟨k, o, none⟩ := by
  simp only [World.frozen?, h.block k hk hn]
/-- Down to a node that is new: the memory. -/
theorem Srch.down {x : SC0} {s : HS} {S : SS} {cq : Nat → Int} {c : Int} {M' : Fam} {wr : World} (h : Srch x s S cq c M' wr) {g27 : Nat} (hb : M'.b 27 = some g27) {q e b z : Nat} (hq : s.sc s.top = q) (hbN : b < x.U.N) (hb0 : s.idx b = 0) (hz : x.U.st b = z) (hi : HInv x.U (s.down e b)) {M2 M3 : Fam} {w1 w2 w3 w4 : World} {g kk g' kk' : Nat}
    (hw : Grew x.M x.w (M'.set 27 ((s.m - 1) * 3 + 2) (.int .i64 ((q : Int) + 1))) w1)
    (e2 : M2 = (M'.set 27 ((s.m - 1) * 3 + 2) (.int .i64 ((q : Int) + 1))).put 23 (some g) ((M'.set 27 ((s.m - 1) * 3 + 2) (.int .i64 ((q : Int) + 1))).n 23 + 1) kk (ext ((M'.set 27 ((s.m - 1) * 3 + 2) (.int .i64 ((q : Int) + 1))).F 23) ((M'.set 27 ((s.m - 1) * 3 + 2) (.int .i64 ((q : Int) + 1))).n 23 * 1) [.int .i64 (e : Int)]))
    (hR : Rep KP w2 M2) (hG : Grew (M'.set 27 ((s.m - 1) * 3 + 2) (.int .i64 ((q : Int) + 1))) w1 M2 w2)
    (e3 : M3 = (M2.set 20 b (.int .i64 ((s.vis + 1 : Nat) : Int))).set 22 b (.int .i64 ((s.vis + 1 : Nat) : Int)))
    (hw3 : Grew x.M x.w M3 w3)
    (hR4 : Rep KP w4 (M3.put 27 (some g') (M3.n 27 + 1) kk' (ext (M3.F 27) (M3.n 27 * 3) [.int .i64 (b : Int), .int .i64 (e : Int), .int .i64 (z : Int)])))
    (hG4 : Grew M3 w3 (M3.put 27 (some g') (M3.n 27 + 1) kk' (ext (M3.F 27) (M3.n 27 * 3) [.int .i64 (b : Int), .int .i64 (e : Int), .int .i64 (z : Int)])) w4) :
    Srch x (s.down e b) S (upd (upd (upd (upd cq ((s.m - 1) * 3 + 2) ((q : Int) + 1)) (s.m * 3) (b : Int)) (s.m * 3 + 1) (e : Int)) (s.m * 3 + 2) (z : Int)) c (M3.put 27 (some g') (M3.n 27 + 1) kk' (ext (M3.F 27) (M3.n 27 * 3) [.int .i64 (b : Int), .int .i64 (e : Int), .int .i64 (z : Int)])) w4 := by
  subst e2 e3
  have m1 := ((((h.mem.setcq hb ((s.m - 1) * 3 + 2) ((q : Int) + 1)).pushmet (e : Int) hw hR hG).setix b ((s.vis + 1 : Nat) : Int)).setlw b ((s.vis + 1 : Nat) : Int)).pushcall (b : Int) (e : Int) (z : Int) hw3 hR4 hG4
  rw [upd_cast, upd_cast, upd_cast] at m1
  exact SMem.srch (s := s.down e b) m1 (CqOk.down h.sq.inv h.cqf hbN hb0 hq hz) (h.sq.next hi rfl rfl)
end Go.Proofs.Qxb6602148a
