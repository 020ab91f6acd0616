import Derived.Test.Qxb6602148aWj
attribute [local go_sem] Go.Proofs.Qxb6602148a.yTo Go.Proofs.Qxb6602148a.yUpon
namespace Go.Proofs.Qxb6602148a
open Go.RowKit
set_option linter.unusedVariables false
set_option linter.unusedSimpArgs false

def lenV : Value → Nat
  | .slice _ n _ => n
  | _ => 0

/-- What holds at the head of each round of the loop that lays a block out. -/
def I8 (x : SC0) (gq kq : Nat) (s : HS) (cq : Nat → Int) (v27 vv : Value) (via : Nat) (a : Act) (w : World) : Prop :=
  FIC x gq kq a ∧ a.tmps.getD 27 undef = v27 ∧ a.tmps.getD 28 undef = .int .i64 (s.vis : Int) ∧ a.tmps.getD 33 undef = .int .i64 (via : Int) ∧
    ∃ S kk M, s.pos (s.m - 1) < kk ∧ a.tmps.getD 29 undef = M.val 23 ∧ M.val 27 = vv ∧ Pop x s S kk cq M w

theorem walk_loop8 (x : SC0) (gq kq : Nat) (a0 : Act) (v27 vv : Value) (s : HS) (cq : Nat → Int) (via : Nat) (w : World) (hx : SCx x) (hinv : HInv x.U s) (hm : 2 ≤ s.m) (hk : s.k ≤ 137438953472) (hvia : s.te s.top = via) (h0 : I8 x gq kq s cq v27 vv via a0 w) (Q : Exit → Act → World → Prop)
    (hQ : ∀ (a : Act) (w' : World) (S' : SS) (M6 : Fam), FIC x gq kq a → a.tmps.getD 27 undef = v27 → a.tmps.getD 28 undef = .int .i64 (s.vis : Int) → a.tmps.getD 29 undef = M6.val 23 → M6.val 27 = vv → Pop x s S' (s.pos (s.m - 1)) cq M6 w' → Q .normal a w') :
    Code.wp Try.prog (tl 2 (CUT (Try.f29.body.getD .skip))) Q a0 w := by
  have pst := hinv.M.poste (s.m - 1) (by omega) (by omega)
  have pv : s.met (s.pos (s.m - 1)) = via := pst.2.trans hvia
  show Code.wp Try.prog (Code.block 15 (Code.loop (Code.block 16 (B16 (Try.f29.body.getD .skip))))) Q a0 w
  refine wp_block ?_
  refine wp_loop (I8 x gq kq s cq v27 vv via) (fun a _ => lenV (a.tmps.getD 29 undef)) h0 ?_
  rintro a wr ⟨hf, h27, h28, h33, S, kk, M, hkk, h29, hvv, hP⟩
  refine wp_block ?_
  obtain ⟨y, hy, hyi⟩ := lit_of2 hf
  have hlen : lenV (a.tmps.getD 29 undef) = kk := by
    rw [h29]
    show M.n 23 = kk
    exact hP.mem.sr.me.1
  have kk2 := hP.pq.kk2
  have key : ∀ (a' : Act) (w' : World) (M6 : Fam) (S' : SS), FIC x gq kq a' → a'.tmps.getD 27 undef = v27 → a'.tmps.getD 28 undef = .int .i64 (s.vis : Int) → a'.tmps.getD 29 undef = M6.val 23 → a'.tmps.getD 33 undef = .int .i64 (via : Int) → M6.val 27 = M.val 27 → Pop x s S' (kk - 1) cq M6 w' →
      (s.met (kk - 1) = via → (Exit.inBlock 16 (Exit.then (fun a' w' => I8 x gq kq s cq v27 vv via a' w' ∧ lenV (a'.tmps.getD 29 undef) < lenV (a.tmps.getD 29 undef)) (Exit.inBlock 15 Q))) (.exit 15) a' w') ∧
      (s.met (kk - 1) ≠ via → (Exit.inBlock 16 (Exit.then (fun a' w' => I8 x gq kq s cq v27 vv via a' w' ∧ lenV (a'.tmps.getD 29 undef) < lenV (a.tmps.getD 29 undef)) (Exit.inBlock 15 Q))) .normal a' w') := by
    intro a' w' M6 S' f1 f2 f3 f4 f5 f6 hP'
    have l6 : lenV (a'.tmps.getD 29 undef) = kk - 1 := by
      rw [f4]
      show M6.n 23 = kk - 1
      exact hP'.mem.sr.me.1
    refine ⟨fun he => ?_, fun he => ?_⟩
    · have hpos : kk - 1 = s.pos (s.m - 1) := hinv.M.metinj _ _ (by omega) pst.1 (he.trans pv.symm)
      rw [hpos] at hP'
      exact hQ a' w' S' M6 f1 f2 f3 f4 (f6.trans hvv) hP'
    · have hpos : kk - 1 ≠ s.pos (s.m - 1) := fun h => he (by rw [h]; exact pv)
      refine ⟨⟨f1, f2, f3, f5, S', kk - 1, M6, by omega, f4, f6.trans hvv, hP'⟩, ?_⟩
      rw [l6, hlen]
      omega
  have h3 := walk_b16 x gq kq y v27 (a.tmps.getD 30 undef) (a.tmps.getD 31 undef) (a.tmps.getD 32 undef) (.int .i64 (via : Int)) s S kk cq M wr hP hkk hx hinv hm hk via rfl ((hyi 33).trans h33) _ key
  rw [h27, h28, h29] at hy
  rw [hy]
  rw [hy] at h3
  exact h3
end Go.Proofs.Qxb6602148a
