/-
  'split': THE SEARCH, as the walk carries it.
-/
import Derived.Test.Qxb6602148aSz
attribute [local go_sem] Go.Proofs.Qxb6602148a.yTo Go.Proofs.Qxb6602148a.yUpon
namespace Go.Proofs.Qxb6602148a
open Go.RowKit
set_option linter.unusedVariables false
set_option linter.unusedSimpArgs false

/-- The least number that fits. -/
theorem least_ex (R : Nat → Prop) (h : ∃ n, R n) : ∃ n, R n ∧ ∀ m, R m → n ≤ m := by
  have key : ∀ b, (∃ n, n ≤ b ∧ R n) → ∃ n, R n ∧ ∀ m, R m → n ≤ m := by
    intro b
    induction b with
    | zero => rintro ⟨n, hn, hr⟩; exact ⟨n, hr, fun m _ => by omega⟩
    | succ b ih =>
      rintro ⟨n, hn, hr⟩
      by_cases hex : ∃ n, n ≤ b ∧ R n
      · exact ih hex
      · exact ⟨n, hr, fun m hm => by
          rcases Nat.lt_or_ge m n with hlt | hge
          · exact absurd ⟨m, by omega, hm⟩ hex
          · exact hge⟩
  obtain ⟨n, hn⟩ := h
  exact key n ⟨n, Nat.le_refl _, hn⟩
/-- A measure out of a relation that bears one. -/
theorem least3 (R : Nat → Value → Value → Value → World → Prop) : ∃ mz : Value → Value → Value → World → Nat, ∀ a b c w, (∃ n, R n a b c w) → R (mz a b c w) a b c w ∧ ∀ n, R n a b c w → mz a b c w ≤ n := by
  have : ∀ x : Value × Value × Value × World, ∃ n : Nat, (∃ n, R n x.1 x.2.1 x.2.2.1 x.2.2.2) → R n x.1 x.2.1 x.2.2.1 x.2.2.2 ∧ ∀ m, R m x.1 x.2.1 x.2.2.1 x.2.2.2 → n ≤ m := by
    intro x
    by_cases h : ∃ n, R n x.1 x.2.1 x.2.2.1 x.2.2.2
    · obtain ⟨n, h1, h2⟩ := least_ex _ h
      exact ⟨n, fun _ => ⟨h1, h2⟩⟩
    · exact ⟨0, fun h' => absurd h' h⟩
  obtain ⟨f, hf⟩ := Classical.axiomOfChoice this
  exact ⟨fun a b c w => f (a, b, c, w), fun a b c w h => hf (a, b, c, w) h⟩

/-- How many entries are still to be looked at. -/
def gap (U : UG) (sc : Nat → Nat) : Nat → Nat
  | 0 => 0
  | v + 1 => gap U sc v + (U.st (v + 1) - sc v)
theorem gap_le {U : UG} {sc : Nat → Nat} {u : Nat} : ∀ n, n ≤ u → gap U (up sc u (sc u + 1)) n = gap U sc n
  | 0, _ => rfl
  | n + 1, h => by
    show gap U _ n + (U.st (n + 1) - up sc u (sc u + 1) n) = gap U sc n + (U.st (n + 1) - sc n)
    rw [gap_le n (by omega), up_other _ _ (by omega)]
theorem gap_up {U : UG} {sc : Nat → Nat} {u : Nat} (hs : sc u < U.st (u + 1)) : ∀ n, u < n → gap U (up sc u (sc u + 1)) n + 1 = gap U sc n
  | 0, h => by omega
  | n + 1, h => by
    show gap U _ n + (U.st (n + 1) - up sc u (sc u + 1) n) + 1 = gap U sc n + (U.st (n + 1) - sc n)
    by_cases e : u = n
    · subst e; rw [gap_le u (Nat.le_refl _), up_same]; omega
    · have := gap_up hs n (by omega)
      rw [up_other _ _ (by omega)]; omega

/-- What the call brought, what it has laid before the search. -/
structure SC0 where
  w : World
  M : Fam
  q33 : Nat
  d : SD
  P0 : PS
  LA : LS
  U : UG
  str : Nat → Nat

structure Srch (x : SC0) (s : HS) (S : SS) (cq : Nat → Int) (c : Int) (M' : Fam) (wr : World) : Prop where
  sin : SIn x.w x.M x.d.p x.q33 wr M' S.P
  sr : SR M' x.d (fun v => ((s.idx v : Nat) : Int)) (fun v => ((s.low v : Nat) : Int)) s.m cq s.k (fun i => ((s.met i : Nat) : Int)) S.laid S.slin (s.nb : Int) c
  cqf : ∀ j, j < s.m → cq (j * 3) = ((s.nd j : Nat) : Int) ∧ cq (j * 3 + 1) = (if j = 0 then -1 else ((s.te (s.nd j) : Nat) : Int)) ∧ cq (j * 3 + 2) = ((s.sc (s.nd j) : Nat) : Int)
  sq : SQ x.P0 x.LA x.U x.d.N x.str s S

/-- All blocks have been laid out. -/
structure SFin (x : SC0) (s : HS) (S : SS) (M' : Fam) (wr : World) : Prop where
  sin : SIn x.w x.M x.d.p x.q33 wr M' S.P
  sq : SQ x.P0 x.LA x.U x.d.N x.str s S
  m1 : s.m = 1
  sc : s.sc s.top = x.U.st (s.top + 1)

/-- How far the numbers go. -/
def Bd (x : SC0) (s : HS) : Prop := s.vis + gap x.U s.sc x.U.N ≤ 1 + x.d.T ∧ s.k + gap x.U s.sc x.U.N ≤ x.d.T

def SRel (x : SC0) (n : Nat) (c27 c28 c29 : Value) (wr : World) : Prop :=
  (∃ s S cq c M', Srch x s S cq c M' wr ∧ c27 = M'.val 27 ∧ c28 = .int .i64 ((s.vis : Nat) : Int) ∧ c29 = M'.val 23 ∧ n = 2 * gap x.U s.sc x.U.N + s.m ∧ Bd x s) ∨
  (∃ s S M' a cap, SFin x s S M' wr ∧ c27 = .slice a 0 cap ∧ n = 0)

theorem SIn.dropl {w wr : World} {M M' : Fam} {p q33 : Nat} {P' : PS} (h : SIn w M p q33 wr M' P') {r : Nat} (hr : Own r) (hx : XA r) (h33 : r ≠ 33) (f : Nat → Value) : SIn w M p q33 wr (M'.put r none 0 0 f) P' :=
  ⟨h.rep.drop r f, h.pm.put_local hr _ _ _ _, h.grew.put (.inr rfl), h.loc.put (.inr hx) (by unfold Own at hr; omega), by rw [put_b (Ne.symm h33)]; exact h.b33, by rw [put_n (Ne.symm h33)]; exact h.n33, by rw [put_F (Ne.symm h33)]; exact h.f33⟩
theorem put_comm {M : Fam} {i j : Nat} {b b' : Option Nat} {n n' cap cap' : Nat} {F F' : Nat → Value} (h : i ≠ j) : (M.put i b n cap F).put j b' n' cap' F' = (M.put j b' n' cap' F').put i b n cap F := by
  unfold Fam.put
  simp only [Fam.mk.injEq]
  refine ⟨?_, ?_, ?_, ?_⟩ <;> funext a <;> by_cases h1 : a = i <;> by_cases h2 : a = j <;> simp [h1, h2] <;> omega
/-- Behind 'index, low := make(..), make(..)'. -/
def CR46 (w : World) (M : Fam) (p q33 N : Nat) (X : Fam) (P2 : PS) (a b : Value) (wx : World) : Prop :=
  ∃ g20 g22, a = .slice (some ⟨g20, 0, none⟩) N N ∧ b = .slice (some ⟨g22, 0, none⟩) N N ∧ SIn w M p q33 wx ((X.put 20 (some g20) N N (fun _ => .int .i64 0)).put 22 (some g22) N N (fun _ => .int .i64 0)) P2
theorem cr46 {w wa wb wc : World} {M X : Fam} {p q33 N g20 g22 : Nat} {P2 : PS} (h : SIn w M p q33 wa X P2) (h1 : Fresh wa wb 3 1 g20 N N (fun _ => .int .i64 0)) (h2 : Fresh wb wc 3 1 g22 N N (fun _ => .int .i64 0)) : CR46 w M p q33 N X P2 (.slice (some ⟨g20, 0, none⟩) N N) (.slice (some ⟨g22, 0, none⟩) N N) wc :=
  ⟨g20, g22, rfl, rfl, (h.fresh h1 (r := 20) rfl (by unfold Own; omega) (by unfold XA; omega) (by omega)).fresh h2 (r := 22) rfl (by unfold Own; omega) (by unfold XA; omega) (by omega)⟩
theorem cr46' {w wa wb wc : World} {M X : Fam} {p q33 N g20 g22 : Nat} {P2 : PS} (h : SIn w M p q33 wa X P2) (h2 : Fresh wa wb 3 1 g22 N N (fun _ => .int .i64 0)) (h1 : Fresh wb wc 3 1 g20 N N (fun _ => .int .i64 0)) : CR46 w M p q33 N X P2 (.slice (some ⟨g20, 0, none⟩) N N) (.slice (some ⟨g22, 0, none⟩) N N) wc :=
  ⟨g20, g22, rfl, rfl, by
    have := (h.fresh h2 (r := 22) rfl (by unfold Own; omega) (by unfold XA; omega) (by omega)).fresh h1 (r := 20) rfl (by unfold Own; omega) (by unfold XA; omega) (by omega)
    rw [put_comm (by omega)] at this
    exact this⟩
theorem Try.info65 : (Try.prog.info? 65).map (fun i => (i.zero, i.size, i.bytes)) = some (some (.agg #[.int .i64 0, .int .i64 0, .int .i64 0]), 3, 24) := by kernel_rfl
end Go.Proofs.Qxb6602148a
