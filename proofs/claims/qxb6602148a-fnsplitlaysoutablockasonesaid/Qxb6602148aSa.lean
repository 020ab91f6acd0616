/-
  'split' in parts: a code with another tail; what stands once the entries have been laid.
-/
import Derived.Test.Qxb6602148aSv
attribute [local go_sem] Go.Proofs.Qxb6602148a.yTo Go.Proofs.Qxb6602148a.yUpon
namespace Go.Proofs.Qxb6602148a
open Go.RowKit
set_option linter.unusedVariables false

theorem zero1 : ∀ j, j < 1 → (Value.int .i64 0).cells[j]! = .int .i64 0 := by
  intro j hj
  have : j = 0 := by omega
  subst this
  rfl

/-- The first n statements of c, then t. -/
def rt : Nat → Code → Code → Code
  | 0, _, t => t
  | n + 1, .seq a b, t => .seq a (rt n b t)
  | _ + 1, _, t => t

/-- The slots 1, 2, 6 and 13 of the frame. -/
structure FA (gq N kq q33 g16 g21 T : Nat) (a : Act) : Prop where
  sz : a.tmps.size = 517
  df : a.defers = []
  s1 : a.tmps.getD 1 undef = .slice (some ⟨gq, 0, none⟩) N kq
  s2 : a.tmps.getD 2 undef = .pointer (some ⟨q33, 0, none⟩)
  s6 : a.tmps.getD 6 undef = .slice (some ⟨g16, 0, none⟩) (N + 1) (N + 1)
  s13 : a.tmps.getD 13 undef = .slice (some ⟨g21, 0, none⟩) T T

/-- What is in memory then. -/
structure MA (w : World) (M : Fam) (p q33 : Nat) (P P2 : PS) (N : Nat) (str : Nat → Nat) (g16 g21 T : Nat) (eN eE : Nat → Nat) (wr : World) : Prop where
  sin : ∃ M2 g17 k17 fl, SIn w M p q33 wr (FF M2 g16 N (AGof P2 N str) g21 T g17 k17 eN eE fl) P2
  mkd : Mkd P2 N str
  fil : Filled (AGof P2 N str) N 0 eN eE
  T : (AGof P2 N str).st N = T
  P2 : ∃ mk lc, P2 = P.marked (P.marks + 1) mk lc ∧ ∀ s, (∀ j, j < N → s ≠ str j) → mk s = P.mark s
end Go.Proofs.Qxb6602148a
