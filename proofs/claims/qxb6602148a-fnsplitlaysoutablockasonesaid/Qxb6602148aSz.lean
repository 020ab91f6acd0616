/-
  'slotOf', as the state 'SS' tells it.
-/
import Derived.Test.Qxb6602148aSr
import Derived.Test.Qxb6602148aSq
attribute [local go_sem] Go.Proofs.Qxb6602148a.yTo Go.Proofs.Qxb6602148a.yUpon
namespace Go.Proofs.Qxb6602148a
open Go.RowKit
set_option linter.unusedVariables false
set_option linter.unusedSimpArgs false

theorem slotOf_calls (w : World) (M : Fam) (S : SS) (p N u i c q33 q31 q24 q25 q32 : Nat) (bl : Int) (hR : Rep KP w M) (hM : PM M S.P) (hp : M.b 11 = some p) (hB : SB M p N S.laid S.slin bl (c : Nat))
    (b33 : M.b 33 = some q33) (b31 : M.b 31 = some q31) (b24 : M.b 24 = some q24) (b25 : M.b 25 = some q25) (b32 : M.b 32 = some q32) (hu : u < S.P.nS) (hl : S.P.loc u = (i : Nat)) (hi : i < N)
    (hf : 0 < S.P.nF → 0 ≤ S.P.free (S.P.nF - 1) ∧ S.P.free (S.P.nF - 1) < S.P.nS) (hS : S.P.nS < 1000000) (hc : c < S.P.nC) (hm : S.P.mn c < 1000000) :
    Calls Try.prog 35 #[.int .i64 (u : Int), .pointer (some ⟨q33, 0, none⟩), .pointer (some ⟨q31, 0, none⟩), .pointer (some ⟨q24, 0, none⟩), .pointer (some ⟨q25, 0, none⟩), .pointer (some ⟨q32, 0, none⟩)] w fun e w' => e = .returned (.int .i64 (S.slotVal i bl)) ∧
      ∃ M', Rep KP w' M' ∧ PM M' (S.slot u i c bl).P ∧ Grew M w M' w' ∧ LocX XS M M' ∧ SB M' p N (S.slot u i c bl).laid (S.slot u i c bl).slin bl (c : Nat) ∧ M'.b 18 = M.b 18 ∧ M'.b 19 = M.b 19 ∧ M'.cap 18 = M.cap 18 ∧ M'.cap 19 = M.cap 19 := by
  unfold SS.slot SS.slotVal
  by_cases e : S.laid i = bl
  · simp only [if_pos e]
    refine (slotOf_have w M S.P p N u i q33 q31 q24 q25 q32 S.laid S.slin bl c hR hM hp hB b33 b31 b24 b25 b32 hu hl hi e).mono ?_
    rintro e w' ⟨rfl, M', a, b, c', d⟩
    have r := fun i (hi : Own i) => d.row i hi
    exact ⟨rfl, M', a, b, c', d.toX, hB.loc d, (r 18 (by unfold Own; omega)).1, (r 19 (by unfold Own; omega)).1, (r 18 (by unfold Own; omega)).2.2.1, (r 19 (by unfold Own; omega)).2.2.1⟩
  · simp only [if_neg e]
    exact slotOf_new w M S.P p N u i c q33 q31 q24 q25 q32 S.laid S.slin bl hR hM hp hB b33 b31 b24 b25 b32 hu hl hi e hf hS hc hm

/-- Along a call of 'slotOf'. -/
theorem SIn.slot' {w wr w' : World} {M M' M2 : Fam} {p q33 : Nat} {P P' : PS} (h : SIn w M p q33 wr M' P) (hr : Rep KP w' M2) (hp : PM M2 P') (hg : Grew M' wr M2 w') (hl : LocX XS M' M2) : SIn w M p q33 w' M2 P' := by
  have r33 := hl.row 33 (by unfold Own; omega) (by unfold XS; omega)
  exact ⟨hr, hp, h.grew.trans hg, h.loc.trans (hl.mono (fun i hi => by unfold XS at hi; unfold XA; omega)), r33.1.trans h.b33, r33.2.1.trans h.n33, by rw [r33.2.2.2]; exact h.f33⟩
/-- Along a call on the partition. -/
theorem SIn.call {w wr w' : World} {M M' M2 : Fam} {p q33 : Nat} {P P' : PS} (h : SIn w M p q33 wr M' P) (hr : Rep KP w' M2) (hp : PM M2 P') (hg : Grew M' wr M2 w') (hl : Loc M' M2) : SIn w M p q33 w' M2 P' := by
  have r33 := hl.row 33 (by unfold Own; omega)
  exact ⟨hr, hp, h.grew.trans hg, h.loc.trans hl.toX, r33.1.trans h.b33, r33.2.1.trans h.n33, by rw [r33.2.2.2]; exact h.f33⟩
end Go.Proofs.Qxb6602148a
