/-
  THE PROOF OF 'Rows.FnSplitLaysOutABlockAsOneSaid'.
-/
import Derived.Test.Qxb6602148aOpen
import Derived.Test.Qxb6602148aLze
attribute [local go_sem] Go.Proofs.Qxb6602148a.yTo Go.Proofs.Qxb6602148a.yUpon
namespace Go.Proofs.Qxb6602148a.fnSplitLaysOutABlockAsOne
open Go.ChangeShapes Go.WideShapes Go.ChangeAt Go.RowKit
set_option linter.unusedVariables false

set_option maxRecDepth 100000 in
theorem lifted (os : Os) (started : os.Started) (H : Type) (enc : TypeId × Value → H) :
    ReturnsInHanded {} Try.checked os 5 .any (Rows.fnSplitLaysOutABlockAsOneSpec.pre6 enc Try.prog Try.f5 Rows.fnSplitLaysOutABlockAsOneRow.domain false) (Rows.fnSplitLaysOutABlockAsOneSpec.post enc Try.prog Try.f5 false true false false) := by
  refine returnsInHanded_of_change (C := Try.checked) own started (by kernel_rfl) Try.func5
    (ChangeSpec.witness6 (enc := enc) (C := Try.checked) false ⟨#[], #[.slice none 0 0, .int .i64 0, .slice none 0 0], []⟩ 8 (by kernel_rfl) (by kernel_rfl) (by kernel_rfl) (by kernel_rfl)) ?_
  intro W base args ds gs before hval0 hW hcnd _
  have hval : ∀ (j : Nat) t v, Try.f5.params[j]? = some t → args[j]? = some v → Value.okWide Try.prog W .any base t v := hval0
  have hW' := hW
  obtain ⟨p, q, hA0, hV, rfl, hfz, hnd⟩ := hW
  have hA : DataW.TrodAll enc Try.prog W 0 (fun _ => true) true Try.f5.params.toList args.toList ds p := hA0
  rw [Try.params5] at hA hval
  obtain ⟨v0, vs0, d0, ds0, p0, q0, hargs, rfl, rfl, h0, r0⟩ := trodAll_cons hA
  obtain ⟨v1, vs1, d1, ds1, p1, q1, rfl, rfl, rfl, h1, r1⟩ := trodAll_cons r0
  obtain ⟨v2, vs2, d2, ds2, p2, q2, rfl, rfl, rfl, h2, r2⟩ := trodAll_cons r1
  obtain ⟨rfl, rfl, rfl⟩ := trodAll_nil r2
  obtain rfl : args = #[v0, v1, v2] := by cases args; simp_all
  obtain ⟨rfl, rfl⟩ := trodVars_none hV
  obtain ⟨a0, len0, cap0, rfl⟩ := okWide_slice Try.underlying22 (hval 0 22 v0 rfl rfl)
  have k0 := h0
  have lt0 : ∀ x ∈ p0, x.block < W.heap.size := by obtain ⟨m, hm⟩ := k0; exact DataW.trod_lt m _ _ _ hm
  obtain ⟨fuel, hf⟩ := h0
  obtain ⟨⟨A, d, C, z, hRG⟩, hnil⟩ := open_graph hf
  obtain ⟨a1, rfl, rfl, rfl, w1⟩ := open_int Try.underlying3 (hval 1 3 v1 rfl rfl) h1
  have hci : a1 ≤ 9223372036854775807 ∧ -9223372036854775808 ≤ a1 := by
    have := w1
    simp only [Lit.wf, Bool.and_eq_true, decide_eq_true_eq] at this
    exact ⟨this.2, this.1⟩
  obtain ⟨a2, len2, cap2, rfl⟩ := okWide_slice Try.underlying26 (hval 2 26 v2 rfl rfl)
  have k2 := h2
  have lt2 : ∀ x ∈ p2, x.block < W.heap.size := by obtain ⟨m, hm⟩ := k2; exact DataW.trod_lt m _ _ _ hm
  obtain ⟨zs, hn2, he2, hk2, hb2⟩ : ∃ zs : Nat → Int, (a2 = none → len2 = 0 ∧ cap2 = 0) ∧ (∀ j, j < len2 → ∃ ad, a2 = some ad ∧ W.cell? (ad.add j) = some (.int .i64 (zs j))) ∧ len2 ≤ cap2 ∧ len2 ≤ 9223372036854775807 := by
    obtain ⟨fuel, hf⟩ := h2
    rcases open_ints Try.underlying26 Try.underlying3 (by kernel_rfl) hf with ⟨hcs, _⟩ | ⟨x, l, c, zs, hcs, _, hl, hm, hz, _, hcell, hwz⟩
    · simp [Value.cells] at hcs
      obtain ⟨rfl, rfl, rfl⟩ := hcs
      exact ⟨fun _ => 0, fun _ => ⟨rfl, rfl⟩, fun j h => absurd h (Nat.not_lt_zero _), Nat.le_refl _, by decide⟩
    · simp [Value.cells] at hcs
      obtain ⟨rfl, rfl, rfl⟩ := hcs
      have hz2 : len2 ≤ zs.length := by rw [hz]; split <;> omega
      exact ⟨fun j => zs.getD j 0, fun h => (by cases h), fun j hj => ⟨_, rfl, hcell j (by omega)⟩, hl, Nat.le_trans hl (Nat.le_trans hm (by decide))⟩
  clear hA0 hval0
  refine (law3_calls W a0 len0 cap0 A d C z a1 hci hRG hnil a2 len2 cap2 zs hn2 he2 hk2 hb2).mono fun e W' ⟨he, bel⟩ => ?_
  subst he
  exact ⟨_, rfl, _, _, _, [], _, [], hW', trodAll_mk1 (shut_bool Try.underlying4 _), (trodAll_cons_mk (Below.trod laidOut (by kernel_rfl) (of_decide_eq_true (by kernel_rfl)) k0 bel lt0) (trodAll_cons_mk (shut_int Try.underlying3 w1) (trodAll_cons_mk (Below.trod laidOut (by kernel_rfl) (of_decide_eq_true (by kernel_rfl)) k2 bel lt2) trodAll_mk0))), rfl, bel.frame _, fun h => by cases h⟩

theorem over : Rows.fnSplitLaysOutABlockAsOneRow.holds Try.pinned (OpenSpec.ofChange Rows.fnSplitLaysOutABlockAsOneSpec) :=
  OpenClaim.holds_of_wide 5 Try.f5 rfl rfl rfl rfl rfl rfl rfl ⟨rfl, rfl, rfl, rfl, rfl⟩ rfl rfl rfl rfl rfl (by kernel_rfl) Try.func5 (by kernel_rfl)
    (of_decide_eq_true (by kernel_rfl)) (by unfold Func.isWrapper; first | (rw [if_pos (by decide +kernel)]; kernel_rfl) | (rw [if_neg (by decide +kernel)]; exact ⟨rfl, rfl⟩))
    (fun os started H enc _ => lifted os started H enc)

/-- THE STATEMENT -/
theorem proved : Rows.FnSplitLaysOutABlockAsOneSaid := over
#print axioms proved
end Go.Proofs.Qxb6602148a.fnSplitLaysOutABlockAsOne
