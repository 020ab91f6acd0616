/-
  A GRAPH THAT COMES IN, OPENED: what the walks are told of it.
-/
import Derived.Test.Qxb6602148aRows
import Derived.Test.Qxb6602148aCg
import Derived.WalkKit
import Derived.ProofKit
import Derived.OpenShut
import Derived.ChangeOld
import Derived.Below
import Derived.Deep.Matrix
attribute [local go_sem] Go.Proofs.Qxb6602148a.yTo Go.Proofs.Qxb6602148a.yUpon
namespace Go.Proofs.Qxb6602148a
open Go.ChangeShapes Go.WideShapes Go.ChangeAt Go.RowKit Go.Deep
set_option linter.unusedVariables false

theorem own : ownKnob Try.prog.godebug = none := by kernel_rfl
theorem laidOut : laidOutB Try.prog = true := by kernel_rfl
theorem Try.c26 : Try.prog.cellsOf 26 = 1 := by kernel_rfl
theorem Try.c3 : Try.prog.cellsOf 3 = 1 := by kernel_rfl

theorem open_graph {H : Type} {enc : TypeId × Value → H} {W : World} {base : Nat} {held : Bool} {fuel : Nat} {a : Option Addr} {n k : Nat} {x : DataW H × List MemPlace} (h : DataW.trod enc Try.prog W base (fun _ => true) held fuel 22 (Value.slice a n k).cells.toList = some x) :
    (∃ A d C z, RG W a n A d C z) ∧ (a = none → n = 0 ∧ k = 0) := by
  rcases open_int_rows Try.underlying22 Try.underlying26 Try.underlying3 Try.c26 Try.c3 h with ⟨hcs, _⟩ | ⟨ad, len, cap, A, L, C, Z, hcs, _, hl, hm, _, hr⟩
  · simp [Value.cells] at hcs
    obtain ⟨rfl, rfl, rfl⟩ := hcs
    exact ⟨⟨fun _ => none, fun _ => 0, fun _ => 0, fun _ _ => 0, fun r h => by omega, by omega, fun r h => by omega, fun r c h => by omega, fun r h => by omega⟩, fun _ => ⟨rfl, rfl⟩⟩
  · simp [Value.cells] at hcs
    obtain ⟨rfl, rfl, rfl⟩ := hcs
    refine ⟨⟨A, L, C, fun r c => (Z r).getD c 0, fun r h => ⟨ad, rfl, (hr r (by omega)).1⟩, ?_, fun r h => ?_, fun r c h hc => ?_, fun r h hn => ?_⟩, fun h => by cases h⟩
    · unfold maxLen at hm; omega
    · obtain ⟨_, h1, h2, _⟩ := hr r (by omega)
      unfold maxLen at h2
      exact ⟨h1, by omega⟩
    · obtain ⟨_, h1, _, h3, _, h5, h6⟩ := hr r (by omega)
      cases hA : A r with
      | none => have := h5 hA; omega
      | some a' => exact ⟨a', rfl, (h6 a' hA).2 c (by omega)⟩
    · obtain ⟨_, h1, _, _, _, h5, _⟩ := hr r (by omega)
      have := h5 hn
      exact ⟨by omega, this⟩
end Go.Proofs.Qxb6602148a
