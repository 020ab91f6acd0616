/-
  'zzTake': the view as one value.
-/
import Derived.Test.Qxb6602148aVwc
import Derived.Laws.ResultCell
attribute [local go_sem] Go.Proofs.Qxb6602148a.yTo Go.Proofs.Qxb6602148a.yUpon
namespace Go.Proofs.Qxb6602148a
open Go.RowKit
set_option linter.unusedVariables false
set_option linter.unusedSimpArgs false

theorem Try.info35 : (Try.prog.info? 35).map (fun i => (i.zero, i.size, i.bytes)) = some (some (.agg #[.slice none 0 0, .slice none 0 0, .slice none 0 0, .slice none 0 0, .slice none 0 0, .slice none 0 0, .slice none 0 0]), 7, 168) := by kernel_rfl
theorem Grew.new {w0 w : World} {V : Fam} (h : Grew Fam.nil w0 V w) {g j : Nat} (hg : w0.heap.size ≤ g) (v : Value) : Grew Fam.nil w0 V (w.setCell ⟨g, j, none⟩ v) := by
  refine ⟨h.os, h.tape, h.output, by simpa [World.setCell] using h.size, fun k hk hb => ?_, h.own⟩
  rw [← h.block k hk hb]
  simp only [World.setCell, Array.getElem?_modify]
  rw [if_neg (by omega)]
theorem PIn.alloc {w0 : World} {M : Fam} {P : PS} {p : Nat} (h : PIn w0 M P p) (o : Obj) : PIn (w0.alloc o) M P p := ⟨h.rep.alloc o, h.pm, h.b11, h.small, h.on, h.mn⟩

theorem st_cell {w : World} {g : Nat} (h : w.heap[g]? = some (.cells #[.slice none 0 0, .slice none 0 0, .slice none 0 0, .slice none 0 0, .slice none 0 0, .slice none 0 0, .slice none 0 0] 35)) (j : Nat) (hj : j < 7) : w.cell? ⟨g, j, none⟩ = some (.slice none 0 0) := by
  simp only [World.cell?, h]
  match j, hj with
  | 0, _ => rfl
  | 1, _ => rfl
  | 2, _ => rfl
  | 3, _ => rfl
  | 4, _ => rfl
  | 5, _ => rfl
  | 6, _ => rfl
theorem st_froz {w : World} {g : Nat} {cs : Array Value} {t : TypeId} (h : w.heap[g]? = some (.cells cs t)) (j : Nat) : w.frozen? ⟨g, j, none⟩ = false := by
  simp [World.frozen?, h]

theorem st_seven {w : World} {g : Nat} (h : w.heap[g]? = some (.cells #[.slice none 0 0, .slice none 0 0, .slice none 0 0, .slice none 0 0, .slice none 0 0, .slice none 0 0, .slice none 0 0] 35)) (v0 v1 v2 v3 v4 v5 v6 : Value) :
    (((((((w.setCell ⟨g, 0, none⟩ v0).setCell ⟨g, 1, none⟩ v1).setCell ⟨g, 2, none⟩ v2).setCell ⟨g, 3, none⟩ v3).setCell ⟨g, 4, none⟩ v4).setCell ⟨g, 5, none⟩ v5).setCell ⟨g, 6, none⟩ v6).heap[g]? = some (.cells #[v0, v1, v2, v3, v4, v5, v6] 35) := by
  simp [World.setCell, Array.getElem?_modify, h]
theorem VOut.other {w0 w : World} {P : PS} {V : Fam} (h : VOut w0 P V w) (hno : ∀ i, V.b i ≠ some w0.heap.size) {j : Nat} {v : Value} : VOut w0 P V (w.setCell ⟨w0.heap.size, j, none⟩ v) :=
  ⟨h.1.other hno v, h.2.1.new (Nat.le_refl _) v, h.2.2⟩

set_option maxHeartbeats 2000000 in
theorem take_calls (w0 : World) (M : Fam) (P : PS) (p : Nat) (hI : PIn w0 M P p) :
    Calls Try.prog 13 #[.pointer (some ⟨p, 0, none⟩)] w0 fun e w' => ∃ V, e = .returned (.agg #[V.val 0, V.val 1, V.val 2, V.val 3, V.val 4, V.val 5, V.val 6]) ∧ VOut w0 P V w' := by
  have hcall := view_calls _ M P p (hI.alloc (.cells #[.slice none 0 0, .slice none 0 0, .slice none 0 0, .slice none 0 0, .slice none 0 0, .slice none 0 0, .slice none 0 0] 35))
  have HCall : Hid (Calls Try.prog 27 #[.pointer (some ⟨p, 0, none⟩)] (w0.alloc (.cells #[.slice none 0 0, .slice none 0 0, .slice none 0 0, .slice none 0 0, .slice none 0 0, .slice none 0 0, .slice none 0 0] 35)) fun e w' => ∃ V a0 n0 k0 a1 n1 k1 a2 n2 k2 a3 n3 k3 a4 n4 k4 a5 n5 k5 a6 n6 k6, e = .returned (.tuple #[.slice a0 n0 k0, .slice a1 n1 k1, .slice a2 n2 k2, .slice a3 n3 k3, .slice a4 n4 k4, .slice a5 n5 k5, .slice a6 n6 k6]) ∧ (#[.slice a0 n0 k0, .slice a1 n1 k1, .slice a2 n2 k2, .slice a3 n3 k3, .slice a4 n4 k4, .slice a5 n5 k5, .slice a6 n6 k6] : Array Value) = #[V.val 0, V.val 1, V.val 2, V.val 3, V.val 4, V.val 5, V.val 6] ∧ VOut w0 P V w' ∧ w'.heap[w0.heap.size]? = some (.cells #[.slice none 0 0, .slice none 0 0, .slice none 0 0, .slice none 0 0, .slice none 0 0, .slice none 0 0, .slice none 0 0] 35) ∧ w0.heap.size < w'.heap.size ∧ ∀ i, V.b i ≠ some w0.heap.size) := by
    refine hcall.mono ?_
    rintro e w' ⟨V, rfl, r, g, v⟩
    refine ⟨V, _, _, _, _, _, _, _, _, _, _, _, _, _, _, _, _, _, _, _, _, _, rfl, rfl, ⟨r, ?_, v⟩, ?_, ?_, ?_⟩
    · exact ((Grew.refl Fam.nil w0).alloc _).trans g
    · rw [g.block w0.heap.size (by simp) (fun i e => by cases e), heap_alloc_new]
    · have := g.size; simp at this; omega
    · intro i e
      rcases g.own i _ e with ⟨j, h⟩ | h
      · cases h
      · simp at h; omega
  clear hcall hI
  go_enter Try.func13, Try.ntmps13
  go_wp2_with (go_at_call 27; refine HCall.out.mono ?_; rintro e w2 ⟨V, a0, n0, k0, a1, n1, k1, a2, n2, k2, a3, n3, k3, a4, n4, k4, a5, n5, k5, a6, n6, k6, rfl, hv, hVO, hga, hlt, hno⟩; have HNO : Hid (∀ i, V.b i ≠ some w0.heap.size) := hno; clear hno; have HV : Hid _ := hv; have HVO : Hid (VOut w0 P V w2) := hVO; have HGA : Hid _ := hga; have c0 := st_cell hga 0 (by omega); have c1 := st_cell hga 1 (by omega); have c2 := st_cell hga 2 (by omega); have c3 := st_cell hga 3 (by omega); have c4 := st_cell hga 4 (by omega); have c5 := st_cell hga 5 (by omega); have c6 := st_cell hga 6 (by omega); have f0 := st_froz hga 0; have f1 := st_froz hga 1; have f2 := st_froz hga 2; have f3 := st_froz hga 3; have f4 := st_froz hga 4; have f5 := st_froz hga 5; have f6 := st_froz hga 6; clear hv hVO hga)
  have hs := st_seven HGA.out (.slice a0 n0 k0) (.slice a1 n1 k1) (.slice a2 n2 k2) (.slice a3 n3 k3) (.slice a4 n4 k4) (.slice a5 n5 k5) (.slice a6 n6 k6)
  have hVO : VOut w0 P V (((((((w2.setCell ⟨w0.heap.size, 0, none⟩ (.slice a0 n0 k0)).setCell ⟨w0.heap.size, 1, none⟩ (.slice a1 n1 k1)).setCell ⟨w0.heap.size, 2, none⟩ (.slice a2 n2 k2)).setCell ⟨w0.heap.size, 3, none⟩ (.slice a3 n3 k3)).setCell ⟨w0.heap.size, 4, none⟩ (.slice a4 n4 k4)).setCell ⟨w0.heap.size, 5, none⟩ (.slice a5 n5 k5)).setCell ⟨w0.heap.size, 6, none⟩ (.slice a6 n6 k6)) := ((((((HVO.out.other HNO.out).other HNO.out).other HNO.out).other HNO.out).other HNO.out).other HNO.out).other HNO.out
  generalize ((((((w2.setCell ⟨w0.heap.size, 0, none⟩ (.slice a0 n0 k0)).setCell ⟨w0.heap.size, 1, none⟩ (.slice a1 n1 k1)).setCell ⟨w0.heap.size, 2, none⟩ (.slice a2 n2 k2)).setCell ⟨w0.heap.size, 3, none⟩ (.slice a3 n3 k3)).setCell ⟨w0.heap.size, 4, none⟩ (.slice a4 n4 k4)).setCell ⟨w0.heap.size, 5, none⟩ (.slice a5 n5 k5)).setCell ⟨w0.heap.size, 6, none⟩ (.slice a6 n6 k6) = w3 at *
  have hl3 : w0.heap.size < w3.heap.size := by
    rcases Nat.lt_or_ge w0.heap.size w3.heap.size with h | h
    · exact h
    · rw [Array.getElem?_eq_none h] at hs; cases hs
  refine bodyPost_ret (results_cell_row rfl _ _ w0.heap.size 35 _ (0, 0) _ rfl ((Below.heap_alloc _ _ _ hl3).trans hs) Try.underlying35 rfl (by kernel_rfl)) rfl ?_
  exact ⟨V, by rw [HV.out], hVO.1.alloc _, hVO.2.1.alloc _, hVO.2.2⟩
end Go.Proofs.Qxb6602148a
