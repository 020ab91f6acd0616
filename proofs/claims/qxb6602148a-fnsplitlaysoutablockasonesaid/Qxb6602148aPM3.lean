/-
  A partition that is being built: its first writes.
-/
import Derived.Test.Qxb6602148aPM2
namespace Go.Proofs.Qxb6602148a
open Go.RowKit
set_option linter.unusedVariables false
section
variable {M : Fam} {P : PS}
def PS.setFirst (P : PS) (j : Nat) (x : Int) : PS := { P with first := upd P.first j x }
def PS.clr0 (P : PS) (f : Nat → Int) : PS := { P with first := f }
def PS.layE (P : PS) (E : Nat) : PS := { P with nE := E, fr := fun _ => 0, to := fun _ => 0 }
theorem PM.set_first (h : PM M P) (j : Nat) (x : Int) : PM (M.set 0 j (.int .i64 x)) (P.setFirst j x) :=
  ⟨h.p, fun j hj => (set_F _ (by omega)).trans (h.hd j hj), (set_F _ (by omega)).trans h.marks, h.first.set, h.fr.set_ne (by omega), h.to.set_ne (by omega), h.nS, fun s hs => (set_F _ (by omega)).trans (h.node s hs), fun s hs => (set_F _ (by omega)).trans (h.comp s hs), fun s hs => (set_F _ (by omega)).trans (h.outh s hs), fun s hs => (set_F _ (by omega)).trans (h.idx s hs), fun s hs => (set_F _ (by omega)).trans (h.low s hs), fun s hs => (set_F _ (by omega)).trans (h.mark s hs), fun s hs => (set_F _ (by omega)).trans (h.loc s hs), fun s hs => (h.out s hs).set_ne (by omega), h.onil, h.free.set_ne (by omega), h.nC, fun c hc => (set_F _ (by omega)).trans (h.memh c hc), fun c hc => (h.mem c hc).set_ne (by omega), h.cnil, h.mnil, h.unused.set_ne (by omega), h.edg.set_ne (by omega), h.spent.set_ne (by omega), h.stk.set_ne (by omega), h.cqn, fun j hj => (set_F _ (by omega)).trans (h.cq j hj)⟩

/-- 'from' and 'to' are laid. -/
def layF (M : Fam) (g1 g2 E : Nat) : Fam := (((M.put 1 (some g1) E E (fun _ => .int .i64 0)).put 2 (some g2) E E (fun _ => .int .i64 0)).set 11 1 (.slice (some ⟨g1, 0, none⟩) E E)).set 11 2 (.slice (some ⟨g2, 0, none⟩) E E)
theorem PM.lay_ft (h : PM M P) (g1 g2 E : Nat) : PM (layF M g1 g2 E) (P.layE E) := by
  have oF : ∀ i, i ≠ 1 → i ≠ 2 → i ≠ 11 → (layF M g1 g2 E).F i = M.F i := fun i h1 h2 h3 => by funext j; unfold layF; rw [set_F _ h3, set_F _ h3, put_F h2, put_F h1]
  have on : ∀ i, i ≠ 1 → i ≠ 2 → (layF M g1 g2 E).n i = M.n i := fun i h1 h2 => by unfold layF; rw [set_n, set_n, put_n h2, put_n h1]
  have ob : ∀ i, i ≠ 1 → i ≠ 2 → (layF M g1 g2 E).b i = M.b i := fun i h1 h2 => by unfold layF; rw [set_b, set_b, put_b h2, put_b h1]
  have ov : ∀ i, i ≠ 1 → i ≠ 2 → (layF M g1 g2 E).val i = M.val i := fun i h1 h2 => by unfold layF; rw [set_val, set_val, put_val h2, put_val h1]
  have oI : ∀ i n f, i ≠ 1 → i ≠ 2 → i ≠ 11 → Ints M i n f → Ints (layF M g1 g2 E) i n f := fun i n f h1 h2 h3 h4 => ⟨(on i h1 h2).trans h4.1, fun j hj => by rw [oF i h1 h2 h3]; exact h4.2 j hj⟩
  have v1 : (layF M g1 g2 E).val 1 = .slice (some ⟨g1, 0, none⟩) E E := by unfold layF; rw [set_val, set_val, put_val (by omega), put_vals]; rfl
  have v2 : (layF M g1 g2 E).val 2 = .slice (some ⟨g2, 0, none⟩) E E := by unfold layF; rw [set_val, set_val, put_vals]; rfl
  have hF : ∀ j, j ≠ 1 → j ≠ 2 → (layF M g1 g2 E).F 11 j = M.F 11 j := fun j h1 h2 => by unfold layF; rw [set_Fj h2, set_Fj h1, put_F (by omega), put_F (by omega)]
  refine ⟨(on 11 (by omega) (by omega)).trans h.p, fun j hj => ?_, (hF 11 (by omega) (by omega)).trans h.marks, oI 0 _ _ (by omega) (by omega) (by omega) h.first, ⟨?_, fun j hj => ?_⟩, ⟨?_, fun j hj => ?_⟩, (on 3 (by omega) (by omega)).trans h.nS, fun s hs => ?_, fun s hs => ?_, fun s hs => ?_, fun s hs => ?_, fun s hs => ?_, fun s hs => ?_, fun s hs => ?_, fun s hs => oI _ _ _ (by omega) (by omega) (by omega) (h.out s hs), fun s hs => (ob _ (by omega) (by omega)).trans (h.onil s hs), oI 4 _ _ (by omega) (by omega) (by omega) h.free, (on 5 (by omega) (by omega)).trans h.nC, fun c hc => ?_, fun c hc => oI _ _ _ (by omega) (by omega) (by omega) (h.mem c hc), fun c hc => (ob _ (by omega) (by omega)).trans (h.cnil c hc), fun c hc h0 => (ob _ (by omega) (by omega)).trans (h.mnil c hc h0), oI 6 _ _ (by omega) (by omega) (by omega) h.unused, oI 7 _ _ (by omega) (by omega) (by omega) h.edg, oI 8 _ _ (by omega) (by omega) (by omega) h.spent, oI 9 _ _ (by omega) (by omega) (by omega) h.stk, (on 10 (by omega) (by omega)).trans h.cqn, fun j hj => ?_⟩
  · by_cases e1 : j = 1
    · subst e1; rw [v1]; unfold layF; rw [set_Fj (by omega), set_Fs]
    · by_cases e2 : j = 2
      · subst e2; rw [v2]; unfold layF; rw [set_Fs]
      · rw [hF j e1 e2, ov j e1 e2]; exact h.hd j hj
  · unfold layF; rw [set_n, set_n, put_n (by omega), put_ns]; rfl
  · unfold layF; rw [set_F _ (by omega), set_F _ (by omega), put_F (by omega), put_Fs]; rfl
  · unfold layF; rw [set_n, set_n, put_ns]; rfl
  · unfold layF; rw [set_F _ (by omega), set_F _ (by omega), put_Fs]; rfl
  · rw [oF 3 (by omega) (by omega) (by omega)]; exact h.node s hs
  · rw [oF 3 (by omega) (by omega) (by omega)]; exact h.comp s hs
  · rw [oF 3 (by omega) (by omega) (by omega), ov _ (by omega) (by omega)]; exact h.outh s hs
  · rw [oF 3 (by omega) (by omega) (by omega)]; exact h.idx s hs
  · rw [oF 3 (by omega) (by omega) (by omega)]; exact h.low s hs
  · rw [oF 3 (by omega) (by omega) (by omega)]; exact h.mark s hs
  · rw [oF 3 (by omega) (by omega) (by omega)]; exact h.loc s hs
  · rw [oF 5 (by omega) (by omega) (by omega), ov _ (by omega) (by omega)]; exact h.memh c hc
  · rw [oF 10 (by omega) (by omega) (by omega)]; exact h.cq j hj

/-- Room for the slots is laid. -/
def layS (M : Fam) (g3 m : Nat) (F : Nat → Value) : Fam := (M.put 3 (some g3) 0 m F).set 11 3 (.slice (some ⟨g3, 0, none⟩) 0 m)
theorem PM.lay_slots (h : PM M P) (hS : P.nS = 0) (g3 m : Nat) (F : Nat → Value) : PM (layS M g3 m F) P := by
  have oF : ∀ i, i ≠ 3 → i ≠ 11 → (layS M g3 m F).F i = M.F i := fun i h1 h3 => by funext j; unfold layS; rw [set_F _ h3, put_F h1]
  have on : ∀ i, i ≠ 3 → (layS M g3 m F).n i = M.n i := fun i h1 => by unfold layS; rw [set_n, put_n h1]
  have ob : ∀ i, i ≠ 3 → (layS M g3 m F).b i = M.b i := fun i h1 => by unfold layS; rw [set_b, put_b h1]
  have ov : ∀ i, i ≠ 3 → (layS M g3 m F).val i = M.val i := fun i h1 => by unfold layS; rw [set_val, put_val h1]
  have oI : ∀ i n f, i ≠ 3 → i ≠ 11 → Ints M i n f → Ints (layS M g3 m F) i n f := fun i n f h1 h3 h4 => ⟨(on i h1).trans h4.1, fun j hj => by rw [oF i h1 h3]; exact h4.2 j hj⟩
  have v3 : (layS M g3 m F).val 3 = .slice (some ⟨g3, 0, none⟩) 0 m := by unfold layS; rw [set_val, put_vals]; rfl
  have hF : ∀ j, j ≠ 3 → (layS M g3 m F).F 11 j = M.F 11 j := fun j h1 => by unfold layS; rw [set_Fj h1, put_F (by omega)]
  have z : ∀ s, s < P.nS → False := fun s hs => by omega
  refine ⟨(on 11 (by omega)).trans h.p, fun j hj => ?_, (hF 11 (by omega)).trans h.marks, oI 0 _ _ (by omega) (by omega) h.first, oI 1 _ _ (by omega) (by omega) h.fr, oI 2 _ _ (by omega) (by omega) h.to, ?_, fun s hs => (z s hs).elim, fun s hs => (z s hs).elim, fun s hs => (z s hs).elim, fun s hs => (z s hs).elim, fun s hs => (z s hs).elim, fun s hs => (z s hs).elim, fun s hs => (z s hs).elim, fun s hs => (z s hs).elim, fun s hs => (ob _ (by omega)).trans (h.onil s hs), oI 4 _ _ (by omega) (by omega) h.free, (on 5 (by omega)).trans h.nC, fun c hc => ?_, fun c hc => oI _ _ _ (by omega) (by omega) (h.mem c hc), fun c hc => (ob _ (by omega)).trans (h.cnil c hc), fun c hc h0 => (ob _ (by omega)).trans (h.mnil c hc h0), oI 6 _ _ (by omega) (by omega) h.unused, oI 7 _ _ (by omega) (by omega) h.edg, oI 8 _ _ (by omega) (by omega) h.spent, oI 9 _ _ (by omega) (by omega) h.stk, (on 10 (by omega)).trans h.cqn, fun j hj => ?_⟩
  · by_cases e1 : j = 3
    · subst e1; rw [v3]; unfold layS; rw [set_Fs]
    · rw [hF j e1, ov j e1]; exact h.hd j hj
  · unfold layS; rw [set_n, put_ns, hS]
  · rw [oF 5 (by omega) (by omega), ov _ (by omega)]; exact h.memh c hc
  · rw [oF 10 (by omega) (by omega)]; exact h.cq j hj
end
end Go.Proofs.Qxb6602148a
