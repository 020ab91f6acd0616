/-
  'split': THE ROWS OF ITS SEARCH. 16 'start', 21 'ends', 20 'index', 22 'low', 27 'calls', 23 'met', 18 'laid', 19 'slotIn', 24 'blocks', 25 'block', 31 and 32 the variables that hold 'laid' and 'slotIn'.
-/
import Derived.Test.Qxb6602148aSp
attribute [local go_sem] Go.Proofs.Qxb6602148a.yTo Go.Proofs.Qxb6602148a.yUpon
namespace Go.Proofs.Qxb6602148a
open Go.RowKit
set_option linter.unusedVariables false
set_option linter.unusedSimpArgs false

structure SD where
  N : Nat
  T : Nat
  p : Nat
  g16 : Nat
  g21 : Nat
  g20 : Nat
  g22 : Nat
  g18 : Nat
  g19 : Nat
  q24 : Nat
  q25 : Nat
  q31 : Nat
  q32 : Nat
  st : Nat → Int
  en : Nat → Value

structure SR (M : Fam) (d : SD) (idx low : Nat → Int) (m : Nat) (cq : Nat → Int) (k : Nat) (met : Nat → Int) (laid slin : Nat → Int) (bl c : Int) : Prop where
  st : M.b 16 = some d.g16 ∧ Ints M 16 (d.N + 1) d.st ∧ M.cap 16 = d.N + 1
  en : M.b 21 = some d.g21 ∧ M.n 21 = d.T ∧ (∀ j, j < d.T * 2 → M.F 21 j = d.en j) ∧ M.cap 21 = d.T
  ix : M.b 20 = some d.g20 ∧ Ints M 20 d.N idx ∧ M.cap 20 = d.N
  lw : M.b 22 = some d.g22 ∧ Ints M 22 d.N low ∧ M.cap 22 = d.N
  cl : M.n 27 = m ∧ ∀ j, j < m * 3 → M.F 27 j = .int .i64 (cq j)
  me : Ints M 23 k met
  sb : SB M d.p d.N laid slin bl c
  bb : M.b 24 = some d.q24 ∧ M.b 25 = some d.q25 ∧ M.b 31 = some d.q31 ∧ M.b 32 = some d.q32 ∧ M.b 18 = some d.g18 ∧ M.b 19 = some d.g19

/-- A row among those of the search. -/
def SX (i : Nat) : Prop := i = 16 ∨ i = 21 ∨ i = 20 ∨ i = 22 ∨ i = 27 ∨ i = 23 ∨ i = 18 ∨ i = 19 ∨ i = 24 ∨ i = 25 ∨ i = 31 ∨ i = 32 ∨ i = 33

section
variable {M M' : Fam} {d : SD} {idx low : Nat → Int} {m : Nat} {cq : Nat → Int} {k : Nat} {met : Nat → Int} {laid slin : Nat → Int} {bl c : Int}

theorem SB.set_ne {p N : Nat} (h : SB M p N laid slin bl c) {i j : Nat} {v : Value} (h1 : i ≠ 33 ∧ i ≠ 31 ∧ i ≠ 32 ∧ i ≠ 18 ∧ i ≠ 19 ∧ i ≠ 24 ∧ i ≠ 25) : SB (M.set i j v) p N laid slin bl c := by
  obtain ⟨a1, a2, a3, a4, a5, a6, a7⟩ := h1
  refine ⟨h.n33, ?_, h.n31, ?_, h.n32, ?_, h.laid.set_ne (by omega), h.slin.set_ne (by omega), h.bl.set_ne (by omega), h.c.set_ne (by omega)⟩
  · rw [set_F _ (by omega)]; exact h.f33
  · rw [set_F _ (by omega)]; exact h.f31
  · rw [set_F _ (by omega)]; exact h.f32
theorem SB.put_ne {p N : Nat} (h : SB M p N laid slin bl c) {i n cap : Nat} {b : Option Nat} {F : Nat → Value} (h1 : i ≠ 33 ∧ i ≠ 31 ∧ i ≠ 32 ∧ i ≠ 18 ∧ i ≠ 19 ∧ i ≠ 24 ∧ i ≠ 25) : SB (M.put i b n cap F) p N laid slin bl c := by
  obtain ⟨a1, a2, a3, a4, a5, a6, a7⟩ := h1
  refine ⟨?_, ?_, ?_, ?_, ?_, ?_, h.laid.put_ne (by omega), h.slin.put_ne (by omega), h.bl.put_ne (by omega), h.c.put_ne (by omega)⟩
  · rw [put_n (by omega)]; exact h.n33
  · rw [put_F (by omega)]; exact h.f33
  · rw [put_n (by omega)]; exact h.n31
  · rw [put_F (by omega), put_val (by omega)]; exact h.f31
  · rw [put_n (by omega)]; exact h.n32
  · rw [put_F (by omega), put_val (by omega)]; exact h.f32

/-- A write elsewhere. -/
theorem SR.other (h : SR M d idx low m cq k met laid slin bl c) {i j : Nat} {v : Value} (hi : ¬ SX i) : SR (M.set i j v) d idx low m cq k met laid slin bl c := by
  unfold SX at hi
  exact ⟨⟨h.st.1, h.st.2.1.set_ne (by omega), h.st.2.2⟩, ⟨h.en.1, h.en.2.1, fun j hj => by rw [set_F _ (by omega)]; exact h.en.2.2.1 j hj, h.en.2.2.2⟩, ⟨h.ix.1, h.ix.2.1.set_ne (by omega), h.ix.2.2⟩, ⟨h.lw.1, h.lw.2.1.set_ne (by omega), h.lw.2.2⟩, ⟨h.cl.1, fun j hj => by rw [set_F _ (by omega)]; exact h.cl.2 j hj⟩, h.me.set_ne (by omega), h.sb.set_ne (by omega), h.bb⟩
theorem SR.loc (h : SR M d idx low m cq k met laid slin bl c) (hl : Loc M M') : SR M' d idx low m cq k met laid slin bl c := by
  have o : ∀ i, SX i → Own i := fun i hi => by unfold SX at hi; unfold Own; omega
  have r := fun i (hi : SX i) => hl.row i (o i hi)
  have s : ∀ i, i = 16 ∨ i = 21 ∨ i = 20 ∨ i = 22 ∨ i = 27 ∨ i = 23 ∨ i = 18 ∨ i = 19 ∨ i = 24 ∨ i = 25 ∨ i = 31 ∨ i = 32 ∨ i = 33 → SX i := fun i hi => hi
  refine ⟨⟨(r 16 (s _ (by omega))).1.trans h.st.1, hl.ints (o _ (s _ (by omega))) h.st.2.1, (r 16 (s _ (by omega))).2.2.1.trans h.st.2.2⟩, ⟨(r 21 (s _ (by omega))).1.trans h.en.1, (r 21 (s _ (by omega))).2.1.trans h.en.2.1, fun j hj => by rw [(r 21 (s _ (by omega))).2.2.2]; exact h.en.2.2.1 j hj, (r 21 (s _ (by omega))).2.2.1.trans h.en.2.2.2⟩,
    ⟨(r 20 (s _ (by omega))).1.trans h.ix.1, hl.ints (o _ (s _ (by omega))) h.ix.2.1, (r 20 (s _ (by omega))).2.2.1.trans h.ix.2.2⟩, ⟨(r 22 (s _ (by omega))).1.trans h.lw.1, hl.ints (o _ (s _ (by omega))) h.lw.2.1, (r 22 (s _ (by omega))).2.2.1.trans h.lw.2.2⟩, ⟨(r 27 (s _ (by omega))).2.1.trans h.cl.1, fun j hj => by rw [(r 27 (s _ (by omega))).2.2.2]; exact h.cl.2 j hj⟩, hl.ints (o _ (s _ (by omega))) h.me, h.sb.loc hl, ?_⟩
  exact ⟨(r 24 (s _ (by omega))).1.trans h.bb.1, (r 25 (s _ (by omega))).1.trans h.bb.2.1, (r 31 (s _ (by omega))).1.trans h.bb.2.2.1, (r 32 (s _ (by omega))).1.trans h.bb.2.2.2.1, (r 18 (s _ (by omega))).1.trans h.bb.2.2.2.2.1, (r 19 (s _ (by omega))).1.trans h.bb.2.2.2.2.2⟩
/-- What 'slotOf' leaves. -/
theorem SR.slot (h : SR M d idx low m cq k met laid slin bl c) (hl : LocX XS M M') {laid' slin' : Nat → Int} (hb : SB M' d.p d.N laid' slin' bl c) (b18 : M'.b 18 = M.b 18) (b19 : M'.b 19 = M.b 19) : SR M' d idx low m cq k met laid' slin' bl c := by
  have o : ∀ i, SX i → Own i := fun i hi => by unfold SX at hi; unfold Own; omega
  have r := fun i (hi : SX i) (hx : ¬ XS i) => hl.row i (o i hi) hx
  have s : ∀ i, i = 16 ∨ i = 21 ∨ i = 20 ∨ i = 22 ∨ i = 27 ∨ i = 23 ∨ i = 24 ∨ i = 25 ∨ i = 31 ∨ i = 32 ∨ i = 33 → SX i ∧ ¬ XS i := fun i hi => by unfold SX XS; omega
  have R := fun i (hi : i = 16 ∨ i = 21 ∨ i = 20 ∨ i = 22 ∨ i = 27 ∨ i = 23 ∨ i = 24 ∨ i = 25 ∨ i = 31 ∨ i = 32 ∨ i = 33) => r i (s i hi).1 (s i hi).2
  have I := fun i (hi : i = 16 ∨ i = 21 ∨ i = 20 ∨ i = 22 ∨ i = 27 ∨ i = 23 ∨ i = 24 ∨ i = 25 ∨ i = 31 ∨ i = 32 ∨ i = 33) (n : Nat) (f : Nat → Int) (hh : Ints M i n f) => hl.ints (o i (s i hi).1) (s i hi).2 hh
  refine ⟨⟨(R 16 (by omega)).1.trans h.st.1, I _ (by omega) _ _ h.st.2.1, (R 16 (by omega)).2.2.1.trans h.st.2.2⟩, ⟨(R 21 (by omega)).1.trans h.en.1, (R 21 (by omega)).2.1.trans h.en.2.1, fun j hj => by rw [(R 21 (by omega)).2.2.2]; exact h.en.2.2.1 j hj, (R 21 (by omega)).2.2.1.trans h.en.2.2.2⟩,
    ⟨(R 20 (by omega)).1.trans h.ix.1, I _ (by omega) _ _ h.ix.2.1, (R 20 (by omega)).2.2.1.trans h.ix.2.2⟩, ⟨(R 22 (by omega)).1.trans h.lw.1, I _ (by omega) _ _ h.lw.2.1, (R 22 (by omega)).2.2.1.trans h.lw.2.2⟩, ⟨(R 27 (by omega)).2.1.trans h.cl.1, fun j hj => by rw [(R 27 (by omega)).2.2.2]; exact h.cl.2 j hj⟩, I _ (by omega) _ _ h.me, hb, ?_⟩
  exact ⟨(R 24 (by omega)).1.trans h.bb.1, (R 25 (by omega)).1.trans h.bb.2.1, (R 31 (by omega)).1.trans h.bb.2.2.1, (R 32 (by omega)).1.trans h.bb.2.2.2.1, b18.trans h.bb.2.2.2.2.1, b19.trans h.bb.2.2.2.2.2⟩
theorem SR.setix (h : SR M d idx low m cq k met laid slin bl c) (j : Nat) (x : Int) : SR (M.set 20 j (.int .i64 x)) d (upd idx j x) low m cq k met laid slin bl c :=
  ⟨⟨h.st.1, h.st.2.1.set_ne (by omega), h.st.2.2⟩, ⟨h.en.1, h.en.2.1, fun j hj => by rw [set_F _ (by omega)]; exact h.en.2.2.1 j hj, h.en.2.2.2⟩, ⟨h.ix.1, h.ix.2.1.set, h.ix.2.2⟩, ⟨h.lw.1, h.lw.2.1.set_ne (by omega), h.lw.2.2⟩, ⟨h.cl.1, fun j hj => by rw [set_F _ (by omega)]; exact h.cl.2 j hj⟩, h.me.set_ne (by omega), h.sb.set_ne (by omega), h.bb⟩
theorem SR.setlw (h : SR M d idx low m cq k met laid slin bl c) (j : Nat) (x : Int) : SR (M.set 22 j (.int .i64 x)) d idx (upd low j x) m cq k met laid slin bl c :=
  ⟨⟨h.st.1, h.st.2.1.set_ne (by omega), h.st.2.2⟩, ⟨h.en.1, h.en.2.1, fun j hj => by rw [set_F _ (by omega)]; exact h.en.2.2.1 j hj, h.en.2.2.2⟩, ⟨h.ix.1, h.ix.2.1.set_ne (by omega), h.ix.2.2⟩, ⟨h.lw.1, h.lw.2.1.set, h.lw.2.2⟩, ⟨h.cl.1, fun j hj => by rw [set_F _ (by omega)]; exact h.cl.2 j hj⟩, h.me.set_ne (by omega), h.sb.set_ne (by omega), h.bb⟩
theorem SR.setcq (h : SR M d idx low m cq k met laid slin bl c) (t : Nat) (x : Int) : SR (M.set 27 t (.int .i64 x)) d idx low m (upd cq t x) k met laid slin bl c :=
  ⟨⟨h.st.1, h.st.2.1.set_ne (by omega), h.st.2.2⟩, ⟨h.en.1, h.en.2.1, fun j hj => by rw [set_F _ (by omega)]; exact h.en.2.2.1 j hj, h.en.2.2.2⟩, ⟨h.ix.1, h.ix.2.1.set_ne (by omega), h.ix.2.2⟩, ⟨h.lw.1, h.lw.2.1.set_ne (by omega), h.lw.2.2⟩, ⟨h.cl.1, fun j hj => upd_cell (fun e => by subst e; exact set_Fs) (fun e => (set_Fj e).trans (h.cl.2 j hj))⟩, h.me.set_ne (by omega), h.sb.set_ne (by omega), h.bb⟩
theorem SR.cutcall (h : SR M d idx low m cq k met laid slin bl c) {m' : Nat} (hm : m' ≤ m) (b : Option Nat) (cap : Nat) : SR (M.put 27 b m' cap (M.F 27)) d idx low m' cq k met laid slin bl c :=
  ⟨⟨by rw [put_b (by omega)]; exact h.st.1, h.st.2.1.put_ne (by omega), by rw [put_cap (by omega)]; exact h.st.2.2⟩, ⟨by rw [put_b (by omega)]; exact h.en.1, by rw [put_n (by omega)]; exact h.en.2.1, fun j hj => by rw [put_F (by omega)]; exact h.en.2.2.1 j hj, by rw [put_cap (by omega)]; exact h.en.2.2.2⟩, ⟨by rw [put_b (by omega)]; exact h.ix.1, h.ix.2.1.put_ne (by omega), by rw [put_cap (by omega)]; exact h.ix.2.2⟩, ⟨by rw [put_b (by omega)]; exact h.lw.1, h.lw.2.1.put_ne (by omega), by rw [put_cap (by omega)]; exact h.lw.2.2⟩,
    ⟨put_ns, fun j hj => by rw [put_Fs]; exact h.cl.2 j (by omega)⟩, h.me.put_ne (by omega), h.sb.put_ne (by omega), by rw [put_b (by omega), put_b (by omega), put_b (by omega), put_b (by omega), put_b (by omega), put_b (by omega)]; exact h.bb⟩
theorem SR.pushcall (h : SR M d idx low m cq k met laid slin bl c) (x y z : Int) (b : Option Nat) (cap : Nat) :
    SR (M.put 27 b (M.n 27 + 1) cap (ext (M.F 27) (M.n 27 * 3) [.int .i64 x, .int .i64 y, .int .i64 z])) d idx low (m + 1) (upd (upd (upd cq (m * 3) x) (m * 3 + 1) y) (m * 3 + 2) z) k met laid slin bl c := by
  refine ⟨⟨by rw [put_b (by omega)]; exact h.st.1, h.st.2.1.put_ne (by omega), by rw [put_cap (by omega)]; exact h.st.2.2⟩, ⟨by rw [put_b (by omega)]; exact h.en.1, by rw [put_n (by omega)]; exact h.en.2.1, fun j hj => by rw [put_F (by omega)]; exact h.en.2.2.1 j hj, by rw [put_cap (by omega)]; exact h.en.2.2.2⟩, ⟨by rw [put_b (by omega)]; exact h.ix.1, h.ix.2.1.put_ne (by omega), by rw [put_cap (by omega)]; exact h.ix.2.2⟩, ⟨by rw [put_b (by omega)]; exact h.lw.1, h.lw.2.1.put_ne (by omega), by rw [put_cap (by omega)]; exact h.lw.2.2⟩,
    ⟨by rw [put_ns, h.cl.1], fun j hj => ?_⟩, h.me.put_ne (by omega), h.sb.put_ne (by omega), by rw [put_b (by omega), put_b (by omega), put_b (by omega), put_b (by omega), put_b (by omega), put_b (by omega)]; exact h.bb⟩
  rw [put_Fs, h.cl.1]
  unfold ext
  by_cases e1 : j = m * 3
  · subst e1; rw [if_neg (by omega), upd_other _ _ (by omega), upd_other _ _ (by omega), upd_same, Nat.sub_self]; rfl
  · by_cases e2 : j = m * 3 + 1
    · subst e2; rw [if_neg (by omega), upd_other _ _ (by omega), upd_same, show m * 3 + 1 - m * 3 = 1 by omega]; rfl
    · by_cases e3 : j = m * 3 + 2
      · subst e3; rw [if_neg (by omega), upd_same, show m * 3 + 2 - m * 3 = 2 by omega]; rfl
      · rw [if_pos (by omega), upd_other _ _ e3, upd_other _ _ e2, upd_other _ _ e1]; exact h.cl.2 j (by omega)
theorem SR.cutmet (h : SR M d idx low m cq k met laid slin bl c) {k' : Nat} (hk : k' ≤ k) (b : Option Nat) (cap : Nat) : SR (M.put 23 b k' cap (M.F 23)) d idx low m cq k' met laid slin bl c :=
  ⟨⟨by rw [put_b (by omega)]; exact h.st.1, h.st.2.1.put_ne (by omega), by rw [put_cap (by omega)]; exact h.st.2.2⟩, ⟨by rw [put_b (by omega)]; exact h.en.1, by rw [put_n (by omega)]; exact h.en.2.1, fun j hj => by rw [put_F (by omega)]; exact h.en.2.2.1 j hj, by rw [put_cap (by omega)]; exact h.en.2.2.2⟩, ⟨by rw [put_b (by omega)]; exact h.ix.1, h.ix.2.1.put_ne (by omega), by rw [put_cap (by omega)]; exact h.ix.2.2⟩, ⟨by rw [put_b (by omega)]; exact h.lw.1, h.lw.2.1.put_ne (by omega), by rw [put_cap (by omega)]; exact h.lw.2.2⟩,
    ⟨by rw [put_n (by omega)]; exact h.cl.1, fun j hj => by rw [put_F (by omega)]; exact h.cl.2 j hj⟩, h.me.cut hk, h.sb.put_ne (by omega), by rw [put_b (by omega), put_b (by omega), put_b (by omega), put_b (by omega), put_b (by omega), put_b (by omega)]; exact h.bb⟩
theorem SR.pushmet (h : SR M d idx low m cq k met laid slin bl c) (x : Int) (b : Option Nat) (cap : Nat) :
    SR (M.put 23 b (M.n 23 + 1) cap (ext (M.F 23) (M.n 23 * 1) [.int .i64 x])) d idx low m cq (k + 1) (upd met k x) laid slin bl c :=
  ⟨⟨by rw [put_b (by omega)]; exact h.st.1, h.st.2.1.put_ne (by omega), by rw [put_cap (by omega)]; exact h.st.2.2⟩, ⟨by rw [put_b (by omega)]; exact h.en.1, by rw [put_n (by omega)]; exact h.en.2.1, fun j hj => by rw [put_F (by omega)]; exact h.en.2.2.1 j hj, by rw [put_cap (by omega)]; exact h.en.2.2.2⟩, ⟨by rw [put_b (by omega)]; exact h.ix.1, h.ix.2.1.put_ne (by omega), by rw [put_cap (by omega)]; exact h.ix.2.2⟩, ⟨by rw [put_b (by omega)]; exact h.lw.1, h.lw.2.1.put_ne (by omega), by rw [put_cap (by omega)]; exact h.lw.2.2⟩,
    ⟨by rw [put_n (by omega)]; exact h.cl.1, fun j hj => by rw [put_F (by omega)]; exact h.cl.2 j hj⟩, h.me.push, h.sb.put_ne (by omega), by rw [put_b (by omega), put_b (by omega), put_b (by omega), put_b (by omega), put_b (by omega), put_b (by omega)]; exact h.bb⟩
theorem SR.setbl (h : SR M d idx low m cq k met laid slin bl c) (x : Int) : SR (M.set 24 0 (.int .i64 x)) d idx low m cq k met laid slin x c := by
  refine ⟨⟨h.st.1, h.st.2.1.set_ne (by omega), h.st.2.2⟩, ⟨h.en.1, h.en.2.1, fun j hj => by rw [set_F _ (by omega)]; exact h.en.2.2.1 j hj, h.en.2.2.2⟩, ⟨h.ix.1, h.ix.2.1.set_ne (by omega), h.ix.2.2⟩, ⟨h.lw.1, h.lw.2.1.set_ne (by omega), h.lw.2.2⟩, ⟨h.cl.1, fun j hj => by rw [set_F _ (by omega)]; exact h.cl.2 j hj⟩, h.me.set_ne (by omega), ?_, h.bb⟩
  refine ⟨h.sb.n33, ?_, h.sb.n31, ?_, h.sb.n32, ?_, h.sb.laid.set_ne (by omega), h.sb.slin.set_ne (by omega), ⟨h.sb.bl.1, fun j hj => ?_⟩, h.sb.c.set_ne (by omega)⟩
  · rw [set_F _ (by omega)]; exact h.sb.f33
  · rw [set_F _ (by omega)]; exact h.sb.f31
  · rw [set_F _ (by omega)]; exact h.sb.f32
  · have : j = 0 := by omega
    subst this
    exact set_Fs
theorem SR.setc (h : SR M d idx low m cq k met laid slin bl c) (x : Int) : SR (M.set 25 0 (.int .i64 x)) d idx low m cq k met laid slin bl x := by
  refine ⟨⟨h.st.1, h.st.2.1.set_ne (by omega), h.st.2.2⟩, ⟨h.en.1, h.en.2.1, fun j hj => by rw [set_F _ (by omega)]; exact h.en.2.2.1 j hj, h.en.2.2.2⟩, ⟨h.ix.1, h.ix.2.1.set_ne (by omega), h.ix.2.2⟩, ⟨h.lw.1, h.lw.2.1.set_ne (by omega), h.lw.2.2⟩, ⟨h.cl.1, fun j hj => by rw [set_F _ (by omega)]; exact h.cl.2 j hj⟩, h.me.set_ne (by omega), ?_, h.bb⟩
  refine ⟨h.sb.n33, ?_, h.sb.n31, ?_, h.sb.n32, ?_, h.sb.laid.set_ne (by omega), h.sb.slin.set_ne (by omega), h.sb.bl.set_ne (by omega), ⟨h.sb.c.1, fun j hj => ?_⟩⟩
  · rw [set_F _ (by omega)]; exact h.sb.f33
  · rw [set_F _ (by omega)]; exact h.sb.f31
  · rw [set_F _ (by omega)]; exact h.sb.f32
  · have : j = 0 := by omega
    subst this
    exact set_Fs
end
end Go.Proofs.Qxb6602148a
