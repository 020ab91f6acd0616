/-
  THE PARTITION IN MEMORY, the writes that turn a slot or a component's list. (Rows written by a small script.)
-/
import Derived.Test.Qxb6602148aPM
namespace Go.Proofs.Qxb6602148a
open Go.RowKit
set_option linter.unusedVariables false

section
variable {M : Fam} {P : PS}

theorem val_congr {M M' : Fam} {i j : Nat} (h1 : M'.b i = M.b j) (h2 : M'.n i = M.n j) (h3 : M'.cap i = M.cap j) : M'.val i = M.val j := by simp [Fam.val, h1, h2, h3]

/-- One element more in component c's list. -/
def PS.pushMem (P : PS) (c : Nat) (x : Int) : PS := { P with mn := upn P.mn c (P.mn c + 1), mem := fun k => if k = c then upd (P.mem c) (P.mn c) x else P.mem k }
theorem PM.push_mem (h : PM M P) {c : Nat} (hc : c < P.nC) (x : Int) (g k : Nat) :
    PM ((M.put (61 + 3 * c) (some g) (M.n (61 + 3 * c) + 1) k (ext (M.F (61 + 3 * c)) (M.n (61 + 3 * c) * 1) [.int .i64 x])).set 5 c (.slice (some ⟨g, 0, none⟩) (M.n (61 + 3 * c) + 1) k)) (P.pushMem c x) := by
  have hi := (h.mem c hc).push (b := some g) (cap := k) (x := x)
  refine ⟨?_, ?_, ?_, ?_, ?_, ?_, ?_, ?_, ?_, ?_, ?_, ?_, ?_, ?_, ?_, ?_, ?_, ?_, ?_, ?_, ?_, ?_, ?_, ?_, ?_, ?_, ?_, ?_⟩
  · rw [set_n, put_n (by omega)]; exact h.p
  · intro j hj; rw [set_F _ (by omega), put_F (by omega), set_val, put_val (by omega)]; exact h.hd j hj
  · rw [set_F _ (by omega), put_F (by omega)]; exact h.marks
  · exact (h.first.put_ne (by omega)).set_ne (by omega)
  · exact (h.fr.put_ne (by omega)).set_ne (by omega)
  · exact (h.to.put_ne (by omega)).set_ne (by omega)
  · rw [set_n, put_n (by omega)]; exact h.nS
  · intro s hs; rw [set_F _ (by omega), put_F (by omega)]; exact h.node s hs
  · intro s hs; rw [set_F _ (by omega), put_F (by omega)]; exact h.comp s hs
  · intro s hs; rw [set_F _ (by omega), put_F (by omega), set_val, put_val (by omega)]; exact h.outh s hs
  · intro s hs; rw [set_F _ (by omega), put_F (by omega)]; exact h.idx s hs
  · intro s hs; rw [set_F _ (by omega), put_F (by omega)]; exact h.low s hs
  · intro s hs; rw [set_F _ (by omega), put_F (by omega)]; exact h.mark s hs
  · intro s hs; rw [set_F _ (by omega), put_F (by omega)]; exact h.loc s hs
  · intro s hs; exact ((h.out s hs).put_ne (by omega)).set_ne (by omega)
  · intro s hs; rw [set_b, put_b (by omega)]; exact h.onil s hs
  · exact (h.free.put_ne (by omega)).set_ne (by omega)
  · rw [set_n, put_n (by omega)]; exact h.nC
  · intro d hd
    by_cases e : d = c
    · subst e; rw [set_Fs, set_val, put_vals]; rfl
    · rw [set_Fj e, put_F (by omega), set_val, put_val (by omega)]; exact h.memh d hd
  · intro d hd
    show Ints _ (61 + 3 * d) (upn P.mn c (P.mn c + 1) d) (if d = c then upd (P.mem c) (P.mn c) x else P.mem d)
    by_cases e : d = c
    · subst e; rw [upn_same, if_pos rfl]; exact hi.set_ne (by omega)
    · rw [upn_other _ _ e, if_neg e]; exact ((h.mem d hd).put_ne (by omega)).set_ne (by omega)
  · intro d hd
    have hd : P.nC ≤ d := hd
    rw [set_b, put_b (by omega)]; exact h.cnil d hd
  · intro d hd h0
    have h0 : upn P.mn c (P.mn c + 1) d = 0 := h0
    by_cases e : d = c
    · subst e; rw [upn_same] at h0; omega
    · rw [upn_other _ _ e] at h0; rw [set_b, put_b (by omega)]; exact h.mnil d hd h0
  · exact (h.unused.put_ne (by omega)).set_ne (by omega)
  · exact (h.edg.put_ne (by omega)).set_ne (by omega)
  · exact (h.spent.put_ne (by omega)).set_ne (by omega)
  · exact (h.stk.put_ne (by omega)).set_ne (by omega)
  · rw [set_n, put_n (by omega)]; exact h.cqn
  · intro j hj; rw [set_F _ (by omega), put_F (by omega)]; exact h.cq j hj

/-- The cells of a new slot. -/
def slotCells (v c : Int) : List Value := [.int .i64 v, .int .i64 c, .slice none 0 0, .int .i64 0, .int .i64 0, .int .i64 0, .int .i64 0]

/-- A slot more. -/
def PS.pushSlot (P : PS) (v c : Int) : PS :=
  { P with nS := P.nS + 1, node := upd P.node P.nS v, comp := upd P.comp P.nS c, idx := upd P.idx P.nS 0, low := upd P.low P.nS 0, mark := upd P.mark P.nS 0, loc := upd P.loc P.nS 0, on := upn P.on P.nS 0 }
theorem PM.push_slot (h : PM M P) (hR : ∀ s, M.b (60 + 3 * s) = none → M.n (60 + 3 * s) = 0 ∧ M.cap (60 + 3 * s) = 0) (v c : Int) (g k : Nat) :
    PM ((M.put 3 (some g) (M.n 3 + 1) k (ext (M.F 3) (M.n 3 * 7) (slotCells v c))).set 11 3 (.slice (some ⟨g, 0, none⟩) (M.n 3 + 1) k)) (P.pushSlot v c) := by
  have e3 := h.nS
  have old : ∀ j, j < 7 * P.nS → ext (M.F 3) (M.n 3 * 7) (slotCells v c) j = M.F 3 j := by
    intro j hj; unfold ext; rw [if_pos (by rw [e3]; omega)]
  have new : ∀ j, j < 7 → ext (M.F 3) (M.n 3 * 7) (slotCells v c) (P.nS * 7 + j) = ((slotCells v c)[j]?).getD (.int .i64 0) := by
    intro j hj; unfold ext; rw [if_neg (by rw [e3]; omega), show P.nS * 7 + j - M.n 3 * 7 = j by rw [e3]; omega]
  refine ⟨?_, ?_, ?_, ?_, ?_, ?_, ?_, ?_, ?_, ?_, ?_, ?_, ?_, ?_, ?_, ?_, ?_, ?_, ?_, ?_, ?_, ?_, ?_, ?_, ?_, ?_, ?_, ?_⟩
  · rw [set_n, put_n (by omega)]; exact h.p
  · intro j hj
    by_cases e : j = 3
    · subst e; rw [set_Fs, set_val, put_vals]; rfl
    · rw [set_Fj e, put_F (by omega), set_val, put_val e]; exact h.hd j hj
  · rw [set_Fj (by omega), put_F (by omega)]; exact h.marks
  · exact (h.first.put_ne (by omega)).set_ne (by omega)
  · exact (h.fr.put_ne (by omega)).set_ne (by omega)
  · exact (h.to.put_ne (by omega)).set_ne (by omega)
  · rw [set_n, put_ns, e3]; rfl
  · intro s hs
    have hs : s < P.nS + 1 := hs
    rw [set_F _ (by omega), put_Fs]
    refine upd_cell (fun e => ?_) (fun e => ?_)
    · subst e; exact (new 0 (by omega)).trans rfl
    · rw [old _ (by omega)]; exact h.node s (by omega)
  · intro s hs
    have hs : s < P.nS + 1 := hs
    rw [set_F _ (by omega), put_Fs]
    refine upd_cell (fun e => ?_) (fun e => ?_)
    · subst e; exact (new 1 (by omega)).trans rfl
    · rw [old _ (by omega)]; exact h.comp s (by omega)
  · intro s hs
    have hs : s < P.nS + 1 := hs
    rw [set_F _ (by omega), put_Fs, set_val, put_val (by omega)]
    by_cases e : s = P.nS
    · subst e
      have hb := h.onil P.nS (by omega)
      refine (new 2 (by omega)).trans ?_
      simp [slotCells, Fam.val, hb, (hR _ hb).1, (hR _ hb).2]
    · rw [old _ (by omega)]; exact h.outh s (by omega)
  · intro s hs
    have hs : s < P.nS + 1 := hs
    rw [set_F _ (by omega), put_Fs]
    refine upd_cell (fun e => ?_) (fun e => ?_)
    · subst e; exact (new 3 (by omega)).trans rfl
    · rw [old _ (by omega)]; exact h.idx s (by omega)
  · intro s hs
    have hs : s < P.nS + 1 := hs
    rw [set_F _ (by omega), put_Fs]
    refine upd_cell (fun e => ?_) (fun e => ?_)
    · subst e; exact (new 4 (by omega)).trans rfl
    · rw [old _ (by omega)]; exact h.low s (by omega)
  · intro s hs
    have hs : s < P.nS + 1 := hs
    rw [set_F _ (by omega), put_Fs]
    refine upd_cell (fun e => ?_) (fun e => ?_)
    · subst e; exact (new 5 (by omega)).trans rfl
    · rw [old _ (by omega)]; exact h.mark s (by omega)
  · intro s hs
    have hs : s < P.nS + 1 := hs
    rw [set_F _ (by omega), put_Fs]
    refine upd_cell (fun e => ?_) (fun e => ?_)
    · subst e; exact (new 6 (by omega)).trans rfl
    · rw [old _ (by omega)]; exact h.loc s (by omega)
  · intro s hs
    have hs : s < P.nS + 1 := hs
    show Ints _ (60 + 3 * s) (upn P.on P.nS 0 s) (P.out s)
    by_cases e : s = P.nS
    · subst e
      have hb := h.onil P.nS (by omega)
      rw [upn_same]
      exact ⟨by rw [set_n, put_n (by omega)]; exact (hR _ hb).1, fun j hj => by omega⟩
    · rw [upn_other _ _ e]; exact ((h.out s (by omega)).put_ne (by omega)).set_ne (by omega)
  · intro s hs
    have hs : P.nS + 1 ≤ s := hs
    rw [set_b, put_b (by omega)]; exact h.onil s (by omega)
  · exact (h.free.put_ne (by omega)).set_ne (by omega)
  · rw [set_n, put_n (by omega)]; exact h.nC
  · intro d hd; rw [set_F _ (by omega), put_F (by omega), set_val, put_val (by omega)]; exact h.memh d hd
  · intro d hd; exact ((h.mem d hd).put_ne (by omega)).set_ne (by omega)
  · intro d hd; rw [set_b, put_b (by omega)]; exact h.cnil d hd
  · intro d hd h0; rw [set_b, put_b (by omega)]; exact h.mnil d hd h0
  · exact (h.unused.put_ne (by omega)).set_ne (by omega)
  · exact (h.edg.put_ne (by omega)).set_ne (by omega)
  · exact (h.spent.put_ne (by omega)).set_ne (by omega)
  · exact (h.stk.put_ne (by omega)).set_ne (by omega)
  · rw [set_n, put_n (by omega)]; exact h.cqn
  · intro j hj; rw [set_F _ (by omega), put_F (by omega)]; exact h.cq j hj

theorem set_comm {i j i' j' : Nat} {v v' : Value} (h : ¬ (i = i' ∧ j = j')) : (M.set i j v).set i' j' v' = (M.set i' j' v').set i j v := by
  unfold Fam.set
  simp only [Fam.mk.injEq, true_and]
  funext a b
  by_cases h1 : a = i ∧ b = j
  · obtain ⟨rfl, rfl⟩ := h1
    simp [h]
  · simp [h1]

/-- A slot's list is let go. -/
def PS.dropOut (P : PS) (t : Nat) : PS := { P with on := upn P.on t 0 }
theorem PM.drop_out (h : PM M P) {t : Nat} (ht : t < P.nS) (f : Nat → Value) : PM ((M.put (60 + 3 * t) none 0 0 f).set 3 (t * 7 + 2) (.slice none 0 0)) (P.dropOut t) := by
  refine ⟨?_, ?_, ?_, ?_, ?_, ?_, ?_, ?_, ?_, ?_, ?_, ?_, ?_, ?_, ?_, ?_, ?_, ?_, ?_, ?_, ?_, ?_, ?_, ?_, ?_, ?_, ?_, ?_⟩
  · rw [set_n, put_n (by omega)]; exact h.p
  · intro j hj; rw [set_F _ (by omega), put_F (by omega), set_val, put_val (by omega)]; exact h.hd j hj
  · rw [set_F _ (by omega), put_F (by omega)]; exact h.marks
  · exact (h.first.put_ne (by omega)).set_ne (by omega)
  · exact (h.fr.put_ne (by omega)).set_ne (by omega)
  · exact (h.to.put_ne (by omega)).set_ne (by omega)
  · rw [set_n, put_n (by omega)]; exact h.nS
  · intro s hs; rw [set_Fj (by omega), put_F (by omega)]; exact h.node s hs
  · intro s hs; rw [set_Fj (by omega), put_F (by omega)]; exact h.comp s hs
  · intro s hs
    by_cases e : s = t
    · subst e; rw [set_Fs, set_val, put_vals]; rfl
    · rw [set_Fj (by omega), put_F (by omega), set_val, put_val (by omega)]; exact h.outh s hs
  · intro s hs; rw [set_Fj (by omega), put_F (by omega)]; exact h.idx s hs
  · intro s hs; rw [set_Fj (by omega), put_F (by omega)]; exact h.low s hs
  · intro s hs; rw [set_Fj (by omega), put_F (by omega)]; exact h.mark s hs
  · intro s hs; rw [set_Fj (by omega), put_F (by omega)]; exact h.loc s hs
  · intro s hs
    show Ints _ (60 + 3 * s) (upn P.on t 0 s) (P.out s)
    by_cases e : s = t
    · subst e; rw [upn_same]; exact ⟨by rw [set_n, put_ns], fun j hj => by omega⟩
    · rw [upn_other _ _ e]; exact ((h.out s hs).put_ne (by omega)).set_ne (by omega)
  · intro s hs
    have hs : P.nS ≤ s := hs
    rw [set_b, put_b (by omega)]; exact h.onil s hs
  · exact (h.free.put_ne (by omega)).set_ne (by omega)
  · rw [set_n, put_n (by omega)]; exact h.nC
  · intro d hd; rw [set_F _ (by omega), put_F (by omega), set_val, put_val (by omega)]; exact h.memh d hd
  · intro d hd; exact ((h.mem d hd).put_ne (by omega)).set_ne (by omega)
  · intro d hd; rw [set_b, put_b (by omega)]; exact h.cnil d hd
  · intro d hd h0; rw [set_b, put_b (by omega)]; exact h.mnil d hd h0
  · exact (h.unused.put_ne (by omega)).set_ne (by omega)
  · exact (h.edg.put_ne (by omega)).set_ne (by omega)
  · exact (h.spent.put_ne (by omega)).set_ne (by omega)
  · exact (h.stk.put_ne (by omega)).set_ne (by omega)
  · rw [set_n, put_n (by omega)]; exact h.cqn
  · intro j hj; rw [set_F _ (by omega), put_F (by omega)]; exact h.cq j hj

def PS.reset (P : PS) (t : Nat) (v c : Int) : PS :=
  { P with node := upd P.node t v, comp := upd P.comp t c, idx := upd P.idx t 0, low := upd P.low t 0, mark := upd P.mark t 0, loc := upd P.loc t 0, on := upn P.on t 0 }
theorem PM.reset (h : PM M P) {t : Nat} (ht : t < P.nS) (v c : Int) (f : Nat → Value) :
    PM ((((((((M.put (60 + 3 * t) none 0 0 f).set 3 (t * 7) (.int .i64 v)).set 3 (t * 7 + 1) (.int .i64 c)).set 3 (t * 7 + 2) (.slice none 0 0)).set 3 (t * 7 + 3) (.int .i64 0)).set 3 (t * 7 + 4) (.int .i64 0)).set 3 (t * 7 + 5) (.int .i64 0)).set 3 (t * 7 + 6) (.int .i64 0)) (P.reset t v c) := by
  rw [set_comm (i := 3) (j := t * 7 + 1) (i' := 3) (j' := t * 7 + 2) (by omega), set_comm (i := 3) (j := t * 7) (i' := 3) (j' := t * 7 + 2) (by omega)]
  exact ((((((h.drop_out ht f).set_node t v).set_comp t c).set_idx t 0).set_low t 0).set_mark t 0).set_loc t 0

/-- One edge more in a slot's list. -/
def PS.pushOut (P : PS) (t : Nat) (x : Int) : PS := { P with on := upn P.on t (P.on t + 1), out := fun s => if s = t then upd (P.out t) (P.on t) x else P.out s }
theorem PM.push_out (h : PM M P) {t : Nat} (ht : t < P.nS) (x : Int) (g k : Nat) :
    PM ((M.put (60 + 3 * t) (some g) (M.n (60 + 3 * t) + 1) k (ext (M.F (60 + 3 * t)) (M.n (60 + 3 * t) * 1) [.int .i64 x])).set 3 (t * 7 + 2) (.slice (some ⟨g, 0, none⟩) (M.n (60 + 3 * t) + 1) k)) (P.pushOut t x) := by
  have hi := (h.out t ht).push (b := some g) (cap := k) (x := x)
  refine ⟨?_, ?_, ?_, ?_, ?_, ?_, ?_, ?_, ?_, ?_, ?_, ?_, ?_, ?_, ?_, ?_, ?_, ?_, ?_, ?_, ?_, ?_, ?_, ?_, ?_, ?_, ?_, ?_⟩
  · rw [set_n, put_n (by omega)]; exact h.p
  · intro j hj; rw [set_F _ (by omega), put_F (by omega), set_val, put_val (by omega)]; exact h.hd j hj
  · rw [set_F _ (by omega), put_F (by omega)]; exact h.marks
  · exact (h.first.put_ne (by omega)).set_ne (by omega)
  · exact (h.fr.put_ne (by omega)).set_ne (by omega)
  · exact (h.to.put_ne (by omega)).set_ne (by omega)
  · rw [set_n, put_n (by omega)]; exact h.nS
  · intro s hs; rw [set_Fj (by omega), put_F (by omega)]; exact h.node s hs
  · intro s hs; rw [set_Fj (by omega), put_F (by omega)]; exact h.comp s hs
  · intro s hs
    by_cases e : s = t
    · subst e; rw [set_Fs, set_val, put_vals]; rfl
    · rw [set_Fj (by omega), put_F (by omega), set_val, put_val (by omega)]; exact h.outh s hs
  · intro s hs; rw [set_Fj (by omega), put_F (by omega)]; exact h.idx s hs
  · intro s hs; rw [set_Fj (by omega), put_F (by omega)]; exact h.low s hs
  · intro s hs; rw [set_Fj (by omega), put_F (by omega)]; exact h.mark s hs
  · intro s hs; rw [set_Fj (by omega), put_F (by omega)]; exact h.loc s hs
  · intro s hs
    show Ints _ (60 + 3 * s) (upn P.on t (P.on t + 1) s) (if s = t then upd (P.out t) (P.on t) x else P.out s)
    by_cases e : s = t
    · subst e; rw [upn_same, if_pos rfl]; exact hi.set_ne (by omega)
    · rw [upn_other _ _ e, if_neg e]; exact ((h.out s hs).put_ne (by omega)).set_ne (by omega)
  · intro s hs
    have hs : P.nS ≤ s := hs
    rw [set_b, put_b (by omega)]; exact h.onil s hs
  · exact (h.free.put_ne (by omega)).set_ne (by omega)
  · rw [set_n, put_n (by omega)]; exact h.nC
  · intro d hd; rw [set_F _ (by omega), put_F (by omega), set_val, put_val (by omega)]; exact h.memh d hd
  · intro d hd; exact ((h.mem d hd).put_ne (by omega)).set_ne (by omega)
  · intro d hd; rw [set_b, put_b (by omega)]; exact h.cnil d hd
  · intro d hd h0; rw [set_b, put_b (by omega)]; exact h.mnil d hd h0
  · exact (h.unused.put_ne (by omega)).set_ne (by omega)
  · exact (h.edg.put_ne (by omega)).set_ne (by omega)
  · exact (h.spent.put_ne (by omega)).set_ne (by omega)
  · exact (h.stk.put_ne (by omega)).set_ne (by omega)
  · rw [set_n, put_n (by omega)]; exact h.cqn
  · intro j hj; rw [set_F _ (by omega), put_F (by omega)]; exact h.cq j hj

/-- A component's list is let go. -/
def PS.dropMem (P : PS) (c : Nat) : PS := { P with mn := upn P.mn c 0 }
theorem PM.drop_mem (h : PM M P) {c : Nat} (hc : c < P.nC) (f : Nat → Value) :
    PM ((M.put (61 + 3 * c) none 0 0 f).set 5 c (.slice none 0 0)) (P.dropMem c) := by
  refine ⟨?_, ?_, ?_, ?_, ?_, ?_, ?_, ?_, ?_, ?_, ?_, ?_, ?_, ?_, ?_, ?_, ?_, ?_, ?_, ?_, ?_, ?_, ?_, ?_, ?_, ?_, ?_, ?_⟩
  · rw [set_n, put_n (by omega)]; exact h.p
  · intro j hj; rw [set_F _ (by omega), put_F (by omega), set_val, put_val (by omega)]; exact h.hd j hj
  · rw [set_F _ (by omega), put_F (by omega)]; exact h.marks
  · exact (h.first.put_ne (by omega)).set_ne (by omega)
  · exact (h.fr.put_ne (by omega)).set_ne (by omega)
  · exact (h.to.put_ne (by omega)).set_ne (by omega)
  · rw [set_n, put_n (by omega)]; exact h.nS
  · intro s hs; rw [set_F _ (by omega), put_F (by omega)]; exact h.node s hs
  · intro s hs; rw [set_F _ (by omega), put_F (by omega)]; exact h.comp s hs
  · intro s hs; rw [set_F _ (by omega), put_F (by omega), set_val, put_val (by omega)]; exact h.outh s hs
  · intro s hs; rw [set_F _ (by omega), put_F (by omega)]; exact h.idx s hs
  · intro s hs; rw [set_F _ (by omega), put_F (by omega)]; exact h.low s hs
  · intro s hs; rw [set_F _ (by omega), put_F (by omega)]; exact h.mark s hs
  · intro s hs; rw [set_F _ (by omega), put_F (by omega)]; exact h.loc s hs
  · intro s hs; exact ((h.out s hs).put_ne (by omega)).set_ne (by omega)
  · intro s hs; rw [set_b, put_b (by omega)]; exact h.onil s hs
  · exact (h.free.put_ne (by omega)).set_ne (by omega)
  · rw [set_n, put_n (by omega)]; exact h.nC
  · intro d hd
    by_cases e : d = c
    · subst e; rw [set_Fs, set_val, put_vals]; rfl
    · rw [set_Fj e, put_F (by omega), set_val, put_val (by omega)]; exact h.memh d hd
  · intro d hd
    show Ints _ (61 + 3 * d) (upn P.mn c 0 d) (P.mem d)
    by_cases e : d = c
    · subst e; rw [upn_same]; exact ⟨by rw [set_n, put_ns], fun j hj => by omega⟩
    · rw [upn_other _ _ e]; exact ((h.mem d hd).put_ne (by omega)).set_ne (by omega)
  · intro d hd
    have hd : P.nC ≤ d := hd
    rw [set_b, put_b (by omega)]; exact h.cnil d hd
  · intro d hd h0
    have h0 : upn P.mn c 0 d = 0 := h0
    by_cases e : d = c
    · subst e; rw [set_b, put_bs]
    · rw [upn_other _ _ e] at h0; rw [set_b, put_b (by omega)]; exact h.mnil d hd h0
  · exact (h.unused.put_ne (by omega)).set_ne (by omega)
  · exact (h.edg.put_ne (by omega)).set_ne (by omega)
  · exact (h.spent.put_ne (by omega)).set_ne (by omega)
  · exact (h.stk.put_ne (by omega)).set_ne (by omega)
  · rw [set_n, put_n (by omega)]; exact h.cqn
  · intro j hj; rw [set_F _ (by omega), put_F (by omega)]; exact h.cq j hj
end
end Go.Proofs.Qxb6602148a
