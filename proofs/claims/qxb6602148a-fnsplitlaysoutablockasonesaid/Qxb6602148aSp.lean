/-
  'split': what the walk carries along.
-/
import Derived.Test.Qxb6602148aMem2
import Derived.Test.Qxb6602148aAdj
import Derived.Deep.DeepCutAuto
attribute [local go_sem] Go.Proofs.Qxb6602148a.yTo Go.Proofs.Qxb6602148a.yUpon
namespace Go.Proofs.Qxb6602148a
open Go.RowKit
set_option linter.unusedVariables false
set_option linter.unusedSimpArgs false

/-- The rows that 'split' lays for itself. -/
def XA (i : Nat) : Prop := (16 ≤ i ∧ i ≤ 25) ∨ i = 27 ∨ (31 ≤ i ∧ i ≤ 33)

/-- The memory, as 'split' has it: from w, M on. -/
structure SIn (w : World) (M : Fam) (p q33 : Nat) (wr : World) (M' : Fam) (P' : PS) : Prop where
  rep : Rep KP wr M'
  pm : PM M' P'
  grew : Grew M w M' wr
  loc : LocX XA M M'
  b33 : M'.b 33 = some q33
  n33 : M'.n 33 = 1
  f33 : M'.F 33 0 = .pointer (some ⟨p, 0, none⟩)

section
variable {w wr : World} {M M' : Fam} {p q33 : Nat} {P' : PS}

theorem SIn.drew (h : SIn w M p q33 wr M' P') : SIn w M p q33 wr.drew M' P' := ⟨h.rep.drew, h.pm, h.grew.drew, h.loc, h.b33, h.n33, h.f33⟩
theorem SIn.alloc (h : SIn w M p q33 wr M' P') (o : Obj) : SIn w M p q33 (wr.alloc o) M' P' := ⟨h.rep.alloc o, h.pm, h.grew.alloc o, h.loc, h.b33, h.n33, h.f33⟩
theorem SIn.box (h : SIn w M p q33 wr M' P') : wr.cell? ⟨q33, 0, none⟩ = some (.pointer (some ⟨p, 0, none⟩)) := (h.rep.cell h.b33 (by rw [h.n33]; decide)).trans (congrArg some h.f33)
theorem SIn.hp (h : SIn w M p q33 wr M' P') (hp : M.b 11 = some p) : M'.b 11 = some p := h.loc.p.trans hp
theorem SIn.marks (h : SIn w M p q33 wr M' P') (hp : M.b 11 = some p) : wr.cell? ⟨p, 11, none⟩ = some (.int .i64 P'.marks) := pcell h.rep (h.hp hp) h.pm.p (by omega) h.pm.marks
/-- A cell of the slots. -/
theorem SIn.slot (h : SIn w M p q33 wr M' P') {g3 s k : Nat} (b3 : M'.b 3 = some g3) (hs : s < P'.nS) (hk : k < 7) {v : Value} (hv : M'.F 3 (s * 7 + k) = v) : wr.cell? ⟨g3, s * 7 + k, none⟩ = some v := by
  rw [h.rep.cell b3 (by rw [h.pm.nS]; show s * 7 + k < P'.nS * 7; omega), hv]
/-- A row of the caller's. -/
theorem SIn.row (h : SIn w M p q33 wr M' P') {q g n : Nat} {f : Nat → Int} (hq : Own q) (hx : ¬ XA q) (hK : KP q = (3, 1)) (hb : M.b q = some g) (hi : Ints M q n f) {j : Nat} (hj : j < n) : wr.cell? ⟨g, j, none⟩ = some (.int .i64 (f j)) := by
  have e := h.loc.row q hq hx
  exact (h.loc.ints hq hx hi).cell h.rep (e.1.trans hb) (by rw [hK]) hj
theorem SIn.ne (h : SIn w M p q33 wr M' P') {i j a b : Nat} (ha : M'.b i = some a) (hb : M'.b j = some b) (hij : i ≠ j) : a ≠ b := fun e => hij (h.rep.inj i j a ha (by rw [e]; exact hb))
end

theorem cell_ne {w : World} {b g o o' : Nat} {v : Value} (h : b ≠ g) : (w.setCell ⟨g, o', none⟩ v).cell? ⟨b, o, none⟩ = w.cell? ⟨b, o, none⟩ := cell_set_other h
theorem cell_alloc {w : World} {b o : Nat} {x : Obj} (h : b < w.heap.size) : (w.alloc x).cell? ⟨b, o, none⟩ = w.cell? ⟨b, o, none⟩ := by
  simp only [World.cell?, Below.heap_alloc _ _ _ h]

theorem cell_alloc_drew {w : World} {b o : Nat} {x : Obj} (h : b < w.heap.size) : (w.alloc x).drew.cell? ⟨b, o, none⟩ = w.cell? ⟨b, o, none⟩ := cell_alloc (w := w) h

/-- Worlds, stage by stage. -/
def C1 (w0 w1 : World) : Nat → World → Prop
  | 0, w => w = w0
  | 1, w => w = w1
  | _, _ => False
def C2 (w0 w1 w2 : World) : Nat → World → Prop
  | 0, w => w = w0
  | 1, w => w = w1
  | 2, w => w = w2
  | _, _ => False
theorem C1.all {w0 w1 : World} {R : World → Prop} (h0 : R w0) (h1 : R w1) : ∀ k w, C1 w0 w1 k w → R w
  | 0, w, h => by have h : w = w0 := h
                  rw [h]; exact h0
  | 1, w, h => by have h : w = w1 := h
                  rw [h]; exact h1
  | _ + 2, _, h => h.elim
theorem C2.all {w0 w1 w2 : World} {R : World → Prop} (h0 : R w0) (h1 : R w1) (h2 : R w2) : ∀ k w, C2 w0 w1 w2 k w → R w
  | 0, w, h => by have h : w = w0 := h
                  rw [h]; exact h0
  | 1, w, h => by have h : w = w1 := h
                  rw [h]; exact h1
  | 2, w, h => by have h : w = w2 := h
                  rw [h]; exact h2
  | _ + 3, _, h => h.elim

/-- The state once slots have been marked. -/
def PS.marked (P : PS) (m : Int) (mk lc : Nat → Int) : PS := { P with marks := m, mark := mk, loc := lc }

/-- The marking loop. -/
def MarkRel (w : World) (M : Fam) (p q33 N : Nat) (str : Nat → Nat) (P : PS) (m : Int) (k : Value) (wr : World) : Prop :=
  ∃ (i : Nat) (M' : Fam) (mk lc : Nat → Int), i ≤ N ∧ k = .int .i64 (i : Int) ∧ SIn w M p q33 wr M' (P.marked m mk lc) ∧ (∀ j, j < i → mk (str j) = m ∧ lc (str j) = (j : Nat)) ∧ (∀ s, (∀ j, j < i → s ≠ str j) → mk s = P.mark s)

theorem mark_step {w wr : World} {M M' : Fam} {p q33 N : Nat} {str : Nat → Nat} {P : PS} {m : Int} {i g3 : Nat} {mk lc : Nat → Int} (hi : i < N) (hS : SIn w M p q33 wr M' (P.marked m mk lc)) (b3 : M'.b 3 = some g3)
    (h1 : ∀ j, j < i → mk (str j) = m ∧ lc (str j) = (j : Nat)) (h2 : ∀ s, (∀ j, j < i → s ≠ str j) → mk s = P.mark s) (hinj : ∀ i j, i < N → j < N → str i = str j → i = j) :
    MarkRel w M p q33 N str P m (.int .i64 ((i : Int) + 1)) ((wr.setCell ⟨g3, str i * 7 + 5, none⟩ (.int .i64 m)).setCell ⟨g3, str i * 7 + 6, none⟩ (.int .i64 (i : Int))) := by
  refine ⟨i + 1, _, upd mk (str i) m, upd lc (str i) (i : Nat), by omega, rfl, ⟨(hS.rep.set b3 _ _).set (i := 3) b3 _ _, (hS.pm.set_mark (str i) m).set_loc (str i) (i : Nat), (hS.grew.set ⟨3, b3⟩ _ _ _ _).set ⟨3, b3⟩ _ _ _ _, (hS.loc.set (.inl (by unfold Own; omega))).set (.inl (by unfold Own; omega)), hS.b33, hS.n33, ?_⟩, ?_, ?_⟩
  · rw [set_F _ (by omega), set_F _ (by omega)]; exact hS.f33
  · intro j hj
    by_cases e : j = i
    · subst e; rw [upd_same, upd_same]; exact ⟨rfl, rfl⟩
    · have : str j ≠ str i := fun h => e (hinj j i (by omega) hi h)
      rw [upd_other _ _ this, upd_other _ _ this]; exact h1 j (by omega)
  · intro s hs
    rw [upd_other _ _ (hs i (by omega))]
    exact h2 s (fun j hj => hs j (by omega))

/-- A row that the call lays and writes, the rest of the family fixed. -/
theorem put_set {M : Fam} {i : Nat} {b : Option Nat} {n cap : Nat} {F : Nat → Value} {j : Nat} {v : Value} : (M.put i b n cap F).set i j v = M.put i b n cap (fun t => if t = j then v else F t) := by
  unfold Fam.set Fam.put
  simp only [Fam.mk.injEq, true_and]
  funext a t
  by_cases h1 : a = i <;> by_cases h2 : t = j <;> simp [h1, h2]

def iv (f : Nat → Int) : Nat → Value := fun j => .int .i64 (f j)
theorem put_iv {M : Fam} {i : Nat} {b : Option Nat} {n cap : Nat} {f : Nat → Int} {j : Nat} {x : Int} : (M.put i b n cap (iv f)).set i j (.int .i64 x) = M.put i b n cap (iv (upd f j x)) := by
  rw [put_set]
  congr 1
  funext t
  unfold iv upd
  by_cases h : t = j <;> simp [h]

section
variable {w wr : World} {M M' : Fam} {p q33 : Nat} {P' : PS}
/-- What the walk reads of one edge and of the slot that it leads to. -/
theorem SIn.edge (h : SIn w M p q33 wr M' P') (hp : M.b 11 = some p) {g3 g2 : Nat} (b3 : M'.b 3 = some g3) (b2 : M'.b 2 = some g2) {e t : Nat} (he : e < P'.nE) (ht : P'.to e = (t : Nat)) (hts : t < P'.nS) :
    wr.cell? ⟨q33, 0, none⟩ = some (.pointer (some ⟨p, 0, none⟩)) ∧ wr.cell? ⟨p, 3, none⟩ = some (.slice (some ⟨g3, 0, none⟩) P'.nS (M'.cap 3)) ∧ wr.cell? ⟨p, 2, none⟩ = some (.slice (some ⟨g2, 0, none⟩) P'.nE (M'.cap 2)) ∧ wr.cell? ⟨p, 11, none⟩ = some (.int .i64 P'.marks) ∧
    wr.cell? ⟨g2, e, none⟩ = some (.int .i64 (t : Int)) ∧ wr.cell? ⟨g3, t * 7, none⟩ = some (.int .i64 (P'.node t)) ∧ wr.cell? ⟨g3, t * 7 + 1, none⟩ = some (.int .i64 (P'.comp t)) ∧ wr.cell? ⟨g3, t * 7 + 2, none⟩ = some (M'.val (60 + 3 * t)) ∧
    wr.cell? ⟨g3, t * 7 + 3, none⟩ = some (.int .i64 (P'.idx t)) ∧ wr.cell? ⟨g3, t * 7 + 4, none⟩ = some (.int .i64 (P'.low t)) ∧ wr.cell? ⟨g3, t * 7 + 5, none⟩ = some (.int .i64 (P'.mark t)) ∧ wr.cell? ⟨g3, t * 7 + 6, none⟩ = some (.int .i64 (P'.loc t)) ∧
    P'.nS ≤ M'.cap 3 ∧ P'.nE ≤ M'.cap 2 := by
  have l3 := h.rep.le_cap 3
  have l2 := h.rep.le_cap 2
  rw [h.pm.nS] at l3
  rw [h.pm.to.1] at l2
  have c3 := h.pm.hdr_some h.rep (h.hp hp) (show 3 < 11 by omega) b3
  have c2 := h.pm.hdr_some h.rep (h.hp hp) (show 2 < 11 by omega) b2
  rw [h.pm.nS] at c3
  rw [h.pm.to.1] at c2
  have ct := h.pm.to.cell h.rep b2 rfl he
  rw [ht] at ct
  exact ⟨h.box, c3, c2, h.marks hp, ct, h.slot (k := 0) b3 hts (by omega) (h.pm.node t hts), h.slot b3 hts (by omega) (h.pm.comp t hts), h.slot b3 hts (by omega) (h.pm.outh t hts), h.slot b3 hts (by omega) (h.pm.idx t hts), h.slot b3 hts (by omega) (h.pm.low t hts), h.slot b3 hts (by omega) (h.pm.mark t hts), h.slot b3 hts (by omega) (h.pm.loc t hts), l3, l2⟩
end

section
variable {w wr w2 : World} {M M' : Fam} {p q33 : Nat} {P' : PS}
/-- A write into a row of its own. -/
theorem SIn.setloc (h : SIn w M p q33 wr M' P') {r g j : Nat} {v : Value} (hb : M'.b r = some g) (hr : Own r) (hx : XA r) (h33 : r ≠ 33) : SIn w M p q33 (wr.setCell ⟨g, j, none⟩ v) (M'.set r j v) P' :=
  ⟨h.rep.set hb j v, h.pm.set_local hr j v, h.grew.set ⟨r, hb⟩ _ _ _ _, h.loc.set (.inr hx), h.b33, h.n33, by rw [set_F _ (Ne.symm h33)]; exact h.f33⟩
theorem SIn.setrow (h : SIn w M p q33 wr M' P') {M2 : Fam} {r g n c j : Nat} {f : Nat → Int} {x : Int} (hM : M' = M2.put r (some g) n c (iv f)) (hr : Own r) (hx : XA r) (h33 : r ≠ 33) :
    SIn w M p q33 (wr.setCell ⟨g, j, none⟩ (.int .i64 x)) (M2.put r (some g) n c (iv (upd f j x))) P' := by
  have := h.setloc (j := j) (v := .int .i64 x) (r := r) (g := g) (by rw [hM, put_bs]) hr hx h33
  rw [hM, put_iv] at this
  exact this
/-- A new row of its own. -/
theorem SIn.fresh (h : SIn w M p q33 wr M' P') {e : TypeId} {sz g n cap : Nat} {F : Nat → Value} (hF : Fresh wr w2 e sz g n cap F) {r : Nat} (hK : KP r = (e, sz)) (hr : Own r) (hx : XA r) (h33 : r ≠ 33) : SIn w M p q33 w2 (M'.put r (some g) n cap F) P' :=
  ⟨hF.rep h.rep r hK, h.pm.put_local hr _ _ _ _, h.grew.trans (hF.grew _ r), h.loc.put (.inr hx) (by unfold Own at hr; omega), by rw [put_b (Ne.symm h33)]; exact h.b33, by rw [put_n (Ne.symm h33)]; exact h.n33, by rw [put_F (Ne.symm h33)]; exact h.f33⟩
end

/-- The slots str 0 .. str (N-1) are marked, and no others. -/
structure Mkd (P : PS) (N : Nat) (str : Nat → Nat) : Prop where
  lt : ∀ i, i < N → str i < P.nS
  inj : ∀ i j, i < N → j < N → str i = str j → i = j
  edge : ∀ i j, i < N → j < P.on (str i) → ∃ e t : Nat, P.out (str i) j = (e : Int) ∧ e < P.nE ∧ P.to e = (t : Int) ∧ t < P.nS ∧ t ≠ str i ∧ P.fr e = ((str i : Nat) : Int)
  incr : ∀ i j j', i < N → j < j' → j' < P.on (str i) → P.out (str i) j < P.out (str i) j'
  mk1 : ∀ l, l < N → P.mark (str l) = P.marks ∧ P.loc (str l) = ((l : Nat) : Int)
  mk2 : ∀ t, t < P.nS → P.mark t = P.marks → ∃ l, l < N ∧ t = str l

def AGof (P : PS) (N : Nat) (str : Nat → Nat) : AG :=
  { N := N, dg := fun i => P.on (str i), ed := fun i j => (P.out (str i) j).toNat, inE := fun e => decide (P.mark (P.to e).toNat = P.marks), lcl := fun e => (P.loc (P.to e).toNat).toNat }

section
variable {P : PS} {N : Nat} {str : Nat → Nat}
theorem Mkd.lcl (h : Mkd P N str) {i j e t : Nat} (hi : i < N) (hj : j < P.on (str i)) (he : P.out (str i) j = (e : Int)) (ht : P.to e = (t : Int)) (hts : t < P.nS) (hm : P.mark t = P.marks) : ∃ l, l < N ∧ t = str l ∧ P.loc t = ((l : Nat) : Int) ∧ (AGof P N str).lcl ((AGof P N str).ed i j) = l ∧ (AGof P N str).inE ((AGof P N str).ed i j) = true ∧ (AGof P N str).ed i j = e := by
  obtain ⟨l, hl, rfl⟩ := h.mk2 t hts hm
  have hl2 := (h.mk1 l hl).2
  have e1 : (AGof P N str).ed i j = e := by show (P.out (str i) j).toNat = e; rw [he]; rfl
  refine ⟨l, hl, rfl, hl2, ?_, ?_, e1⟩
  · rw [e1]; show (P.loc (P.to e).toNat).toNat = l; rw [ht]; show (P.loc (str l)).toNat = l; rw [hl2]; rfl
  · rw [e1]; show decide (P.mark (P.to e).toNat = P.marks) = true; rw [ht]; simpa using hm
theorem Mkd.out (h : Mkd P N str) {i j e t : Nat} (he : P.out (str i) j = (e : Int)) (ht : P.to e = (t : Int)) (hm : P.mark t ≠ P.marks) : (AGof P N str).inE ((AGof P N str).ed i j) = false := by
  have e1 : (AGof P N str).ed i j = e := by show (P.out (str i) j).toNat = e; rw [he]; rfl
  rw [e1]; show decide (P.mark (P.to e).toNat = P.marks) = false; rw [ht]; simpa using hm
theorem Mkd.ok (h : Mkd P N str) : (AGof P N str).Ok := by
  refine ⟨?_, ?_⟩
  · intro i j i' j' hi hj hi' hj' heq
    obtain ⟨e, t, a1, a2, a3, a4, a5, a6⟩ := h.edge i j hi hj
    obtain ⟨e', t', b1, b2, b3, b4, b5, b6⟩ := h.edge i' j' hi' hj'
    have heq : (P.out (str i) j).toNat = (P.out (str i') j').toNat := heq
    rw [a1, b1] at heq
    have heq : e = e' := heq
    subst heq
    rw [a6] at b6
    have : i = i' := h.inj i i' hi hi' (by omega)
    subst this
    refine ⟨rfl, ?_⟩
    rcases Nat.lt_trichotomy j j' with hlt | heq | hgt
    · have := h.incr i j j' hi hlt hj'; omega
    · exact heq
    · have := h.incr i j' j hi hgt hj; omega
  · intro i j hi hj hin
    obtain ⟨e, t, a1, a2, a3, a4, a5, a6⟩ := h.edge i j hi hj
    have hm : P.mark t = P.marks := by
      by_cases hm : P.mark t = P.marks
      · exact hm
      · rw [h.out a1 a3 hm] at hin; cases hin
    obtain ⟨l, hl, rfl, _, h5, _⟩ := h.lcl hi hj a1 a3 a4 hm
    rw [h5]
    exact ⟨hl, fun e => a5 (by rw [e])⟩
end

/-- 'start', while it counts. -/
def Cnt (G : AG) (i j : Nat) (f : Nat → Int) : Prop := f 0 = 0 ∧ ∀ v, v < G.N → f (v + 1) = ((G.cc i j v : Nat) : Int)
theorem Cnt.skip {G : AG} {i j : Nat} {f : Nat → Int} (h : Cnt G i j f) (hn : G.inE (G.ed i j) = false) : Cnt G i (j + 1) f := by
  refine ⟨h.1, fun v hv => ?_⟩
  rw [h.2 v hv, G.cc_succ]; unfold AG.one; rw [hn]; simp
theorem Cnt.add {G : AG} {i j l : Nat} {f : Nat → Int} (h : Cnt G i j f) (hi : i < G.N) (hl : l < G.N) (hil : l ≠ i) (hn : G.inE (G.ed i j) = true) (hc : G.lcl (G.ed i j) = l) :
    Cnt G i (j + 1) (upd (upd f (i + 1) (f (i + 1) + 1)) (l + 1) (f (l + 1) + 1)) := by
  refine ⟨by rw [upd_other _ _ (by omega), upd_other _ _ (by omega)]; exact h.1, fun v hv => ?_⟩
  have one : G.one i (G.ed i j) v = (if v = i then 1 else 0) + (if v = l then 1 else 0) := by unfold AG.one; rw [hn, if_pos rfl, hc]
  rw [G.cc_succ, one]
  by_cases e1 : v = i
  · subst e1
    rw [upd_other _ _ (by omega), upd_same, h.2 v hv, if_pos rfl, if_neg (Ne.symm hil)]; simp
  · by_cases e2 : v = l
    · subst e2; rw [upd_same, h.2 v hv, if_neg e1, if_pos rfl]; simp
    · rw [upd_other _ _ (by omega), upd_other _ _ (by omega), h.2 v hv, if_neg e1, if_neg e2]; simp
theorem Cnt.next {G : AG} {i : Nat} {f : Nat → Int} (h : Cnt G i (G.dg i) f) : Cnt G (i + 1) 0 f := h

def CntO (w : World) (M : Fam) (p q33 : Nat) (M2 : Fam) (P2 : PS) (g16 N : Nat) (G : AG) (k : Value) (wr : World) : Prop :=
  ∃ (i : Nat) (f : Nat → Int), i ≤ N ∧ k = .int .i64 (i : Int) ∧ SIn w M p q33 wr (M2.put 16 (some g16) (N + 1) (N + 1) (iv f)) P2 ∧ Cnt G i 0 f
def CntI (w : World) (M : Fam) (p q33 : Nat) (M2 : Fam) (P2 : PS) (g16 N : Nat) (G : AG) (i : Nat) (k : Value) (wr : World) : Prop :=
  ∃ (j : Nat) (f : Nat → Int), j ≤ G.dg i ∧ k = .int .i64 (j : Int) ∧ SIn w M p q33 wr (M2.put 16 (some g16) (N + 1) (N + 1) (iv f)) P2 ∧ Cnt G i j f

/-- What 'split' is handed, as far as it reads it. -/
structure SPre (P : PS) (N : Nat) (str : Nat → Nat) : Prop where
  lt : ∀ i, i < N → str i < P.nS
  inj : ∀ i j, i < N → j < N → str i = str j → i = j
  edge : ∀ i j, i < N → j < P.on (str i) → ∃ e t : Nat, P.out (str i) j = (e : Int) ∧ e < P.nE ∧ P.to e = (t : Int) ∧ t < P.nS ∧ t ≠ str i ∧ P.fr e = ((str i : Nat) : Int)
  incr : ∀ i j j', i < N → j < j' → j' < P.on (str i) → P.out (str i) j < P.out (str i) j'
  mark : ∀ s, s < P.nS → P.mark s ≤ P.marks
  small : P.nE ≤ 4096 ∧ N ≤ 4096 ∧ 0 < N ∧ 0 ≤ P.marks ∧ P.marks < 1000000

theorem SPre.mkd {P : PS} {N : Nat} {str : Nat → Nat} (h : SPre P N str) {mk lc : Nat → Int} (h1 : ∀ j, j < N → mk (str j) = P.marks + 1 ∧ lc (str j) = (j : Nat)) (h2 : ∀ s, (∀ j, j < N → s ≠ str j) → mk s = P.mark s) : Mkd (P.marked (P.marks + 1) mk lc) N str := by
  refine ⟨h.lt, h.inj, h.edge, h.incr, h1, fun t ht hm => ?_⟩
  have hm : mk t = P.marks + 1 := hm
  by_cases hex : ∃ l, l < N ∧ t = str l
  · exact hex
  · exfalso
    rw [h2 t (fun j hj e => hex ⟨j, hj, e⟩)] at hm
    have := h.mark t ht
    omega

theorem put_cap {M : Fam} {i i' : Nat} {b : Option Nat} {n cap : Nat} {f : Nat → Value} (h : i' ≠ i) : (M.put i b n cap f).cap i' = M.cap i' := by simp [Fam.put, h]

/-! ### Bounds -/
theorem Mkd.dg_le {P : PS} {N : Nat} {str : Nat → Nat} (h : Mkd P N str) (hE : P.nE ≤ 4096) {i : Nat} (hi : i < N) : P.on (str i) ≤ 4096 := by
  have key : ∀ j, j < P.on (str i) → (j : Int) ≤ P.out (str i) j := by
    intro j
    induction j with
    | zero => intro hj; obtain ⟨e, t, e1, _⟩ := h.edge i 0 hi hj; rw [e1]; omega
    | succ j ih =>
      intro hj
      have h1 := ih (by omega)
      have h2 := h.incr i j (j + 1) hi (by omega) hj
      omega
  rcases Nat.eq_zero_or_pos (P.on (str i)) with h0 | h0
  · omega
  · obtain ⟨e, t, e1, e2, _⟩ := h.edge i (P.on (str i) - 1) hi (by omega)
    have := key (P.on (str i) - 1) (by omega)
    rw [e1] at this
    omega
theorem AG.one_le (G : AG) (i e v : Nat) : G.one i e v ≤ 2 := by unfold AG.one; split <;> (try split) <;> (try split) <;> omega
theorem AG.cI_le (G : AG) (i v : Nat) : ∀ j, G.cI i j v ≤ 2 * j
  | 0 => Nat.le_refl _
  | j + 1 => by
    have h1 := G.cI_le i v j
    have h2 := G.one_le i (G.ed i j) v
    show G.cI i j v + _ ≤ _
    omega
theorem AG.c_le (G : AG) (v : Nat) (hD : ∀ i, i < G.N → G.dg i ≤ 4096) : ∀ i, i ≤ G.N → G.c i v ≤ 8192 * i
  | 0, _ => Nat.le_refl _
  | i + 1, hi => by
    have h1 := G.c_le v hD i (by omega)
    have h2 := G.cI_le i v (G.dg i)
    have h3 := hD i (by omega)
    show G.c i v + _ ≤ _
    omega
theorem AG.cc_small (G : AG) (v : Nat) (hD : ∀ i, i < G.N → G.dg i ≤ 4096) (hN : G.N ≤ 4096) {i j : Nat} (hi : i < G.N) (hj : j ≤ G.dg i) : G.cc i j v ≤ 33554432 := by
  have h1 := G.cc_le v hi hj
  have h2 := G.c_le v hD G.N (Nat.le_refl _)
  omega
theorem AG.st_small (G : AG) (hD : ∀ i, i < G.N → G.dg i ≤ 4096) (hN : G.N ≤ 4096) : ∀ v, G.st v ≤ 33554432 * v
  | 0 => Nat.le_refl _
  | v + 1 => by
    have h1 := G.st_small hD hN v
    have h2 := G.c_le v hD G.N (Nat.le_refl _)
    show G.st v + _ ≤ _
    omega
theorem Cnt.small {G : AG} {i j : Nat} {f : Nat → Int} (h : Cnt G i j f) (hD : ∀ i, i < G.N → G.dg i ≤ 4096) (hN : G.N ≤ 4096) (hi : i < G.N) (hj : j ≤ G.dg i) {v : Nat} (hv : v < G.N) : 0 ≤ f (v + 1) ∧ f (v + 1) ≤ 33554432 := by
  rw [h.2 v hv]
  have := G.cc_small v hD hN hi hj
  omega

section
variable {w wr : World} {M M2 : Fam} {p q33 : Nat} {P2 : PS} {g16 N : Nat} {G : AG} {i j l : Nat} {f1 : Nat → Int} {o : Obj}
theorem cntI_add (hS : SIn w M p q33 wr (M2.put 16 (some g16) (N + 1) (N + 1) (iv f1)) P2) (hC : Cnt G i j f1) (hj : j < G.dg i) (hi : i < G.N) (hl : l < G.N) (hil : l ≠ i) (hn : G.inE (G.ed i j) = true) (hc : G.lcl (G.ed i j) = l) {va vb : Int} (ea : f1 (i + 1) = va) (eb : f1 (l + 1) = vb) :
    CntI w M p q33 M2 P2 g16 N G i (.int .i64 ((j : Int) + 1)) (((wr.setCell ⟨g16, i + 1, none⟩ (.int .i64 (va + 1))).setCell ⟨g16, l + 1, none⟩ (.int .i64 (vb + 1))).alloc o).drew.drew := by
  subst ea eb
  have o16 : Own 16 := by unfold Own; omega
  have x16 : XA 16 := by unfold XA; omega
  exact ⟨j + 1, _, hj, rfl, ((((hS.setrow rfl o16 x16 (by omega)).setrow rfl o16 x16 (by omega)).alloc o).drew).drew, hC.add hi hl hil hn hc⟩
theorem cntI_skip (hS : SIn w M p q33 wr (M2.put 16 (some g16) (N + 1) (N + 1) (iv f1)) P2) (hC : Cnt G i j f1) (hj : j < G.dg i) (hn : G.inE (G.ed i j) = false) :
    CntI w M p q33 M2 P2 g16 N G i (.int .i64 ((j : Int) + 1)) (wr.alloc o).drew.drew :=
  ⟨j + 1, _, hj, rfl, (hS.alloc o).drew.drew, hC.skip hn⟩
end

/-! ### Where each node's entries begin -/
def PreRel (w : World) (M : Fam) (p q33 : Nat) (M2 : Fam) (P2 : PS) (g16 N : Nat) (G : AG) (k : Value) (wr : World) : Prop :=
  ∃ (i : Nat) (f : Nat → Int), i ≤ N ∧ k = .int .i64 (i : Int) ∧ SIn w M p q33 wr (M2.put 16 (some g16) (N + 1) (N + 1) (iv f)) P2 ∧ (∀ v, v ≤ i → f v = ((G.st v : Nat) : Int)) ∧ (∀ v, i ≤ v → v < N → f (v + 1) = ((G.c N v : Nat) : Int))
theorem pre_step {w wr : World} {M M2 : Fam} {p q33 : Nat} {P2 : PS} {g16 N : Nat} {G : AG} {i : Nat} {f : Nat → Int} (hG : G.N = N) (hS : SIn w M p q33 wr (M2.put 16 (some g16) (N + 1) (N + 1) (iv f)) P2) (hi : i < N) (h1 : ∀ v, v ≤ i → f v = ((G.st v : Nat) : Int)) (h2 : ∀ v, i ≤ v → v < N → f (v + 1) = ((G.c N v : Nat) : Int))
    {va vb : Int} (ea : f (i + 1) = va) (eb : f i = vb) : PreRel w M p q33 M2 P2 g16 N G (.int .i64 ((i : Int) + 1)) (wr.setCell ⟨g16, i + 1, none⟩ (.int .i64 (va + vb))).drew := by
  subst ea eb
  refine ⟨i + 1, _, hi, rfl, (hS.setrow rfl (by unfold Own; omega) (by unfold XA; omega) (by omega)).drew, ?_, ?_⟩
  · intro v hv
    by_cases e : v = i + 1
    · subst e
      rw [upd_same, h2 i (Nat.le_refl _) hi, h1 i (Nat.le_refl _)]
      show _ = ((G.st i + G.c G.N i : Nat) : Int)
      rw [hG]; omega
    · rw [upd_other _ _ e]; exact h1 v (by omega)
  · intro v hv hvN
    rw [upd_other _ _ (by omega)]; exact h2 v (by omega) hvN

/-! ### The entries -/
def ev (eN eE : Nat → Nat) : Nat → Value := fun j => .int .i64 (((if j % 2 = 0 then eN (j / 2) else eE (j / 2)) : Nat) : Int)
theorem put_set_ne {M : Fam} {i i' : Nat} {b : Option Nat} {n cap : Nat} {F : Nat → Value} {j : Nat} {v : Value} (h : i ≠ i') : (M.put i b n cap F).set i' j v = (M.set i' j v).put i b n cap F := by
  unfold Fam.set Fam.put
  simp only [Fam.mk.injEq, true_and]
  funext a t
  by_cases h1 : a = i
  · subst h1; simp [h]
  · by_cases h2 : a = i'
    · subst h2; simp [h1]
    · simp [h1, h2]
theorem put_ev {M : Fam} {b : Option Nat} {n cap : Nat} {eN eE : Nat → Nat} {q x y : Nat} :
    ((M.put 21 b n cap (ev eN eE)).set 21 (q * 2) (.int .i64 (x : Int))).set 21 (q * 2 + 1) (.int .i64 (y : Int)) = M.put 21 b n cap (ev (up eN q x) (up eE q y)) := by
  rw [put_set, put_set]
  congr 1
  funext t
  unfold ev up
  by_cases h1 : t = q * 2 + 1
  · subst h1
    have h3 : (q * 2 + 1) % 2 ≠ 0 := by omega
    have h4 : (q * 2 + 1) / 2 = q := by omega
    simp [h3, h4]
  · by_cases h2 : t = q * 2
    · subst h2
      have h3 : (q * 2) % 2 = 0 := by omega
      have h4 : (q * 2) / 2 = q := by omega
      simp [h3, h4]
    · by_cases h5 : t % 2 = 0
      · have : t / 2 ≠ q := by omega
        simp [h1, h2, h5, this]
      · have : t / 2 ≠ q := by omega
        simp [h1, h2, h5, this]
/-- The family while the entries are laid: 16 'start', 21 'ends', 17 'filled'. -/
def FF (M2 : Fam) (g16 N : Nat) (G : AG) (g21 T g17 k17 : Nat) (eN eE : Nat → Nat) (fl : Nat → Int) : Fam :=
  ((M2.put 16 (some g16) (N + 1) (N + 1) (iv fun v => ((G.st v : Nat) : Int))).put 21 (some g21) T T (ev eN eE)).put 17 (some g17) N k17 (iv fl)
def FlO (w : World) (M : Fam) (p q33 : Nat) (M2 : Fam) (P2 : PS) (g16 N : Nat) (G : AG) (g21 T g17 k17 : Nat) (k : Value) (wr : World) : Prop :=
  ∃ (i : Nat) (eN eE : Nat → Nat) (fl : Nat → Int), i ≤ N ∧ k = .int .i64 (i : Int) ∧ SIn w M p q33 wr (FF M2 g16 N G g21 T g17 k17 eN eE fl) P2 ∧ Filled G i 0 eN eE ∧ (∀ v, v < N → fl v = ((G.st v + G.cc i 0 v : Nat) : Int))
def FlI (w : World) (M : Fam) (p q33 : Nat) (M2 : Fam) (P2 : PS) (g16 N : Nat) (G : AG) (g21 T g17 k17 i : Nat) (k : Value) (wr : World) : Prop :=
  ∃ (j : Nat) (eN eE : Nat → Nat) (fl : Nat → Int), j ≤ G.dg i ∧ k = .int .i64 (j : Int) ∧ SIn w M p q33 wr (FF M2 g16 N G g21 T g17 k17 eN eE fl) P2 ∧ Filled G i j eN eE ∧ (∀ v, v < N → fl v = ((G.st v + G.cc i j v : Nat) : Int))

section
variable {w wr : World} {M M2 : Fam} {p q33 : Nat} {P2 : PS} {g16 N : Nat} {G : AG} {g21 T g17 k17 i j l e : Nat} {eN eE : Nat → Nat} {fl : Nat → Int} {o : Obj}
theorem flI_skip (hS : SIn w M p q33 wr (FF M2 g16 N G g21 T g17 k17 eN eE fl) P2) (hF : Filled G i j eN eE) (hf : ∀ v, v < N → fl v = ((G.st v + G.cc i j v : Nat) : Int)) (hj : j < G.dg i) (hn : G.inE (G.ed i j) = false) :
    FlI w M p q33 M2 P2 g16 N G g21 T g17 k17 i (.int .i64 ((j : Int) + 1)) (wr.alloc o).drew.drew := by
  refine ⟨j + 1, _, _, _, hj, rfl, (hS.alloc o).drew.drew, hF.skip hn, fun v hv => ?_⟩
  rw [hf v hv, G.cc_succ]; unfold AG.one; rw [hn]; simp
/-- One edge is laid at both its ends. -/
theorem SIn.lay (hS : SIn w M p q33 wr (FF M2 g16 N G g21 T g17 k17 eN eE fl) P2) (q r x y x' y' i l : Nat) (va vb : Int) :
    SIn w M p q33 ((((((wr.setCell ⟨g21, q * 2, none⟩ (.int .i64 (x : Int))).setCell ⟨g21, q * 2 + 1, none⟩ (.int .i64 (y : Int))).setCell ⟨g21, r * 2, none⟩ (.int .i64 (x' : Int))).setCell ⟨g21, r * 2 + 1, none⟩ (.int .i64 (y' : Int))).setCell ⟨g17, i, none⟩ (.int .i64 va)).setCell ⟨g17, l, none⟩ (.int .i64 vb))
      (FF M2 g16 N G g21 T g17 k17 (up (up eN q x) r x') (up (up eE q y) r y') (upd (upd fl i va) l vb)) P2 := by
  have o21 : Own 21 := by unfold Own; omega
  have x21 : XA 21 := by unfold XA; omega
  have o17 : Own 17 := by unfold Own; omega
  have x17 : XA 17 := by unfold XA; omega
  have b21 : (FF M2 g16 N G g21 T g17 k17 eN eE fl).b 21 = some g21 := rfl
  have b17 : (FF M2 g16 N G g21 T g17 k17 eN eE fl).b 17 = some g17 := rfl
  have h1 := ((((((hS.setloc (j := q * 2) (v := .int .i64 (x : Int)) (r := 21) (g := g21) b21 o21 x21 (by omega)).setloc (j := q * 2 + 1) (v := .int .i64 (y : Int)) (r := 21) (g := g21) b21 o21 x21 (by omega)).setloc (j := r * 2) (v := .int .i64 (x' : Int)) (r := 21) (g := g21) b21 o21 x21 (by omega)).setloc (j := r * 2 + 1) (v := .int .i64 (y' : Int)) (r := 21) (g := g21) b21 o21 x21 (by omega)).setloc (j := i) (v := .int .i64 va) (r := 17) (g := g17) b17 o17 x17 (by omega)).setloc (j := l) (v := .int .i64 vb) (r := 17) (g := g17) b17 o17 x17 (by omega))
  unfold FF at h1 ⊢
  rw [put_set_ne (by omega), put_set_ne (by omega), put_set_ne (by omega), put_set_ne (by omega), put_ev, put_ev, put_iv, put_iv] at h1
  exact h1
end
theorem Try.info62 : (Try.prog.info? 62).map (fun i => (i.zero, i.size, i.bytes)) = some (some (.agg #[.int .i64 0, .int .i64 0]), 2, 16) := by kernel_rfl
theorem zero2 : ∀ j, j < 2 → (Value.agg #[.int .i64 0, .int .i64 0]).cells[j]! = .int .i64 0 := by
  intro j hj
  match j, hj with
  | 0, _ => rfl
  | 1, _ => rfl

theorem put_put {M : Fam} {i : Nat} {b b' : Option Nat} {n n' cap cap' : Nat} {F F' : Nat → Value} : (M.put i b n cap F).put i b' n' cap' F' = M.put i b' n' cap' F' := by
  unfold Fam.put
  simp only [Fam.mk.injEq]
  refine ⟨?_, ?_, ?_, ?_⟩ <;> funext a <;> by_cases h : a = i <;> simp [h]
/-- What stands behind a row's end does not count. -/
theorem SIn.refun {w wr : World} {M M2 : Fam} {p q33 : Nat} {P2 : PS} {r g n c : Nat} {F F' : Nat → Value} (h : SIn w M p q33 wr (M2.put r (some g) n c F) P2) (hr : Own r) (hx : XA r) (h33 : r ≠ 33) (hF : ∀ j, j < n * (KP r).2 → F j = F' j) :
    SIn w M p q33 wr (M2.put r (some g) n c F') P2 := by
  have pm := h.pm.put_local hr (some g) n c F'
  rw [put_put] at pm
  refine ⟨⟨fun k => ?_, h.rep.inj⟩, pm, ⟨h.grew.os, h.grew.tape, h.grew.output, h.grew.size, h.grew.block, h.grew.own⟩, ⟨h.loc.p, h.loc.ft, fun k hk hxk => ?_⟩, h.b33, h.n33, ?_⟩
  · have := h.rep.row k
    by_cases e : k = r
    · subst e
      simp only [Fam.put, if_true] at this ⊢
      obtain ⟨cur, a1, a2, a3, a4, a5⟩ := this
      exact ⟨cur, a1, a2, a3, a4, fun j hj => by rw [a5 j hj, hF j hj]⟩
    · simp only [Fam.put, if_neg e] at this ⊢; exact this
  · have := h.loc.row k hk hxk
    have e : k ≠ r := fun e => hxk (by rw [e]; exact hx)
    simp only [Fam.put, if_neg e] at this ⊢
    exact this
  · have := h.f33
    rw [put_F (Ne.symm h33)] at this ⊢
    exact this

theorem AG.room {G : AG} (ok : G.Ok) {i j : Nat} (hi : i < G.N) (hj : j < G.dg i) (hn : G.inE (G.ed i j) = true) :
    G.st i + G.cc i j i < G.st G.N ∧ G.st (G.lcl (G.ed i j)) + G.cc i j (G.lcl (G.ed i j)) < G.st G.N ∧ G.st i + G.cc i j i ≠ G.st (G.lcl (G.ed i j)) + G.cc i j (G.lcl (G.ed i j)) := by
  obtain ⟨l1, l2⟩ := ok.lt i j hi hj hn
  generalize hl : G.lcl (G.ed i j) = l at *
  have one : ∀ v, G.one i (G.ed i j) v = (if v = i then 1 else 0) + (if v = l then 1 else 0) := fun v => by unfold AG.one; rw [hn, if_pos rfl, hl]
  have ci : G.cc i (j + 1) i = G.cc i j i + 1 := by rw [G.cc_succ, one, if_pos rfl, if_neg (Ne.symm l2)]
  have cl : G.cc i (j + 1) l = G.cc i j l + 1 := by rw [G.cc_succ, one, if_pos rfl, if_neg l2]
  have hi1 := G.cc_le i hi (show j + 1 ≤ G.dg i by omega)
  have hl1 := G.cc_le l hi (show j + 1 ≤ G.dg i by omega)
  have si : G.st (i + 1) = G.st i + G.c G.N i := rfl
  have sl : G.st (l + 1) = G.st l + G.c G.N l := rfl
  have a1 := G.st_le (show i + 1 ≤ G.N by omega)
  have a2 := G.st_le (show l + 1 ≤ G.N by omega)
  refine ⟨by omega, by omega, fun e => ?_⟩
  rcases Nat.lt_or_ge i l with hlt | hge
  · have := G.st_le (show i + 1 ≤ l by omega); omega
  · have := G.st_le (show l + 1 ≤ i by omega); omega

section
variable {w wr : World} {M M2 : Fam} {p q33 : Nat} {P2 : PS} {g16 N : Nat} {G : AG} {g21 T g17 k17 i j l e q r : Nat} {eN eE : Nat → Nat} {fl : Nat → Int} {o : Obj}
theorem flI_put (ok : G.Ok) (hG : G.N = N) (hS : SIn w M p q33 wr (FF M2 g16 N G g21 T g17 k17 eN eE fl) P2) (hF : Filled G i j eN eE) (hf : ∀ v, v < N → fl v = ((G.st v + G.cc i j v : Nat) : Int)) (hi : i < G.N) (hj : j < G.dg i) (hn : G.inE (G.ed i j) = true) (hl : G.lcl (G.ed i j) = l) (he : G.ed i j = e)
    (hq : G.st i + G.cc i j i = q) (hr : G.st l + G.cc i j l = r) :
    FlI w M p q33 M2 P2 g16 N G g21 T g17 k17 i (.int .i64 ((j : Int) + 1)) (((((((wr.setCell ⟨g21, q * 2, none⟩ (.int .i64 (l : Int))).setCell ⟨g21, q * 2 + 1, none⟩ (.int .i64 (e : Int))).setCell ⟨g21, r * 2, none⟩ (.int .i64 (i : Int))).setCell ⟨g21, r * 2 + 1, none⟩ (.int .i64 (e : Int))).setCell ⟨g17, i, none⟩ (.int .i64 ((q : Int) + 1))).setCell ⟨g17, l, none⟩ (.int .i64 ((r : Int) + 1))).alloc o).drew.drew.drew := by
  have hp := hF.put ok hi hj hn
  obtain ⟨l1, l2⟩ := ok.lt i j hi hj hn
  rw [hl] at hp l1 l2
  rw [he, hq, hr] at hp
  refine ⟨j + 1, _, _, _, hj, rfl, ((hS.lay q r l e i e i l ((q : Int) + 1) ((r : Int) + 1)).alloc o).drew.drew.drew, hp, fun v hv => ?_⟩
  have one : G.one i (G.ed i j) v = (if v = i then 1 else 0) + (if v = l then 1 else 0) := by unfold AG.one; rw [hn, if_pos rfl, hl]
  rw [G.cc_succ, one]
  by_cases e1 : v = l
  · subst e1; rw [upd_same, if_neg l2, if_pos rfl, ← hr]; omega
  · by_cases e2 : v = i
    · subst e2; rw [upd_other _ _ e1, upd_same, if_pos rfl, if_neg e1, ← hq]; omega
    · rw [upd_other _ _ e1, upd_other _ _ e2, hf v hv, if_neg e2, if_neg e1]; omega
end
theorem ev_zero : (fun _ => Value.int .i64 0 : Nat → Value) = ev (fun _ => 0) (fun _ => 0) := by
  funext t
  unfold ev
  simp

section
variable {M2 : Fam} {g16 N : Nat} {G : AG} {g21 T g17 k17 : Nat} {eN eE : Nat → Nat} {fl : Nat → Int} {r : Nat}
theorem FF_b (h : r ≠ 16 ∧ r ≠ 21 ∧ r ≠ 17) : (FF M2 g16 N G g21 T g17 k17 eN eE fl).b r = M2.b r := by unfold FF; rw [put_b h.2.2, put_b h.2.1, put_b h.1]
theorem FF_n (h : r ≠ 16 ∧ r ≠ 21 ∧ r ≠ 17) : (FF M2 g16 N G g21 T g17 k17 eN eE fl).n r = M2.n r := by unfold FF; rw [put_n h.2.2, put_n h.2.1, put_n h.1]
theorem FF_cap (h : r ≠ 16 ∧ r ≠ 21 ∧ r ≠ 17) : (FF M2 g16 N G g21 T g17 k17 eN eE fl).cap r = M2.cap r := by unfold FF; rw [put_cap h.2.2, put_cap h.2.1, put_cap h.1]
theorem FF_val (h : r ≠ 16 ∧ r ≠ 21 ∧ r ≠ 17) : (FF M2 g16 N G g21 T g17 k17 eN eE fl).val r = M2.val r := by unfold FF; rw [put_val h.2.2, put_val h.2.1, put_val h.1]
end

theorem fresh_boxg (w : World) (e : TypeId) (v : Value) (g : Nat) (hg : g = w.heap.size) : Fresh w (w.alloc (.cells #[v] e)) e 1 g 1 1 (fun _ => v) := by
  subst hg
  exact fresh_box w e v
end Go.Proofs.Qxb6602148a
