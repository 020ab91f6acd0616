/-
  THE PARTITION IN MEMORY: 'PM M P': the family M bears the plain state P.
  Rows: 0 first, 1 from, 2 to, 3 slots, 4 free, 5 members, 6 unused, 7 edges, 8 spent, 9 stack, 10 calls, 11 the struct itself; 12 .. 59 locals of the calls; 60 + 3 s: slot s's out; 61 + 3 c: component c's members; 62 + 3 k: the k-th of a call's own lists.
-/
import Derived.Test.Qxb6602148aRows
import Derived.Test.Qxb6602148aMem
namespace Go.Proofs.Qxb6602148a
open Go.RowKit
set_option linter.unusedVariables false

def KP (i : Nat) : TypeId × Nat := if i = 3 then (57, 7) else if i = 5 then (26, 1) else if i = 10 then (59, 2) else if i = 11 then (53, 12) else if i = 13 then (31, 1) else if i = 15 then (26, 1) else if i = 21 then (62, 2) else if i = 27 then (65, 3) else if i = 31 then (26, 1) else if i = 32 then (26, 1) else if i = 33 then (31, 1) else (3, 1)

structure PS where
  nV : Nat
  first : Nat → Int
  nE : Nat
  fr : Nat → Int
  to : Nat → Int
  nS : Nat
  node : Nat → Int
  comp : Nat → Int
  idx : Nat → Int
  low : Nat → Int
  mark : Nat → Int
  loc : Nat → Int
  on : Nat → Nat
  out : Nat → Nat → Int
  nF : Nat
  free : Nat → Int
  nC : Nat
  edg : Nat → Int
  spent : Nat → Int
  mn : Nat → Nat
  mem : Nat → Nat → Int
  nU : Nat
  unused : Nat → Int
  nK : Nat
  stk : Nat → Int
  nQ : Nat
  cq : Nat → Int
  marks : Int

def Ints (M : Fam) (i n : Nat) (f : Nat → Int) : Prop := M.n i = n ∧ ∀ j, j < n → M.F i j = .int .i64 (f j)

structure PM (M : Fam) (P : PS) : Prop where
  p : M.n 11 = 1
  hd : ∀ j, j < 11 → M.F 11 j = M.val j
  marks : M.F 11 11 = .int .i64 P.marks
  first : Ints M 0 P.nV P.first
  fr : Ints M 1 P.nE P.fr
  to : Ints M 2 P.nE P.to
  nS : M.n 3 = P.nS
  node : ∀ s, s < P.nS → M.F 3 (s * 7) = .int .i64 (P.node s)
  comp : ∀ s, s < P.nS → M.F 3 (s * 7 + 1) = .int .i64 (P.comp s)
  outh : ∀ s, s < P.nS → M.F 3 (s * 7 + 2) = M.val (60 + 3 * s)
  idx : ∀ s, s < P.nS → M.F 3 (s * 7 + 3) = .int .i64 (P.idx s)
  low : ∀ s, s < P.nS → M.F 3 (s * 7 + 4) = .int .i64 (P.low s)
  mark : ∀ s, s < P.nS → M.F 3 (s * 7 + 5) = .int .i64 (P.mark s)
  loc : ∀ s, s < P.nS → M.F 3 (s * 7 + 6) = .int .i64 (P.loc s)
  out : ∀ s, s < P.nS → Ints M (60 + 3 * s) (P.on s) (P.out s)
  onil : ∀ s, P.nS ≤ s → M.b (60 + 3 * s) = none
  free : Ints M 4 P.nF P.free
  nC : M.n 5 = P.nC
  memh : ∀ c, c < P.nC → M.F 5 c = M.val (61 + 3 * c)
  mem : ∀ c, c < P.nC → Ints M (61 + 3 * c) (P.mn c) (P.mem c)
  cnil : ∀ c, P.nC ≤ c → M.b (61 + 3 * c) = none
  mnil : ∀ c, c < P.nC → P.mn c = 0 → M.b (61 + 3 * c) = none
  unused : Ints M 6 P.nU P.unused
  edg : Ints M 7 P.nC P.edg
  spent : Ints M 8 P.nC P.spent
  stk : Ints M 9 P.nK P.stk
  cqn : M.n 10 = P.nQ
  cq : ∀ j, j < 2 * P.nQ → M.F 10 j = .int .i64 (P.cq j)

def upd (f : Nat → Int) (i : Nat) (x : Int) : Nat → Int := fun j => if j = i then x else f j
theorem upd_same (f : Nat → Int) (i : Nat) (x : Int) : upd f i x i = x := by simp [upd]
theorem upd_other (f : Nat → Int) {i j : Nat} (x : Int) (h : j ≠ i) : upd f i x j = f j := by simp [upd, h]

theorem val_some {M : Fam} {i g : Nat} (h : M.b i = some g) : M.val i = .slice (some ⟨g, 0, none⟩) (M.n i) (M.cap i) := by simp [Fam.val, h]
theorem Ints.pos_block {w : World} {M : Fam} {i n : Nat} {f : Nat → Int} (h : Ints M i n f) (hR : Rep KP w M) (hn : 0 < n) : ∃ g, M.b i = some g := hR.hasBlock (by rw [h.1]; exact hn)
/-- A header in the struct. -/
theorem PM.hdr {w : World} {M : Fam} {P : PS} (hM : PM M P) (hR : Rep KP w M) {p : Nat} (hp : M.b 11 = some p) {j : Nat} (hj : j < 11) : w.cell? ⟨p, j, none⟩ = some (M.val j) := by
  rw [hR.cell hp (by rw [hM.p]; show j < 1 * 12; omega), hM.hd j hj]
theorem PM.hdr_some {w : World} {M : Fam} {P : PS} (hM : PM M P) (hR : Rep KP w M) {p : Nat} (hp : M.b 11 = some p) {j g : Nat} (hj : j < 11) (hg : M.b j = some g) : w.cell? ⟨p, j, none⟩ = some (.slice (some ⟨g, 0, none⟩) (M.n j) (M.cap j)) := by
  rw [hM.hdr hR hp hj, val_some hg]
theorem Ints.cell {w : World} {M : Fam} {i n g : Nat} {f : Nat → Int} (h : Ints M i n f) (hR : Rep KP w M) (hg : M.b i = some g) (hK : (KP i).2 = 1) {j : Nat} (hj : j < n) : w.cell? ⟨g, j, none⟩ = some (.int .i64 (f j)) := by
  rw [hR.cell hg (by rw [h.1, hK]; omega), h.2 j hj]

/-- Rows that are no part of the partition. -/
def Own (i : Nat) : Prop := 12 ≤ i ∧ (i < 60 ∨ i % 3 = 2)
/-- The rows that are no part of the partition are as they were; the struct lies where it lay. -/
structure Loc (M M' : Fam) : Prop where
  p : M'.b 11 = M.b 11
  ft : ∀ i, i = 1 ∨ i = 2 → M'.b i = M.b i ∧ M'.cap i = M.cap i
  row : ∀ i, Own i → M'.b i = M.b i ∧ M'.n i = M.n i ∧ M'.cap i = M.cap i ∧ M'.F i = M.F i

theorem Loc.refl (M : Fam) : Loc M M := ⟨rfl, fun _ _ => ⟨rfl, rfl⟩, fun _ _ => ⟨rfl, rfl, rfl, rfl⟩⟩
theorem Loc.trans {M M' M'' : Fam} (h1 : Loc M M') (h2 : Loc M' M'') : Loc M M'' :=
  ⟨h2.p.trans h1.p, fun i hi => ⟨(h2.ft i hi).1.trans (h1.ft i hi).1, (h2.ft i hi).2.trans (h1.ft i hi).2⟩, fun i hi => by
    obtain ⟨a, b, c, d⟩ := h1.row i hi
    obtain ⟨a', b', c', d'⟩ := h2.row i hi
    exact ⟨a'.trans a, b'.trans b, c'.trans c, d'.trans d⟩⟩
theorem Loc.set {M M' : Fam} (h : Loc M M') {i j : Nat} {v : Value} (hi : ¬ Own i) : Loc M (M'.set i j v) := by
  refine ⟨h.p, h.ft, fun k hk => ?_⟩
  obtain ⟨a, b, c, d⟩ := h.row k hk
  refine ⟨a, b, c, ?_⟩
  funext t
  rw [← d]
  have : k ≠ i := fun e => hi (by rw [← e]; exact hk)
  simp [Fam.set, this]
theorem Loc.put {M M' : Fam} (h : Loc M M') {i n cap : Nat} {b : Option Nat} {f : Nat → Value} (hi : ¬ Own i) (h11 : i ≠ 11 ∧ i ≠ 1 ∧ i ≠ 2) : Loc M (M'.put i b n cap f) := by
  refine ⟨?_, fun k hk => ?_, fun k hk => ?_⟩
  · rw [← h.p]; simp [Fam.put, Ne.symm h11.1]
  · have : k ≠ i := by omega
    simpa [Fam.put, this] using h.ft k hk
  · obtain ⟨a, b, c, d⟩ := h.row k hk
    have : k ≠ i := fun e => hi (by rw [← e]; exact hk)
    simp [Fam.put, this, a, b, c, d]

/-- What a call on the partition leaves. -/
def POut (w : World) (M : Fam) (w' : World) (P' : PS) : Prop := ∃ M', Rep KP w' M' ∧ PM M' P' ∧ Grew M w M' w' ∧ Loc M M'
theorem POut.drew {w w' : World} {M : Fam} {P' : PS} (h : POut w M w' P') : POut w M w'.drew P' := by
  obtain ⟨M', a, b, c, d⟩ := h
  exact ⟨M', a.drew, b, c.drew, d⟩
end Go.Proofs.Qxb6602148a
