/-
  PLAIN: THE SEARCH FOR BLOCKS (Hopcroft and Tarjan's), as 'split' carries it out: its state, what holds of it, and what each step does.
-/
import Derived.Test.Qxb6602148aGraph
namespace Go.Proofs.Qxb6602148a
set_option linter.unusedVariables false

/-- f with x at place i. -/
def up (f : Nat → Nat) (i x : Nat) : Nat → Nat := fun j => if j = i then x else f j
theorem up_same (f : Nat → Nat) (i x : Nat) : up f i x i = x := by simp [up]
theorem up_other (f : Nat → Nat) {i j : Nat} (x : Nat) (h : j ≠ i) : up f i x j = f j := by simp [up, h]

/-- The state. m: how many nodes the path has; nd: its nodes; te: the edge by which a node was come to; sc: how far a node's entries have been looked at; hi, pos, bu, bh, bp, bt: ghosts. -/
structure HS where
  m : Nat
  nd : Nat → Nat
  te : Nat → Nat
  sc : Nat → Nat
  idx : Nat → Nat
  low : Nat → Nat
  vis : Nat
  k : Nat
  met : Nat → Nat
  pos : Nat → Nat
  blk : Nat → Nat
  nb : Nat
  hi : Nat → Nat
  bu : Nat → Nat
  bh : Nat → Nat
  bp : Nat → Nat
  bt : Nat → Nat

def HS.on (s : HS) (v : Nat) : Prop := ∃ j, j < s.m ∧ s.nd j = v
def HS.seen (s : HS) (e : Nat) : Prop := (∃ i, i < s.k ∧ s.met i = e) ∨ s.blk e ≠ 0

/-- Path, visits, what has been looked at. -/
structure InvP (g : UG) (s : HS) : Prop where
  mpos : 1 ≤ s.m
  ndlt : ∀ j, j < s.m → s.nd j < g.N
  ndidx : ∀ i j, i < j → j < s.m → s.idx (s.nd i) < s.idx (s.nd j)
  root : s.idx (s.nd 0) = 1
  idxle : ∀ v, s.idx v ≤ s.vis
  idxlt : ∀ v, s.idx v ≠ 0 → v < g.N
  idxinj : ∀ v v', s.idx v ≠ 0 → s.idx v = s.idx v' → v = v'
  tree : ∀ j, j + 1 < s.m → g.inc (s.nd j) (s.te (s.nd (j + 1))) (s.nd (j + 1))
  scun : ∀ v, v < g.N → s.idx v = 0 → s.sc v = g.st v
  scbd : ∀ v, v < g.N → g.st v ≤ s.sc v ∧ s.sc v ≤ g.st (v + 1)
  scfin : ∀ v, s.idx v ≠ 0 → ¬ s.on v → s.sc v = g.st (v + 1)
  scvis : ∀ v q, v < g.N → g.st v ≤ q → q < s.sc v → s.idx (g.eN q) ≠ 0
  scseen : ∀ v q, v < g.N → g.st v ≤ q → q < s.sc v → s.seen (g.eE q)
  seenends : ∀ e a b, s.seen e → g.inc a e b → s.idx a ≠ 0
  deep : ∀ e a b, s.seen e → g.inc a e b → s.idx a < s.idx b → s.te b = e ∨ ∃ q, g.st b ≤ q ∧ q < s.sc b ∧ g.eE q = e
  hinb : ∀ b q, s.idx b ≠ 0 → ¬ s.on b → g.st b ≤ q → q < g.st (b + 1) → s.idx (g.eN q) ≤ s.hi b
  hile : ∀ b, s.idx b ≠ 0 → ¬ s.on b → s.hi b ≤ s.vis
  hipath : ∀ b j, s.idx b ≠ 0 → ¬ s.on b → j < s.m → s.idx (s.nd j) < s.idx b ∨ s.hi b < s.idx (s.nd j)

structure InvL (g : UG) (s : HS) : Prop where
  wit : ∀ j, j < s.m → ∃ a, a ≤ j ∧ s.low (s.nd j) = s.idx (s.nd a) ∧ ∀ b, a < b → b ≤ j → g.Eqv (s.te (s.nd b)) (s.te (s.nd j))
  lowL : ∀ j, j < s.m → ∀ a q, a < g.N → s.idx (s.nd j) ≤ s.idx a → (j + 1 < s.m → s.idx a < s.idx (s.nd (j + 1))) → g.st a ≤ q → q < s.sc a → s.idx (g.eN q) < s.idx (s.nd j) → g.eE q ≠ s.te (s.nd j) → s.low (s.nd j) ≤ s.idx (g.eN q)

structure InvM (g : UG) (s : HS) : Prop where
  posle : ∀ j, j < s.m → s.pos j ≤ s.k
  posmono : ∀ i j, i ≤ j → j < s.m → s.pos i ≤ s.pos j
  pos1 : 2 ≤ s.m → s.pos 1 = 0
  k0 : s.m = 1 → s.k = 0
  poste : ∀ j, 1 ≤ j → j < s.m → s.pos j < s.k ∧ s.met (s.pos j) = s.te (s.nd j)
  seg : ∀ j i, 1 ≤ j → j < s.m → s.pos j ≤ i → i < s.k → (j + 1 < s.m → i < s.pos (j + 1)) → g.Eqv (s.met i) (s.te (s.nd j))
  below : ∀ j i a b, j < s.m → i < s.pos j → g.inc a (s.met i) b → s.idx a < s.idx (s.nd j)
  metex : ∀ i, i < s.k → ∃ a b, g.inc a (s.met i) b
  metinj : ∀ i i', i < s.k → i' < s.k → s.met i = s.met i' → i = i'
  metblk : ∀ i, i < s.k → s.blk (s.met i) = 0
  above : ∀ j i, 1 ≤ j → j < s.m → s.pos j ≤ i → i < s.k → ∃ a b, g.inc a (s.met i) b ∧ s.idx (s.nd j) ≤ s.idx a

structure InvB (g : UG) (s : HS) : Prop where
  blkle : ∀ e, s.blk e ≤ s.nb
  b1 : ∀ β, 1 ≤ β → β ≤ s.nb → ∀ a e b, g.inc a e b → s.bu β ≤ s.idx a → s.idx a ≤ s.bh β → b = s.bp β ∨ (s.bu β ≤ s.idx b ∧ s.idx b ≤ s.bh β)
  bout : ∀ β, 1 ≤ β → β ≤ s.nb → 1 ≤ s.bu β ∧ s.bh β ≤ s.vis ∧ s.idx (s.bp β) < s.bu β ∧ s.idx (s.bp β) ≠ 0
  b2 : ∀ e, 1 ≤ s.blk e → ∃ a b, g.inc a e b ∧ s.bu (s.blk e) ≤ s.idx a ∧ s.idx a ≤ s.bh (s.blk e)
  b3 : ∀ β, 1 ≤ β → β ≤ s.nb → ∀ a e b, g.inc a e b → s.bu β ≤ s.idx a → s.idx a ≤ s.bh β → 1 ≤ s.blk e ∧ s.blk e ≤ β
  b4 : ∀ e, 1 ≤ s.blk e → g.Eqv e (s.bt (s.blk e)) ∧ ∃ a b, g.inc a (s.bt (s.blk e)) b

structure HInv (g : UG) (s : HS) : Prop where
  P : InvP g s
  L : InvL g s
  M : InvM g s
  B : InvB g s

def HS.top (s : HS) : Nat := s.nd (s.m - 1)

theorem HInv.topidx {g : UG} {s : HS} (h : HInv g s) : s.top < g.N ∧ s.idx s.top ≠ 0 ∧ s.on s.top := by
  have := h.P.mpos
  refine ⟨h.P.ndlt _ (by omega), ?_, s.m - 1, by omega, rfl⟩
  by_cases h0 : s.m - 1 = 0
  · unfold HS.top; rw [h0, h.P.root]; omega
  · have := h.P.ndidx 0 (s.m - 1) (by omega) (by omega)
    unfold HS.top; omega
theorem HInv.nd_le {g : UG} {s : HS} (h : HInv g s) {i j : Nat} (hij : i ≤ j) (hj : j < s.m) : s.idx (s.nd i) ≤ s.idx (s.nd j) := by
  rcases Nat.lt_or_ge i j with hlt | hge
  · exact Nat.le_of_lt (h.P.ndidx i j hlt hj)
  · rw [show i = j by omega]; omega
theorem HInv.nd_pos {g : UG} {s : HS} (h : HInv g s) {j : Nat} (hj : j < s.m) : 1 ≤ s.idx (s.nd j) := by
  have := h.nd_le (Nat.zero_le j) hj
  rw [h.P.root] at this
  exact this
theorem HInv.nd_inj {g : UG} {s : HS} (h : HInv g s) {i j : Nat} (hi : i < s.m) (hj : j < s.m) (e : s.nd i = s.nd j) : i = j := by
  rcases Nat.lt_trichotomy i j with hlt | heq | hgt
  · have := h.P.ndidx i j hlt hj; rw [e] at this; omega
  · exact heq
  · have := h.P.ndidx j i hgt hi; rw [e] at this; omega

/-- The entry that comes up at the top of the path is an edge there. -/
theorem UG.inc_at {g : UG} {v q : Nat} (hv : v < g.N) (h1 : g.st v ≤ q) (h2 : q < g.st (v + 1)) : g.inc v (g.eE q) (g.eN q) := ⟨hv, q, h1, h2, rfl, rfl⟩

end Go.Proofs.Qxb6602148a
