/-
  ROWS OF INTEGERS IN MEMORY: 'IRow t k w b n f': block b of w is a row of n cells of type t, the numbers f 0 .. f (n-1), nothing marked.
-/
import Derived.Below
import Derived.OwnWalk
import Derived.Laws.CopyOwn
import Derived.Deep.Draws
namespace Go.Proofs.Qxb6602170a
open Go.RowKit

def IRow (t : TypeId) (k : IntKind) (w : World) (b n : Nat) (f : Nat → Int) : Prop :=
  ∃ cs : Array Value, w.heap[b]? = some (.cells cs t (0, 0)) ∧ cs.size = n ∧ ∀ j, j < n → cs[j]? = some (.int k (f j))

def upd (f : Nat → Int) (i : Nat) (x : Int) : Nat → Int := fun j => if j = i then x else f j
theorem upd_same (f : Nat → Int) (i : Nat) (x : Int) : upd f i x i = x := by simp [upd]
theorem upd_other (f : Nat → Int) {i j : Nat} (x : Int) (h : j ≠ i) : upd f i x j = f j := by simp [upd, h]

section
variable {t : TypeId} {k : IntKind} {w : World} {b n : Nat} {f : Nat → Int}

theorem IRow.cell (h : IRow t k w b n f) {j : Nat} (hj : j < n) : w.cell? ⟨b, j, none⟩ = some (.int k (f j)) := by
  obtain ⟨cs, hb, _, hc⟩ := h
  simp [World.cell?, hb, hc j hj]
theorem IRow.frozen (h : IRow t k w b n f) (j : Nat) : w.frozen? ⟨b, j, none⟩ = false := by
  obtain ⟨cs, hb, _, _⟩ := h
  simp [World.frozen?, hb]
theorem IRow.lt (h : IRow t k w b n f) : b < w.heap.size := by
  obtain ⟨cs, hb, _, _⟩ := h
  rcases Nat.lt_or_ge b w.heap.size with h | h
  · exact h
  · simp [Array.getElem?_eq_none h] at hb
theorem IRow.of_block {w' : World} (h : IRow t k w b n f) (e : w'.heap[b]? = w.heap[b]?) : IRow t k w' b n f := by
  obtain ⟨cs, hb, hs, hc⟩ := h
  exact ⟨cs, e.trans hb, hs, hc⟩
theorem IRow.congr {g : Nat → Int} (h : IRow t k w b n f) (e : ∀ j, j < n → f j = g j) : IRow t k w b n g := by
  obtain ⟨cs, hb, hs, hc⟩ := h
  exact ⟨cs, hb, hs, fun j hj => by rw [hc j hj, e j hj]⟩
theorem IRow.set (h : IRow t k w b n f) (j : Nat) (x : Int) : IRow t k (w.setCell ⟨b, j, none⟩ (.int k x)) b n (upd f j x) := by
  obtain ⟨cs, hb, hs, hc⟩ := h
  refine ⟨cs.setIfInBounds j (.int k x), ?_, by simpa using hs, ?_⟩
  · simp only [World.setCell, Array.getElem?_modify]
    simp [hb]
  · intro i hi
    by_cases e : i = j
    · subst e
      simp [upd, hs, hi]
    · rw [upd_other _ _ e, ← hc i hi]
      simp [Ne.symm e]
theorem IRow.set_other (h : IRow t k w b n f) {a : Addr} (e : b ≠ a.block) (v : Value) : IRow t k (w.setCell a v) b n f :=
  h.of_block (Below.heap_setCell _ _ _ _ e)
theorem IRow.alloc (h : IRow t k w b n f) (o : Obj) : IRow t k (w.alloc o) b n f := h.of_block (Below.heap_alloc _ _ _ h.lt)
theorem IRow.drew (h : IRow t k w b n f) : IRow t k w.drew b n f := h
theorem IRow.grown {w' : World} {row : Option Nat} (h : IRow t k w b n f) (hg : w.grownBy w' row) (hr : some b ≠ row) : IRow t k w' b n f :=
  h.of_block (hg.block b h.lt hr)

/-- What 'make([]T, n)' leaves. -/
theorem IRow.made {base : Nat} {c : Nat} (h : w.ownsRow base t 1 (.slice (some ⟨b, 0, none⟩) n c) n (madeCells (Value.int k 0).cells (n * 1)).toList) (hc : c = n) : IRow t k w b n (fun _ => 0) := by
  subst hc
  rcases h.2 with ⟨h', _⟩ | ⟨g', cap', cur, h', _, hg, _, _, hsz, htake⟩
  · simp at h'
  · simp only [Value.slice.injEq, Option.some.injEq, Addr.mk.injEq, and_true, true_and] at h'
    obtain ⟨rfl, rfl⟩ := h'
    refine ⟨cur, hg, by omega, fun j hj => ?_⟩
    have e : cur.toList = (madeCells (Value.int k 0).cells (c * 1)).toList := by
      rw [← htake, List.take_of_length_le (by simp; omega)]
    have e2 : cur = madeCells (Value.int k 0).cells (c * 1) := by
      apply Array.ext'
      exact e
    rw [e2]
    simp [madeCells, Value.cells, hj, Nat.mod_one]
end

/-- w' is w but for block r, and for new blocks. -/
theorem grown_trans {w w1 w2 : World} {r : Option Nat} (h1 : w.grownBy w1 r) (h2 : w1.grownBy w2 r) : w.grownBy w2 r :=
  ⟨h2.os.trans h1.os, h2.tape.trans h1.tape, h2.output.trans h1.output, Nat.le_trans h1.size h2.size, fun k hk hr => (h2.block k (Nat.lt_of_lt_of_le hk h1.size) hr).trans (h1.block k hk hr)⟩
theorem grown_set (w : World) (b j : Nat) (v : Value) : w.grownBy (w.setCell ⟨b, j, none⟩ v) (some b) :=
  ⟨rfl, rfl, rfl, by simp [World.setCell], fun k _ hr => Below.heap_setCell _ _ _ _ (fun e => hr (by rw [e]))⟩
theorem grown_drew {w w1 : World} {r : Option Nat} (h1 : w.grownBy w1 r) : w.grownBy w1.drew r := ⟨h1.os, h1.tape, h1.output, h1.size, h1.block⟩
theorem grown_drewN {w w1 : World} {r : Option Nat} (h1 : w.grownBy w1 r) (n : Nat) : w.grownBy (w1.drewN n) r := ⟨h1.os, h1.tape, h1.output, h1.size, h1.block⟩

theorem min2_eq (x y : Int) : (if y < x then y else x) = min x y := by split <;> omega
theorem max2_eq (x y : Int) : (if x < y then y else x) = max x y := by split <;> omega
end Go.Proofs.Qxb6602170a
