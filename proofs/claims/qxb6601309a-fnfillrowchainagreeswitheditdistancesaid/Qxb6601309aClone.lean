import Derived.Test.Qxb6601309aFillNil
import Derived.WalkSpells
namespace Go.Proofs.Qxb6601309a
open Go.RowKit

/-- A slice of integers that came in: nil; or a row of 'cap' cells, the numbers 'zs'. -/
def IsRow (k : IntKind) (w : World) (a : Option Addr) (len cap : Nat) (zs : List Int) : Prop :=
  (a = none ∧ len = 0 ∧ cap = 0 ∧ zs = []) ∨
  ∃ x, a = some x ∧ len ≤ cap ∧ cap ≤ maxLen ∧ zs.length = cap ∧ (∀ i, i < zs.length → w.cell? (x.add i) = some (.int k (zs.getD i 0))) ∧ ∀ n ∈ zs, (Lit.int k n).wf = true

/-- A slice of the call's own: nil; or all of one block. -/
def OwnSl (B : Nat) (w : World) (a : Option Addr) (n : Nat) (f : Nat → Int) : Prop :=
  (a = none ∧ n = 0) ∨ ∃ q, a = some ⟨q, 0, none⟩ ∧ B ≤ q ∧ IRow 21 .i32 w q n f

theorem Try.info21 : (Try.prog.info? 21).map (fun i => (i.zero, i.size, i.bytes)) = some (some (.int .i32 0), 1, 4) := by kernel_rfl
theorem Try.info3 : (Try.prog.info? 3).map (fun i => (i.zero, i.size, i.bytes)) = some (some (.int .i64 0), 1, 8) := by kernel_rfl
theorem Try.size21 : (Try.prog.info? 21).map (·.size) = some 1 := by kernel_rfl

theorem madeList (k : IntKind) (n : Nat) : (madeCells (Value.int k 0).cells (n * 1)).toList = List.replicate n (.int k 0) := by
  apply List.ext_getElem
  · simp [madeCells]
  · intro i h1 h2
    simp [madeCells, Value.cells, Nat.mod_one]

/-- The row that a 'make' laid, whole. -/
theorem made_block {w : World} {base t : Nat} {k : IntKind} {b n : Nat} (h : w.ownsRow base t 1 (.slice (some ⟨b, 0, none⟩) n n) n (madeCells (Value.int k 0).cells (n * 1)).toList) :
    w.heap[b]? = some (.cells (List.replicate n (Value.int k 0)).toArray t (0, 0)) := by
  rcases h.2 with ⟨h', _⟩ | ⟨g', cap', cur, h', _, hg, _, _, hsz, htake⟩
  · simp at h'
  · simp only [Value.slice.injEq, Option.some.injEq, Addr.mk.injEq, and_true, true_and] at h'
    obtain ⟨rfl, rfl⟩ := h'
    rw [hg, ← madeList, ← htake, List.take_of_length_le (by simp; omega)]

theorem splice_all {α : Type} (L cs : List α) (h : cs.length = L.length) : splice L 0 cs = cs := by
  simp [splice, h]

set_option maxHeartbeats 1000000 in
theorem clone_any (a : Option Addr) (len cap : Nat) (zs : List Int) (w : World) (h : IsRow .i32 w a len cap zs) (hl : len ≤ 1048576) :
    Calls Try.prog 20 #[.slice a len cap] w fun e w' => (∃ ao, e = .returned (.slice ao len len) ∧ OwnSl w.heap.size w' ao len (fun j => zs.getD j 0)) ∧ Below w.heap.size w w' := by
  have he := fun (a : Option Addr) (n c : Nat) (w : World) => Lib.run_eql_slice_nil (P := Try.prog) w 35 21 a n c 0 0 Try.underlying35
  rcases h with ⟨rfl, rfl, rfl, rfl⟩ | ⟨x, rfl, h1, h2, h3, h4, _⟩
  · go_enter Try.func20, Try.ntmps20
    go_wp2
    go_ret
    exact ⟨⟨none, rfl, .inl ⟨rfl, rfl⟩⟩, Below.refl _ _⟩
  · obtain ⟨i0, hi, hz0, hz1, hz2⟩ := info_parts Try.info21
    go_enter Try.func20, Try.ntmps20
    have HC : Hid (∀ i, i < zs.length → w.cell? (x.add i) = some (.int .i32 (zs.getD i 0))) := h4
    obtain ⟨C, hC⟩ : ∃ C, C = (zs.take len).map (Value.int .i32) := ⟨_, rfl⟩
    have CL : Hid (C.length = len) := by show C.length = len; rw [hC]; simp; omega
    have HCd : Hid (C = (zs.take len).map (Value.int .i32)) := hC
    clear h4 hC
    go_wp2_with (first
      | (at_make; refine wpList_make_full _ rfl _ _ 35 rfl w.heap.size 21 i0 (.int .i32 0) 1 Try.underlying35 hi hz0 hz1 _ _ _ _ len rfl rfl rfl rfl (by rw [hz2]; omega) (by unfold maxLen; omega) (Nat.le_refl _) ?_; intro w1 hown1 hgrow1; have HB1 : Hid (w1.heap[w.heap.size]? = some (.cells (List.replicate len (Value.int .i32 0)).toArray 21 (0, 0))) := made_block hown1; have B1 : Below w.heap.size w w1 := (Below.refl _ _).grown hgrow1 (Nat.le_refl _) (by simp); clear hown1 hgrow1)
      | (refine wpList_copy_splice rfl (.tmp 9) (.tmp 10) 35 35 rfl 21 Try.underlying35 Try.size21 _ _ _ _ _ _ rfl rfl w.heap.size 0 (List.replicate len (Value.int .i32 0)) 21 HB1.out C ?cn ?cp ?cf ?c1 w.heap.size w B1 (Nat.le_refl _) ?_))
    case cn => rw [CL.out]; simp
    case cp =>
      intro _ j v hj
      have hjl : j < len := by have := (List.getElem?_eq_some_iff.1 hj).1; rw [CL.out] at this; exact this
      rw [HCd.out, List.getElem?_map, List.getElem?_take, if_pos hjl, List.getElem?_eq_getElem (by omega)] at hj
      simp only [Option.map_some, Option.some.injEq] at hj
      have hx := HC.out j (by omega)
      have e : w1.cell? (x.add j) = w.cell? (x.add j) := B1.cell (World.block_lt_of_cell? w _ hx)
      rw [e, hx, ← hj]
      simp [List.getD, List.getElem?_eq_getElem (show j < zs.length by omega)]
    case cf => rw [CL.out]; simp
    case c1 =>
      intro v hv
      rw [HCd.out] at hv
      simp only [List.mem_map] at hv
      obtain ⟨n, _, rfl⟩ := hv
      rfl
    intro w2 HG2 B2
    go_wp2
    go_ret
    refine ⟨⟨_, rfl, .inr ⟨w.heap.size, rfl, Nat.le_refl _, C.toArray, ?_, by simpa using CL.out, ?_⟩⟩, B2⟩
    · rw [HG2.out, splice_all _ _ (by rw [CL.out]; simp)]
    · intro j hj
      rw [HCd.out]
      simp [hj, List.getElem?_eq_getElem (show j < zs.length by omega)]
end Go.Proofs.Qxb6601309a
