/-
  MEMORY AS A FAMILY OF ROWS. 'Rep K w M': row i of the family M lies in the block M.b i of w (none: nil), M.n i elements of (K i).2 cells each, of type (K i).1; the cells are M.F i 0, M.F i 1 ..; no two rows share a block.
-/
import Derived.Below
import Derived.OwnWalk
import Derived.Laws.CopyOwn
import Derived.Deep.Draws
import Derived.Deep.RegionLawGrows
namespace Go.Proofs.Qxb6602148a
open Go.RowKit
set_option linter.unusedVariables false

structure Fam where
  b : Nat → Option Nat
  n : Nat → Nat
  cap : Nat → Nat
  F : Nat → Nat → Value

def Fam.val (M : Fam) (i : Nat) : Value := .slice ((M.b i).map fun g => ⟨g, 0, none⟩) (M.n i) (M.cap i)
def Fam.set (M : Fam) (i j : Nat) (v : Value) : Fam := { M with F := fun i' j' => if i' = i ∧ j' = j then v else M.F i' j' }
def Fam.put (M : Fam) (i : Nat) (b : Option Nat) (n cap : Nat) (f : Nat → Value) : Fam :=
  { b := fun k => if k = i then b else M.b k, n := fun k => if k = i then n else M.n k, cap := fun k => if k = i then cap else M.cap k, F := fun k => if k = i then f else M.F k }

def RowOk (w : World) (e : TypeId) (sz : Nat) (b : Option Nat) (n cap : Nat) (F : Nat → Value) : Prop :=
  match b with
  | none => n = 0 ∧ cap = 0
  | some g => ∃ cur : Array Value, w.heap[g]? = some (.cells cur e (0, 0)) ∧ n ≤ cap ∧ cap ≤ maxLen ∧ cur.size = cap * sz ∧ ∀ j, j < n * sz → cur[j]? = some (F j)

structure Rep (K : Nat → TypeId × Nat) (w : World) (M : Fam) : Prop where
  row : ∀ i, RowOk w (K i).1 (K i).2 (M.b i) (M.n i) (M.cap i) (M.F i)
  inj : ∀ i j g, M.b i = some g → M.b j = some g → i = j

/-- What lies outside the family is as it was; the family's blocks are old ones of its own, or new. -/
structure Grew (M : Fam) (w : World) (M' : Fam) (w' : World) : Prop where
  os : w'.os = w.os
  tape : w'.tape = w.tape
  output : w'.output = w.output
  size : w.heap.size ≤ w'.heap.size
  block : ∀ k, k < w.heap.size → (∀ i, M.b i ≠ some k) → w'.heap[k]? = w.heap[k]?
  own : ∀ i g, M'.b i = some g → (∃ j, M.b j = some g) ∨ w.heap.size ≤ g

theorem RowOk.lt {w : World} {e : TypeId} {sz g n cap : Nat} {F : Nat → Value} (h : RowOk w e sz (some g) n cap F) : g < w.heap.size := by
  obtain ⟨cur, hb, _⟩ := h
  exact (Array.getElem?_eq_some_iff.1 hb).1
theorem RowOk.of_block {w w' : World} {e : TypeId} {sz n cap : Nat} {b : Option Nat} {F : Nat → Value} (h : RowOk w e sz b n cap F) (hb : ∀ g, b = some g → w'.heap[g]? = w.heap[g]?) : RowOk w' e sz b n cap F := by
  cases b with
  | none => exact h
  | some g =>
    obtain ⟨cur, h1, h2⟩ := h
    exact ⟨cur, (hb g rfl).trans h1, h2⟩

section
variable {K : Nat → TypeId × Nat} {w w' : World} {M M' M'' : Fam}

theorem Grew.refl (M : Fam) (w : World) : Grew M w M w := ⟨rfl, rfl, rfl, Nat.le_refl _, fun _ _ _ => rfl, fun i g h => .inl ⟨i, h⟩⟩
theorem Grew.trans {w'' : World} (h1 : Grew M w M' w') (h2 : Grew M' w' M'' w'') : Grew M w M'' w'' where
  os := h2.os.trans h1.os
  tape := h2.tape.trans h1.tape
  output := h2.output.trans h1.output
  size := Nat.le_trans h1.size h2.size
  block k hk hn := by
    refine (h2.block k (Nat.lt_of_lt_of_le hk h1.size) ?_).trans (h1.block k hk hn)
    intro i hi
    rcases h1.own i k hi with ⟨j, hj⟩ | hge
    · exact hn j hj
    · omega
  own i g hg := by
    rcases h2.own i g hg with ⟨j, hj⟩ | hge
    · exact h1.own j g hj
    · exact .inr (Nat.le_trans h1.size hge)

theorem Rep.lt (h : Rep K w M) {i g : Nat} (hb : M.b i = some g) : g < w.heap.size := by
  have := h.row i
  rw [hb] at this
  exact this.lt
theorem Rep.le_cap (h : Rep K w M) (i : Nat) : M.n i ≤ M.cap i := by
  have := h.row i
  cases hb : M.b i with
  | none => rw [hb] at this; obtain ⟨h1, h2⟩ := this; omega
  | some g => rw [hb] at this; obtain ⟨cur, _, h2, _⟩ := this; exact h2
theorem Rep.cap_le (h : Rep K w M) (i : Nat) : M.cap i ≤ maxLen := by
  have := h.row i
  cases hb : M.b i with
  | none => rw [hb] at this; obtain ⟨h1, h2⟩ := this; rw [h2]; exact Nat.zero_le _
  | some g => rw [hb] at this; obtain ⟨cur, _, _, h2, _⟩ := this; exact h2
theorem Rep.hasBlock (h : Rep K w M) {i : Nat} (hn : 0 < M.n i) : ∃ g, M.b i = some g := by
  have := h.row i
  cases hb : M.b i with
  | none => rw [hb] at this; obtain ⟨h1, h2⟩ := this; omega
  | some g => exact ⟨g, rfl⟩
theorem Rep.cell (h : Rep K w M) {i g : Nat} (hb : M.b i = some g) {j : Nat} (hj : j < M.n i * (K i).2) : w.cell? ⟨g, j, none⟩ = some (M.F i j) := by
  have := h.row i
  rw [hb] at this
  obtain ⟨cur, h1, _, _, _, h5⟩ := this
  simp [World.cell?, h1, h5 j hj]
theorem Rep.frozen (h : Rep K w M) {i g : Nat} (hb : M.b i = some g) (j : Nat) : w.frozen? ⟨g, j, none⟩ = false := by
  have := h.row i
  rw [hb] at this
  obtain ⟨cur, h1, _⟩ := this
  simp [World.frozen?, h1]
theorem Rep.alloc (h : Rep K w M) (o : Obj) : Rep K (w.alloc o) M :=
  ⟨fun i => (h.row i).of_block (fun g hg => Below.heap_alloc _ _ _ (h.lt hg)), h.inj⟩
theorem Rep.drew (h : Rep K w M) : Rep K w.drew M := ⟨h.row, h.inj⟩
theorem Rep.drewN (h : Rep K w M) (n : Nat) : Rep K (w.drewN n) M := ⟨h.row, h.inj⟩
theorem Rep.other (h : Rep K w M) {a : Addr} (ha : ∀ i, M.b i ≠ some a.block) (v : Value) : Rep K (w.setCell a v) M :=
  ⟨fun i => (h.row i).of_block (fun g hg => Below.heap_setCell _ _ _ _ (fun e => ha i (by rw [hg, e]))), h.inj⟩
theorem Rep.kept (h : Rep K w M) (hg : ∀ i g, M.b i = some g → w'.heap[g]? = w.heap[g]?) : Rep K w' M :=
  ⟨fun i => (h.row i).of_block (fun g hb => hg i g hb), h.inj⟩
theorem Rep.set (h : Rep K w M) {i g : Nat} (hb : M.b i = some g) (j : Nat) (v : Value) : Rep K (w.setCell ⟨g, j, none⟩ v) (M.set i j v) := by
  refine ⟨fun k => ?_, h.inj⟩
  by_cases hk : k = i
  · subst hk
    have := h.row k
    show RowOk _ _ _ (M.b k) (M.n k) (M.cap k) _
    rw [hb] at this ⊢
    obtain ⟨cur, h1, h2, h3, h4, h5⟩ := this
    refine ⟨cur.setIfInBounds j v, ?_, h2, h3, by simpa using h4, ?_⟩
    · simp only [World.setCell, Array.getElem?_modify]
      simp [h1]
    · intro t ht
      have hsz : t < cur.size := by
        rw [h4]; exact Nat.lt_of_lt_of_le ht (Nat.mul_le_mul_right _ h2)
      by_cases e : t = j
      · subst e
        simp [Fam.set, hsz]
      · rw [show (M.set k j v).F k t = M.F k t by simp [Fam.set, e], ← h5 t ht]
        simp [Ne.symm e]
  · show RowOk _ _ _ (M.b k) (M.n k) (M.cap k) _
    rw [show (M.set i j v).F k = M.F k by funext t; simp [Fam.set, hk]]
    refine (h.row k).of_block (fun g' hg' => Below.heap_setCell _ _ _ _ (fun e => ?_))
    have e : g' = g := e
    rw [e] at hg'
    exact hk (h.inj k i g hg' hb)
theorem Grew.set (h : Grew M w M' w') {g j : Nat} (hb : ∃ i, M'.b i = some g) (i0 j0 : Nat) (v v0 : Value) : Grew M w (M'.set i0 j0 v0) (w'.setCell ⟨g, j, none⟩ v) :=
  ⟨h.os, h.tape, h.output, by simpa [World.setCell] using h.size, fun k hk hn => by
    rw [Below.heap_setCell _ _ _ _ (fun e => ?_)]
    · exact h.block k hk hn
    · obtain ⟨i, hi⟩ := hb
      have e : k = g := e
      rcases h.own i g hi with ⟨j, hj⟩ | hge
      · exact hn j (by rw [e]; exact hj)
      · omega, h.own⟩
theorem Grew.drew (h : Grew M w M' w') : Grew M w M' w'.drew := ⟨h.os, h.tape, h.output, h.size, h.block, h.own⟩
theorem Grew.drewN (h : Grew M w M' w') (n : Nat) : Grew M w M' (w'.drewN n) := ⟨h.os, h.tape, h.output, h.size, h.block, h.own⟩
theorem Grew.alloc (h : Grew M w M' w') (o : Obj) : Grew M w M' (w'.alloc o) :=
  ⟨h.os, h.tape, h.output, by have := h.size; simp; omega, fun k hk hn => (Below.heap_alloc _ _ _ (Nat.lt_of_lt_of_le hk h.size)).trans (h.block k hk hn), h.own⟩
/-- A row that keeps its block, or loses it. -/
theorem Grew.put (h : Grew M w M' w') {i n cap : Nat} {b : Option Nat} {f : Nat → Value} (hb : b = M'.b i ∨ b = none) : Grew M w (M'.put i b n cap f) w' :=
  ⟨h.os, h.tape, h.output, h.size, h.block, fun k g hg => by
    by_cases hk : k = i
    · subst hk
      simp only [Fam.put, if_true] at hg
      rcases hb with e | e
      · exact h.own k g (by rw [← e]; exact hg)
      · rw [e] at hg; cases hg
    · simp only [Fam.put, if_neg hk] at hg; exact h.own k g hg⟩
theorem Rep.shrink (h : Rep K w M) (i : Nat) {n' : Nat} (hn : n' ≤ M.n i) : Rep K w (M.put i (M.b i) n' (M.cap i) (M.F i)) := by
  refine ⟨fun k => ?_, fun k l g => ?_⟩
  · by_cases hk : k = i
    · subst hk
      have := h.row k
      simp only [Fam.put, if_true]
      cases hb : M.b k with
      | none => rw [hb] at this; obtain ⟨h1, h2⟩ := this; exact ⟨by omega, h2⟩
      | some g =>
        rw [hb] at this
        obtain ⟨cur, h1, h2, h3, h4, h5⟩ := this
        exact ⟨cur, h1, by omega, h3, h4, fun j hj => h5 j (Nat.lt_of_lt_of_le hj (Nat.mul_le_mul_right _ hn))⟩
    · simp only [Fam.put, if_neg hk]; exact h.row k
  · have e : ∀ k, (M.put i (M.b i) n' (M.cap i) (M.F i)).b k = M.b k := by
      intro k; by_cases hk : k = i
      · subst hk; simp [Fam.put]
      · simp [Fam.put, hk]
    rw [e, e]; exact h.inj k l g
/-- A row is let go. -/
theorem Rep.drop (h : Rep K w M) (i : Nat) (f : Nat → Value) : Rep K w (M.put i none 0 0 f) := by
  refine ⟨fun k => ?_, fun k l g => ?_⟩
  · by_cases hk : k = i
    · subst hk; simp only [Fam.put, if_true]; exact ⟨rfl, rfl⟩
    · simp only [Fam.put, if_neg hk]; exact h.row k
  · by_cases hk : k = i
    · subst hk; simp [Fam.put]
    · by_cases hl : l = i
      · subst hl; simp [Fam.put]
      · simp only [Fam.put, if_neg hk, if_neg hl]; exact h.inj k l g
/-- A row in a new block. -/
theorem Rep.fresh (h : Rep K w M) (hs : w.heap.size ≤ w'.heap.size) (hk : ∀ k, k < w.heap.size → w'.heap[k]? = w.heap[k]?) (i : Nat) {g n cap : Nat} {f : Nat → Value} (hg : w.heap.size ≤ g)
    (hr : RowOk w' (K i).1 (K i).2 (some g) n cap f) : Rep K w' (M.put i (some g) n cap f) := by
  refine ⟨fun k => ?_, fun k l g' => ?_⟩
  · by_cases e : k = i
    · subst e; simp only [Fam.put, if_true]; exact hr
    · simp only [Fam.put, if_neg e]
      exact (h.row k).of_block (fun g' hb => hk g' (h.lt hb))
  · by_cases hk' : k = i
    · by_cases hl : l = i
      · intro _ _; omega
      · subst hk'
        simp only [Fam.put, if_true, if_neg hl]
        intro h1 h2
        have := h.lt h2
        injection h1 with h1
        omega
    · by_cases hl : l = i
      · subst hl
        simp only [Fam.put, if_true, if_neg hk']
        intro h1 h2
        have := h.lt h1
        injection h2 with h2
        omega
      · simp only [Fam.put, if_neg hk', if_neg hl]; exact h.inj k l g'
end

section
variable {P : Program} {K : Nat → TypeId × Nat} {w : World} {M : Fam}

def ext (F : Nat → Value) (m : Nat) (news : List Value) : Nat → Value := fun j => if j < m then F j else (news[j - m]?).getD (.int .i64 0)

/-- APPEND OF ONE ELEMENT TO ROW i. -/
theorem run_append_row (h : Rep K w M) (ix : Nat) (t ty e : TypeId) (i : TypeInfo) (z : Value) (size bytes : Nat) (hK : K ix = (e, size)) (ht : P.underlying t = some (.slice e)) (hi : P.info? e = some i) (hz : i.zero = some z)
    (hsize : i.size = size) (hby : i.bytes = bytes) (hzs : z.cells.size = size) (hsz : 0 < size)
    (a : Addr) (c : Nat) (news : List Value) (hl : news.length = size) (hnews : ∀ j u, news[j]? = some u → w.cell? (a.add j) = some u) (h1 : ∀ u ∈ news, u.oneCell' = true)
    (hbytes : (M.n ix + 1) * bytes ≤ 140737488355328) (hb0 : 0 < bytes) :
    ∃ g' cap' w', (Builtin.append_ #[t, t] ty #[M.val ix, .slice (some a) 1 c]).run P w = .ok (.slice (some ⟨g', 0, none⟩) (M.n ix + 1) cap') w' ∧
      Rep K w' (M.put ix (some g') (M.n ix + 1) cap' (ext (M.F ix) (M.n ix * size) news)) ∧ Grew M w (M.put ix (some g') (M.n ix + 1) cap' (ext (M.F ix) (M.n ix * size) news)) w' := by
  subst hsize
  subst hby
  have hn1 : M.n ix + 1 ≤ (M.n ix + 1) * i.bytes := Nat.le_mul_of_pos_right _ hb0
  have hsmall : M.n ix + 1 ≤ 9223372036854775807 := by omega
  have hml : M.n ix + 1 ≤ maxLen := by simp only [maxLen]; omega
  -- a new row
  have grown : ∀ (xs : List Value) (old : Nat), xs.length = M.n ix * i.size → (∀ j, j < M.n ix * i.size → xs[j]? = some (M.F ix j)) →
      Rep K (w.drew.alloc (.cells (xs.toArray ++ news.toArray ++ Builtin.zeroCells z.cells (grownCap w (M.n ix + 1) old e - (M.n ix + 1))) e)) (M.put ix (some w.heap.size) (M.n ix + 1) (grownCap w (M.n ix + 1) old e) (ext (M.F ix) (M.n ix * i.size) news)) ∧
      Grew M w (M.put ix (some w.heap.size) (M.n ix + 1) (grownCap w (M.n ix + 1) old e) (ext (M.F ix) (M.n ix * i.size) news)) (w.drew.alloc (.cells (xs.toArray ++ news.toArray ++ Builtin.zeroCells z.cells (grownCap w (M.n ix + 1) old e - (M.n ix + 1))) e)) := by
    intro xs old hxl hxs
    have hge := grownCap_ge w (M.n ix + 1) old e
    have hcm : grownCap w (M.n ix + 1) old e ≤ maxLen := grownCap_le_maxLen w (M.n ix + 1) old e hml
    refine ⟨h.fresh (by simp) (fun k hk => heap_alloc_old w.drew _ k hk) ix (Nat.le_refl _) ?_, ⟨rfl, rfl, rfl, by simp, fun k hk _ => heap_alloc_old w.drew _ k hk, ?_⟩⟩
    · rw [hK]
      refine ⟨_, heap_alloc_new w.drew _, hge, hcm, ?_, ?_⟩
      · simp only [Array.size_append, List.size_toArray, size_zeroCells, hzs, hxl, hl]
        have : (M.n ix + 1) * i.size = M.n ix * i.size + i.size := by rw [Nat.add_mul, Nat.one_mul]
        rw [← this, ← Nat.add_mul]
        congr 1
        omega
      · intro j hj
        have e1 : (M.n ix + 1) * i.size = M.n ix * i.size + i.size := by rw [Nat.add_mul, Nat.one_mul]
        have hj : j < (M.n ix + 1) * i.size := hj
        rw [e1] at hj
        unfold ext
        rw [Array.getElem?_append_left (by simp [hxl, hl]; exact hj)]
        by_cases hlt : j < M.n ix * i.size
        · rw [if_pos hlt, Array.getElem?_append_left (by simp [hxl]; exact hlt)]
          simpa using hxs j hlt
        · rw [if_neg hlt, Array.getElem?_append_right (by simp [hxl]; omega)]
          simp only [List.getElem?_toArray, List.size_toArray, hxl]
          have : j - M.n ix * i.size < news.length := by omega
          rw [List.getElem?_eq_getElem this]; rfl
    · intro k g hg
      by_cases hk : k = ix
      · subst hk; simp only [Fam.put, if_true] at hg; injection hg with hg; exact .inr (by omega)
      · simp only [Fam.put, if_neg hk] at hg; exact .inl ⟨k, hg⟩
  have hrow := h.row ix
  rw [hK] at hrow
  cases hb : M.b ix with
  | none =>
    rw [hb] at hrow
    obtain ⟨n0, c0⟩ := hrow
    have hv : M.val ix = .slice none 0 0 := by simp [Fam.val, hb, n0, c0]
    have hr := run_append_nil (P := P) w t ty e i z ht hi hz a 1 c news (by simpa using hl) hnews (by omega) (by omega) (by have hb := hbytes; simp only [n0] at hb; omega)
    have hgr := grown [] 0 (by simp [n0]) (by intro j hj; rw [n0] at hj; omega)
    rw [hv, hr]
    simp only [n0, Nat.zero_add, Array.empty_append] at hgr ⊢
    exact ⟨_, _, _, rfl, hgr.1, hgr.2⟩
  | some g =>
    rw [hb] at hrow
    obtain ⟨cur, hg, hnc, hcm, hcs, hF⟩ := hrow
    have hv : M.val ix = .slice (some ⟨g, 0, none⟩) (M.n ix) (M.cap ix) := by simp [Fam.val, hb]
    have e1 : (M.n ix + 1) * i.size = M.n ix * i.size + i.size := by rw [Nat.add_mul, Nat.one_mul]
    have hle : M.n ix * i.size ≤ cur.size := by rw [hcs]; exact Nat.mul_le_mul_right _ hnc
    by_cases hroom : M.n ix + 1 ≤ M.cap ix
    · have hfit : M.n ix * i.size + news.length ≤ cur.size := by rw [hl, hcs, ← e1]; exact Nat.mul_le_mul_right _ hroom
      have hr := run_append_room (P := P) w t ty e i ht hi g (M.n ix) (M.cap ix) cur hg a 1 c news (by simpa using hl) hnews h1 hroom hfit
      rw [hv, hr]
      refine ⟨_, _, _, rfl, ⟨fun k => ?_, fun k l g' => ?_⟩, ⟨rfl, rfl, rfl, by simp, fun k _ hk => setRow_other w g k _ (fun e => hk ix (by rw [hb, e])), ?_⟩⟩
      · by_cases hk : k = ix
        · subst hk
          simp only [Fam.put, if_true, hK]
          refine ⟨_, setRow_heap w g cur _ e _ hg, hroom, hcm, ?_, ?_⟩
          · simp only [List.size_toArray, List.length_append, List.length_take, List.length_drop, Array.length_toList]
            rw [Nat.min_eq_left hle, ← hcs]
            exact Nat.add_sub_cancel' hfit
          · intro j hj
            rw [e1] at hj
            unfold ext
            simp only [List.getElem?_toArray]
            rw [List.getElem?_append_left (by simp; omega)]
            by_cases hlt : j < M.n k * i.size
            · rw [if_pos hlt, List.getElem?_append_left (by simp; omega), List.getElem?_take, if_pos hlt]
              simpa using hF j hlt
            · rw [if_neg hlt, List.getElem?_append_right (by simp; omega)]
              have e2 : (cur.toList.take (M.n k * i.size)).length = M.n k * i.size := by simp; omega
              rw [e2]
              have : j - M.n k * i.size < news.length := by omega
              rw [List.getElem?_eq_getElem this]; rfl
        · simp only [Fam.put, if_neg hk]
          exact (h.row k).of_block (fun g' hb' => setRow_other w g g' _ (fun e => hk (h.inj k ix g (by rw [hb', e]) hb)))
      · have e3 : ∀ k, (M.put ix (some g) (M.n ix + 1) (M.cap ix) (ext (M.F ix) (M.n ix * i.size) news)).b k = M.b k := by
          intro k; by_cases hk : k = ix
          · subst hk; simp [Fam.put, hb]
          · simp [Fam.put, hk]
        rw [e3, e3]; exact h.inj k l g'
      · intro k g' hg'
        by_cases hk : k = ix
        · subst hk; simp only [Fam.put, if_true] at hg'; exact .inl ⟨k, by rw [hb]; exact hg'⟩
        · simp only [Fam.put, if_neg hk] at hg'; exact .inl ⟨k, hg'⟩
    · have hxl : (cur.toList.take (M.n ix * i.size)).length = M.n ix * i.size := by simp; omega
      have hxs : ∀ j, j < M.n ix * i.size → (cur.toList.take (M.n ix * i.size))[j]? = some (M.F ix j) := by
        intro j hj
        rw [List.getElem?_take, if_pos hj]
        simpa using hF j hj
      have holds : ∀ j u, (cur.toList.take (M.n ix * i.size))[j]? = some u → w.cell? ((⟨g, 0, none⟩ : Addr).add j) = some u := by
        intro j u hu
        rw [Addr.add_lit, Nat.zero_add]
        rw [List.getElem?_take] at hu
        split at hu
        · simp [World.cell?, hg]; simpa using hu
        · cases hu
      have hr := run_append_grow (P := P) w t ty e i z ht hi hz ⟨g, 0, none⟩ (M.n ix) (M.cap ix) _ hxl holds a 1 c news (by simpa using hl) hnews (by omega) (by omega) (growslice_fits (by omega) hbytes)
      have hgr := grown _ (M.cap ix) hxl hxs
      rw [hv, hr]
      exact ⟨_, _, _, rfl, hgr.1, hgr.2⟩

theorem wp_append_row {o : Oper} {a : Act} {C : Act → World → Prop} {Q : Exit → Act → World → Prop} (h : Rep K w M) (ix n : Nat) (hn : M.n ix = n) (s x : Operand) (t : TypeId)
    (ho : o.op = .call { callee := .builtin .append, args := #[s, x], argTypes := #[t, t] })
    (e : TypeId) (i : TypeInfo) (z : Value) (size bytes : Nat) (hK : K ix = (e, size)) (ht : P.underlying t = some (.slice e)) (hi : P.info? e = some i) (hz : i.zero = some z)
    (hsize : i.size = size) (hby : i.bytes = bytes) (hzs : z.cells.size = size) (hsz : 0 < size) (hs : a.eval s = M.val ix)
    (ad : Addr) (c : Nat) (news : List Value) (hx : a.eval x = .slice (some ad) 1 c) (hl : news.length = size) (hnews : ∀ j u, news[j]? = some u → w.cell? (ad.add j) = some u) (h1 : ∀ u ∈ news, u.oneCell' = true)
    (hbytes : (n + 1) * bytes ≤ 140737488355328) (hb0 : 0 < bytes)
    (hC : ∀ g' cap' w', Rep K w' (M.put ix (some g') (n + 1) cap' (ext (M.F ix) (n * size) news)) → Grew M w (M.put ix (some g') (n + 1) cap' (ext (M.F ix) (n * size) news)) w' → C (a.put o.dst (.slice (some ⟨g', 0, none⟩) (n + 1) cap')) w') : o.wp P a w C Q := by
  subst hn
  obtain ⟨g', cap', w', hr, h2, h3⟩ := run_append_row (P := P) h ix t o.type e i z size bytes hK ht hi hz hsize hby hzs hsz ad c news hl hnews h1 hbytes hb0
  unfold Oper.wp execOp
  simp only [ho, resolve, invoke, builtin, Sem.run_bind, Sem.run_pure, Result.andThen_ok, List.map_toArray, List.map_cons, List.map_nil, hs, hx, hr]
  exact hC g' cap' w' h2 h3

theorem wpList_append_row {ops : Array Oper} {rest : List Oper} {o : Oper} {a : Act} {Q : Exit → Act → World → Prop} (hgd : o.guard = none) (h : Rep K w M) (ix n : Nat) (hn : M.n ix = n) (s x : Operand) (t : TypeId)
    (ho : o.op = .call { callee := .builtin .append, args := #[s, x], argTypes := #[t, t] })
    (e : TypeId) (i : TypeInfo) (z : Value) (size bytes : Nat) (hK : K ix = (e, size)) (ht : P.underlying t = some (.slice e)) (hi : P.info? e = some i) (hz : i.zero = some z)
    (hsize : i.size = size) (hby : i.bytes = bytes) (hzs : z.cells.size = size) (hsz : 0 < size) (hs : a.eval s = M.val ix)
    (ad : Addr) (c : Nat) (news : List Value) (hx : a.eval x = .slice (some ad) 1 c) (hl : news.length = size) (hnews : ∀ j u, news[j]? = some u → w.cell? (ad.add j) = some u) (h1 : ∀ u ∈ news, u.oneCell' = true)
    (hbytes : (n + 1) * bytes ≤ 140737488355328) (hb0 : 0 < bytes)
    (hC : ∀ g' cap' w', Rep K w' (M.put ix (some g') (n + 1) cap' (ext (M.F ix) (n * size) news)) → Grew M w (M.put ix (some g') (n + 1) cap' (ext (M.F ix) (n * size) news)) w' → wpList P ops Q rest (a.put o.dst (.slice (some ⟨g', 0, none⟩) (n + 1) cap')) w') : wpList P ops Q (o :: rest) a w :=
  wpList_plain hgd fun _ hKK => wp_append_row h ix n hn s x t ho e i z size bytes hK ht hi hz hsize hby hzs hsz hs ad c news hx hl hnews h1 hbytes hb0 fun g' cap' w' h2 h3 => hKK _ _ (hC g' cap' w' h2 h3)

theorem step_append_row {ops : Array Oper} {o : Oper} {a : Act} {C : Act → World → Prop} {Q : Exit → Act → World → Prop} {E : Prop} (hgd : o.guard = none) (h : Rep K w M) (ix n : Nat) (hn : M.n ix = n) (s x : Operand) (t : TypeId)
    (ho : o.op = .call { callee := .builtin .append, args := #[s, x], argTypes := #[t, t] })
    (e : TypeId) (i : TypeInfo) (z : Value) (size bytes : Nat) (hK : K ix = (e, size)) (ht : P.underlying t = some (.slice e)) (hi : P.info? e = some i) (hz : i.zero = some z)
    (hsize : i.size = size) (hby : i.bytes = bytes) (hzs : z.cells.size = size) (hsz : 0 < size) (hs : a.eval s = M.val ix)
    (ad : Addr) (c : Nat) (news : List Value) (hx : a.eval x = .slice (some ad) 1 c) (hl : news.length = size) (hnews : ∀ j u, news[j]? = some u → w.cell? (ad.add j) = some u) (h1 : ∀ u ∈ news, u.oneCell' = true)
    (hbytes : (n + 1) * bytes ≤ 140737488355328) (hb0 : 0 < bytes)
    (hC : ∀ g' cap' w', Rep K w' (M.put ix (some g') (n + 1) cap' (ext (M.F ix) (n * size) news)) → Grew M w (M.put ix (some g') (n + 1) cap' (ext (M.F ix) (n * size) news)) w' → C (a.put o.dst (.slice (some ⟨g', 0, none⟩) (n + 1) cap')) w') :
    if Region.wanted o (yielded ops a.tmps) = true then Oper.wp P o a w C Q else E := by
  have hw : Region.wanted o (yielded ops a.tmps) = true := by simp [Region.wanted, hgd]
  rw [if_pos hw]
  exact wp_append_row h ix n hn s x t ho e i z size bytes hK ht hi hz hsize hby hzs hsz hs ad c news hx hl hnews h1 hbytes hb0 hC
end
end Go.Proofs.Qxb6602148a
