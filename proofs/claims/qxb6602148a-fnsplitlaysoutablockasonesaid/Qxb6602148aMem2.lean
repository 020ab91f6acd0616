/-
  MEMORY AS A FAMILY OF ROWS, more: rows in new blocks; a row that moves to another name; a block that is taken in.
-/
import Derived.Test.Qxb6602148aSlot
import Derived.Lib.SliceRun
attribute [local go_sem] Go.Proofs.Qxb6602148a.yTo Go.Proofs.Qxb6602148a.yUpon
namespace Go.Proofs.Qxb6602148a
open Go.RowKit
set_option linter.unusedVariables false

/-- From w to w' a new row has come, and nothing else has turned. -/
structure Fresh (w w' : World) (e : TypeId) (sz g n cap : Nat) (F : Nat → Value) : Prop where
  os : w'.os = w.os
  tape : w'.tape = w.tape
  output : w'.output = w.output
  size : w.heap.size ≤ w'.heap.size
  old : ∀ k, k < w.heap.size → w'.heap[k]? = w.heap[k]?
  ge : w.heap.size ≤ g
  row : RowOk w' e sz (some g) n cap F

section
variable {K : Nat → TypeId × Nat} {w w' : World} {M M' : Fam} {e : TypeId} {sz g n cap : Nat} {F : Nat → Value}

theorem Fresh.rep (h : Fresh w w' e sz g n cap F) (hR : Rep K w M) (i : Nat) (hK : K i = (e, sz)) : Rep K w' (M.put i (some g) n cap F) :=
  hR.fresh h.size h.old i h.ge (by rw [hK]; exact h.row)
theorem Fresh.grew (h : Fresh w w' e sz g n cap F) (M : Fam) (i : Nat) : Grew M w (M.put i (some g) n cap F) w' :=
  ⟨h.os, h.tape, h.output, h.size, fun k hk _ => h.old k hk, fun k g' hg => by
    by_cases hk : k = i
    · subst hk; simp only [Fam.put, if_true] at hg; injection hg with hg; exact .inr (by rw [← hg]; exact h.ge)
    · simp only [Fam.put, if_neg hk] at hg; exact .inl ⟨k, hg⟩⟩
theorem Fresh.frozen (h : Fresh w w' e sz g n cap F) (j : Nat) : w'.frozen? ⟨g, j, none⟩ = false := by
  obtain ⟨cur, h1, _⟩ := h.row
  simp [World.frozen?, h1]
theorem Fresh.cell (h : Fresh w w' e sz g n cap F) {j : Nat} (hj : j < n * sz) : w'.cell? ⟨g, j, none⟩ = some (F j) := by
  obtain ⟨cur, h1, _, _, _, h5⟩ := h.row
  simp [World.cell?, h1, h5 j hj]
theorem Fresh.drew (h : Fresh w w' e sz g n cap F) : Fresh w w'.drew e sz g n cap F := ⟨h.os, h.tape, h.output, h.size, h.old, h.ge, h.row⟩
theorem Fresh.from_drew (h : Fresh w.drew w' e sz g n cap F) : Fresh w w' e sz g n cap F := ⟨h.os, h.tape, h.output, h.size, h.old, h.ge, h.row⟩
theorem Fresh.congr {F' : Nat → Value} (h : Fresh w w' e sz g n cap F) (hF : ∀ j, j < n * sz → F j = F' j) : Fresh w w' e sz g n cap F' := by
  refine ⟨h.os, h.tape, h.output, h.size, h.old, h.ge, ?_⟩
  obtain ⟨cur, h1, h2, h3, h4, h5⟩ := h.row
  exact ⟨cur, h1, h2, h3, h4, fun j hj => by rw [h5 j hj, hF j hj]⟩

/-- What 'alloc' lays is a fresh row. -/
theorem fresh_alloc (w : World) (e : TypeId) (sz n : Nat) (cs : Array Value) (F : Nat → Value) (hs : cs.size = n * sz) (hm : n ≤ maxLen) (hF : ∀ j, j < n * sz → cs[j]? = some (F j)) : Fresh w (w.alloc (.cells cs e)) e sz w.heap.size n n F :=
  ⟨rfl, rfl, rfl, by simp, fun k hk => Below.heap_alloc _ _ _ hk, Nat.le_refl _, cs, heap_alloc_new w _, Nat.le_refl _, hm, hs, hF⟩
theorem fresh_box (w : World) (e : TypeId) (v : Value) : Fresh w (w.alloc (.cells #[v] e)) e 1 w.heap.size 1 1 (fun _ => v) :=
  fresh_alloc w e 1 1 #[v] _ rfl (by simp [maxLen]) (fun j hj => by
    have : j = 0 := by omega
    subst this
    rfl)

theorem fresh_made (w : World) (e : TypeId) (sz n : Nat) (z : Array Value) (v : Value) (hz : z.size = sz) (h0 : 0 < sz) (hv : ∀ j, j < sz → z[j]! = v) (hm : n ≤ maxLen) : Fresh w (w.alloc (.cells (madeCells z (n * sz)) e)) e sz w.heap.size n n (fun _ => v) := by
  refine fresh_alloc w e sz n _ _ (size_madeCells _ _) hm (fun j hj => ?_)
  simp only [madeCells, Array.getElem?_map]
  rw [Array.getElem?_range, if_pos hj]
  simp only [Option.map_some, hz]
  rw [hv _ (Nat.mod_lt _ h0)]

/-- 'make([]T, n)'. -/
theorem wpList_make_row {P : Program} {ops : Array Oper} {rest : List Oper} {o : Oper} {a : Act} {Q : Exit → Act → World → Prop} (hg : o.guard = none) (l c : Operand) (t : TypeId) (hop : o.op = Op.makeSlice t l c)
    (e : TypeId) (i : TypeInfo) (z : Value) (size bytes : Nat) (v : Value) (h1 : P.underlying t = some (.slice e)) (h2 : P.info? e = some i) (h3 : i.zero = some z) (h4 : i.size = size) (h5 : i.bytes = bytes) (h6 : z.cells.size = size) (h7 : 0 < size) (h8 : ∀ j, j < size → z.cells[j]! = v)
    (n : Nat) (LL CC : Int) (hl : a.eval l = .int .i64 LL) (hc : a.eval c = .int .i64 CC) (hLL : LL = (n : Int)) (hCC : CC = (n : Int)) (b2 : bytes * n ≤ 281474976710656) (b3 : n ≤ 9223372036854775807)
    (hK : ∀ w', Fresh w w' e size w.heap.size n n (fun _ => v) → wpList P ops Q rest (a.put o.dst (.slice (some ⟨w.heap.size, 0, none⟩) n n)) w') : wpList P ops Q (o :: rest) a w := by
  subst h4 h5 hLL hCC
  have hr := run_make (P := P) w t e i z h1 h2 h3 .i64 .i64 n n (by omega) (Int.le_refl _) (by have h : ((i.bytes * n : Nat) : Int) ≤ 281474976710656 := by omega
                                                                                               rwa [Int.natCast_mul] at h) (by omega)
  simp only [Int.toNat_natCast] at hr
  refine wpList_plain hg fun K hK' => ?_
  unfold Oper.wp
  simp [execOp, hop, hl, hc, hr, Result.andThen]
  exact hK' _ _ (hK _ (fresh_made w e i.size n z.cells v h6 h7 h8 (by simp only [maxLen]; omega)))

theorem step_make_row {P : Program} {ops : Array Oper} {o : Oper} {a : Act} {C : Act → World → Prop} {Q : Exit → Act → World → Prop} {E : Prop} (hg : o.guard = none) (l c : Operand) (t : TypeId) (hop : o.op = Op.makeSlice t l c)
    (e : TypeId) (i : TypeInfo) (z : Value) (size bytes : Nat) (v : Value) (h1 : P.underlying t = some (.slice e)) (h2 : P.info? e = some i) (h3 : i.zero = some z) (h4 : i.size = size) (h5 : i.bytes = bytes) (h6 : z.cells.size = size) (h7 : 0 < size) (h8 : ∀ j, j < size → z.cells[j]! = v)
    (n : Nat) (LL CC : Int) (hl : a.eval l = .int .i64 LL) (hc : a.eval c = .int .i64 CC) (hLL : LL = (n : Int)) (hCC : CC = (n : Int)) (b2 : bytes * n ≤ 281474976710656) (b3 : n ≤ 9223372036854775807)
    (hK : ∀ w', Fresh w w' e size w.heap.size n n (fun _ => v) → C (a.put o.dst (.slice (some ⟨w.heap.size, 0, none⟩) n n)) w') :
    if Region.wanted o (yielded ops a.tmps) = true then Oper.wp P o a w C Q else E := by
  subst h4 h5 hLL hCC
  have hr := run_make (P := P) w t e i z h1 h2 h3 .i64 .i64 n n (by omega) (Int.le_refl _) (by have h : ((i.bytes * n : Nat) : Int) ≤ 281474976710656 := by omega
                                                                                               rwa [Int.natCast_mul] at h) (by omega)
  simp only [Int.toNat_natCast] at hr
  have hw : Region.wanted o (yielded ops a.tmps) = true := by simp [Region.wanted, hg]
  rw [if_pos hw]
  unfold Oper.wp
  simp [execOp, hop, hl, hc, hr, Result.andThen]
  exact hK _ (fresh_made w e i.size n z.cells v h6 h7 h8 (by simp only [maxLen]; omega))

/-- A row moves to another name. -/
theorem Rep.move (h : Rep K w M) {i j : Nat} (hij : i ≠ j) (hK : K j = K i) (f : Nat → Value) : Rep K w ((M.put j (M.b i) (M.n i) (M.cap i) (M.F i)).put i none 0 0 f) := by
  refine ⟨fun k => ?_, fun k l g => ?_⟩
  · by_cases hk : k = i
    · subst hk; simp only [Fam.put, if_true]; exact ⟨rfl, rfl⟩
    · by_cases hj : k = j
      · subst hj
        simp only [Fam.put, if_true, if_neg hk, hK]; exact h.row i
      · simp only [Fam.put, if_neg hk, if_neg hj]; exact h.row k
  · have e : ∀ k, ((M.put j (M.b i) (M.n i) (M.cap i) (M.F i)).put i none 0 0 f).b k = if k = i then none else if k = j then M.b i else M.b k := fun k => rfl
    rw [e, e]
    intro h1 h2
    by_cases ki : k = i
    · rw [if_pos ki] at h1; cases h1
    · by_cases li : l = i
      · rw [if_pos li] at h2; cases h2
      · rw [if_neg ki] at h1
        rw [if_neg li] at h2
        by_cases kj : k = j <;> by_cases lj : l = j
        · omega
        · rw [if_pos kj] at h1
          rw [if_neg lj] at h2
          exact absurd (h.inj l i g h2 h1) li
        · rw [if_neg kj] at h1
          rw [if_pos lj] at h2
          exact absurd (h.inj k i g h1 h2) ki
        · rw [if_neg kj] at h1
          rw [if_neg lj] at h2
          exact h.inj k l g h1 h2
theorem Grew.move {w0 : World} {M0 : Fam} (h : Grew M0 w0 M w) {i j : Nat} (f : Nat → Value) : Grew M0 w0 ((M.put j (M.b i) (M.n i) (M.cap i) (M.F i)).put i none 0 0 f) w := by
  refine ⟨h.os, h.tape, h.output, h.size, h.block, fun k g hg => ?_⟩
  have e : ((M.put j (M.b i) (M.n i) (M.cap i) (M.F i)).put i none 0 0 f).b k = if k = i then none else if k = j then M.b i else M.b k := rfl
  rw [e] at hg
  by_cases ki : k = i
  · rw [if_pos ki] at hg; cases hg
  · rw [if_neg ki] at hg
    by_cases kj : k = j
    · rw [if_pos kj] at hg; exact h.own i g hg
    · rw [if_neg kj] at hg; exact h.own k g hg
end

/-! ### slices.Clone -/
/-- 'append([]int{}, s...)'. -/
theorem run_append_clone {P : Program} (w : World) (t ty e : TypeId) (i : TypeInfo) (z : Value) (bytes : Nat) (ht : P.underlying t = some (.slice e)) (hi : P.info? e = some i) (hz : i.zero = some z) (hsize : i.size = 1) (hby : i.bytes = bytes) (hzs : z.cells.size = 1)
    (b0 : Addr) (b n c : Nat) (F : Nat → Value) (hn : 0 < n) (hc : ∀ j, j < n → w.cell? ⟨b, j, none⟩ = some (F j)) (hb0 : 0 < bytes) (hb : n * bytes ≤ 140737488355328) :
    ∃ g cap w', (Builtin.append_ #[t, t] ty #[.slice (some b0) 0 0, .slice (some ⟨b, 0, none⟩) n c]).run P w = .ok (.slice (some ⟨g, 0, none⟩) n cap) w' ∧ Fresh w w' e 1 g n cap F := by
  subst hby
  have hn1 : n ≤ n * i.bytes := Nat.le_mul_of_pos_right _ hb0
  have h := run_append_grow (P := P) w t ty e i z ht hi hz b0 0 0 [] (by simp) (by intro j v hv; simp at hv) ⟨b, 0, none⟩ n c ((List.range n).map F) (by simp [hsize]) (by
      intro j v hv
      rw [Addr.add_lit, Nat.zero_add]
      rw [List.getElem?_map] at hv
      rcases Nat.lt_or_ge j n with hj | hj
      · rw [List.getElem?_range hj] at hv
        simp only [Option.map_some] at hv
        injection hv with hv
        rw [← hv]; exact hc j hj
      · rw [List.getElem?_eq_none (by simpa using hj)] at hv
        cases hv) (by omega) (by omega) (growslice_fits (by omega) (by rw [Nat.zero_add]; exact hb))
  simp only [Nat.zero_add] at h
  refine ⟨_, _, _, h, rfl, rfl, rfl, by simp, fun k hk => Below.heap_alloc w.drew _ _ hk, Nat.le_refl _, _, heap_alloc_new w.drew _, grownCap_ge w n 0 e, grownCap_le_maxLen w n 0 e (by simp only [maxLen]; omega), ?_, ?_⟩
  · simp only [Array.size_append, List.size_toArray, size_zeroCells, hzs, List.length_map, List.length_range, List.length_nil]
    have := grownCap_ge w n 0 e
    omega
  · intro j hj
    have hj : j < n := by omega
    rw [Array.getElem?_append_left (by simpa using hj)]
    simp [hj]
theorem wpList_append_clone {P : Program} {w : World} {ops : Array Oper} {rest : List Oper} {o : Oper} {a : Act} {Q : Exit → Act → World → Prop} (hgd : o.guard = none) (s x : Operand) (t : TypeId)
    (ho : o.op = .call { callee := .builtin .append, args := #[s, x], argTypes := #[t, t] }) (e : TypeId) (i : TypeInfo) (z : Value) (bytes : Nat) (ht : P.underlying t = some (.slice e)) (hi : P.info? e = some i) (hz : i.zero = some z) (hsize : i.size = 1) (hby : i.bytes = bytes) (hzs : z.cells.size = 1)
    (b0 : Addr) (b n c : Nat) (F : Nat → Value) (hs : a.eval s = .slice (some b0) 0 0) (hx : a.eval x = .slice (some ⟨b, 0, none⟩) n c) (hn : 0 < n) (hc : ∀ j, j < n → w.cell? ⟨b, j, none⟩ = some (F j)) (hb0 : 0 < bytes) (hb : n * bytes ≤ 140737488355328)
    (hC : ∀ g cap w', Fresh w w' e 1 g n cap F → wpList P ops Q rest (a.put o.dst (.slice (some ⟨g, 0, none⟩) n cap)) w') : wpList P ops Q (o :: rest) a w := by
  obtain ⟨g', cap', w', hr, h2⟩ := run_append_clone (P := P) w t o.type e i z bytes ht hi hz hsize hby hzs b0 b n c F hn hc hb0 hb
  refine wpList_plain hgd fun _ hKK => ?_
  unfold Oper.wp execOp
  simp only [ho, resolve, invoke, builtin, Sem.run_bind, Sem.run_pure, Result.andThen_ok, List.map_toArray, List.map_cons, List.map_nil, hs, hx, hr]
  exact hKK _ _ (hC g' cap' w' h2)

theorem Fresh.from_alloc {w w' : World} {e : TypeId} {sz g n cap : Nat} {F : Nat → Value} {o : Obj} (h : Fresh (w.alloc o) w' e sz g n cap F) : Fresh w w' e sz g n cap F :=
  ⟨h.os, h.tape, h.output, by have := h.size; simp at this; omega, fun k hk => (h.old k (by simp; omega)).trans (Below.heap_alloc _ _ _ hk), by have := h.ge; simp at this; omega, h.row⟩

set_option maxHeartbeats 400000 in
theorem clone_calls (w : World) (b n c : Nat) (f : Nat → Int) (hn : 0 < n) (hc : ∀ j, j < n → w.cell? ⟨b, j, none⟩ = some (.int .i64 (f j))) (hb : n ≤ 1000000) :
    Calls Try.prog 34 #[.slice (some ⟨b, 0, none⟩) n c] w fun e w' => ∃ g cap, e = .returned (.slice (some ⟨g, 0, none⟩) n cap) ∧ Fresh w w' 3 1 g n cap (fun j => .int .i64 (f j)) := by
  obtain ⟨i3, hi3, hz30, hz31, hz32⟩ := info_parts Try.info3
  have HC : Hid (∀ j, j < n → (w.alloc (.cells #[] 3)).cell? ⟨b, j, none⟩ = some (.int .i64 (f j))) := by
    intro j hj
    have hlt : b < w.heap.size := World.block_lt_of_cell? w _ (hc j hj)
    simp only [World.cell?, Below.heap_alloc _ _ _ hlt]
    exact hc j hj
  have he := fun (a : Option Addr) (n c : Nat) (w : World) => Lib.run_eql_slice_nil (P := Try.prog) w 26 3 a n c 0 0 Try.underlying26
  clear hc
  go_enter Try.func34, Try.ntmps34
  go_wp2_with (at_builtin; refine wpList_append_clone rfl (.tmp 5) (.tmp 6) 26 rfl 3 i3 (.int .i64 0) 8 Try.underlying26 hi3 hz30 hz31 hz32 rfl ⟨w.heap.size, 0, none⟩ b n c (fun j => .int .i64 (f j)) rfl rfl hn HC.out (by decide) (by omega) ?_; intro g cap w' hF; have HF : Hid (Fresh w w' 3 1 g n cap (fun j => .int .i64 (f j))) := hF.from_alloc; clear hF)
  go_ret
  exact ⟨_, _, rfl, HF.out⟩
end Go.Proofs.Qxb6602148a
