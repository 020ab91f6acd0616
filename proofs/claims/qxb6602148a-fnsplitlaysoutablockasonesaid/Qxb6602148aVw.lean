/-
  'zzCloneB1': a list copied into a new block.
-/
import Derived.Test.Qxb6602148aNwd
attribute [local go_sem] Go.Proofs.Qxb6602148a.yTo Go.Proofs.Qxb6602148a.yUpon
namespace Go.Proofs.Qxb6602148a
open Go.RowKit
set_option linter.unusedVariables false
set_option linter.unusedSimpArgs false

theorem Try.size3 : (Try.prog.info? 3).map (·.size) = some 1 := by kernel_rfl

/-- 'copy' into a row that is new. -/
theorem wpList_copy_fresh {P : Program} {w w1 : World} {ops : Array Oper} {rest : List Oper} {o : Oper} {a : Act} {Q : Exit → Act → World → Prop} (hgd : o.guard = none) (d s : Operand) (dT sT : TypeId)
    (ho : o.op = .call { callee := .builtin .copy, args := #[d, s], argTypes := #[dT, sT] }) (elem : TypeId) (hu : P.underlying dT = some (.slice elem)) (hsz : (P.info? elem).map (·.size) = some 1)
    (g b off n cc : Nat) (hd : a.eval d = .slice (some ⟨g, 0, none⟩) n n) (hs : a.eval s = .slice (some ⟨b, off, none⟩) n cc) (F0 F : Nat → Value) (hF : Fresh w w1 elem 1 g n n F0) (hc : ∀ j, j < n → w.cell? ⟨b, off + j, none⟩ = some (F j)) (h1 : ∀ j, j < n → (F j).oneCell' = true)
    (h : ∀ w2, Fresh w w2 elem 1 g n n F → wpList P ops Q rest (a.put o.dst (goInt n)) w2) : wpList P ops Q (o :: rest) a w1 := by
  obtain ⟨cur, c1, c2, c3, c4, c5⟩ := hF.row
  have c4 : cur.size = n * 1 := c4
  have hl : ((List.range n).map F).length = n := by simp
  refine wpList_copy_own hgd d s dT sT ho elem hu hsz g 0 n n ⟨b, off, none⟩ n cc hd hs cur elem c1 ((List.range n).map F) (by rw [hl]; exact (Nat.min_self n).symm) ?_ (by rw [hl]; omega) ?_ ?_
  · intro j v hv
    rw [Addr.add_lit]
    rw [List.getElem?_map] at hv
    rcases Nat.lt_or_ge j n with hj | hj
    · rw [List.getElem?_range hj] at hv
      simp only [Option.map_some] at hv
      injection hv with hv
      have hlt : b < w.heap.size := World.block_lt_of_cell? w _ (hc j hj)
      rw [← hv, hF.cell_old hlt]; exact hc j hj
    · rw [List.getElem?_eq_none (by simpa using hj)] at hv
      cases hv
  · intro v hv
    rw [List.mem_map] at hv
    obtain ⟨j, hj, rfl⟩ := hv
    exact h1 j (List.mem_range.1 hj)
  · rw [hl]
    refine h _ ⟨hF.os, hF.tape, hF.output, ?_, fun k hk => ?_, hF.ge, ?_⟩
    · rw [size_setRow]; exact hF.size
    · rw [setRow_other w1 g k _ (by have := hF.ge; omega)]; exact hF.old k hk
    · refine ⟨_, setRow_heap w1 g cur _ elem (0, 0) c1, Nat.le_refl _, c3, ?_, fun j hj => ?_⟩
      · simp only [List.size_toArray, List.length_append, List.take_zero, List.length_nil, hl, List.length_drop, Array.length_toList]
        omega
      · have hj : j < n := by omega
        simp only [List.take_zero, List.nil_append, List.getElem?_toArray]
        rw [List.getElem?_append_left (by rw [hl]; exact hj), List.getElem?_map, List.getElem?_range hj]
        rfl

set_option maxHeartbeats 800000 in
theorem cloneB_some (w : World) (b n c : Nat) (f : Nat → Int) (hc : ∀ j, j < n → w.cell? ⟨b, j, none⟩ = some (.int .i64 (f j))) (hb : n ≤ 1000000) :
    Calls Try.prog 32 #[.slice (some ⟨b, 0, none⟩) n c] w fun e w' => ∃ g, e = .returned (.slice (some ⟨g, 0, none⟩) n n) ∧ Fresh w w' 3 1 g n n (fun j => .int .i64 (f j)) := by
  obtain ⟨i3, hi3, hz30, hz31, hz32⟩ := info_parts Try.info3
  have HC : Hid (∀ j, j < n → w.cell? ⟨b, 0 + j, none⟩ = some (.int .i64 (f j))) := fun j hj => by rw [Nat.zero_add]; exact hc j hj
  have he := fun (a : Option Addr) (n c : Nat) (w : World) => Lib.run_eql_slice_nil (P := Try.prog) w 26 3 a n c 0 0 Try.underlying26
  clear hc
  go_enter Try.func32, Try.ntmps32
  go_wp2_with (first
    | (at_make; refine wpList_make_row rfl (.tmp 7) (.tmp 7) 26 rfl 3 i3 (.int .i64 0) 1 8 (.int .i64 0) Try.underlying26 hi3 hz30 hz31 hz32 rfl (by decide) zero1 n _ _ rfl rfl rfl rfl (by omega) (by omega) ?_; intro w1 hF; have HF : Hid (Fresh w w1 3 1 w.heap.size n n (fun _ => .int .i64 0)) := hF; clear hF)
    | (refine wpList_copy_fresh rfl (.tmp 9) (.tmp 10) 26 26 rfl 3 Try.underlying26 Try.size3 w.heap.size b 0 n c rfl rfl (fun _ => .int .i64 0) (fun j => .int .i64 (f j)) HF.out HC.out (fun j hj => rfl) ?_; intro w2 hF2; have HF2 : Hid (Fresh w w2 3 1 w.heap.size n n (fun j => .int .i64 (f j))) := hF2; clear hF2))
  go_ret
  exact ⟨_, rfl, HF2.out⟩
theorem cloneB_nil (w : World) : Calls Try.prog 32 #[.slice none 0 0] w fun e w' => e = .returned (.slice none 0 0) ∧ w' = w := by
  have he := fun (a : Option Addr) (n c : Nat) (w : World) => Lib.run_eql_slice_nil (P := Try.prog) w 26 3 a n c 0 0 Try.underlying26
  go_enter Try.func32, Try.ntmps32
  go_wp2
  go_ret
  exact ⟨rfl, rfl⟩

/-- A list of a family, copied into row r of another. -/
theorem cloneB_row {K K' : Nat → TypeId × Nat} {w0 w : World} {V M : Fam} (hV : Rep K w V) (hg : Grew Fam.nil w0 V w) (hM : Rep K' w M) {i n : Nat} {f : Nat → Int} (hi : Ints M i n f) (hK' : K' i = (3, 1)) (hb : n ≤ 1000000) (r : Nat) (hK : K r = (3, 1)) :
    Calls Try.prog 32 #[M.val i] w fun e w' => ∃ a' b cap, e = .returned (.slice a' n cap) ∧ a' = Option.map (fun g => (⟨g, 0, none⟩ : Addr)) b ∧ Rep K w' (V.put r b n cap (fun j => .int .i64 (f j))) ∧ Grew Fam.nil w0 (V.put r b n cap (fun j => .int .i64 (f j))) w' ∧ (b = none ↔ M.b i = none) := by
  cases hb' : M.b i with
  | none =>
    have hn := hM.row i
    rw [hb'] at hn
    have hn0 : M.n i = 0 := hn.1
    have hc0 : M.cap i = 0 := hn.2
    have hv : M.val i = .slice none 0 0 := by unfold Fam.val; rw [hb', hn0, hc0]; rfl
    have n0 : n = 0 := by rw [← hi.1]; exact hn0
    subst n0
    rw [hv]
    refine (cloneB_nil w).mono ?_
    rintro e w' ⟨rfl, rfl⟩
    exact ⟨none, none, 0, rfl, rfl, hV.drop r _, hg.put (.inr rfl), by simp⟩
  | some g =>
    have hv : M.val i = .slice (some ⟨g, 0, none⟩) n (M.cap i) := by rw [val_some hb', hi.1]
    rw [hv]
    refine (cloneB_some w g n (M.cap i) f (fun j hj => ?_) hb).mono ?_
    · rw [hM.cell hb' (by rw [hi.1, hK']; show j < n * 1; omega), hi.2 j hj]
    · rintro e w' ⟨g', rfl, hF⟩
      exact ⟨some ⟨g', 0, none⟩, some g', n, rfl, rfl, hF.rep hV r hK, hg.trans (hF.grew V r), by simp⟩
end Go.Proofs.Qxb6602148a
