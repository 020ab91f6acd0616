import Derived.Test.Qxb6602170aLead
namespace Go.Proofs.Qxb6602170a
open Go.RowKit
set_option linter.unusedVariables false

/-- A slice of bytes that came in, as the walk is told of it. -/
def IsByt (w : World) (a : Option Addr) (len : Nat) (f : Nat → Int) : Prop :=
  len ≤ maxLen ∧ (∀ i, 0 ≤ f i ∧ f i < 256) ∧ (len = 0 ∨ ∃ b off, a = some ⟨b, off, none⟩ ∧ ∀ i, i < len → w.cell? ⟨b, off + i, none⟩ = some (.int .u8 (f i)))
/-- A slice of bytes of the call's own: of no element; or all of one block. -/
def OwnByt (B : Nat) (w : World) (a : Option Addr) (n : Nat) (f : Nat → Int) : Prop :=
  n = 0 ∨ ∃ q, a = some ⟨q, 0, none⟩ ∧ B ≤ q ∧ IRow 5 .u8 w q n f
def ByPost (len : Nat) (f : Nat → Int) (w : World) (e : Ending) (w' : World) : Prop :=
  (∃ ao c, e = .returned (.slice ao len c) ∧ OwnByt w.heap.size w' ao len f) ∧ Below w.heap.size w w'

theorem Try.info5 : (Try.prog.info? 5).map (fun i => (i.zero, i.size, i.bytes)) = some (some (.int .u8 0), 1, 1) := by kernel_rfl

set_option maxHeartbeats 1000000 in
theorem clone_bytes (a : Option Addr) (len cap : Nat) (f : Nat → Int) (w : World) (h : IsByt w a len f) (hl : len ≤ 1048576) :
    Calls Try.prog 9 #[.slice a len cap] w fun e w' => ByPost len f w e w' := by
  have he := fun (a : Option Addr) (n c : Nat) (w : World) => Lib.run_eql_slice_nil (P := Try.prog) w 22 5 a n c 0 0 Try.underlying22
  obtain ⟨hm, hbd, h⟩ := h
  have H : Hid (len = 0 ∨ ∃ b off, a = some ⟨b, off, none⟩ ∧ ∀ i, i < len → w.cell? ⟨b, off + i, none⟩ = some (.int .u8 (f i))) := h
  clear h hbd
  cases a with
  | none =>
    have h0 : len = 0 := by
      rcases H.out with h | ⟨b, off, h, _⟩
      · exact h
      · cases h
    subst h0
    go_enter Try.func9, Try.ntmps9
    go_wp2
    go_ret
    exact ⟨⟨none, 0, rfl, .inl rfl⟩, Below.refl _ _⟩
  | some x =>
    obtain ⟨i0, hi, hz0, hz1, hz2⟩ := info_parts Try.info5
    go_enter Try.func9, Try.ntmps9
    go_wp2_with (at_make; refine wpList_make_full _ rfl _ _ 22 rfl w.heap.size 5 i0 (.int .u8 0) 1 Try.underlying22 hi hz0 hz1 _ _ _ _ len rfl rfl rfl rfl (by rw [hz2]; omega) (by unfold maxLen; omega) (Nat.le_refl _) ?_; intro w1 hown1 hgrow1)
    have R1 := IRow.made hown1 rfl
    have B1 : Below w.heap.size w w1 := (Below.refl _ _).grown hgrow1 (Nat.le_refl _) (by simp)
    clear hown1 hgrow1
    go_loopw [4] (fun i wr => ∃ (k : Nat) (T : Nat → Int), k ≤ len ∧ i = .int .i64 k ∧ IRow 5 .u8 wr w.heap.size len T ∧ (∀ j, j < k → T j = f j) ∧ Below w.heap.size w wr) (fun i _ => len - (intOf i).toNat)
    case atStart => exact ⟨0, _, by omega, rfl, R1, fun j hj => by omega, B1⟩
    case round =>
      obtain ⟨k, T, g1, rfl, r, e, hb⟩ := hrel
      have E : Hid (∀ j, j < k → T j = f j) := e
      clear e
      by_cases hk : k < len
      · rcases H.out with h | ⟨b, off, hx, hc⟩
        · omega
        obtain rfl : x = ⟨b, off, none⟩ := by simpa using hx
        have hc := hc k hk
        have hb' : b < w.heap.size := World.block_lt_of_cell? w _ hc
        have hc' := (hb.cell (p := ⟨b, off + k, none⟩) hb').trans hc
        have c1 := r.cell hk
        have f1 := r.frozen k
        clear hc
        go_wp2
        go_roundw
        case rel =>
          refine ⟨k + 1, _, by omega, by go_num, r.set k (f k), ?_, hb.setCell (Nat.le_refl _) _⟩
          intro j hj
          by_cases ej : j = k
          · subst ej; exact upd_same _ _ _
          · rw [upd_other _ _ ej]; exact E.out j (by omega)
        case measure => simp [intOf]; omega
      · obtain rfl : k = len := by omega
        go_wp2
        go_ret
        exact ⟨⟨_, _, rfl, .inr ⟨_, rfl, Nat.le_refl _, r.congr E.out⟩⟩, hb⟩
end Go.Proofs.Qxb6602170a
