import Derived.Test.Qxb6602230aRows
import Derived.WalkKit
import Derived.ProofKit
import Derived.Laws.RangeString
import Derived.Laws.RangeAny
import Derived.LoopTactic
import Derived.WalkSpells
import Derived.Test.Qxb6602230aPlain
namespace Go.Proofs.Qxb6602230a
open Go.RowKit

def WidePost (r : Int) (w : World) (e : Ending) (w' : World) : Prop :=
  ∃ b : Bool, e = .returned (.bool b) ∧ (b = true → 4352 ≤ r ∧ r ≠ 65533) ∧ w' = w

set_option maxHeartbeats 1000000 in
/-- 'wide': it computes a Bool; where that is true the rune is at least U+1100 and is not U+FFFD. -/
theorem wide_any (r : Int) (w : World) :
    Calls Try.prog 16 #[.int .i32 r] w fun e w' => WidePost r w e w' := by
  go_enter Try.func16, Try.ntmps16
  go_wp2
  all_goals (go_ret; refine ⟨_, rfl, ?_, rfl⟩; intro hb; first | (constructor <;> omega) | cases hb)

/-- The iterator's block is no row of cells: nothing of it is marked. -/
theorem frozen_iter (w : World) (s : ByteArray) (pos : Nat) (a : Addr) : (w.iter s pos).frozen? a = w.frozen? a := by
  by_cases h : a.block = w.heap.size
  · have e1 : (w.iter s pos).heap[a.block]? = some (.stringIter s pos) := by rw [h]; exact World.iter_heap w s pos
    have e2 : w.heap[a.block]? = none := by rw [h]; simp
    simp [World.frozen?, e1, e2]
  · exact World.frozen?_alloc_old _ _ _ h
theorem grown_iter (w : World) (s : ByteArray) (pos : Nat) : Grown w (w.iter s pos) :=
  ⟨World.keptBut_alloc w _ _, frozen_iter w s pos, by show w.heap.size ≤ (w.heap.push _).size; simp⟩

/-- 'width': at least a quarter of the bytes, at most the bytes. -/
theorem width_any (s : ByteArray) (w : World) (hs : s.size ≤ 1048576) :
    Calls Try.prog 17 #[.string s] w fun e w' => (∃ n : Nat, e = .returned (.int .i64 n) ∧ s.size ≤ 4 * n ∧ n ≤ s.size) ∧ Grown w w' := by
  go_enter Try.func17, Try.ntmps17
  go_wp2
  go_loopw [3] (fun n w' => ∃ (pos acc : Nat), w' = w.iter s pos ∧ n = .int .i64 acc ∧ pos ≤ 4 * acc ∧ acc ≤ pos ∧ pos ≤ s.size) (fun _ w' => s.size - w'.iterPos w.heap.size)
  case atStart => exact ⟨0, 0, rfl, rfl, by omega, by omega, by omega⟩
  case round =>
    obtain ⟨pos, acc, rfl, rfl, h1, h2, h3⟩ := hrel
    by_cases hp : pos < s.size
    · have hnx : ∀ ty, (Instr.next (.pointer (some ⟨w.heap.size, 0, none⟩)) true ty).run Try.prog (w.iter s pos) = _ := fun ty => run_next_any w s pos ty hp
      have hd := decode_bounds s pos hp
      obtain ⟨d1, d2, d3, d4⟩ := hd
      have D4 : Hid (2 ≤ (Utf8.decode s pos).2 ∨ (Utf8.decode s pos).1 < 4352 ∨ (Utf8.decode s pos).1 = 65533) := d4
      clear d4
      go_wp2_with (go_at_call 16; go_must (refine (wide_any _ _).mono ?_; rintro e w' ⟨b, rfl, hb, rfl⟩; have HB : Hid (b = true → 4352 ≤ ((Utf8.decode s pos).1 : Int) ∧ ((Utf8.decode s pos).1 : Int) ≠ 65533) := hb; clear hb))
      · have hb : b = true := by assumption
        have hw := HB.out hb
        have hq := D4.out
        go_roundw
        case rel => exact ⟨pos + (Utf8.decode s pos).2, acc + 2, rfl, by go_num, by omega, by omega, by omega⟩
        case measure => simp; omega
      · go_roundw
        case rel => exact ⟨pos + (Utf8.decode s pos).2, acc + 1, rfl, by go_num, by omega, by omega, by omega⟩
        case measure => simp; omega
    · have hnx : ∀ ty, (Instr.next (.pointer (some ⟨w.heap.size, 0, none⟩)) true ty).run Try.prog (w.iter s pos) = _ := fun ty => run_next_end w s pos ty hp
      go_wp2
      go_ret
      exact ⟨⟨acc, rfl, by omega, by omega⟩, grown_iter _ _ _⟩
end Go.Proofs.Qxb6602230a
