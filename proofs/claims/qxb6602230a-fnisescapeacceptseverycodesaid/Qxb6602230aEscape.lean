import Derived.Test.Qxb6602230aRows
import Derived.WalkKit
import Derived.ProofKit
import Derived.LoopTactic
import Derived.WalkSpells
import Derived.Laws.IdiomStrings
namespace Go.Proofs.Qxb6602230a
open Go.RowKit

theorem ret_int {k : IntKind} {a b : Int} (h : a = b) : Ending.returned (.int k a) = .returned (.int k b) := by rw [h]

/-- A hexadecimal digit in either case, as a number. -/
def hexB (c : Nat) : Prop := (48 ≤ c ∧ c ≤ 57) ∨ (97 ≤ c ∧ c ≤ 102) ∨ (65 ≤ c ∧ c ≤ 70)

theorem hexDigit_any (d : Int) (u : Bool) (w : World) (h0 : 0 ≤ d) (h1 : d < 16) :
    Calls Try.prog 13 #[.int .u8 d, .bool u] w fun e w' => ∃ n : Nat, e = .returned (.int .u8 n) ∧ hexB n ∧ w' = w := by
  by_cases hd : d < 10
  · go_enter Try.func13, Try.ntmps13
    go_wp2
    go_ret
    exact ⟨(48 + d).toNat, ret_int (by omega), by unfold hexB; omega, rfl⟩
  · cases u
    · go_enter Try.func13, Try.ntmps13
      go_wp2
      go_ret
      exact ⟨(97 + d - 10).toNat, ret_int (by omega), by unfold hexB; omega, rfl⟩
    · go_enter Try.func13, Try.ntmps13
      go_wp2
      go_ret
      exact ⟨(65 + d - 10).toNat, ret_int (by omega), by unfold hexB; omega, rfl⟩

theorem size_extract (s : ByteArray) (h : 7 ≤ s.size) : (s.extract 2 6).size = 4 := by simp [ByteArray.size_extract]; omega

theorem row_cell (s : ByteArray) (h : 7 ≤ s.size) (w : World) (cap k : Nat) (hk : k < 4) (fr : Nat × Nat) :
    (w.alloc (.cells (bytesRow (s.extract 2 6) cap) 5 fr)).cell? ⟨w.heap.size, k, none⟩ = some (.int .u8 ((s[2 + k]'(by omega)).toNat : Int)) := by
  rw [World.cell?_alloc_mark]
  have e := size_extract s h
  rw [bytesRow_at (s.extract 2 6) cap k (by change k < (s.extract 2 6).size; omega)]
  have : (s.extract 2 6).data[k]'(by change k < (s.extract 2 6).size; omega) = s[2 + k]'(by omega) := by
    change (s.extract 2 6)[k]'(by omega) = _
    rw [ByteArray.getElem_extract]
  rw [this]

theorem isEscape_any (s : ByteArray) (w : World) (hs : 7 ≤ s.size) (h1 : (s[1]'(by omega)).toNat = 120) (h6 : (s[6]'(by omega)).toNat = 95)
    (hx : ∀ j (h : 2 ≤ j ∧ j < 6), hexB (s[j]'(by omega)).toNat) :
    Calls Try.prog 18 #[.string s] w fun e w' => e = .returned (.bool true) ∧ Below w.heap.size w w' := by
  have hs' : ¬ ((s.size : Int) < 7) := by omega
  have hcv := fun (w : World) => run_bytes_of_string (P := Try.prog) w 9 28 5 (s.extract 2 6) Try.underlying9 Try.underlying28 Try.underlying5
  rw [size_extract s hs] at hcv
  have HX : Hid (∀ j (h : 2 ≤ j ∧ j < 6), hexB (s[j]'(by omega)).toNat) := hx
  clear hx
  go_enter Try.func18, Try.ntmps18
  go_wp2
  go_loop [4, 22] (fun _ i => ∃ k : Nat, k ≤ 4 ∧ i = .int .i64 k) (fun _ i => 4 - (intOf i).toNat)
  case atStart => exact ⟨0, by omega, rfl⟩
  case round =>
    obtain ⟨k, hk, rfl⟩ := hrel
    by_cases hlt : k < 4
    · have hcell := row_cell s hs w (grownCap w 4 0 5) k hlt ((bytesRow (s.extract 2 6) (grownCap w 4 0 5)).size, (bytesRow (s.extract 2 6) (grownCap w 4 0 5)).size + 1)
      have hh := HX.out (2 + k) (by omega)
      obtain ⟨c, hc⟩ : ∃ c : Nat, c = (s[2 + k]'(by omega)).toNat := ⟨_, rfl⟩
      rw [← hc] at hcell hh
      clear hc
      unfold hexB at hh
      rcases hh with ⟨q1, q2⟩ | ⟨q1, q2⟩ | ⟨q1, q2⟩
      · go_wp2
        go_round
        case rel => exact ⟨k + 1, by omega, by go_num⟩
        case measure => simp [intOf]; omega
      · have d1 : decide ((c : Int) ≤ 57) = false := decide_eq_false (by omega)
        go_wp2
        go_round
        case rel => exact ⟨k + 1, by omega, by go_num⟩
        case measure => simp [intOf]; omega
      · have d1 : decide ((c : Int) ≤ 57) = false := decide_eq_false (by omega)
        have d2 : decide ((97 : Int) ≤ (c : Int)) = false := decide_eq_false (by omega)
        have d3 : decide ((c : Int) ≤ 70) = true := decide_eq_true (by omega)
        go_wp2
        go_round
        case rel => exact ⟨k + 1, by omega, by go_num⟩
        case measure => simp [intOf]; omega
    · go_wp2
      go_ret
      exact ⟨rfl, ((Below.refl _ _).alloc (Nat.le_refl _) _).drew⟩
end Go.Proofs.Qxb6602230a
