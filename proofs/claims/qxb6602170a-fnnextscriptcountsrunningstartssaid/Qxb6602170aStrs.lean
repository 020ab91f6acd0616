import Derived.Test.Qxb6602170aNext
namespace Go.Proofs.Qxb6602170a
open Go.RowKit
set_option linter.unusedVariables false

/-- A slice of strings that came in. -/
def IsStr (w : World) (a : Option Addr) (len : Nat) (S : Nat → ByteArray) : Prop :=
  len ≤ maxLen ∧ (len = 0 ∨ ∃ b off, a = some ⟨b, off, none⟩ ∧ ∀ i, i < len → w.cell? ⟨b, off + i, none⟩ = some (.string (S i)) ∧ (S i).size ≤ maxLen)

def ZPost (w : World) (e : Ending) (w' : World) : Prop := ∃ b : Bool, e = .returned (.bool b) ∧ w = w'

set_option maxRecDepth 100000 in
set_option maxHeartbeats 2000000 in
/-- The size test: it answers a bool, and turns nothing. -/
theorem zz_any (s0 bo po er : ByteArray) (a0 pid start : Int) (hp hf : Bool) (a : Option Addr) (len cap : Nat) (S : Nat → ByteArray) (w : World) (h : IsStr w a len S)
    (h0 : s0.size ≤ maxLen) (h1 : bo.size ≤ maxLen) (h2 : po.size ≤ maxLen) (h3 : er.size ≤ maxLen) :
    Calls Try.prog 16 #[.string s0, .int .i64 a0, .bool hp, .string bo, .int .i64 pid, .int .u64 start, .bool hf, .string po, .string er, .slice a len cap] w fun e w' => ZPost w e w' := by
  obtain ⟨hm, h⟩ := h
  have H : Hid (len = 0 ∨ ∃ b off, a = some ⟨b, off, none⟩ ∧ ∀ i, i < len → w.cell? ⟨b, off + i, none⟩ = some (.string (S i)) ∧ (S i).size ≤ maxLen) := h
  clear h
  unfold maxLen at hm h0 h1 h2 h3
  go_enter Try.func16, Try.ntmps16
  go_wp2
  all_goals try (go_ret; exact ⟨_, rfl, rfl⟩)
  go_loop [21, 22] (fun t i => ∃ (k : Nat) (T : Int), k ≤ len ∧ i = .int .i64 k ∧ t = .int .i64 T ∧ 0 ≤ T ∧ T ≤ 1048576) (fun _ i => len - (intOf i).toNat)
  case atStart => exact ⟨0, _, by omega, rfl, rfl, by omega, by omega⟩
  case round =>
    obtain ⟨k, T, g1, rfl, rfl, g2, g3⟩ := hrel
    by_cases hk : k < len
    · rcases H.out with h | ⟨b, off, rfl, hc⟩
      · omega
      obtain ⟨hc, hs⟩ := hc k hk
      unfold maxLen at hs
      obtain ⟨s, es⟩ : ∃ s, s = S k := ⟨_, rfl⟩
      rw [← es] at hc hs
      clear es
      go_wp2
      all_goals try (go_ret; exact ⟨_, rfl, rfl⟩)
      go_round
      case rel => exact ⟨k + 1, _, by omega, by go_num, rfl, by omega, by omega⟩
      case measure => simp [intOf]; omega
    · go_wp2
      go_ret
      exact ⟨_, rfl, rfl⟩

/-- A row of strings of the call's own. -/
def SRow (w : World) (b n : Nat) (S : Nat → ByteArray) : Prop :=
  ∃ cs : Array Value, w.heap[b]? = some (.cells cs 9 (0, 0)) ∧ cs.size = n ∧ ∀ j, j < n → cs[j]? = some (.string (S j))
section
variable {w : World} {b n : Nat} {S : Nat → ByteArray}
theorem SRow.cell (h : SRow w b n S) {j : Nat} (hj : j < n) : w.cell? ⟨b, j, none⟩ = some (.string (S j)) := by
  obtain ⟨cs, hb, _, hc⟩ := h
  simp [World.cell?, hb, hc j hj]
theorem SRow.frozen (h : SRow w b n S) (j : Nat) : w.frozen? ⟨b, j, none⟩ = false := by
  obtain ⟨cs, hb, _, _⟩ := h
  simp [World.frozen?, hb]
theorem SRow.lt (h : SRow w b n S) : b < w.heap.size := by
  obtain ⟨cs, hb, _, _⟩ := h
  rcases Nat.lt_or_ge b w.heap.size with h | h
  · exact h
  · simp [Array.getElem?_eq_none h] at hb
theorem SRow.of_block {w' : World} (h : SRow w b n S) (e : w'.heap[b]? = w.heap[b]?) : SRow w' b n S := by
  obtain ⟨cs, hb, hs, hc⟩ := h
  exact ⟨cs, e.trans hb, hs, hc⟩
theorem SRow.set (h : SRow w b n S) (j : Nat) (x : ByteArray) : SRow (w.setCell ⟨b, j, none⟩ (.string x)) b n (fun i => if i = j then x else S i) := by
  obtain ⟨cs, hb, hs, hc⟩ := h
  refine ⟨cs.setIfInBounds j (.string x), ?_, by simpa using hs, ?_⟩
  · simp only [World.setCell, Array.getElem?_modify]
    simp [hb]
  · intro i hi
    by_cases e : i = j
    · subst e
      simp [hs, hi]
    · simp only [e, if_false]
      rw [← hc i hi]
      simp [Ne.symm e]
theorem SRow.made {base : Nat} (h : w.ownsRow base 9 1 (.slice (some ⟨b, 0, none⟩) n n) n (madeCells (Value.string ByteArray.empty).cells (n * 1)).toList) : SRow w b n (fun _ => ByteArray.empty) := by
  rcases h.2 with ⟨h', _⟩ | ⟨g', cap', cur, h', _, hg, _, _, hsz, htake⟩
  · simp at h'
  · simp only [Value.slice.injEq, Option.some.injEq, Addr.mk.injEq, and_true, true_and] at h'
    obtain ⟨rfl, rfl⟩ := h'
    refine ⟨cur, hg, by omega, fun j hj => ?_⟩
    have e2 : cur = madeCells (Value.string ByteArray.empty).cells (n * 1) := by
      apply Array.ext'
      rw [← htake, List.take_of_length_le (by simp; omega)]
    rw [e2]
    simp [madeCells, Value.cells, hj, Nat.mod_one]
end

/-- A slice of strings of the call's own: of no element; or all of one block. -/
def OwnStr (B : Nat) (w : World) (a : Option Addr) (n : Nat) (S : Nat → ByteArray) : Prop :=
  n = 0 ∨ ∃ q, a = some ⟨q, 0, none⟩ ∧ B ≤ q ∧ SRow w q n S

def ClonePost (len : Nat) (S : Nat → ByteArray) (w : World) (e : Ending) (w' : World) : Prop :=
  (∃ ao c, e = .returned (.slice ao len c) ∧ OwnStr w.heap.size w' ao len S) ∧ Below w.heap.size w w'

theorem Try.info9 : (Try.prog.info? 9).map (fun i => (i.zero, i.size, i.bytes)) = some (some (.string ByteArray.empty), 1, 16) := by kernel_rfl

set_option maxHeartbeats 1000000 in
theorem clone_any (a : Option Addr) (len cap : Nat) (S : Nat → ByteArray) (w : World) (h : IsStr w a len S) (hl : len ≤ 65536) :
    Calls Try.prog 17 #[.slice a len cap] w fun e w' => ClonePost len S w e w' := by
  have he := fun (a : Option Addr) (n c : Nat) (w : World) => Lib.run_eql_slice_nil (P := Try.prog) w 33 9 a n c 0 0 Try.underlying33
  obtain ⟨hm, h⟩ := h
  have H : Hid (len = 0 ∨ ∃ b off, a = some ⟨b, off, none⟩ ∧ ∀ i, i < len → w.cell? ⟨b, off + i, none⟩ = some (.string (S i)) ∧ (S i).size ≤ maxLen) := h
  clear h
  cases a with
  | none =>
    have h0 : len = 0 := by
      rcases H.out with h | ⟨b, off, h, _⟩
      · exact h
      · cases h
    subst h0
    go_enter Try.func17, Try.ntmps17
    go_wp2
    go_ret
    exact ⟨⟨none, 0, rfl, .inl rfl⟩, Below.refl _ _⟩
  | some x =>
    obtain ⟨i0, hi, hz0, hz1, hz2⟩ := info_parts Try.info9
    go_enter Try.func17, Try.ntmps17
    go_wp2_with (at_make; refine wpList_make_full _ rfl _ _ 33 rfl w.heap.size 9 i0 (.string ByteArray.empty) 1 Try.underlying33 hi hz0 hz1 _ _ _ _ len rfl rfl rfl rfl (by rw [hz2]; omega) (by unfold maxLen; omega) (Nat.le_refl _) ?_; intro w1 hown1 hgrow1)
    have R1 := SRow.made hown1
    have B1 : Below w.heap.size w w1 := (Below.refl _ _).grown hgrow1 (Nat.le_refl _) (by simp)
    clear hown1 hgrow1
    go_loopw [4] (fun i wr => ∃ (k : Nat) (T : Nat → ByteArray), k ≤ len ∧ i = .int .i64 k ∧ SRow wr w.heap.size len T ∧ (∀ j, j < k → T j = S j) ∧ Below w.heap.size w wr) (fun i _ => len - (intOf i).toNat)
    case atStart => exact ⟨0, _, by omega, rfl, R1, fun j hj => by omega, B1⟩
    case round =>
      obtain ⟨k, T, g1, rfl, r, e, hb⟩ := hrel
      have E : Hid (∀ j, j < k → T j = S j) := e
      clear e
      by_cases hk : k < len
      · rcases H.out with h | ⟨b, off, hx, hc⟩
        · omega
        obtain rfl : x = ⟨b, off, none⟩ := by simpa using hx
        obtain ⟨hc, hs⟩ := hc k hk
        have hb' : b < w.heap.size := World.block_lt_of_cell? w _ hc
        have hc' := (hb.cell (p := ⟨b, off + k, none⟩) hb').trans hc
        have c1 := r.cell hk
        have f1 := r.frozen k
        clear hc
        go_wp2
        go_roundw
        case rel =>
          refine ⟨k + 1, _, by omega, by go_num, r.set k (S k), ?_, hb.setCell (Nat.le_refl _) _⟩
          intro j hj
          by_cases ej : j = k
          · simp [ej]
          · simp only [ej, if_false]; exact E.out j (by omega)
        case measure => simp [intOf]; omega
      · obtain rfl : k = len := by omega
        go_wp2
        go_ret
        exact ⟨⟨_, _, rfl, .inr ⟨_, rfl, Nat.le_refl _, by
          obtain ⟨cs, q1, q2, q3⟩ := r
          exact ⟨cs, q1, q2, fun j hj => by rw [q3 j hj, E.out j hj]⟩⟩⟩, hb⟩
end Go.Proofs.Qxb6602170a
