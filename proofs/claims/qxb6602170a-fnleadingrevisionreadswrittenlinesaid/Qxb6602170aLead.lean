import Derived.Test.Qxb6602170aRows
import Derived.Test.Qxb6602170aMem
import Derived.Test.Qxb6602170aDigits
import Derived.WalkKit
import Derived.ProofKit
import Derived.WalkSpells
import Derived.WalkLawsBesides
import Derived.LoopTactic
import Derived.RegionTactic
import Derived.Laws.BytesArg
import Derived.Lib.SlBytesConst
import Derived.Deep.QuietTactic
import Derived.BigQuiet
namespace Go.Proofs.Qxb6602170a
open Go.RowKit
set_option linter.unusedVariables false

def LeadPost (r : Int) (d n LB : Nat) (w : World) (e : Ending) (w' : World) : Prop :=
  ∃ (A : Option Addr), e = .returned (.tuple #[.int .i64 r, .slice A (n - 12 - d) (n - 12 - d), .bool true]) ∧ (12 + d < n → A = some ⟨LB, 12 + d, none⟩) ∧ Below w.heap.size w w'

def keyI : List Int := keyL.map fun x : Nat => (x : Int)
theorem keyI_at : ∀ j, j < 12 → keyI.getD j 0 = key j := by
  intro j hj
  match j, hj with
  | 0, _ => rfl
  | 1, _ => rfl
  | 2, _ => rfl
  | 3, _ => rfl
  | 4, _ => rfl
  | 5, _ => rfl
  | 6, _ => rfl
  | 7, _ => rfl
  | 8, _ => rfl
  | 9, _ => rfl
  | 10, _ => rfl
  | 11, _ => rfl

set_option maxHeartbeats 1000000 in
/-- bytes.CutPrefix of a line that begins with the key. -/
theorem cut_any (n LB PB : Nat) (w : World) (h12 : 12 < n) (hn2 : n ≤ 2000000) (hl : ∀ j, j < 12 → w.cell? ⟨LB, j, none⟩ = some (.int .u8 (key j))) (hp : ∀ j, j < 12 → w.cell? ⟨PB, j, none⟩ = some (.int .u8 (key j))) :
    Calls Try.prog 22 #[.slice (some ⟨LB, 0, none⟩) n n, .slice (some ⟨PB, 0, none⟩) 12 12] w fun e w' => e = .returned (.tuple #[.slice (some ⟨LB, 12, none⟩) (n - 12) (n - 12), .bool true]) ∧ w = w' := by
  have c1 : (convert 22 9 (.slice (some ⟨LB, 0, none⟩) 12 n)).run Try.prog w = .ok (.string (strOfNums keyI)) w :=
    run_convert_bytes_arg (P := Try.prog) w 22 5 Try.underlying22 Try.underlying5 LB 0 12 n keyI rfl (fun j hj => by rw [Nat.zero_add, keyI_at j hj]; exact hl j hj) 9 Try.underlying9
  have c2 : (convert 22 9 (.slice (some ⟨PB, 0, none⟩) 12 12)).run Try.prog w = .ok (.string (strOfNums keyI)) w :=
    run_convert_bytes_arg (P := Try.prog) w 22 5 Try.underlying22 Try.underlying5 PB 0 12 12 keyI rfl (fun j hj => by rw [Nat.zero_add, keyI_at j hj]; exact hp j hj) 9 Try.underlying9
  clear hl hp
  generalize strOfNums keyI = K at c1 c2
  go_enter Try.func22, Try.ntmps22
  go_wp2
  go_ret2
  exact ⟨rfl, rfl⟩

set_option maxHeartbeats 1000000 in
theorem lead_any (r : Int) (d n LB : Nat) (t : Nat → Int) (w : World) (hr0 : 0 ≤ r) (hr9 : r ≤ 999999999) (hd1 : 1 ≤ d) (hd9 : d ≤ 9) (hrem : rem r d = 0) (hn1 : 12 + d ≤ n) (hn2 : n ≤ 2000000)
    (hrow : IRow 5 .u8 w LB n (lineOf r d t)) (ht : ∀ j, 0 ≤ t j ∧ t j < 256) (hnd : 12 + d < n → ¬ (48 ≤ t 0 ∧ t 0 ≤ 57)) :
    Calls Try.prog 20 #[.slice (some ⟨LB, 0, none⟩) n n] w fun e w' => LeadPost r d n LB w e w' := by
  have kc := fun (w : World) (C : Array Value) (n c : Nat) => Lib.run_convert_bytes_const (P := Try.prog) w 22 5 C n c Try.underlying22 Try.underlying5
  go_enter Try.func20, Try.ntmps20
  go_wp2_with fail
  refine (cut_any n LB w.heap.size _ (by omega) hn2 ?_ ?_).mono ?_
  · intro j hj
    rw [(hrow.alloc _).cell (show j < n by omega), lineOf_key _ _ _ _ hj]
  · intro j hj
    rw [World.cell?_alloc_mark]
    match j, hj with
    | 0, _ => rfl
    | 1, _ => rfl
    | 2, _ => rfl
    | 3, _ => rfl
    | 4, _ => rfl
    | 5, _ => rfl
    | 6, _ => rfl
    | 7, _ => rfl
    | 8, _ => rfl
    | 9, _ => rfl
    | 10, _ => rfl
    | 11, _ => rfl
  rintro e w1 ⟨rfl, hw1⟩
  have H1 : IRow 5 .u8 w1 LB n (lineOf r d t) := by rw [← hw1]; exact hrow.alloc _
  have B1 : Below w.heap.size w w1 := by rw [← hw1]; exact (Below.refl _ _).alloc (Nat.le_refl _) _
  clear hw1 kc hrow
  have HR : Hid (rem r d = 0) := hrem
  have HT : Hid (∀ j, 0 ≤ t j ∧ t j < 256) := ht
  have HN : Hid (12 + d < n → ¬ (48 ≤ t 0 ∧ t 0 ≤ 57)) := hnd
  clear hrem ht hnd
  go_wp2
  go_loop [2, 6] (fun v i => ∃ k : Nat, k ≤ d ∧ i = .int .i64 (k : Int) ∧ v = .int .i64 (topOf r d k)) (fun _ i => d - (intOf i).toNat)
  case atStart => exact ⟨0, by omega, rfl, by rw [topOf_zero r d HR.out]⟩
  case round =>
    obtain ⟨k, hk, rfl, rfl⟩ := hrel
    obtain ⟨tb0, tb1⟩ := topOf_bounds r d k hr0 hr9
    by_cases hkd : k < d
    · have hc := H1.cell (show 12 + k < n by omega)
      rw [lineOf_dig _ _ _ _ hkd] at hc
      have hs := topOf_succ r d k hkd
      obtain ⟨gb0, gb1⟩ := digAt_bounds r d k hr0
      have HS : Hid (topOf r d (k + 1) = 10 * topOf r d k + digAt r d k) := hs
      clear hs
      generalize digAt r d k = g at hc gb0 gb1 HS
      generalize topOf r d k = T at tb0 tb1 HS ⊢
      go_wp2
      go_round
      case rel => exact ⟨k + 1, by omega, by go_num, by rw [HS.out]; go_num⟩
      case measure => simp [intOf]; omega
    · obtain rfl : k = d := by omega
      rw [topOf_all]
      clear tb0 tb1
      have k0 : ((k : Int) == 0) = false := beq_eq_false_iff_ne.2 (by omega)
      have k9 : decide ((9 : Int) < (k : Int)) = false := decide_eq_false (by omega)
      by_cases hn : 12 + k < n
      · have hc := H1.cell hn
        have e := lineOf_tail r k t 0
        rw [Nat.add_zero] at e
        rw [e] at hc
        have h2 := HN.out hn
        obtain ⟨t0, t1⟩ := HT.out 0
        generalize t 0 = c at hc h2 t0 t1
        by_cases h48 : 48 ≤ c
        · have h57 : ¬ c ≤ 57 := fun h => h2 ⟨h48, h⟩
          have d57 : decide (c ≤ 57) = false := decide_eq_false h57
          have hcap : ¬ n - 12 = k := by omega
          go_wp2
          go_quiet (fail)
          go_wp2
          go_ret3
          exact ⟨_, rfl, fun _ => rfl, below_drewN B1 _⟩
        · have d48 : decide ((48 : Int) ≤ c) = false := decide_eq_false h48
          have hcap : ¬ n - 12 = k := by omega
          go_wp2
          go_quiet (fail)
          go_wp2
          go_ret3
          exact ⟨_, rfl, fun _ => rfl, below_drewN B1 _⟩
      · have hcap : n - 12 = k := by omega
        have E0 : Hid (n - 12 - k = 0) := by show n - 12 - k = 0; omega
        go_wp2
        go_quiet (fail)
        go_wp2
        go_ret3
        refine ⟨some ⟨LB, 12, none⟩, ?_, fun h => by omega, below_drewN B1 _⟩
        rw [E0.out]
        rfl
end Go.Proofs.Qxb6602170a
