import Derived.Test.Qxb6602170aRows
import Derived.WalkKit
import Derived.ProofKit
import Derived.WalkSpells
import Derived.WalkLawsBesides
import Derived.Below
import Derived.LoopTactic
import Derived.RegionTactic
namespace Go.Proofs.Qxb6602170a
open Go.RowKit
set_option linter.unusedVariables false

def runningB : List UInt8 := [82, 117, 110, 110, 105, 110, 103]
def failedB : List UInt8 := [70, 97, 105, 108, 101, 100]

/-- The attempts behind one step. -/
def nextA (st : ByteArray) (a : Int) : Int := bif (st.toList == [82, 117, 110, 110, 105, 110, 103]) then wrap64 (a + 1) else a

set_option maxHeartbeats 1000000 in
theorem next_any (s0 st : ByteArray) (a : Int) (pp pf f : Option Addr) (w : World) :
    Calls Try.prog 18 #[.agg #[.string s0, .int .i64 a, .pointer pp, .pointer pf], .string st, .pointer f] w
      fun e w' => e = .returned (.agg #[.string st, .int .i64 (nextA st a), .pointer none, .pointer f]) ∧ Below w.heap.size w w' := by
  obtain ⟨r, hr⟩ : ∃ r, r = (st.toList == [82, 117, 110, 110, 105, 110, 103]) := ⟨_, rfl⟩
  have HN : Hid (nextA st a = bif r then wrap64 (a + 1) else a) := by rw [hr]; rfl
  cases r
  · have hf := hr.symm
    clear hr
    go_enter Try.func18, Try.ntmps18
    go_wp2
    refine bodyPost_ret (v := .agg #[.string st, .int .i64 a, .pointer none, .pointer f]) (by simp [results, Try.results18, go_sem]) rfl ⟨by rw [HN.out]; rfl, ((Below.refl _ _).alloc (Nat.le_refl _) _).alloc (by simp) _⟩
  · have hf := hr.symm
    clear hr
    go_enter Try.func18, Try.ntmps18
    go_wp2
    refine bodyPost_ret (v := .agg #[.string st, .int .i64 (wrap64 (a + 1)), .pointer none, .pointer f]) (by simp [results, Try.results18, go_sem]) rfl ⟨by rw [HN.out]; rfl, ((Below.refl _ _).alloc (Nat.le_refl _) _).alloc (by simp) _⟩
end Go.Proofs.Qxb6602170a
