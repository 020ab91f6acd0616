import Derived.Laws.RangeAny
namespace Go.Proofs.Qxb6602230a

/-- What one step of a range over a string takes: one to four bytes, within the string; a rune from U+1100 on that is not the error rune takes three or more. -/
theorem decode_bounds (s : ByteArray) (pos : Nat) (h : pos < s.size) :
    1 ≤ (Utf8.decode s pos).2 ∧ (Utf8.decode s pos).2 ≤ 4 ∧ pos + (Utf8.decode s pos).2 ≤ s.size ∧
      (2 ≤ (Utf8.decode s pos).2 ∨ (Utf8.decode s pos).1 < 4352 ∨ (Utf8.decode s pos).1 = 65533) := by
  have hb : ∀ k, (s.get! (pos + k)).toNat < 256 := fun k => (s.get! (pos + k)).toNat_lt
  have h0 := hb 0; have h1 := hb 1; have h2 := hb 2; have h3 := hb 3
  simp only [Utf8.decode]
  repeat' split
  all_goals simp_all [Utf8.runeError]
  all_goals omega
end Go.Proofs.Qxb6602230a
