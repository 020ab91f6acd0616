/-
  No cell of these rows narrows 'for every input' (looked for: loops, veiled, ifaces, maps, wideKeys, modest, calm, conditions, laid).
  DERIVED. THE GIVEN ROWS OF THIS SEAT. 5 by the template 'for every input the law returns true; each argument reads behind the call as it read before'; 0 by the template 'total and deterministic' (their statements: Qxb6602230aTotals.lean).
  GIVEN WITH THE SEED: the statements are not yours to turn. If you find one false, say at which input.
  Laid BY PROGRAM, IN A SANDBOX (cutbox-rows.mjs): the forced cells as the released guide's own fill.sh prints them over the translation 8620055c84012c9d… (all of the seat's roots in one cut). By AI agents, Wed Nov 11 2026. No macro, syntax, notation, axiom, sorry.
-/
import Derived.Test.Qxb6602230aChecked
import GoSem.Claim
import GoSem.ClaimJoined
import GoSem.ClaimMapViews
import Derived.JoinedTies
import Derived.KernelRfl
namespace Go.Proofs.Qxb6602230a
/- THE CELL 'sum', in the pinned program and in every row, IS THE sha256 OF THE DUMP (.gsa) THAT Qxb6602230aProg.lean LOADS. Nothing in Lean hashes anything: it is a label: what it is worth is what the hold of that sum in a sandbox is worth. -/
noncomputable def Try.pinned : Pinned := { name := "qxb6602230a", sum := "8620055c84012c9d4ca51c2d60fbfba1ff23ab93fdc3e5f5e89eea37d7b3a17f", checked := Try.checked }
namespace Rows
def none {H : Type} : Left H := { results := [], args := [] }

/-- 'zzlaws_xlsx_b1.FnWideOnlyInEastAsianBlocks': WHATEVER THE INPUT: true; the input reads as it did. -/
def fnWideOnlyInEastAsianBlocksSpec : ChangeSpec := { name := "fnWideOnlyInEastAsianBlocks", fn := fun _ => fun
  | [d] => { results := [.lit (.bool true)], args := [d] }
  | _ => none }
def fnWideOnlyInEastAsianBlocksRow : OpenClaim := { program := "qxb6602230a", sum := "8620055c84012c9d4ca51c2d60fbfba1ff23ab93fdc3e5f5e89eea37d7b3a17f", func := "example.com/vestbook/vestbook/zzlaws_xlsx_b1.FnWideOnlyInEastAsianBlocks", spec := "fnWideOnlyInEastAsianBlocks", apart := false }
def FnWideOnlyInEastAsianBlocksSaid : Prop := fnWideOnlyInEastAsianBlocksRow.holds Try.pinned (OpenSpec.ofChange fnWideOnlyInEastAsianBlocksSpec)

/-- ITS FALSE NEIGHBOUR: 'it returns false'. Refute it at one input. -/
def fnWideOnlyInEastAsianBlocksWrong : ChangeSpec := { name := "fnWideOnlyInEastAsianBlocks", fn := fun _ => fun
  | [d] => { results := [.lit (.bool false)], args := [d] }
  | _ => none }
def FnWideOnlyInEastAsianBlocksWrongFalsely : Prop := fnWideOnlyInEastAsianBlocksRow.holds Try.pinned (OpenSpec.ofChange fnWideOnlyInEastAsianBlocksWrong)

/-- 'zzlaws_xlsx_b1.FnWidthBounds': WHATEVER THE INPUT: true; the input reads as it did. -/
def fnWidthBoundsSpec : ChangeSpec := { name := "fnWidthBounds", fn := fun _ => fun
  | [d] => { results := [.lit (.bool true)], args := [d] }
  | _ => none }
def fnWidthBoundsRow : OpenClaim := { program := "qxb6602230a", sum := "8620055c84012c9d4ca51c2d60fbfba1ff23ab93fdc3e5f5e89eea37d7b3a17f", func := "example.com/vestbook/vestbook/zzlaws_xlsx_b1.FnWidthBounds", spec := "fnWidthBounds", apart := false }
def FnWidthBoundsSaid : Prop := fnWidthBoundsRow.holds Try.pinned (OpenSpec.ofChange fnWidthBoundsSpec)

/-- ITS FALSE NEIGHBOUR: 'it returns false'. Refute it at one input. -/
def fnWidthBoundsWrong : ChangeSpec := { name := "fnWidthBounds", fn := fun _ => fun
  | [d] => { results := [.lit (.bool false)], args := [d] }
  | _ => none }
def FnWidthBoundsWrongFalsely : Prop := fnWidthBoundsRow.holds Try.pinned (OpenSpec.ofChange fnWidthBoundsWrong)

/-- 'zzlaws_xlsx_b1.FnWidthAdditive': WHATEVER THE INPUT: true; the input reads as it did. -/
def fnWidthAdditiveSpec : ChangeSpec := { name := "fnWidthAdditive", fn := fun _ => fun
  | [d1, d2] => { results := [.lit (.bool true)], args := [d1, d2] }
  | _ => none }
def fnWidthAdditiveRow : OpenClaim := { program := "qxb6602230a", sum := "8620055c84012c9d4ca51c2d60fbfba1ff23ab93fdc3e5f5e89eea37d7b3a17f", func := "example.com/vestbook/vestbook/zzlaws_xlsx_b1.FnWidthAdditive", spec := "fnWidthAdditive", apart := false }
def FnWidthAdditiveSaid : Prop := fnWidthAdditiveRow.holds Try.pinned (OpenSpec.ofChange fnWidthAdditiveSpec)

/-- ITS FALSE NEIGHBOUR: 'it returns false'. Refute it at one input. -/
def fnWidthAdditiveWrong : ChangeSpec := { name := "fnWidthAdditive", fn := fun _ => fun
  | [d1, d2] => { results := [.lit (.bool false)], args := [d1, d2] }
  | _ => none }
def FnWidthAdditiveWrongFalsely : Prop := fnWidthAdditiveRow.holds Try.pinned (OpenSpec.ofChange fnWidthAdditiveWrong)

/-- 'zzlaws_xlsx_b1.FnIsEscapeAcceptsEveryCode': WHATEVER THE INPUT: true; the input reads as it did. -/
def fnIsEscapeAcceptsEveryCodeSpec : ChangeSpec := { name := "fnIsEscapeAcceptsEveryCode", fn := fun _ => fun
  | [d1, d2, d3] => { results := [.lit (.bool true)], args := [d1, d2, d3] }
  | _ => none }
def fnIsEscapeAcceptsEveryCodeRow : OpenClaim := { program := "qxb6602230a", sum := "8620055c84012c9d4ca51c2d60fbfba1ff23ab93fdc3e5f5e89eea37d7b3a17f", func := "example.com/vestbook/vestbook/zzlaws_xlsx_b1.FnIsEscapeAcceptsEveryCode", spec := "fnIsEscapeAcceptsEveryCode", apart := false }
def FnIsEscapeAcceptsEveryCodeSaid : Prop := fnIsEscapeAcceptsEveryCodeRow.holds Try.pinned (OpenSpec.ofChange fnIsEscapeAcceptsEveryCodeSpec)

/-- ITS FALSE NEIGHBOUR: 'it returns false'. Refute it at one input. -/
def fnIsEscapeAcceptsEveryCodeWrong : ChangeSpec := { name := "fnIsEscapeAcceptsEveryCode", fn := fun _ => fun
  | [d1, d2, d3] => { results := [.lit (.bool false)], args := [d1, d2, d3] }
  | _ => none }
def FnIsEscapeAcceptsEveryCodeWrongFalsely : Prop := fnIsEscapeAcceptsEveryCodeRow.holds Try.pinned (OpenSpec.ofChange fnIsEscapeAcceptsEveryCodeWrong)

/-- 'zzlaws_xlsx_b1.FnIsEscapeReadsSevenBytes': WHATEVER THE INPUT: true; the input reads as it did. -/
def fnIsEscapeReadsSevenBytesSpec : ChangeSpec := { name := "fnIsEscapeReadsSevenBytes", fn := fun _ => fun
  | [d1, d2] => { results := [.lit (.bool true)], args := [d1, d2] }
  | _ => none }
def fnIsEscapeReadsSevenBytesRow : OpenClaim := { program := "qxb6602230a", sum := "8620055c84012c9d4ca51c2d60fbfba1ff23ab93fdc3e5f5e89eea37d7b3a17f", func := "example.com/vestbook/vestbook/zzlaws_xlsx_b1.FnIsEscapeReadsSevenBytes", spec := "fnIsEscapeReadsSevenBytes", apart := false }
def FnIsEscapeReadsSevenBytesSaid : Prop := fnIsEscapeReadsSevenBytesRow.holds Try.pinned (OpenSpec.ofChange fnIsEscapeReadsSevenBytesSpec)

/-- ITS FALSE NEIGHBOUR: 'it returns false'. Refute it at one input. -/
def fnIsEscapeReadsSevenBytesWrong : ChangeSpec := { name := "fnIsEscapeReadsSevenBytes", fn := fun _ => fun
  | [d1, d2] => { results := [.lit (.bool false)], args := [d1, d2] }
  | _ => none }
def FnIsEscapeReadsSevenBytesWrongFalsely : Prop := fnIsEscapeReadsSevenBytesRow.holds Try.pinned (OpenSpec.ofChange fnIsEscapeReadsSevenBytesWrong)

end Rows
end Go.Proofs.Qxb6602230a
