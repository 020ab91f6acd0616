/-
  No cell of these rows narrows 'for every input' (looked for: loops, veiled, ifaces, maps, wideKeys, modest, calm, conditions, laid).
  DERIVED. THE GIVEN ROWS OF THIS SEAT. 3 by the template 'for every input the law returns true; each argument reads behind the call as it read before'; 0 by the template 'total and deterministic' (their statements: Qxb6602148aTotals.lean).
  GIVEN WITH THE SEED: the statements are not yours to turn. If you find one false, say at which input.
  Laid BY PROGRAM, IN A SANDBOX (cutbox-rows.mjs): the forced cells as the released guide's own fill.sh prints them over the translation 2ee621b67d03d41f… (all of the seat's roots in one cut). By AI agents, Wed Nov 11 2026. No macro, syntax, notation, axiom, sorry.
-/
import Derived.Test.Qxb6602148aChecked
import GoSem.Claim
import GoSem.ClaimJoined
import GoSem.ClaimMapViews
import Derived.JoinedTies
import Derived.KernelRfl
namespace Go.Proofs.Qxb6602148a
/- THE CELL 'sum', in the pinned program and in every row, IS THE sha256 OF THE DUMP (.gsa) THAT Qxb6602148aProg.lean LOADS. Nothing in Lean hashes anything: it is a label: what it is worth is what the hold of that sum in a sandbox is worth. -/
noncomputable def Try.pinned : Pinned := { name := "qxb6602148a", sum := "2ee621b67d03d41fe154db39cf509c4f14ed157606c6c5a63c9f094354b0adb2", checked := Try.checked }
namespace Rows
def none {H : Type} : Left H := { results := [], args := [] }

/-- 'zzlaws_internal_digraph_b1.FnNewPartitionMatchesCycleModel': WHATEVER THE INPUT: true; the input reads as it did. -/
def fnNewPartitionMatchesCycleModelSpec : ChangeSpec := { name := "fnNewPartitionMatchesCycleModel", fn := fun _ => fun
  | [d] => { results := [.lit (.bool true)], args := [d] }
  | _ => none }
def fnNewPartitionMatchesCycleModelRow : OpenClaim := { program := "qxb6602148a", sum := "2ee621b67d03d41fe154db39cf509c4f14ed157606c6c5a63c9f094354b0adb2", func := "example.com/interleave/interleave/zzlaws_internal_digraph_b1.FnNewPartitionMatchesCycleModel", spec := "fnNewPartitionMatchesCycleModel", unfollowed := true, recurses := true, apart := false }
def FnNewPartitionMatchesCycleModelSaid : Prop := fnNewPartitionMatchesCycleModelRow.holds Try.pinned (OpenSpec.ofChange fnNewPartitionMatchesCycleModelSpec)

/-- ITS FALSE NEIGHBOUR: 'it returns false'. Refute it at one input. -/
def fnNewPartitionMatchesCycleModelWrong : ChangeSpec := { name := "fnNewPartitionMatchesCycleModel", fn := fun _ => fun
  | [d] => { results := [.lit (.bool false)], args := [d] }
  | _ => none }
def FnNewPartitionMatchesCycleModelWrongFalsely : Prop := fnNewPartitionMatchesCycleModelRow.holds Try.pinned (OpenSpec.ofChange fnNewPartitionMatchesCycleModelWrong)

/-- 'zzlaws_internal_digraph_b1.FnDivideOfABlockKeepsItWhole': WHATEVER THE INPUT: true; the input reads as it did. -/
def fnDivideOfABlockKeepsItWholeSpec : ChangeSpec := { name := "fnDivideOfABlockKeepsItWhole", fn := fun _ => fun
  | [d1, d2] => { results := [.lit (.bool true)], args := [d1, d2] }
  | _ => none }
def fnDivideOfABlockKeepsItWholeRow : OpenClaim := { program := "qxb6602148a", sum := "2ee621b67d03d41fe154db39cf509c4f14ed157606c6c5a63c9f094354b0adb2", func := "example.com/interleave/interleave/zzlaws_internal_digraph_b1.FnDivideOfABlockKeepsItWhole", spec := "fnDivideOfABlockKeepsItWhole", unfollowed := true, recurses := true, apart := false }
def FnDivideOfABlockKeepsItWholeSaid : Prop := fnDivideOfABlockKeepsItWholeRow.holds Try.pinned (OpenSpec.ofChange fnDivideOfABlockKeepsItWholeSpec)

/-- ITS FALSE NEIGHBOUR: 'it returns false'. Refute it at one input. -/
def fnDivideOfABlockKeepsItWholeWrong : ChangeSpec := { name := "fnDivideOfABlockKeepsItWhole", fn := fun _ => fun
  | [d1, d2] => { results := [.lit (.bool false)], args := [d1, d2] }
  | _ => none }
def FnDivideOfABlockKeepsItWholeWrongFalsely : Prop := fnDivideOfABlockKeepsItWholeRow.holds Try.pinned (OpenSpec.ofChange fnDivideOfABlockKeepsItWholeWrong)

/-- 'zzlaws_internal_digraph_b1.FnSplitLaysOutABlockAsOne': WHATEVER THE INPUT: true; the input reads as it did. -/
def fnSplitLaysOutABlockAsOneSpec : ChangeSpec := { name := "fnSplitLaysOutABlockAsOne", fn := fun _ => fun
  | [d1, d2, d3] => { results := [.lit (.bool true)], args := [d1, d2, d3] }
  | _ => none }
def fnSplitLaysOutABlockAsOneRow : OpenClaim := { program := "qxb6602148a", sum := "2ee621b67d03d41fe154db39cf509c4f14ed157606c6c5a63c9f094354b0adb2", func := "example.com/interleave/interleave/zzlaws_internal_digraph_b1.FnSplitLaysOutABlockAsOne", spec := "fnSplitLaysOutABlockAsOne", unfollowed := true, recurses := true, apart := false }
def FnSplitLaysOutABlockAsOneSaid : Prop := fnSplitLaysOutABlockAsOneRow.holds Try.pinned (OpenSpec.ofChange fnSplitLaysOutABlockAsOneSpec)

/-- ITS FALSE NEIGHBOUR: 'it returns false'. Refute it at one input. -/
def fnSplitLaysOutABlockAsOneWrong : ChangeSpec := { name := "fnSplitLaysOutABlockAsOne", fn := fun _ => fun
  | [d1, d2, d3] => { results := [.lit (.bool false)], args := [d1, d2, d3] }
  | _ => none }
def FnSplitLaysOutABlockAsOneWrongFalsely : Prop := fnSplitLaysOutABlockAsOneRow.holds Try.pinned (OpenSpec.ofChange fnSplitLaysOutABlockAsOneWrong)

end Rows
end Go.Proofs.Qxb6602148a
