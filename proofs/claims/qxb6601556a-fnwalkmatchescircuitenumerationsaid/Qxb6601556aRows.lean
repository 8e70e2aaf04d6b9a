/-
  No cell of these rows narrows 'for every input' (looked for: loops, veiled, ifaces, maps, wideKeys, modest, calm, conditions, laid).
  DERIVED. THE GIVEN ROWS OF THIS SEAT. 4 by the template 'for every input the law returns true; each argument reads behind the call as it read before'; 0 by the template 'total and deterministic' (their statements: Qxb6601556aTotals.lean).
  GIVEN WITH THE SEED: the statements are not yours to turn. If you find one false, say at which input.
  Laid BY PROGRAM, IN A SANDBOX (cutbox-rows.mjs): the forced cells as the released guide's own fill.sh prints them over the translation 7e36dc4d7725af7b… (all of the seat's roots in one cut). By AI agents, Wed Nov 11 2026. No macro, syntax, notation, axiom, sorry.
-/
import Derived.Test.Qxb6601556aChecked
import GoSem.Claim
import GoSem.ClaimJoined
import GoSem.ClaimMapViews
import Derived.JoinedTies
import Derived.KernelRfl
namespace Go.Proofs.Qxb6601556a
/- THE CELL 'sum', in the pinned program and in every row, IS THE sha256 OF THE DUMP (.gsa) THAT Qxb6601556aProg.lean LOADS. Nothing in Lean hashes anything: it is a label: what it is worth is what the hold of that sum in a sandbox is worth. -/
noncomputable def Try.pinned : Pinned := { name := "qxb6601556a", sum := "7e36dc4d7725af7ba6703773b8000cd413c42f15292f73312fd96fb0bf6e91f2", checked := Try.checked }
namespace Rows
def none {H : Type} : Left H := { results := [], args := [] }

/-- 'zzlaws_lint_b1.FnWalkMatchesCircuitEnumeration': WHATEVER THE INPUT: true; the input reads as it did. -/
def fnWalkMatchesCircuitEnumerationSpec : ChangeSpec := { name := "fnWalkMatchesCircuitEnumeration", fn := fun _ => fun
  | [d1, d2, d3, d4, d5, d6] => { results := [.lit (.bool true)], args := [d1, d2, d3, d4, d5, d6] }
  | _ => none }
def fnWalkMatchesCircuitEnumerationRow : OpenClaim := { program := "qxb6601556a", sum := "7e36dc4d7725af7ba6703773b8000cd413c42f15292f73312fd96fb0bf6e91f2", func := "example.com/panelwright/panelwright/zzlaws_lint_b1.FnWalkMatchesCircuitEnumeration", spec := "fnWalkMatchesCircuitEnumeration", recurses := true, apart := false }
def FnWalkMatchesCircuitEnumerationSaid : Prop := fnWalkMatchesCircuitEnumerationRow.holds Try.pinned (OpenSpec.ofChange fnWalkMatchesCircuitEnumerationSpec)

/-- ITS FALSE NEIGHBOUR: 'it returns false'. Refute it at one input. -/
def fnWalkMatchesCircuitEnumerationWrong : ChangeSpec := { name := "fnWalkMatchesCircuitEnumeration", fn := fun _ => fun
  | [d1, d2, d3, d4, d5, d6] => { results := [.lit (.bool false)], args := [d1, d2, d3, d4, d5, d6] }
  | _ => none }
def FnWalkMatchesCircuitEnumerationWrongFalsely : Prop := fnWalkMatchesCircuitEnumerationRow.holds Try.pinned (OpenSpec.ofChange fnWalkMatchesCircuitEnumerationWrong)

/-- 'zzlaws_lint_b1.FnWalkFindsOnlySimpleCircuitsWithinCap': WHATEVER THE INPUT: true; the input reads as it did. -/
def fnWalkFindsOnlySimpleCircuitsWithinCapSpec : ChangeSpec := { name := "fnWalkFindsOnlySimpleCircuitsWithinCap", fn := fun _ => fun
  | [d1, d2, d3, d4, d5, d6] => { results := [.lit (.bool true)], args := [d1, d2, d3, d4, d5, d6] }
  | _ => none }
def fnWalkFindsOnlySimpleCircuitsWithinCapRow : OpenClaim := { program := "qxb6601556a", sum := "7e36dc4d7725af7ba6703773b8000cd413c42f15292f73312fd96fb0bf6e91f2", func := "example.com/panelwright/panelwright/zzlaws_lint_b1.FnWalkFindsOnlySimpleCircuitsWithinCap", spec := "fnWalkFindsOnlySimpleCircuitsWithinCap", recurses := true, apart := false }
def FnWalkFindsOnlySimpleCircuitsWithinCapSaid : Prop := fnWalkFindsOnlySimpleCircuitsWithinCapRow.holds Try.pinned (OpenSpec.ofChange fnWalkFindsOnlySimpleCircuitsWithinCapSpec)

/-- ITS FALSE NEIGHBOUR: 'it returns false'. Refute it at one input. -/
def fnWalkFindsOnlySimpleCircuitsWithinCapWrong : ChangeSpec := { name := "fnWalkFindsOnlySimpleCircuitsWithinCap", fn := fun _ => fun
  | [d1, d2, d3, d4, d5, d6] => { results := [.lit (.bool false)], args := [d1, d2, d3, d4, d5, d6] }
  | _ => none }
def FnWalkFindsOnlySimpleCircuitsWithinCapWrongFalsely : Prop := fnWalkFindsOnlySimpleCircuitsWithinCapRow.holds Try.pinned (OpenSpec.ofChange fnWalkFindsOnlySimpleCircuitsWithinCapWrong)

/-- 'zzlaws_lint_b1.FnUnblockReleasesWaitingClosure': WHATEVER THE INPUT: true; the input reads as it did. -/
def fnUnblockReleasesWaitingClosureSpec : ChangeSpec := { name := "fnUnblockReleasesWaitingClosure", fn := fun _ => fun
  | [d1, d2, d3, d4, d5] => { results := [.lit (.bool true)], args := [d1, d2, d3, d4, d5] }
  | _ => none }
def fnUnblockReleasesWaitingClosureRow : OpenClaim := { program := "qxb6601556a", sum := "7e36dc4d7725af7ba6703773b8000cd413c42f15292f73312fd96fb0bf6e91f2", func := "example.com/panelwright/panelwright/zzlaws_lint_b1.FnUnblockReleasesWaitingClosure", spec := "fnUnblockReleasesWaitingClosure", recurses := true, apart := false }
def FnUnblockReleasesWaitingClosureSaid : Prop := fnUnblockReleasesWaitingClosureRow.holds Try.pinned (OpenSpec.ofChange fnUnblockReleasesWaitingClosureSpec)

/-- ITS FALSE NEIGHBOUR: 'it returns false'. Refute it at one input. -/
def fnUnblockReleasesWaitingClosureWrong : ChangeSpec := { name := "fnUnblockReleasesWaitingClosure", fn := fun _ => fun
  | [d1, d2, d3, d4, d5] => { results := [.lit (.bool false)], args := [d1, d2, d3, d4, d5] }
  | _ => none }
def FnUnblockReleasesWaitingClosureWrongFalsely : Prop := fnUnblockReleasesWaitingClosureRow.holds Try.pinned (OpenSpec.ofChange fnUnblockReleasesWaitingClosureWrong)

/-- 'zzlaws_lint_b1.FnUnblockOrderFree': WHATEVER THE INPUT: true; the input reads as it did. -/
def fnUnblockOrderFreeSpec : ChangeSpec := { name := "fnUnblockOrderFree", fn := fun _ => fun
  | [d1, d2, d3, d4, d5, d6] => { results := [.lit (.bool true)], args := [d1, d2, d3, d4, d5, d6] }
  | _ => none }
def fnUnblockOrderFreeRow : OpenClaim := { program := "qxb6601556a", sum := "7e36dc4d7725af7ba6703773b8000cd413c42f15292f73312fd96fb0bf6e91f2", func := "example.com/panelwright/panelwright/zzlaws_lint_b1.FnUnblockOrderFree", spec := "fnUnblockOrderFree", recurses := true, apart := false }
def FnUnblockOrderFreeSaid : Prop := fnUnblockOrderFreeRow.holds Try.pinned (OpenSpec.ofChange fnUnblockOrderFreeSpec)

/-- ITS FALSE NEIGHBOUR: 'it returns false'. Refute it at one input. -/
def fnUnblockOrderFreeWrong : ChangeSpec := { name := "fnUnblockOrderFree", fn := fun _ => fun
  | [d1, d2, d3, d4, d5, d6] => { results := [.lit (.bool false)], args := [d1, d2, d3, d4, d5, d6] }
  | _ => none }
def FnUnblockOrderFreeWrongFalsely : Prop := fnUnblockOrderFreeRow.holds Try.pinned (OpenSpec.ofChange fnUnblockOrderFreeWrong)

end Rows
end Go.Proofs.Qxb6601556a
