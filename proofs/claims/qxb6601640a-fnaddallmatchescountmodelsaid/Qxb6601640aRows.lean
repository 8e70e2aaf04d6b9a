/-
  No cell of these rows narrows 'for every input' (looked for: loops, veiled, ifaces, maps, wideKeys, modest, calm, conditions, laid).
  DERIVED. THE GIVEN ROWS OF THIS SEAT. 5 by the template 'for every input the law returns true; each argument reads behind the call as it read before'; 0 by the template 'total and deterministic' (their statements: Qxb6601640aTotals.lean).
  GIVEN WITH THE SEED: the statements are not yours to turn. If you find one false, say at which input.
  Laid BY PROGRAM, IN A SANDBOX (cutbox-rows.mjs): the forced cells as the released guide's own fill.sh prints them over the translation ef96f98bb74fa9aa… (all of the seat's roots in one cut). By AI agents, Wed Nov 11 2026. No macro, syntax, notation, axiom, sorry.
-/
import Derived.Test.Qxb6601640aChecked
import GoSem.Claim
import GoSem.ClaimJoined
import GoSem.ClaimMapViews
import Derived.JoinedTies
import Derived.KernelRfl
namespace Go.Proofs.Qxb6601640a
/- THE CELL 'sum', in the pinned program and in every row, IS THE sha256 OF THE DUMP (.gsa) THAT Qxb6601640aProg.lean LOADS. Nothing in Lean hashes anything: it is a label: what it is worth is what the hold of that sum in a sandbox is worth. -/
noncomputable def Try.pinned : Pinned := { name := "qxb6601640a", sum := "ef96f98bb74fa9aaf452fb061c20f24f85d3022bf60392351f41cd97a1b7f40d", checked := Try.checked }
namespace Rows
def none {H : Type} : Left H := { results := [], args := [] }

/-- 'zzlaws_root_b1.FnAddHeldMatchesCountModel': WHATEVER THE INPUT: true; the input reads as it did. -/
def fnAddHeldMatchesCountModelSpec : ChangeSpec := { name := "fnAddHeldMatchesCountModel", fn := fun _ => fun
  | [d1, d2, d3, d4, d5, d6] => { results := [.lit (.bool true)], args := [d1, d2, d3, d4, d5, d6] }
  | _ => none }
def fnAddHeldMatchesCountModelRow : OpenClaim := { program := "qxb6601640a", sum := "ef96f98bb74fa9aaf452fb061c20f24f85d3022bf60392351f41cd97a1b7f40d", func := "example.com/quantrel/quantrel/zzlaws_root_b1.FnAddHeldMatchesCountModel", spec := "fnAddHeldMatchesCountModel", apart := false }
def FnAddHeldMatchesCountModelSaid : Prop := fnAddHeldMatchesCountModelRow.holds Try.pinned (OpenSpec.ofChange fnAddHeldMatchesCountModelSpec)

/-- ITS FALSE NEIGHBOUR: 'it returns false'. Refute it at one input. -/
def fnAddHeldMatchesCountModelWrong : ChangeSpec := { name := "fnAddHeldMatchesCountModel", fn := fun _ => fun
  | [d1, d2, d3, d4, d5, d6] => { results := [.lit (.bool false)], args := [d1, d2, d3, d4, d5, d6] }
  | _ => none }
def FnAddHeldMatchesCountModelWrongFalsely : Prop := fnAddHeldMatchesCountModelRow.holds Try.pinned (OpenSpec.ofChange fnAddHeldMatchesCountModelWrong)

/-- 'zzlaws_root_b1.FnAddHeldAgreesWithAdd': WHATEVER THE INPUT: true; the input reads as it did. -/
def fnAddHeldAgreesWithAddSpec : ChangeSpec := { name := "fnAddHeldAgreesWithAdd", fn := fun _ => fun
  | [d1, d2, d3, d4, d5, d6] => { results := [.lit (.bool true)], args := [d1, d2, d3, d4, d5, d6] }
  | _ => none }
def fnAddHeldAgreesWithAddRow : OpenClaim := { program := "qxb6601640a", sum := "ef96f98bb74fa9aaf452fb061c20f24f85d3022bf60392351f41cd97a1b7f40d", func := "example.com/quantrel/quantrel/zzlaws_root_b1.FnAddHeldAgreesWithAdd", spec := "fnAddHeldAgreesWithAdd", recurses := true, apart := false }
def FnAddHeldAgreesWithAddSaid : Prop := fnAddHeldAgreesWithAddRow.holds Try.pinned (OpenSpec.ofChange fnAddHeldAgreesWithAddSpec)

/-- ITS FALSE NEIGHBOUR: 'it returns false'. Refute it at one input. -/
def fnAddHeldAgreesWithAddWrong : ChangeSpec := { name := "fnAddHeldAgreesWithAdd", fn := fun _ => fun
  | [d1, d2, d3, d4, d5, d6] => { results := [.lit (.bool false)], args := [d1, d2, d3, d4, d5, d6] }
  | _ => none }
def FnAddHeldAgreesWithAddWrongFalsely : Prop := fnAddHeldAgreesWithAddRow.holds Try.pinned (OpenSpec.ofChange fnAddHeldAgreesWithAddWrong)

/-- 'zzlaws_root_b1.FnAddAllMatchesCountModel': WHATEVER THE INPUT: true; the input reads as it did. -/
def fnAddAllMatchesCountModelSpec : ChangeSpec := { name := "fnAddAllMatchesCountModel", fn := fun _ => fun
  | [d1, d2, d3, d4, d5, d6, d7, d8, d9, d10, d11] => { results := [.lit (.bool true)], args := [d1, d2, d3, d4, d5, d6, d7, d8, d9, d10, d11] }
  | _ => none }
def fnAddAllMatchesCountModelRow : OpenClaim := { program := "qxb6601640a", sum := "ef96f98bb74fa9aaf452fb061c20f24f85d3022bf60392351f41cd97a1b7f40d", func := "example.com/quantrel/quantrel/zzlaws_root_b1.FnAddAllMatchesCountModel", spec := "fnAddAllMatchesCountModel", recurses := true, apart := false }
def FnAddAllMatchesCountModelSaid : Prop := fnAddAllMatchesCountModelRow.holds Try.pinned (OpenSpec.ofChange fnAddAllMatchesCountModelSpec)

/-- ITS FALSE NEIGHBOUR: 'it returns false'. Refute it at one input. -/
def fnAddAllMatchesCountModelWrong : ChangeSpec := { name := "fnAddAllMatchesCountModel", fn := fun _ => fun
  | [d1, d2, d3, d4, d5, d6, d7, d8, d9, d10, d11] => { results := [.lit (.bool false)], args := [d1, d2, d3, d4, d5, d6, d7, d8, d9, d10, d11] }
  | _ => none }
def FnAddAllMatchesCountModelWrongFalsely : Prop := fnAddAllMatchesCountModelRow.holds Try.pinned (OpenSpec.ofChange fnAddAllMatchesCountModelWrong)

/-- 'zzlaws_root_b1.FnAddAllSelfMergeDoubles': WHATEVER THE INPUT: true; the input reads as it did. -/
def fnAddAllSelfMergeDoublesSpec : ChangeSpec := { name := "fnAddAllSelfMergeDoubles", fn := fun _ => fun
  | [d1, d2, d3, d4, d5, d6] => { results := [.lit (.bool true)], args := [d1, d2, d3, d4, d5, d6] }
  | _ => none }
def fnAddAllSelfMergeDoublesRow : OpenClaim := { program := "qxb6601640a", sum := "ef96f98bb74fa9aaf452fb061c20f24f85d3022bf60392351f41cd97a1b7f40d", func := "example.com/quantrel/quantrel/zzlaws_root_b1.FnAddAllSelfMergeDoubles", spec := "fnAddAllSelfMergeDoubles", recurses := true, apart := false }
def FnAddAllSelfMergeDoublesSaid : Prop := fnAddAllSelfMergeDoublesRow.holds Try.pinned (OpenSpec.ofChange fnAddAllSelfMergeDoublesSpec)

/-- ITS FALSE NEIGHBOUR: 'it returns false'. Refute it at one input. -/
def fnAddAllSelfMergeDoublesWrong : ChangeSpec := { name := "fnAddAllSelfMergeDoubles", fn := fun _ => fun
  | [d1, d2, d3, d4, d5, d6] => { results := [.lit (.bool false)], args := [d1, d2, d3, d4, d5, d6] }
  | _ => none }
def FnAddAllSelfMergeDoublesWrongFalsely : Prop := fnAddAllSelfMergeDoublesRow.holds Try.pinned (OpenSpec.ofChange fnAddAllSelfMergeDoublesWrong)

/-- 'zzlaws_root_b1.FnAddWordsMatchesCountModel': WHATEVER THE INPUT: true; the input reads as it did. -/
def fnAddWordsMatchesCountModelSpec : ChangeSpec := { name := "fnAddWordsMatchesCountModel", fn := fun _ => fun
  | [d1, d2, d3, d4, d5, d6, d7, d8, d9, d10, d11] => { results := [.lit (.bool true)], args := [d1, d2, d3, d4, d5, d6, d7, d8, d9, d10, d11] }
  | _ => none }
def fnAddWordsMatchesCountModelRow : OpenClaim := { program := "qxb6601640a", sum := "ef96f98bb74fa9aaf452fb061c20f24f85d3022bf60392351f41cd97a1b7f40d", func := "example.com/quantrel/quantrel/zzlaws_root_b1.FnAddWordsMatchesCountModel", spec := "fnAddWordsMatchesCountModel", apart := false }
def FnAddWordsMatchesCountModelSaid : Prop := fnAddWordsMatchesCountModelRow.holds Try.pinned (OpenSpec.ofChange fnAddWordsMatchesCountModelSpec)

/-- ITS FALSE NEIGHBOUR: 'it returns false'. Refute it at one input. -/
def fnAddWordsMatchesCountModelWrong : ChangeSpec := { name := "fnAddWordsMatchesCountModel", fn := fun _ => fun
  | [d1, d2, d3, d4, d5, d6, d7, d8, d9, d10, d11] => { results := [.lit (.bool false)], args := [d1, d2, d3, d4, d5, d6, d7, d8, d9, d10, d11] }
  | _ => none }
def FnAddWordsMatchesCountModelWrongFalsely : Prop := fnAddWordsMatchesCountModelRow.holds Try.pinned (OpenSpec.ofChange fnAddWordsMatchesCountModelWrong)

end Rows
end Go.Proofs.Qxb6601640a
