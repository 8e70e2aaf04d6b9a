/-
  What stands of a function's text from a region on: so that a long walk may be cut into declarations.
-/
import Derived.Test.Qxb6601556aCheck
namespace Go.Proofs.Qxb6601556a
def headRegion : Code → Option Nat
  | .region id _ _ => some id
  | .seq a _ => headRegion a
  | _ => none
def suffix (n : Nat) : Code → Option Code
  | .seq a b => if headRegion a = some n then some (.seq a b) else suffix n b
  | .scope c => suffix n c
  | .block _ c => suffix n c
  | _ => none
end Go.Proofs.Qxb6601556a
