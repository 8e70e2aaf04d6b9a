/-
  What stands of a function's text from a region on: so that a long walk may be cut into declarations.
-/
import Derived.Test.Qxb6601640aAll7
namespace Go.Proofs.Qxb6601640a
open Go.RowKit
def headRegion : Code → Option Nat
  | .region id _ _ => some id
  | .seq a _ => headRegion a
  | _ => none
def suffix (n : Nat) : Code → Option Code
  | .seq a b => if headRegion a = some n then some (.seq a b) else suffix n b
  | .scope c => suffix n c
  | .block _ c => suffix n c
  | _ => none

/-- The plain facts behind the call. -/
structure R7 (W p : Nat) (lc : List Nat) (oc : Nat → Nat) (L : List Nat) (t0 t1 ts FI : Nat) : Prop where
  le0 : t0 ≤ ts
  le1 : ts ≤ t1
  fit : ∀ k, t0 ≤ k → k < ts → ∀ s, s < p → cnt W lc (k * p + s) + oc (k * p + s) < 2 ^ W
  not : ts < t1 → ¬ ∀ s, s < p → cnt W lc (ts * p + s) + oc (ts * p + s) < 2 ^ W
  fi : FI = marks (isNew W lc oc (t0 * p)) ((ts - t0) * p)
  len : L.length = lc.length
  wb : WB L
  cn : ∀ m, m < lc.length * p → cnt W L m = if t0 * p ≤ m ∧ m < ts * p then cnt W lc m + oc m else cnt W lc m

theorem R7.of {W p : Nat} {lc : List Nat} {y oc : Nat → Nat} {t0 t1 ts : Nat} (h : YC W p lc y oc t0 t1) (hX : WB lc) (hy : ∀ t, y t < 18446744073709551616) (h0 : t0 ≤ ts) (h1 : ts ≤ t1) (hf : ∀ k, t0 ≤ k → k < ts → Fits W p (lc.getD k 0) (y k)) (hn : ts < t1 → ¬ Fits W p (lc.getD ts 0) (y ts)) :
    R7 W p lc oc (mg lc y t0 ts) t0 t1 ts (fil W p lc y t0 (ts - t0)) :=
  ⟨h0, h1, fun k k0 k1 => (h.fits k0 (by omega)).1 (hf k k0 k1), fun k => fun hh => hn k ((h.fits h0 k).2 hh), h.fil _ (by omega), mg_len _ _ _ _, mg_wb h.wp hX hy hf, fun m hm => h.cnt h0 h1 hf m hm⟩

/-- What function 7 holds behind the call. -/
structure T7 (w7 : World) (a1 a2 a3 a4 : Option Addr) (lc lo L : List Nat) (cfull cb cp ofull ob op i : Nat) (d : Int) (W p Wo po N H M ST FI t0 t1 ts bc : Nat) : Prop where
  r : R7 W p lc (ocOf Wo lo d) L t0 t1 ts FI
  boc : Box w7 bc (.slice a1 lc.length lc.length) cfull cb cp
  boo : Box w7 (bc + 1) (.slice a2 lo.length lo.length) ofull ob op
  r3 : RowW w7 a3 lc
  r4 : RowW w7 a4 lo
  r2 : RowW w7 a2 lo
  rL : RowW w7 a1 L
  x : WB lc
  xo : WB lo
  wc : Wid cb W
  wo : Wid ob Wo
  full : cfull = 2 ^ W - 1
  wp : W * p = 64
  wpo : Wo * po = 64
  le : Wo ≤ W
  i0 : t0 * p = i
  hH : t1 * p = H
  hN : lc.length * p = N
  hM : lo.length * po = M
  hST : ts * p = ST
end Go.Proofs.Qxb6601640a
