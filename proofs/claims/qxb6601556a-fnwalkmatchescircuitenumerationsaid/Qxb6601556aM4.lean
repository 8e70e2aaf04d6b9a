/-
  What function 3 holds ahead of ZZWalk, and that ZZWalk keeps it.
-/
import Derived.Test.Qxb6601556aTail3w
namespace Go.Proofs.Qxb6601556a
open Go.RowKit
set_option linter.unusedVariables false
set_option linter.unusedSimpArgs false

structure H3 (w : World) (R : List (List Int)) (comp : List Int) (stn : Nat) (vR vC : Value) (rv : List Value) (C : List (List Int)) (path : List Int) (out : List (List Int)) (bm : Nat) (bud : Int) (vK vP : Value) (ao : Option Addr) (co : Nat) (kv ors : List Value) : Prop where
  g : Graph w vR vC rv R comp
  k : Tab w vK kv C
  u : Tab w (.slice ao out.length co) ors out
  p : OI w vP path
  m : MBox w bm vR vC stn R.length
  c7 : w.cell? ⟨bm, 7, none⟩ = some (.int .i64 bud)
  c8 : w.cell? ⟨bm, 8, none⟩ = some (.slice ao out.length co)

theorem H3.kept {w w' : World} {R : List (List Int)} {comp : List Int} {stn : Nat} {vR vC : Value} {rv : List Value} {C : List (List Int)} {path : List Int} {out : List (List Int)} {bm : Nat} {bud : Int} {vK vP : Value} {ao : Option Addr} {co : Nat} {kv ors : List Value}
    (h : H3 w R comp stn vR vC rv C path out bm bud vK vP ao co kv ors) (hc : Chg (fun b => w.heap.size ≤ b) w w') : H3 w' R comp stn vR vC rv C path out bm bud vK vP ao co kv ors := by
  have hbm : bm < w.heap.size := World.block_lt_of_cell? w _ h.c7
  have cell : ∀ i v, w.cell? ⟨bm, i, none⟩ = some v → w'.cell? ⟨bm, i, none⟩ = some v := fun i v hv => hc.cellEq hv (by show ¬ w.heap.size ≤ bm; omega)
  have lk := h.k.lt
  have lu := h.u.lt
  have lg := h.g.tab.lt
  refine ⟨h.g.chg hc (fun b hb => by have := lg.1 b hb; omega) (fun b hb => by have := h.g.com.lt b hb; omega) (fun i _ b hb => by have := lg.2 i b hb; omega), h.k.below (B := 0) hc (fun b hb => by have := lk.1 b hb; omega) (fun i b hb => by have := lk.2 i b hb; omega),
    h.u.below (B := 0) hc (fun b hb => by have := lu.1 b hb; omega) (fun i b hb => by have := lu.2 i b hb; omega), h.p.chg hc (fun b hb => by have := h.p.lt b hb; omega), ⟨cell _ _ h.m.c0, cell _ _ h.m.c1, cell _ _ h.m.c2, cell _ _ h.m.c3⟩, cell _ _ h.c7, cell _ _ h.c8⟩

theorem maps2 (w5 : World) : Chg (fun _ => False) w5 ((w5.alloc (.map #[] 0)).alloc (.map #[] 0)) ∧ VMap ((w5.alloc (.map #[] 0)).alloc (.map #[] 0)) w5.heap.size [] ∧ VMap ((w5.alloc (.map #[] 0)).alloc (.map #[] 0)) (w5.heap.size + 1) [] ∧ ((w5.alloc (.map #[] 0)).alloc (.map #[] 0)).heap.size = w5.heap.size + 2 := by
  refine ⟨((Chg.refl _ w5).alloc _).alloc _, ?_, ?_, by simp⟩
  · have h1 := VMap.made w5
    exact h1.of_block (Below.heap_alloc _ (.map #[] 0) _ h1.lt)
  · have h1 := VMap.made (w5.alloc (.map #[] 0))
    simpa using h1

end Go.Proofs.Qxb6601556a
