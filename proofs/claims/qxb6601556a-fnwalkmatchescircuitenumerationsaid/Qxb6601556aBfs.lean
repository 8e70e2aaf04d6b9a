/-
  wmReaches (15): breadth-first search for the start, avoiding a set.
-/
import Derived.Test.Qxb6601556aPlain6
import Derived.Test.Qxb6601556aCheck
namespace Go.Proofs.Qxb6601556a
open Go.RowKit
set_option linter.unusedVariables false
set_option linter.unusedSimpArgs false

theorem ctx_ok {rows : List (List Int)} {comp : List Int} {st : Nat} (D : Dom rows comp st) : Pl.CtxOk rows.length (ctxOf rows comp st) := by
  intro v w hw
  have hw' : w ∈ (rows.getD v.toNat []).filter (okTo comp st) := hw
  rw [List.mem_filter] at hw'
  have h1 := D.t _ _ hw'.1
  have h2 := hw'.2
  simp only [okTo, Bool.and_eq_true, decide_eq_true_eq] at h2
  exact ⟨by omega, h1⟩
theorem inB_okTo {comp : List Int} {st n : Nat} {y : Int} (h : y < (n : Int)) : inB comp st n y = okTo comp st y := by
  simp [inB, okTo, h]
theorem hasI_true {l : List Int} {x : Int} (h : hasI l x = true) : x ∈ l := by simpa [hasI] using h
theorem hasI_false {l : List Int} {x : Int} (h : hasI l x = false) : x ∉ l := by simpa [hasI] using h

/-- The memory of a search: the row of those seen, the queue. -/
structure BM (w wr : World) (gs n : Nat) (q : List Int) (qv : Value) : Prop where
  ob : OB wr gs n q
  oi : OI wr qv q
  chg : Chg (fun _ => False) w wr
  gs : w.heap.size ≤ gs
  qb : ∀ b, qv.ownBlock = some b → w.heap.size ≤ b

theorem OB.block {w : World} {g n : Nat} {l : List Int} (h : OB w g n l) : ∃ cur, w.heap[g]? = some (.cells cur 4 (0, 0)) := ownsRow_block h rfl
theorem OB.lt {w : World} {g n : Nat} {l : List Int} (h : OB w g n l) : g < w.heap.size := (World.ownsRow.lt h g rfl).2
theorem OI.ne_ob {w : World} {v : Value} {l l' : List Int} {g n : Nat} (h : OI w v l) (k : OB w g n l') : v.ownBlock ≠ some g := fun e => by
  obtain ⟨c1, h1⟩ := ownsRow_block h e
  obtain ⟨c2, h2⟩ := k.block
  rw [h1] at h2; cases h2
theorem OB.same {w w' : World} {g n : Nat} {l : List Int} (h : OB w g n l) (hb : w'.heap[g]? = w.heap[g]?) : OB w' g n l := ownsRow_same h fun b hb' => by cases hb'; exact hb
theorem OB.chg {F : Nat → Prop} {w w' : World} {g n : Nat} {l : List Int} (h : OB w g n l) (hc : Chg F w w') (hf : ¬ F g) : OB w' g n l := h.same (hc.block g h.lt hf)

theorem BM.drewN {w wr : World} {gs n : Nat} {q : List Int} {qv : Value} (h : BM w wr gs n q qv) (k : Nat) : BM w (wr.drewN k) gs n q qv := ⟨h.ob, h.oi, h.chg.drewN k, h.gs, h.qb⟩

theorem BM.start {w w1 : World} {n x : Nat} (hob : OB w1 w.heap.size n []) (hch : Chg (fun _ => False) w w1) : BM w ((w1.setCell ⟨w.heap.size, x, none⟩ (.bool true)).alloc (.cells #[.int .i64 x] 3)) w.heap.size n [(x : Int)] (.slice (some ⟨w1.heap.size, 0, none⟩) 1 1) := by
  have hs : (w1.setCell ⟨w.heap.size, x, none⟩ (.bool true)).heap.size = w1.heap.size := by simp
  have hlt := hob.lt
  refine ⟨?_, ?_, ?_, Nat.le_refl _, fun b hb => ?_⟩
  · exact (hob.set x).same (Below.heap_alloc _ _ _ (by rw [hs]; exact hlt))
  · have := heap_alloc_new (w1.setCell ⟨w.heap.size, x, none⟩ (.bool true)) (.cells #[.int .i64 (x : Int)] 3)
    rw [hs] at this
    exact OI.of_block this rfl (by simp) (by unfold maxLen; omega) (by simp)
  · exact (hch.setCell (fun h => by simp at h) _).alloc _
  · simp [Value.ownBlock] at hb
    subst hb; exact hch.size

theorem BM.mid {w wr : World} {gs n : Nat} {q : List Int} {qv : Value} (h : BM w wr gs n q qv) (y : Nat) :
    OI ((wr.setCell ⟨gs, y, none⟩ (.bool true)).alloc (.cells #[.int .i64 (y : Int)] 3)) qv q := by
  refine h.oi.same fun b hb => ?_
  have hlt := h.oi.lt b hb
  rw [Below.heap_alloc _ _ _ (by simpa using hlt)]
  exact Below.heap_setCell _ _ _ _ (fun e => h.oi.ne_ob h.ob (by rw [hb]; simp at e; rw [e]))
theorem BM.push {w wr w1 : World} {gs n : Nat} {q : List Int} {qv : Value} (h : BM w wr gs n q qv) {y g cap : Nat}
    (hoi : OI w1 (.slice (some ⟨g, 0, none⟩) (q.length + 1) cap) (q ++ [(y : Int)])) (hg : ((wr.setCell ⟨gs, y, none⟩ (.bool true)).alloc (.cells #[.int .i64 (y : Int)] 3)).grownBy w1 qv.ownBlock)
    (hl : qv.ownBlock = some g ∨ g = ((wr.setCell ⟨gs, y, none⟩ (.bool true)).alloc (.cells #[.int .i64 (y : Int)] 3)).heap.size) : BM w w1 gs n (q ++ [(y : Int)]) (.slice (some ⟨g, 0, none⟩) (q.length + 1) cap) := by
  have h1 : OB ((wr.setCell ⟨gs, y, none⟩ (.bool true)).alloc (.cells #[.int .i64 (y : Int)] 3)) gs n (q ++ [(y : Int)]) := (h.ob.set y).same (Below.heap_alloc _ _ _ (by simpa using h.ob.lt))
  have hc : Chg (fun b => qv.ownBlock = some b) ((wr.setCell ⟨gs, y, none⟩ (.bool true)).alloc (.cells #[.int .i64 (y : Int)] 3)) w1 := (Chg.refl _ _).grown hg (fun k _ e => e)
  refine ⟨h1.chg hc (fun e => h.oi.ne_ob h.ob e), hoi, ?_, h.gs, fun b hb => ?_⟩
  · exact ((h.chg.setCell (fun hlt => by have := h.gs; simp at hlt; omega) _).alloc _).grown hg (fun i hi e => by have := h.qb i e; omega)
  · simp [Value.ownBlock] at hb
    subst hb
    rcases hl with e | e
    · exact h.qb _ e
    · have := h.chg.size; simp at e; omega

end Go.Proofs.Qxb6601556a
