/-
  The model's box as function 3 lays it.
-/
import Derived.Test.Qxb6601556aTail3g
namespace Go.Proofs.Qxb6601556a
open Go.RowKit
set_option linter.unusedVariables false
set_option linter.unusedSimpArgs false

def box0 (vR vC vP : Value) (stn n : Nat) (bud : Int) : Obj := .cells #[vR, vC, .int .i64 stn, .int .i64 n, .slice none 0 0, .slice none 0 0, vP, .int .i64 bud, .slice none 0 0] 30
/-- The world behind 'm.onPath = make(..); m.onPath[v] = true; m.walked = []int{v}'. -/
def boxW (w1 : World) (bm ga vn n : Nat) : World := (((w1.setCell ⟨bm, 4, none⟩ (.slice (some ⟨ga, 0, none⟩) n n)).setCell ⟨ga, vn, none⟩ (.bool true)).alloc (.cells #[.int .i64 (vn : Int)] 3)).setCell ⟨bm, 5, none⟩ (.slice (some ⟨w1.heap.size, 0, none⟩) 1 1)

theorem box_init {w4 w1 : World} {vR vC vP : Value} {stn n vn : Nat} {bud : Int} (hob : OB w1 (w4.heap.size + 1) n []) (hg : (w4.alloc (box0 vR vC vP stn n bud)).grownBy w1 none) :
    (boxW w1 w4.heap.size (w4.heap.size + 1) vn n).heap[w4.heap.size]? = some (.cells #[vR, vC, .int .i64 stn, .int .i64 n, .slice (some ⟨w4.heap.size + 1, 0, none⟩) n n, .slice (some ⟨w1.heap.size, 0, none⟩) 1 1, vP, .int .i64 bud, .slice none 0 0] 30 (0, 0)) ∧
    OB (boxW w1 w4.heap.size (w4.heap.size + 1) vn n) (w4.heap.size + 1) n [(vn : Int)] ∧ OI (boxW w1 w4.heap.size (w4.heap.size + 1) vn n) (.slice (some ⟨w1.heap.size, 0, none⟩) 1 1) [(vn : Int)] ∧ Chg (fun _ => False) w4 (boxW w1 w4.heap.size (w4.heap.size + 1) vn n) ∧ w4.heap.size + 2 ≤ w1.heap.size := by
  have hlt := hob.lt
  have hs : w4.heap.size + 2 ≤ w1.heap.size := by omega
  have hb1 : w1.heap[w4.heap.size]? = some (box0 vR vC vP stn n bud) := (hg.block _ (by simp) (by simp)).trans (heap_alloc_new w4 _)
  have e2 : (w1.setCell ⟨w4.heap.size, 4, none⟩ (.slice (some ⟨w4.heap.size + 1, 0, none⟩) n n)).heap[w4.heap.size]? = some (.cells #[vR, vC, .int .i64 stn, .int .i64 n, .slice (some ⟨w4.heap.size + 1, 0, none⟩) n n, .slice none 0 0, vP, .int .i64 bud, .slice none 0 0] 30 (0, 0)) := by
    simp [World.setCell, Array.getElem?_modify, hb1, box0]
  have hob2 : OB (w1.setCell ⟨w4.heap.size, 4, none⟩ (.slice (some ⟨w4.heap.size + 1, 0, none⟩) n n)) (w4.heap.size + 1) n [] := hob.same (Below.heap_setCell _ _ _ _ (by show w4.heap.size + 1 ≠ w4.heap.size; omega))
  have hob3 := hob2.set vn
  have e3 : ((w1.setCell ⟨w4.heap.size, 4, none⟩ (.slice (some ⟨w4.heap.size + 1, 0, none⟩) n n)).setCell ⟨w4.heap.size + 1, vn, none⟩ (.bool true)).heap[w4.heap.size]? = some (.cells #[vR, vC, .int .i64 stn, .int .i64 n, .slice (some ⟨w4.heap.size + 1, 0, none⟩) n n, .slice none 0 0, vP, .int .i64 bud, .slice none 0 0] 30 (0, 0)) :=
    (Below.heap_setCell _ _ _ _ (by show w4.heap.size ≠ w4.heap.size + 1; omega)).trans e2
  have e4 := (Below.heap_alloc ((w1.setCell ⟨w4.heap.size, 4, none⟩ (.slice (some ⟨w4.heap.size + 1, 0, none⟩) n n)).setCell ⟨w4.heap.size + 1, vn, none⟩ (.bool true)) (.cells #[.int .i64 (vn : Int)] 3) w4.heap.size (by simp; omega)).trans e3
  have hnew := heap_alloc_new ((w1.setCell ⟨w4.heap.size, 4, none⟩ (.slice (some ⟨w4.heap.size + 1, 0, none⟩) n n)).setCell ⟨w4.heap.size + 1, vn, none⟩ (.bool true)) (.cells #[.int .i64 (vn : Int)] 3)
  refine ⟨?_, ?_, ?_, ?_, hs⟩
  · unfold boxW
    simp [World.setCell, Array.getElem?_modify] at e4 ⊢
    simp [e4]
  · unfold boxW
    refine OB.same (hob3.same (Below.heap_alloc _ _ _ (by simp; omega))) (Below.heap_setCell _ _ _ _ (by show w4.heap.size + 1 ≠ w4.heap.size; omega))
  · unfold boxW
    have hs3 : ((w1.setCell ⟨w4.heap.size, 4, none⟩ (.slice (some ⟨w4.heap.size + 1, 0, none⟩) n n)).setCell ⟨w4.heap.size + 1, vn, none⟩ (.bool true)).heap.size = w1.heap.size := by simp
    rw [hs3] at hnew
    refine OI.same (OI.of_block (l := [(vn : Int)]) (cap := 1) hnew rfl (by simp) (by unfold maxLen; omega) (by simp)) (fun b hb => ?_)
    simp [Value.ownBlock] at hb
    subst hb
    exact Below.heap_setCell _ _ _ _ (by show w1.heap.size ≠ w4.heap.size; omega)
  · unfold boxW
    refine ((((((Chg.refl _ w4).alloc _).grown hg (fun k _ e => by cases e)).setCell ?_ _).setCell ?_ _).alloc _).setCell ?_ _
    · intro h; simp at h
    · intro h; simp at h; omega
    · intro h; simp at h

end Go.Proofs.Qxb6601556a
