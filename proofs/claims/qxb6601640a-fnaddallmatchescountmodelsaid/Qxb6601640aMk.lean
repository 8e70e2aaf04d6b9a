/-
  counters.len 42, makeCounters 41.
-/
import Derived.Test.Qxb6601640aAll7
namespace Go.Proofs.Qxb6601640a
open Go.RowKit
set_option linter.unusedVariables false
set_option linter.unusedSimpArgs false

theorem len_any (c : Nat) (a : Option Addr) (n full b pl W p B T : Nat) (hL : Lay full b pl W) (hF : Fld b W p B T) (w : World) (hB : Box w c (.slice a n n) full b pl) (hn : n ≤ 100000000) :
    Calls Try.prog 42 #[.pointer (some ⟨c, 0, none⟩)] w fun r w' => r = .returned (.int .i64 ((n * p : Nat) : Int)) ∧ ∃ q, w' = w.drewN q := by
  obtain ⟨c0, c1, c2, c3⟩ := hB.cells
  obtain ⟨e1, e2, hpl3, hb6, hp1, hp8, hW8, hW64⟩ := hF.nums hL
  obtain ⟨N, hN⟩ : ∃ N, n * p = N := ⟨_, rfl⟩
  have hNi : (n : Int) * (p : Int) = (N : Int) := by rw [← hN]; simp
  have hNb : N ≤ 800000000 := by rw [← hN]; exact Nat.mul_le_mul hn hp8
  rw [hN]
  clear hB hN
  go_enter Try.func42, Try.ntmps42
  go_wp2_with fail
  go_quiet (fail)
  go_wp2_with fail
  go_ret
  exact ⟨rfl, nq, rfl⟩

theorem Try.size46 : (Try.prog.info? 46).map (·.size) = some 4 := by kernel_rfl

theorem mk_facts {w w1 : World} {x0 x1 x2 x3 y0 y1 y2 y3 : Value} (hg : ((w.alloc (.cells #[x0, x1, x2, x3] 46)).alloc (.cells #[y0, y1, y2, y3] 46)).grownBy w1 none) :
    w1.heap[w.heap.size]? = some (.cells #[x0, x1, x2, x3] 46) ∧ w1.heap[w.heap.size + 1]? = some (.cells #[y0, y1, y2, y3] 46) ∧ Chg (fun _ => False) w w1 := by
  refine ⟨?_, ?_, (((Chg.refl _ w).alloc _).alloc _).grown hg (fun k _ e => by cases e)⟩
  · rw [hg.block _ (by simp; omega) (by simp), Below.heap_alloc _ _ _ (by simp)]
    exact heap_alloc_new w _
  · rw [hg.block _ (by simp) (by simp)]
    have := heap_alloc_new (w.alloc (.cells #[x0, x1, x2, x3] 46)) (.cells #[y0, y1, y2, y3] 46)
    simpa using this
theorem blk_cells {w1 : World} {g : Nat} {y0 y1 y2 y3 : Value} (h : w1.heap[g]? = some (.cells #[y0, y1, y2, y3] 46)) : w1.cell? ⟨g, 0, none⟩ = some y0 ∧ w1.cell? ⟨g, 1, none⟩ = some y1 ∧ w1.cell? ⟨g, 2, none⟩ = some y2 ∧ w1.cell? ⟨g, 3, none⟩ = some y3 ∧ ∀ i, w1.frozen? ⟨g, i, none⟩ = false :=
  ⟨by simp [World.cell?, h], by simp [World.cell?, h], by simp [World.cell?, h], by simp [World.cell?, h], fun i => by simp [World.frozen?, h]⟩

/-- The world behind makeCounters. -/
def mkW (w1 : World) (h : Nat) (v f b p : Value) : World := ((((w1.setCell ⟨h + 1, 0, none⟩ v).setCell ⟨h, 0, none⟩ v).setCell ⟨h, 1, none⟩ f).setCell ⟨h, 2, none⟩ b).setCell ⟨h, 3, none⟩ p
theorem mk_end {w w1 : World} {x0 x1 x2 x3 v f b p : Value} (h4 : w1.heap[w.heap.size]? = some (.cells #[x0, x1, x2, x3] 46)) (hc : Chg (fun _ => False) w w1) :
    (mkW w1 w.heap.size v f b p).heap[w.heap.size]? = some (.cells #[v, f, b, p] 46) ∧ (∀ g, w.heap.size + 2 ≤ g → (mkW w1 w.heap.size v f b p).heap[g]? = w1.heap[g]?) ∧ Chg (fun _ => False) w (mkW w1 w.heap.size v f b p) := by
  have e1 : (w1.setCell ⟨w.heap.size + 1, 0, none⟩ v).heap[w.heap.size]? = some (.cells #[x0, x1, x2, x3] 46) := (Below.heap_setCell _ _ _ _ (by show w.heap.size ≠ w.heap.size + 1; omega)).trans h4
  refine ⟨?_, fun g hg => ?_, ?_⟩
  · unfold mkW
    simp [World.setCell, Array.getElem?_modify] at e1 ⊢
    simp [e1]
  · unfold mkW
    rw [Below.heap_setCell _ _ _ _ (by show g ≠ w.heap.size; omega), Below.heap_setCell _ _ _ _ (by show g ≠ w.heap.size; omega), Below.heap_setCell _ _ _ _ (by show g ≠ w.heap.size; omega), Below.heap_setCell _ _ _ _ (by show g ≠ w.heap.size; omega), Below.heap_setCell _ _ _ _ (by show g ≠ w.heap.size + 1; omega)]
  · unfold mkW
    refine ((((hc.setCell ?_ _).setCell ?_ _).setCell ?_ _).setCell ?_ _).setCell ?_ _ <;> (intro h; simp at h; try omega)

set_option maxRecDepth 100000 in
set_option maxHeartbeats 4000000 in
theorem make_any (n q full b pl W p B T : Nat) (hL : Lay full b pl W) (hF : Fld b W p B T) (w : World) (hn : n ≤ 1000000000) (hq : q * p = n) :
    Calls Try.prog 41 #[.int .i64 n, .int .u8 b] w fun r w' => r = .returned (.agg #[.slice (some ⟨w.heap.size + 2, 0, none⟩) q q, .int .u64 full, .int .u8 b, .int .u8 pl]) ∧ OBk w' (w.heap.size + 2) (List.replicate q 0) ∧ Chg (fun _ => False) w w' := by
  obtain ⟨i0, hi, hz0, hz1, hz2⟩ := info_parts Try.info23
  obtain ⟨-, rfl, rfl⟩ := hL
  rcases hF with ⟨rfl, rfl, rfl, rfl, rfl⟩ | ⟨rfl, rfl, rfl, rfl, rfl⟩ | ⟨rfl, rfl, rfl, rfl, rfl⟩ | ⟨rfl, rfl, rfl, rfl, rfl⟩
  · have hq1 : ((n : Int) + 8 - 1) / 8 = (q : Int) := by omega
    have hq2 : ((n : Int) + 8 - 1).tdiv 8 = (q : Int) := by rw [Int.tdiv_eq_ediv_of_nonneg (by omega)]; omega
    have hqb : q ≤ 1000000000 := by omega
    go_enter Try.func41, Try.ntmps41
    go_wp2_with (at_make; refine wpList_make_full _ rfl _ _ 22 rfl w.heap.size 23 i0 (.int .u64 0) 1 Try.underlying22 hi hz0 hz1 _ _ _ _ q rfl rfl (by simp; try omega) (by simp; try omega) (by rw [hz2]; omega) (by unfold maxLen; omega) (by simp; try omega) ?_; intro w1 hown hgrow; obtain ⟨m4, m5, mc⟩ := mk_facts hgrow; obtain ⟨x0, x1, x2, x3, x4⟩ := blk_cells m4; obtain ⟨y0, y1, y2, y3, y4⟩ := blk_cells m5; have hob := made_words hown; have HM4 := hideP m4; have HM5 := hideP m5; have HOB := hideP hob; have HMC := hideP mc; clear hown hgrow m4 m5 hob mc)
    obtain ⟨z1, z2, z3⟩ := mk_end (v := .slice (some ⟨w.heap.size + 2, 0, none⟩) q q) (f := .int .u64 255) (b := .int .u8 3) (p := .int .u8 3) HM4.out HMC.out
    (try simp only [Exit.inBlock, Exit.then])
    refine bodyPost_ret (results_cell_row rfl _ _ w.heap.size 46 _ (0, 0) _ rfl z1 Try.underlying46 rfl Try.size46) rfl ?_
    refine ⟨rfl, ?_, z3⟩
    have h2 : OBk w1 (w.heap.size + 2) (List.replicate q 0) := by simpa using HOB.out
    exact h2.same (z2 _ (Nat.le_refl _))
  · have hq1 : ((n : Int) + 4 - 1) / 4 = (q : Int) := by omega
    have hq2 : ((n : Int) + 4 - 1).tdiv 4 = (q : Int) := by rw [Int.tdiv_eq_ediv_of_nonneg (by omega)]; omega
    have hqb : q ≤ 1000000000 := by omega
    go_enter Try.func41, Try.ntmps41
    go_wp2_with (at_make; refine wpList_make_full _ rfl _ _ 22 rfl w.heap.size 23 i0 (.int .u64 0) 1 Try.underlying22 hi hz0 hz1 _ _ _ _ q rfl rfl (by simp; try omega) (by simp; try omega) (by rw [hz2]; omega) (by unfold maxLen; omega) (by simp; try omega) ?_; intro w1 hown hgrow; obtain ⟨m4, m5, mc⟩ := mk_facts hgrow; obtain ⟨x0, x1, x2, x3, x4⟩ := blk_cells m4; obtain ⟨y0, y1, y2, y3, y4⟩ := blk_cells m5; have hob := made_words hown; have HM4 := hideP m4; have HM5 := hideP m5; have HOB := hideP hob; have HMC := hideP mc; clear hown hgrow m4 m5 hob mc)
    obtain ⟨z1, z2, z3⟩ := mk_end (v := .slice (some ⟨w.heap.size + 2, 0, none⟩) q q) (f := .int .u64 65535) (b := .int .u8 4) (p := .int .u8 2) HM4.out HMC.out
    (try simp only [Exit.inBlock, Exit.then])
    refine bodyPost_ret (results_cell_row rfl _ _ w.heap.size 46 _ (0, 0) _ rfl z1 Try.underlying46 rfl Try.size46) rfl ?_
    refine ⟨rfl, ?_, z3⟩
    have h2 : OBk w1 (w.heap.size + 2) (List.replicate q 0) := by simpa using HOB.out
    exact h2.same (z2 _ (Nat.le_refl _))
  · have hq1 : ((n : Int) + 2 - 1) / 2 = (q : Int) := by omega
    have hq2 : ((n : Int) + 2 - 1).tdiv 2 = (q : Int) := by rw [Int.tdiv_eq_ediv_of_nonneg (by omega)]; omega
    have hqb : q ≤ 1000000000 := by omega
    go_enter Try.func41, Try.ntmps41
    go_wp2_with (at_make; refine wpList_make_full _ rfl _ _ 22 rfl w.heap.size 23 i0 (.int .u64 0) 1 Try.underlying22 hi hz0 hz1 _ _ _ _ q rfl rfl (by simp; try omega) (by simp; try omega) (by rw [hz2]; omega) (by unfold maxLen; omega) (by simp; try omega) ?_; intro w1 hown hgrow; obtain ⟨m4, m5, mc⟩ := mk_facts hgrow; obtain ⟨x0, x1, x2, x3, x4⟩ := blk_cells m4; obtain ⟨y0, y1, y2, y3, y4⟩ := blk_cells m5; have hob := made_words hown; have HM4 := hideP m4; have HM5 := hideP m5; have HOB := hideP hob; have HMC := hideP mc; clear hown hgrow m4 m5 hob mc)
    obtain ⟨z1, z2, z3⟩ := mk_end (v := .slice (some ⟨w.heap.size + 2, 0, none⟩) q q) (f := .int .u64 4294967295) (b := .int .u8 5) (p := .int .u8 1) HM4.out HMC.out
    (try simp only [Exit.inBlock, Exit.then])
    refine bodyPost_ret (results_cell_row rfl _ _ w.heap.size 46 _ (0, 0) _ rfl z1 Try.underlying46 rfl Try.size46) rfl ?_
    refine ⟨rfl, ?_, z3⟩
    have h2 : OBk w1 (w.heap.size + 2) (List.replicate q 0) := by simpa using HOB.out
    exact h2.same (z2 _ (Nat.le_refl _))
  · obtain rfl : q = n := by omega
    have hq1 : ((q : Int) + 1 - 1) / 1 = (q : Int) := by omega
    have hq2 : ((q : Int) + 1 - 1).tdiv 1 = (q : Int) := by rw [Int.tdiv_eq_ediv_of_nonneg (by omega)]; omega
    have hqb : q ≤ 1000000000 := by omega
    go_enter Try.func41, Try.ntmps41
    go_wp2_with (at_make; refine wpList_make_full _ rfl _ _ 22 rfl w.heap.size 23 i0 (.int .u64 0) 1 Try.underlying22 hi hz0 hz1 _ _ _ _ q rfl rfl (by first | rfl | omega | (simp; done) | (simp; omega)) (by first | rfl | omega | (simp; done) | (simp; omega)) (by rw [hz2]; omega) (by unfold maxLen; omega) (by simp; try omega) ?_; intro w1 hown hgrow; obtain ⟨m4, m5, mc⟩ := mk_facts hgrow; obtain ⟨x0, x1, x2, x3, x4⟩ := blk_cells m4; obtain ⟨y0, y1, y2, y3, y4⟩ := blk_cells m5; have hob := made_words hown; have HM4 := hideP m4; have HM5 := hideP m5; have HOB := hideP hob; have HMC := hideP mc; clear hown hgrow m4 m5 hob mc)
    obtain ⟨z1, z2, z3⟩ := mk_end (v := .slice (some ⟨w.heap.size + 2, 0, none⟩) q q) (f := .int .u64 18446744073709551615) (b := .int .u8 6) (p := .int .u8 0) HM4.out HMC.out
    (try simp only [Exit.inBlock, Exit.then])
    refine bodyPost_ret (results_cell_row rfl _ _ w.heap.size 46 _ (0, 0) _ rfl z1 Try.underlying46 rfl Try.size46) rfl ?_
    refine ⟨rfl, ?_, z3⟩
    have h2 : OBk w1 (w.heap.size + 2) (List.replicate q 0) := by simpa using HOB.out
    exact h2.same (z2 _ (Nat.le_refl _))

end Go.Proofs.Qxb6601640a
