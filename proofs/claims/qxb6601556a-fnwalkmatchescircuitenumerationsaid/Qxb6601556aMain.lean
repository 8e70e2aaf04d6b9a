import Derived.Test.Qxb6601556aZZ
import Derived.Test.Qxb6601556aClone
import Derived.Test.Qxb6601556aEdge
namespace Go.Proofs.Qxb6601556a
open Go.RowKit
set_option linter.unusedVariables false
set_option linter.unusedSimpArgs false

/-- A [][]int of the call's own. -/
structure Tab (w : World) (v : Value) (rv : List Value) (rows : List (List Int)) : Prop where
  top : OV w v rv
  len : rv.length = rows.length
  row : ∀ i, i < rows.length → OI w (rv.getD i (.slice none 0 0)) (rows.getD i [])
theorem Tab.below {B : Nat} {F : Nat → Prop} {w w' : World} {v : Value} {rv : List Value} {rows : List (List Int)} (h : Tab w v rv rows) (hc : Chg F w w') (h1 : ∀ b, v.ownBlock = some b → ¬ F b) (h2 : ∀ i b, (rv.getD i (.slice none 0 0)).ownBlock = some b → ¬ F b) : Tab w' v rv rows :=
  ⟨h.top.chg hc h1, h.len, fun i hi => (h.row i hi).chg hc (h2 i)⟩
theorem Tab.new {w w' : World} {v : Value} {rv : List Value} {rows : List (List Int)} (h : Tab w v rv rows) (hc : Chg (fun _ => False) w w') : Tab w' v rv rows :=
  ⟨h.top.chg hc (fun _ _ h => h), h.len, fun i hi => (h.row i hi).chg hc (fun _ _ h => h)⟩
theorem Tab.rowsV {w : World} {a : Option Addr} {n cap : Nat} {rv : List Value} {rows : List (List Int)} (h : Tab w (.slice a n cap) rv rows) : RowsV w a rows := by
  refine ⟨fun i hi => ?_, fun i => ?_⟩
  · obtain ⟨g, c, hv, hg, hc⟩ := h.top.at i (by rw [h.len]; exact hi)
    obtain ⟨A, C, hA, h1, h2, h3, h4, h5⟩ := (h.row i hi).shape
    cases hv
    refine ⟨g, 0, rfl, A, C, ?_, h5, fun e => (h3 e).1⟩
    rw [← hA]; simpa using hc
  · by_cases hi : i < rows.length
    · obtain ⟨A, C, hA, h1, h2, h3, h4, h5⟩ := (h.row i hi).shape
      unfold maxLen at h2
      omega
    · simp [List.getD, hi]
theorem Copied.tab {w w' : World} {v : Value} {rv : List Value} {rows : List (List Int)} (h : Copied w w' v rv rows) : Tab w' v rv rows := ⟨h.top, h.len, h.row⟩
theorem Tab.shape {w : World} {v : Value} {rv : List Value} {rows : List (List Int)} (h : Tab w v rv rows) : ∃ a cap, v = .slice a rows.length cap ∧ (a = none → rows.length = 0) := by
  obtain ⟨a, cap, h1, h2, h3, h4, h5, h6⟩ := ownsRow_shape h.top
  rw [h.len] at h1 h4
  exact ⟨a, cap, h1, fun e => (h4 e).1⟩
theorem Tab.lt {w : World} {v : Value} {rv : List Value} {rows : List (List Int)} (h : Tab w v rv rows) : (∀ b, v.ownBlock = some b → b < w.heap.size) ∧ ∀ i b, (rv.getD i (.slice none 0 0)).ownBlock = some b → b < w.heap.size := by
  refine ⟨h.top.lt, fun i b hb => ?_⟩
  by_cases hi : i < rows.length
  · exact (h.row i hi).lt b hb
  · have : rv.getD i (.slice none 0 0) = .slice none 0 0 := by simp [List.getD, h.len, hi]
    rw [this] at hb; cases hb

theorem VMap.made (w : World) : VMap (w.alloc (.map #[] 0)) w.heap.size [] := ⟨#[], 0, heap_alloc_new w _, rfl⟩

/-- What the law's function holds when ZZWalk has come back. -/
structure Ready (w7 : World) (N : Nat) (vR vC vK vP : Value) (rv kv : List Value) (R : List (List Int)) (comp : List Int) (K : List (List Int)) (path : List Int) (bm : Nat) (st : Nat) (cO pO : Value) (ro : List Value) (circ' : List (List Int)) : Prop where
  g : Graph w7 vR vC rv R comp
  k : Tab w7 vK kv K
  p : OI w7 vP path
  m : MBox w7 bm vR vC st R.length
  po : OI w7 pO path
  co : OV w7 cO ro
  rl : ro.length = circ'.length
  ro : ∀ i, i < ro.length → OI w7 (ro.getD i (.slice none 0 0)) (circ'.getD i [])

theorem ready_of {w0 w4 w6 w7 : World} {vR vC vK vP cv pv : Value} {rv kv kv' : List Value} {R : List (List Int)} {comp : List Int} {K : List (List Int)} {path : List Int} {st : Nat} {L : Lay} {s : Pl.S} {N : Nat}
    (tR : Tab w4 vR rv R) (oC : OI w4 vC comp) (tK : Tab w4 vK kv K) (oP : OI w4 vP path)
    (hm : MBox w6 w4.heap.size vR vC st R.length) (c46 : Chg (fun _ => False) w4 w6) (h6 : w4.heap.size + 3 ≤ w6.heap.size) (hcv : ∀ b, cv.ownBlock = some b → w4.heap.size + 3 ≤ b) (hpv : ∀ b, pv.ownBlock = some b → w4.heap.size + 3 ≤ b)
    (c67 : Chg (ZF (w4.heap.size + 1) (w4.heap.size + 2) pv cv) w6 w7) {I : Nat → Prop} {B : Base} (hst : St I w7 B L st path s) :
    Ready w7 N vR vC vK vP rv kv R comp K path w4.heap.size st L.cv L.pv L.rows s.circ := by
  have hz : ∀ b, b < w4.heap.size + 1 → ¬ ZF (w4.heap.size + 1) (w4.heap.size + 2) pv cv b := by
    rintro b hb (h | h | h | h)
    · omega
    · omega
    · have := hpv b h; omega
    · have := hcv b h; omega
  have lR := tR.lt
  have lK := tK.lt
  have tR6 := tR.new c46
  have tK6 := tK.new c46
  refine ⟨⟨tR6.top.chg c67 (fun b hb => hz b (by have := lR.1 b hb; omega)), tR.len, fun i hi => (tR6.row i hi).chg c67 (fun b hb => hz b (by have := lR.2 i b hb; omega)), (oC.chg c46 (fun _ _ h => h)).chg c67 (fun b hb => hz b (by have := oC.lt b hb; omega))⟩,
    tK6.below (B := 0) c67 (fun b hb => hz b (by have := lK.1 b hb; omega)) (fun i b hb => hz b (by have := lK.2 i b hb; omega)), (oP.chg c46 (fun _ _ h => h)).chg c67 (fun b hb => hz b (by have := oP.lt b hb; omega)), ?_, hst.pth, hst.crc, hst.rln, hst.row⟩
  have hbm : ¬ ZF (w4.heap.size + 1) (w4.heap.size + 2) pv cv w4.heap.size := hz _ (by omega)
  exact ⟨c67.cellEq hm.c0 hbm, c67.cellEq hm.c1 hbm, c67.cellEq hm.c2 hbm, c67.cellEq hm.c3 hbm⟩

theorem setup5 (w4 : World) (vR vC x4 x5 x6 x7 x8 : Value) (st n : Nat) :
    Chg (fun _ => False) w4 (((w4.alloc (.cells #[vR, vC, .int .i64 st, .int .i64 n, x4, x5, x6, x7, x8] 30)).alloc (.map #[] 0)).alloc (.map #[] 0)) ∧
    VMap (((w4.alloc (.cells #[vR, vC, .int .i64 st, .int .i64 n, x4, x5, x6, x7, x8] 30)).alloc (.map #[] 0)).alloc (.map #[] 0)) (w4.heap.size + 1) [] ∧
    VMap (((w4.alloc (.cells #[vR, vC, .int .i64 st, .int .i64 n, x4, x5, x6, x7, x8] 30)).alloc (.map #[] 0)).alloc (.map #[] 0)) (w4.heap.size + 2) [] ∧
    MBox (((w4.alloc (.cells #[vR, vC, .int .i64 st, .int .i64 n, x4, x5, x6, x7, x8] 30)).alloc (.map #[] 0)).alloc (.map #[] 0)) w4.heap.size vR vC st n ∧
    (((w4.alloc (.cells #[vR, vC, .int .i64 st, .int .i64 n, x4, x5, x6, x7, x8] 30)).alloc (.map #[] 0)).alloc (.map #[] 0)).heap.size = w4.heap.size + 3 := by
  have hb : (((w4.alloc (.cells #[vR, vC, .int .i64 st, .int .i64 n, x4, x5, x6, x7, x8] 30)).alloc (.map #[] 0)).alloc (.map #[] 0)).heap[w4.heap.size]? = some (.cells #[vR, vC, .int .i64 st, .int .i64 n, x4, x5, x6, x7, x8] 30 (0, 0)) :=
    ((Below.heap_alloc _ _ _ (by simp; omega)).trans (Below.heap_alloc _ _ _ (by simp))).trans (heap_alloc_new w4 _)
  refine ⟨((((Chg.refl _ w4).alloc _).alloc _).alloc _), ?_, ?_, ⟨?_, ?_, ?_, ?_⟩, by simp⟩
  · have h1 := VMap.made (w4.alloc (.cells #[vR, vC, .int .i64 st, .int .i64 n, x4, x5, x6, x7, x8] 30))
    have h2 := h1.of_block (Below.heap_alloc _ (.map #[] 0) _ h1.lt)
    simpa using h2
  · have h1 := VMap.made ((w4.alloc (.cells #[vR, vC, .int .i64 st, .int .i64 n, x4, x5, x6, x7, x8] 30)).alloc (.map #[] 0))
    simpa using h1
  all_goals simp only [World.cell?, hb]; simp

theorem RowI.drewN {w : World} {a : Option Addr} {l : List Int} (h : RowI w a l) (n : Nat) : RowI (w.drewN n) a l := fun i hi => h i hi
theorem sameInts_eq (a b : Option Addr) (n cap cap' : Nat) (l : List Int) (w : World) (hn : l.length = n) (hr : RowI w a l) (hr' : RowI w b l) (hl : n ≤ 1000000000) :
    Calls Try.prog 13 #[.slice a n cap, .slice b n cap'] w fun e w' => e = .returned (.bool true) ∧ ∃ q, w' = w.drewN q := by
  have h := sameInts_any a b n n cap cap' l l w hn hn hr hr' hl hl
  have e : sameI l l = true := by simp [sameI]
  rw [e] at h; exact h

/-- Row i of a table, in the walk's form. -/
theorem Tab.at {w : World} {a : Option Addr} {n cap : Nat} {rv : List Value} {rows : List (List Int)} (h : Tab w (.slice a n cap) rv rows) (i : Nat) (hi : i < rows.length) :
    ∃ g A C, a = some ⟨g, 0, none⟩ ∧ w.cell? ⟨g, i, none⟩ = some (.slice A (rows.getD i []).length C) ∧ RowI w A (rows.getD i []) ∧ OI w (.slice A (rows.getD i []).length C) (rows.getD i []) := by
  obtain ⟨g, c, hv, hg, hc⟩ := h.top.at i (by rw [h.len]; exact hi)
  have ho := h.row i hi
  obtain ⟨A, C, hA, h1, h2, h3, h4, h5⟩ := ho.shape
  cases hv
  rw [hA] at hc ho
  exact ⟨g, A, C, rfl, hc, h5, ho⟩
theorem Graph.tab {w : World} {vR vC : Value} {rv : List Value} {rows : List (List Int)} {comp : List Int} (g : Graph w vR vC rv rows comp) : Tab w vR rv rows := ⟨g.top, g.len, g.row⟩
theorem Ready.outTab {w7 : World} {N : Nat} {vR vC vK vP : Value} {rv kv : List Value} {R : List (List Int)} {comp : List Int} {K : List (List Int)} {path : List Int} {bm : Nat} {st : Nat} {cO pO : Value} {ro : List Value} {circ' : List (List Int)} (h : Ready w7 N vR vC vK vP rv kv R comp K path bm st cO pO ro circ') : Tab w7 cO ro circ' :=
  ⟨h.co, h.rl, fun i hi => h.ro i (by rw [h.rl]; exact hi)⟩

/-- wr is w but for draws. -/
def Drawn (w wr : World) : Prop := ∃ q, wr = w.drewN q
theorem Drawn.cell {w wr : World} (h : Drawn w wr) {p : Addr} {v : Value} (hc : w.cell? p = some v) : wr.cell? p = some v := by obtain ⟨q, rfl⟩ := h; exact hc
theorem Drawn.row {w wr : World} (h : Drawn w wr) {a : Option Addr} {l : List Int} (hc : RowI w a l) : RowI wr a l := by obtain ⟨q, rfl⟩ := h; exact hc
theorem Drawn.more {w wr : World} (h : Drawn w wr) (n : Nat) : Drawn w (wr.drewN n) := by obtain ⟨q, rfl⟩ := h; exact ⟨q + n, by simp⟩
theorem Drawn.chg {w wr : World} (h : Drawn w wr) : Chg (fun _ => False) w wr := by obtain ⟨q, rfl⟩ := h; exact (Chg.refl _ w).drewN q

/-- What the plain law says of ZZWalk's answer, in the words of the checks. -/
structure Facts (R : List (List Int)) (comp : List Int) (stn : Nat) (C : List (List Int)) (path : List Int) (v : Int) (fd : Bool) (circ : List (List Int)) : Prop where
  fd : fd = decide ((C.length : Int) < (circ.length : Int))
  lo : C.length ≤ circ.length
  hi : circ.length ≤ max 64 C.length
  old : ∀ i, i < C.length → circ.getD i [] = C.getD i []
  form : ∀ i, C.length ≤ i → i < circ.length → Pl.Circle (ctxOf R comp stn) path (s0 C) v (circ.getD i [])
  dup : (∀ x, ((ctxOf R comp stn).nx x).Nodup) → ∀ i j, C.length ≤ i → i < j → j < circ.length → circ.getD i [] ≠ circ.getD j []

theorem result_facts {R : List (List Int)} {comp : List Int} {stn : Nat} (DD : Dom R comp stn) (C : List (List Int)) (path : List Int) (v : Int) (hv : 0 ≤ v ∧ v < (R.length : Int)) :
    Facts R comp stn C path v (Pl.wk (ctxOf R comp stn) R.length path (s0 C) v).1 (Pl.wk (ctxOf R comp stn) R.length path (s0 C) v).2.circ := by
  obtain ⟨new, g1, g2, g3, g4, g5⟩ := Pl.wk_grew (ctxOk DD) R.length path (s0 C) v (s0_sane _ _) (s0_tidy _) hv rfl
  generalize Pl.wk (ctxOf R comp stn) R.length path (s0 C) v = r at *
  obtain ⟨fd, r⟩ := r
  simp only at g1 g2 g4 ⊢
  have g1' : r.circ = C ++ new := g1
  have hlen : r.circ.length = C.length + new.length := by rw [g1']; simp
  have hnew : ∀ i, C.length ≤ i → i < r.circ.length → r.circ.getD i [] ∈ new := fun i h1 h2 => by
    rw [g1'] at h2 ⊢
    simp at h2
    simp only [List.getD, List.getElem?_append_right h1]
    have : i - C.length < new.length := by omega
    simp [this]
  refine ⟨?_, by omega, g4, fun i hi => by rw [g1']; simp [List.getD, List.getElem?_append_left hi], fun i h1 h2 => (g3 _ (hnew i h1 h2)).1, fun hx i j h1 h2 h3 => ?_⟩
  · rw [g2, hlen]
    cases new with
    | nil => simp
    | cons a l => simp; omega
  · have hnd := g5 hx (hx v)
    rw [hlen] at h3
    rw [g1']
    simp only [List.getD, List.getElem?_append_right h1, List.getElem?_append_right (show C.length ≤ j by omega)]
    have e1 : i - C.length < new.length := by omega
    have e2 : j - C.length < new.length := by omega
    simp only [List.getElem?_eq_getElem e1, List.getElem?_eq_getElem e2, Option.getD_some]
    intro e
    have := (List.pairwise_iff_getElem.1 hnd) (i - C.length) (j - C.length) e1 e2 (by omega)
    exact this e

end Go.Proofs.Qxb6601556a
