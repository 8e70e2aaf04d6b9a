/-
  Plain facts that the checks of FnWalkFindsOnlySimpleCircuitsWithinCap come down to; rows of bools.
-/
import Derived.Test.Qxb6601556aMain
namespace Go.Proofs.Qxb6601556a
open Go.RowKit
set_option linter.unusedVariables false
set_option linter.unusedSimpArgs false

theorem edge_of_next {R : List (List Int)} {comp : List Int} {stn : Nat} (D : Dom R comp stn) {x : Nat} {y : Int} (h : y ∈ nextL comp stn (R.getD x [])) : edgeB R comp stn R.length x y = true := by
  unfold nextL at h
  rw [List.mem_filter] at h
  have h1 := D.t x y h.1
  have h2 := h.2
  simp [okTo] at h2
  simp [edgeB, inB, hasI, h2.2, h.1]
  exact ⟨⟨by omega, by simpa using h1⟩, by simpa using h.1⟩

structure CForm (R : List (List Int)) (comp : List Int) (stn : Nat) (path : List Int) (v : Int) (c t : List Int) : Prop where
  eq : c = path ++ t ++ [(stn : Int)]
  pos : 0 < t.length
  hd : t.getD 0 0 = v
  nd : t.Nodup
  rg : ∀ j, j < t.length → 0 ≤ t.getD j 0 ∧ t.getD j 0 < (R.length : Int)
  ns : ∀ j, 0 < j → j < t.length → t.getD j 0 ≠ (stn : Int)
  ed : ∀ j, j < t.length → edgeB R comp stn R.length (t.getD j 0).toNat ((t ++ [(stn : Int)]).getD (j + 1) 0) = true

theorem circle_form {R : List (List Int)} {comp : List Int} {stn : Nat} (D : Dom R comp stn) {C : List (List Int)} {path : List Int} {v : Int} (hv : 0 ≤ v ∧ v < (R.length : Int)) {c : List Int} (h : Pl.Circle (ctxOf R comp stn) path (s0 C) v c) :
    ∃ t, CForm R comp stn path v c t := by
  obtain ⟨mid, h1, h2, h3, h4⟩ := h
  have hmem : ∀ j, j < (v :: mid).length → ((v :: mid) ++ [(stn : Int)]).getD j 0 = (v :: mid).getD j 0 := fun j hj => by
    simp only [List.getD, List.getElem?_append_left hj]
  have hrg : ∀ j, j < (v :: mid).length → 0 ≤ (v :: mid).getD j 0 ∧ (v :: mid).getD j 0 < (R.length : Int) := by
    intro j hj
    cases j with
    | zero => simpa using hv
    | succ j =>
      have := h4 j (by simp at hj ⊢; omega)
      have h5 := nextL_range D _ _ this
      have e : ((v :: mid) ++ [(stn : Int)]).getD (j + 1) 0 = (v :: mid).getD (j + 1) 0 := hmem (j + 1) hj
      have h6 : ((v :: mid) ++ [(ctxOf R comp stn).start]).getD (j + 1) 0 = (v :: mid).getD (j + 1) 0 := e
      rw [h6] at h5
      exact h5
  refine ⟨v :: mid, h1, by simp, rfl, ?_, hrg, ?_, ?_⟩
  · rw [List.nodup_cons]
    exact ⟨fun hm => (h3 v hm).2.1 rfl, h2⟩
  · intro j h0 hj
    cases j with
    | zero => omega
    | succ j =>
      have hj' : j < mid.length := by simpa using hj
      have : (v :: mid).getD (j + 1) 0 = mid[j] := by simp [List.getD, hj']
      rw [this]
      exact (h3 _ (List.getElem_mem hj')).2.2
  · intro j hj
    have := h4 j hj
    have e : ((v :: mid) ++ [(ctxOf R comp stn).start]).getD j 0 = (v :: mid).getD j 0 := hmem j hj
    rw [e] at this
    exact edge_of_next D this

theorem CForm.len {R : List (List Int)} {comp : List Int} {stn : Nat} {path : List Int} {v : Int} {c t : List Int} (h : CForm R comp stn path v c t) : c.length = path.length + t.length + 1 := by rw [h.eq]; simp; omega
theorem CForm.at {R : List (List Int)} {comp : List Int} {stn : Nat} {path : List Int} {v : Int} {c t : List Int} (h : CForm R comp stn path v c t) (j : Nat) : c.getD (path.length + j) 0 = (t ++ [(stn : Int)]).getD j 0 := by
  rw [h.eq, List.append_assoc]
  simp only [List.getD]
  rw [List.getElem?_append_right (by omega)]
  congr 2
  omega
theorem CForm.at' {R : List (List Int)} {comp : List Int} {stn : Nat} {path : List Int} {v : Int} {c t : List Int} (h : CForm R comp stn path v c t) (j : Nat) (hj : j < t.length) : c.getD (path.length + j) 0 = t.getD j 0 := by
  rw [h.at]
  simp only [List.getD, List.getElem?_append_left hj]
theorem CForm.last {R : List (List Int)} {comp : List Int} {stn : Nat} {path : List Int} {v : Int} {c t : List Int} (h : CForm R comp stn path v c t) : c.getD (path.length + t.length) 0 = (stn : Int) := by
  rw [h.at]
  simp [List.getD]
theorem CForm.take {R : List (List Int)} {comp : List Int} {stn : Nat} {path : List Int} {v : Int} {c t : List Int} (h : CForm R comp stn path v c t) : c.take path.length = path := by
  rw [h.eq, List.append_assoc]; simp
theorem CForm.fresh {R : List (List Int)} {comp : List Int} {stn : Nat} {path : List Int} {v : Int} {c t : List Int} (h : CForm R comp stn path v c t) (j : Nat) (hj : j < t.length) : hasI (t.take j) (t.getD j 0) = false := by
  unfold hasI
  rw [Bool.eq_false_iff]
  intro hc
  simp at hc
  obtain ⟨i, hi, he⟩ := List.mem_iff_getElem.1 hc
  have hi' : i < j := by simp at hi; omega
  rw [List.getElem_take] at he
  have e2 : t[j]?.getD 0 = t[j] := by simp [hj]
  rw [e2] at he
  exact (List.pairwise_iff_getElem.1 h.nd) i j (by omega) hj hi' he

theorem CForm.pre {R : List (List Int)} {comp : List Int} {stn : Nat} {path : List Int} {v : Int} {c t : List Int} (h : CForm R comp stn path v c t) (i : Nat) (hi : i < path.length) : c.getD i 0 = path.getD i 0 := by
  rw [h.eq, List.append_assoc]
  simp only [List.getD, List.getElem?_append_left hi]
theorem CForm.tl {R : List (List Int)} {comp : List Int} {stn : Nat} {path : List Int} {v : Int} {c t : List Int} (h : CForm R comp stn path v c t) : t.length ≤ R.length := by
  refine Pl.nodup_bound h.nd fun x hx => ?_
  obtain ⟨i, hi, rfl⟩ := List.mem_iff_getElem.1 hx
  have := h.rg i hi
  simpa [List.getD, hi] using this

/-- What the walk is told of a new circle's cells. -/
theorem circle_cells {R : List (List Int)} {comp : List Int} {stn : Nat} {path : List Int} {v : Int} {c t : List Int} (h : CForm R comp stn path v c t) {w : World} {A : Option Addr} {C : Nat} (ho : OI w (.slice A c.length C) c) :
    ∃ g, A = some ⟨g, 0, none⟩ ∧ path.length + t.length + 1 ≤ C ∧ w.cell? ⟨g, path.length, none⟩ = some (.int .i64 v) ∧ w.cell? ⟨g, path.length + t.length, none⟩ = some (.int .i64 stn) ∧ RowI w (some ⟨g, 0, none⟩) path ∧
      ∀ j, j < t.length → w.cell? ⟨g, path.length + j, none⟩ = some (.int .i64 (t.getD j 0)) ∧ w.cell? ⟨g, path.length + j + 1, none⟩ = some (.int .i64 ((t ++ [(stn : Int)]).getD (j + 1) 0)) := by
  have hl := h.len
  have hp := h.pos
  obtain ⟨a', cap, h1, h2, h3, h4, h5, h6⟩ := ownsRow_shape ho
  cases h1
  obtain ⟨g, cap, hv, hg, hc⟩ := ho.at 0 (by omega)
  cases hv
  refine ⟨g, rfl, by omega, ?_, ?_, fun i hi => ⟨g, 0, rfl, ?_⟩, fun j hj => ⟨?_, ?_⟩⟩
  · have := hc (path.length + 0) (by omega)
    rw [h.at' 0 hp, h.hd] at this
    simpa using this
  · have := hc (path.length + t.length) (by omega)
    rw [h.last] at this; exact this
  · have := hc i (by omega)
    rw [h.pre i hi] at this
    simpa using this
  · have := hc (path.length + j) (by omega)
    rw [h.at' j hj] at this; exact this
  · have := hc (path.length + j + 1) (by omega)
    rw [Nat.add_assoc, h.at] at this
    rw [Nat.add_assoc]; exact this

/-! ### A row of bools: which nodes were seen -/
def seenL (n : Nat) (l : List Int) : List Value := (List.range n).map fun i : Nat => Value.bool (hasI l (i : Int))
theorem seenL_length (n : Nat) (l : List Int) : (seenL n l).length = n := by simp [seenL]
theorem seenL_nil (n : Nat) : (madeCells (Value.bool false).cells (n * 1)).toList = seenL n [] := by
  apply List.ext_getElem
  · simp [madeCells, seenL]
  · intro i h1 h2
    simp [madeCells, seenL, hasI, Value.cells, Nat.mod_one]
theorem seenL_at (n : Nat) (l : List Int) (i : Nat) (h : i < n) : (seenL n l)[i]? = some (.bool (hasI l (i : Int))) := by simp [seenL, h]
theorem seenL_set (n : Nat) (l : List Int) (x : Nat) : (seenL n l).set x (.bool true) = seenL n (l ++ [(x : Int)]) := by
  apply List.ext_getElem?
  intro i
  rw [List.getElem?_set]
  by_cases hi : i < n
  · by_cases e : x = i
    · subst e
      rw [if_pos rfl, if_pos (by rw [seenL_length]; exact hi), seenL_at _ _ _ hi]
      simp [hasI]
    · rw [if_neg e, seenL_at _ _ _ hi, seenL_at _ _ _ hi]
      have : ¬ (i : Int) = (x : Int) := by omega
      simp [hasI, this]
  · have h1 : (seenL n l)[i]? = none := by rw [List.getElem?_eq_none]; rw [seenL_length]; omega
    have h2 : (seenL n (l ++ [(x : Int)]))[i]? = none := by rw [List.getElem?_eq_none]; rw [seenL_length]; omega
    rw [h1, h2]
    simp [seenL_length]
    intro e; omega

theorem Try.info4 : (Try.prog.info? 4).map (fun i => (i.zero, i.size, i.bytes)) = some (some (.bool false), 1, 1) := by kernel_rfl
def OB (w : World) (g n : Nat) (l : List Int) : Prop := w.ownsRow 0 4 1 (.slice (some ⟨g, 0, none⟩) n n) n (seenL n l)
theorem OB.cell {w : World} {g n : Nat} {l : List Int} (h : OB w g n l) (i : Nat) (hi : i < n) : w.cell? ⟨g, i, none⟩ = some (.bool (hasI l (i : Int))) := by
  have := World.ownsRow.cellAt h i (by omega)
  rw [this, seenL_at _ _ _ hi]
theorem OB.fz {w : World} {g n : Nat} {l : List Int} (h : OB w g n l) (i : Nat) : w.frozen? ⟨g, i, none⟩ = false := World.ownsRow.frozenAt h i
theorem OB.set {w : World} {g n : Nat} {l : List Int} (h : OB w g n l) (x : Nat) : OB (w.setCell ⟨g, x, none⟩ (.bool true)) g n (l ++ [(x : Int)]) := by
  have := (World.ownsRow.stored h x (.bool true)).1
  unfold OB
  rw [← seenL_set]; exact this
theorem OB.drewN {w : World} {g n : Nat} {l : List Int} (h : OB w g n l) (q : Nat) : OB (w.drewN q) g n l := h

theorem nodup_pairs {l : List Int} (h : ∀ a b, a < b → b < l.length → l.getD a 0 ≠ l.getD b 0) : l.Nodup := by
  refine List.pairwise_iff_getElem.2 fun i j hi hj hij => ?_
  have := h i j hij hj
  simpa [List.getD, hi, hj] using this
theorem nodup_next {R : List (List Int)} {comp : List Int} {stn : Nat} (h : ∀ j, j < R.length → (R.getD j []).Nodup) : ∀ x, ((ctxOf R comp stn).nx x).Nodup := by
  intro x
  show (nextL comp stn (R.getD x.toNat [])).Nodup
  unfold nextL
  by_cases hx : x.toNat < R.length
  · exact (List.filter_sublist (l := R.getD x.toNat [])).nodup (h _ hx)
  · simp [List.getD, hx]

end Go.Proofs.Qxb6601556a
