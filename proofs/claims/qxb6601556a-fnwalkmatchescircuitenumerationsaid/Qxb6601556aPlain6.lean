/-
  Breadth-first search, plain: what the queue holds.
-/
import Derived.Test.Qxb6601556aPlain5
namespace Go.Proofs.Qxb6601556a.Pl
set_option linter.unusedVariables false
set_option linter.unusedSimpArgs false

/-- The nodes that v leads to without entering the start or a node of 'av'. -/
def ClosA (c : Ctx) (av : Int → Bool) (v x : Int) : Prop := ∀ X : Int → Prop, X v → (∀ z, X z → ∀ y ∈ c.nx z, y ≠ c.start → av y = false → X y) → X x

structure BQ (c : Ctx) (n : Nat) (av : Int → Bool) (v : Int) (q : List Int) : Prop where
  nd : q.Nodup
  rg : ∀ x ∈ q, 0 ≤ x ∧ x < (n : Int)
  mem : v ∈ q
  sub : ∀ z ∈ q, ClosA c av v z

theorem BQ.start (c : Ctx) {n : Nat} (av : Int → Bool) {v : Int} (hv : 0 ≤ v ∧ v < (n : Int)) : BQ c n av v [v] :=
  ⟨by simp, fun x hx => by simp at hx; subst hx; exact hv, by simp, fun z hz => by simp at hz; subst hz; exact fun X h _ => h⟩
theorem BQ.push {c : Ctx} {n : Nat} {av : Int → Bool} {v : Int} {q : List Int} (h : BQ c n av v q) (hc : CtxOk n c) {z y : Int} (hz : z ∈ q) (hy : y ∈ c.nx z) (hs : y ≠ c.start) (ha : av y = false) (hq : y ∉ q) : BQ c n av v (q ++ [y]) := by
  refine ⟨?_, fun x hx => ?_, by simp [h.mem], fun x hx => ?_⟩
  · rw [List.nodup_append]
    exact ⟨h.nd, by simp, fun a hA b hb => by simp at hb; subst hb; intro e; subst e; exact hq hA⟩
  · rcases List.mem_append.1 hx with hx | hx
    · exact h.rg x hx
    · simp at hx; subst hx; exact hc z x hy
  · rcases List.mem_append.1 hx with hx | hx
    · exact h.sub x hx
    · simp at hx; subst hx; exact fun X h1 h2 => h2 z (h.sub z hz X h1 h2) x hy hs ha
theorem BQ.len {c : Ctx} {n : Nat} {av : Int → Bool} {v : Int} {q : List Int} (h : BQ c n av v q) : q.length ≤ n := nodup_bound h.nd h.rg
theorem BQ.pos {c : Ctx} {n : Nat} {av : Int → Bool} {v : Int} {q : List Int} (h : BQ c n av v q) : 0 < q.length := List.length_pos_of_mem h.mem

/-- The successors 'ys' have been dealt with. -/
def Took (c : Ctx) (av : Int → Bool) (q ys : List Int) : Prop := ∀ y ∈ ys, y ≠ c.start → av y = false → y ∈ q
def Done (c : Ctx) (av : Int → Bool) (q : List Int) (i : Nat) : Prop := ∀ z ∈ q.take i, Took c av q (c.nx z)
def NoS (c : Ctx) (ys : List Int) : Prop := ∀ y ∈ ys, y ≠ c.start
def NoSt (c : Ctx) (q : List Int) (i : Nat) : Prop := ∀ z ∈ q.take i, NoS c (c.nx z)

theorem Took.nil (c : Ctx) (av : Int → Bool) (q : List Int) : Took c av q [] := fun y hy => by simp at hy
theorem Took.push {c : Ctx} {av : Int → Bool} {q ys : List Int} (h : Took c av q ys) (y : Int) : Took c av (q ++ [y]) ys := fun z hz h1 h2 => by simp [h z hz h1 h2]
theorem Took.step {c : Ctx} {av : Int → Bool} {q ys : List Int} (h : Took c av q ys) {y : Int} (hy : y = c.start ∨ av y = true ∨ y ∈ q) : Took c av q (ys ++ [y]) := fun z hz h1 h2 => by
  rcases List.mem_append.1 hz with hz | hz
  · exact h z hz h1 h2
  · simp at hz; subst hz
    rcases hy with hy | hy | hy
    · exact absurd hy h1
    · rw [hy] at h2; cases h2
    · exact hy
theorem Took.done {c : Ctx} {av : Int → Bool} {q : List Int} {i : Nat} (h : Done c av q i) (hi : i < q.length) (k : Took c av q (c.nx (q.getD i 0))) : Done c av q (i + 1) := fun z hz => by
  rw [List.take_succ_eq_append_getElem hi] at hz
  rcases List.mem_append.1 hz with hz | hz
  · exact h z hz
  · simp at hz; subst hz
    have : q.getD i 0 = q[i] := by simp [hi]
    rw [this] at k; exact k
theorem Done.push {c : Ctx} {av : Int → Bool} {q : List Int} {i : Nat} (h : Done c av q i) (hi : i ≤ q.length) (y : Int) : Done c av (q ++ [y]) i := fun z hz => by
  rw [List.take_append_of_le_length hi] at hz
  exact (h z hz).push y
theorem NoSt.push {c : Ctx} {q : List Int} {i : Nat} (h : NoSt c q i) (hi : i ≤ q.length) (y : Int) : NoSt c (q ++ [y]) i := fun z hz => by
  rw [List.take_append_of_le_length hi] at hz
  exact h z hz
theorem NoSt.next {c : Ctx} {q : List Int} {i : Nat} (h : NoSt c q i) (hi : i < q.length) (k : NoS c (c.nx (q.getD i 0))) : NoSt c q (i + 1) := fun z hz => by
  rw [List.take_succ_eq_append_getElem hi] at hz
  rcases List.mem_append.1 hz with hz | hz
  · exact h z hz
  · simp at hz; subst hz
    have : q.getD i 0 = q[i] := by simp [hi]
    rw [this] at k; exact k
theorem NoS.step {c : Ctx} {ys : List Int} (h : NoS c ys) {y : Int} (hy : y ≠ c.start) : NoS c (ys ++ [y]) := fun z hz => by
  rcases List.mem_append.1 hz with hz | hz
  · exact h z hz
  · simp at hz; subst hz; exact hy

theorem reach_yes {c : Ctx} {n : Nat} {av : Int → Bool} {v : Int} {q : List Int} (h : BQ c n av v q) {z : Int} (hz : z ∈ q) (hs : c.start ∈ c.nx z) : Reach c av v := fun X h1 h2 => ⟨z, h.sub z hz X h1 h2, hs⟩
theorem reach_no {c : Ctx} {n : Nat} {av : Int → Bool} {v : Int} {q : List Int} (h : BQ c n av v q) (hd : Done c av q q.length) (hn : NoSt c q q.length) : ¬ Reach c av v := fun hr => by
  obtain ⟨z, h1, h2⟩ := hr (fun x => x ∈ q) h.mem (fun z hz y hy hs ha => hd z (by simpa using hz) y hy hs ha)
  exact hn z (by simpa using h1) _ h2 rfl
theorem clos_iff {c : Ctx} {n : Nat} {v : Int} {q : List Int} (h : BQ c n (fun _ => false) v q) (hd : Done c (fun _ => false) q q.length) (x : Int) : x ∈ q ↔ Clos c v x := by
  constructor
  · intro hx X h1 h2
    exact h.sub x hx X h1 (fun z hz y hy hs _ => h2 z hz y hy hs)
  · intro hx
    exact hx (fun x => x ∈ q) h.mem (fun z hz y hy hs => hd z (by simpa using hz) y hy hs rfl)

end Go.Proofs.Qxb6601556a.Pl
